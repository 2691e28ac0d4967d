import JvmDerived
import JvmDerived.Pilot.@@N@@Statement
import JvmDerived.Pilot.@@N@@Code
set_option linter.unusedVariables false
set_option linter.unusedSimpArgs false
@@BLOCK:LamKit.lean.txt@@
set_option maxRecDepth 65536
namespace Jvm.Pilot.@@N@@
open Jvm Jvm.ClassFile Sem Op Lib Jvm.Free Jvm.Stand Jvm.LawKit Jvm.RoadKit Bundle Jvm.Pilot.@@N@@.Jvm.D
section Own
variable {p : Program} {l : Launch} {e : Env} {R : Room} {s : State} {m : MethodId} {args : Array Value} {below : List Frame} {meth : Method} {c : Code} {T : State} {locs : List Loc} {cells slots : Nat} {Z : State} {a0 : Array Value} {h : Heap}
variable {Q : Option Value → Heap → List Loc → Prop} {F : Outcome → State → Prop} {C N : Nat} {A B : State}
/-- how a body ends: it returns v, Q holds of what it returned, of the heap and of the places written; nothing else is written (EndW: String constants may have been interned) -/
def EndN (s : State) (Q : Option Value → Heap → List Loc → Prop) (C N : Nat) (o : Outcome) (t : State) : Prop := ∃ v L, o = .returned v ∧ Q v t.heap L ∧ FrameEnd s o t L C N
/-- what a body owes from a point of its walk: it comes to its end, and F holds there -/
def Owes (p : Program) (e : Env) (below : List Frame) (F : Outcome → State → Prop) (A : State) : Prop :=
  ∃ s₂ o, Steps p.tables e below A s₂ ∧ s₂.status = .running ∧ Ended s₂ below o ∧ F o s₂
theorem Owes.go (k : Owes p e below F B) (f : ∀ t, Steps p.tables e below B t → Steps p.tables e below A t) : Owes p e below F A := by
  obtain ⟨s₂, o, h1, r⟩ := k
  exact ⟨s₂, o, f _ h1, r⟩
theorem Owes.tr (k : Owes p e below F B) (st : Steps p.tables e below A B) : Owes p e below F A := by
  obtain ⟨s₂, o, h1, r⟩ := k
  exact ⟨s₂, o, st.trans h1, r⟩
theorem Owes.mono {Q' : Option Value → Heap → List Loc → Prop} (k : Owes p e below (EndN s Q C N) A) (f : ∀ v h L, Q v h L → Q' v h L) : Owes p e below (EndN s Q' C N) A := by
  obtain ⟨s₂, o, h1, h2, h3, v, L, h4, h5, h6⟩ := k
  exact ⟨s₂, o, h1, h2, h3, v, L, h4, f _ _ _ h5, h6⟩
/-- a body's contract at given arguments and a given heap -/
def OMet (l : Launch) (y : MethodName) (bytes : ByteArray) (maxL : Nat) (ret : Option FieldType) (ws : List Jvm.Cond) (rm : Room) (as' : Array Value) (Z : State) (h0 : Heap) (Q : Option Value → Heap → List Loc → Prop) : Prop :=
  MetFree l y (head1 (Jvm.Cond.code y bytes maxL ret :: ws) rm) (fun a U => a = as' ∧ Z.Warmed39 U.vm ∧ U.heap = h0) (fun _ _ _ _ _ => True) (fun _ U o U' => ∃ v L, o = .returned v ∧ Q v U'.heap L ∧ FrameEnd U o U' L rm.cells rm.slots)
theorem OMet.of {y : MethodName} {bytes : ByteArray} {maxL : Nat} {ret : Option FieldType} {ws : List Jvm.Cond} {rm : Room} {as' : Array Value} {h0 : Heap} (hpl : plainFor y = true) {Ls : Array Slot} (ef : ∀ m, entryFrame m as' maxL = mkF m 0 Ls [])
    (body : ∀ (p : Program) (e : Env) (s : State) (m : MethodId) (below : List Frame) (meth : Method) (c : Code) (s₁ : State), p.tables.exec = Jvm.exec → c.code = bytes → c.maxLocals = maxL → s.vm.findClass y.cls = some m.cls → meth.name = y.name → meth.sig.returnType = ret → meth.locks = false → Z.Warmed39 s.vm →
      Stand p l e rm s m as' below meth c s₁ [] 0 0 → s₁.heap = h0 → Owes p e below (EndN s Q rm.cells rm.slots) (s₁.setTop (mkF m 0 Ls []))) : OMet l y bytes maxL ret ws rm as' Z h0 Q := by
  refine MetFree.of_bodySF hpl hisR ?_
  intro p e s m args below meth c s₁ Bd hml0 hP hK
  obtain ⟨rfl, hZ, hh⟩ := hP
  have hlk : meth.locks = false := BodyLoose.notSynchronized Bd
  have X0 : Stand p l e rm s m args below meth c s₁ [] 0 0 := Stand.of_body Bd
  have e0 : s₁.heap = h0 := by rw [← hh, Bd.state]; rfl
  obtain ⟨s₂, o, h1, h2, h3, h4⟩ := body p e s m below meth c s₁ Bd.exec Bd.bytes hml0 (findClass_of_methodNamed Bd.named) (name_of_methodNamed Bd.named Bd.method).1 Bd.returns hlk hZ X0 e0
  exact ⟨s₂, o, castTop (ef m) h1, h2, h3, h4⟩
theorem OMet.mono {y : MethodName} {bytes : ByteArray} {maxL : Nat} {ret : Option FieldType} {ws : List Jvm.Cond} {rm : Room} {as' : Array Value} {h0 : Heap} {Q' : Option Value → Heap → List Loc → Prop} (M : OMet l y bytes maxL ret ws rm as' Z h0 Q) (f : ∀ v h L, Q v h L → Q' v h L) : OMet l y bytes maxL ret ws rm as' Z h0 Q' := by
  intro p e ha hc hk s m args below hf happ hP hK
  obtain ⟨n, o, h1, h2, h3, v, L, h4, h5, h6⟩ := M p e ha hc hk s m args below hf happ hP hK
  exact ⟨n, o, h1, h2, h3, v, L, h4, f _ _ _ h5, h6⟩
theorem own_end (X : Stand p l e R s m args below meth c T locs cells slots) (hlk : meth.locks = false) {v : Option Value} (hv : meth.sig.returnType = none → v = none) (hc : cells ≤ C) (hs : slots ≤ N) (hq : Q v T.heap locs) {A : State}
    (hst : ∀ fs : List Frame, (∀ (f : JFrame) (acts : List Action), f.method = m → f.locked = none → f.entered = [] → (doReturn e (T.setTop f) acts v).1 = T.setFrames fs) → Steps p.tables e below A (T.setFrames fs)) : Owes p e below (EndN s Q C N) A := by
  obtain ⟨fs, hr, hrun, hended, hW, hsame⟩ := X.leave hv hlk
  exact ⟨_, _, hst fs hr, hrun, hended, v, locs, rfl, hq, ⟨_, rfl⟩, hW, hsame.mono hc hs⟩
theorem Owes.retN (X : Stand p l e R s m args below meth c T locs cells slots) (hx : p.tables.exec = Jvm.exec) (hlk : meth.locks = false) {pc : Nat} {Ls : Array Slot} {z : Int32} {t : FieldType} {rest : List Value} (hret : meth.sig.returnType = some t) (ht : t = .boolean ∨ t = .byte ∨ t = .char ∨ t = .short)
    (hd : decode c.code pc = .ok (.ireturn, 1)) (hc : cells ≤ C) (hs : slots ≤ N) (hq : Q (some (.int (nar t z))) T.heap locs) : Owes p e below (EndN s Q C N) (T.setTop (mkF m pc Ls (.int z :: rest))) :=
  own_end X hlk (fun h => by rw [hret] at h; cases h) hc hs hq fun fs hr => Jvm.RoadKit.retN X hx hret ht hd hr
theorem Owes.retI (X : Stand p l e R s m args below meth c T locs cells slots) (hx : p.tables.exec = Jvm.exec) (hlk : meth.locks = false) {pc : Nat} {Ls : Array Slot} {z : Int32} {rest : List Value} (hret : meth.sig.returnType = some .int)
    (hd : decode c.code pc = .ok (.ireturn, 1)) (hc : cells ≤ C) (hs : slots ≤ N) (hq : Q (some (.int z)) T.heap locs) : Owes p e below (EndN s Q C N) (T.setTop (mkF m pc Ls (.int z :: rest))) :=
  own_end X hlk (fun h => by rw [hret] at h; cases h) hc hs hq fun fs hr => Jvm.RoadKit.retOut X hx hret rfl (Or.inl ⟨rfl, Or.inl rfl, _, rfl⟩) hd hr
theorem Owes.retJ (X : Stand p l e R s m args below meth c T locs cells slots) (hx : p.tables.exec = Jvm.exec) (hlk : meth.locks = false) {pc : Nat} {Ls : Array Slot} {z : Int64} {rest : List Value} (hret : meth.sig.returnType = some .long)
    (hd : decode c.code pc = .ok (.lreturn, 1)) (hc : cells ≤ C) (hs : slots ≤ N) (hq : Q (some (.long z)) T.heap locs) : Owes p e below (EndN s Q C N) (T.setTop (mkF m pc Ls (.long z :: rest))) :=
  own_end X hlk (fun h => by rw [hret] at h; cases h) hc hs hq fun fs hr => Jvm.RoadKit.retOut X hx hret rfl (Or.inr (Or.inl ⟨rfl, rfl, _, rfl⟩)) hd hr
theorem Owes.retA (X : Stand p l e R s m args below meth c T locs cells slots) (hx : p.tables.exec = Jvm.exec) (hlk : meth.locks = false) {pc : Nat} {Ls : Array Slot} {w : Value} {t : FieldType} {rest : List Value} (hret : meth.sig.returnType = some t) (ht : t.isReference = true) (hn : narrow t w = w) (hw : w.isRef = true)
    (hd : decode c.code pc = .ok (.areturn, 1)) (hc : cells ≤ C) (hs : slots ≤ N) (hq : Q (some w) T.heap locs) : Owes p e below (EndN s Q C N) (T.setTop (mkF m pc Ls (w :: rest))) :=
  own_end X hlk (fun h => by rw [hret] at h; cases h) hc hs hq fun fs hr => Jvm.RoadKit.retOut X hx hret hn (Or.inr (Or.inr (Or.inr (Or.inr ⟨rfl, ht, hw⟩)))) hd hr
theorem Owes.retV (X : Stand p l e R s m args below meth c T locs cells slots) (hx : p.tables.exec = Jvm.exec) (hlk : meth.locks = false) {pc : Nat} {Ls : Array Slot} (hret : meth.sig.returnType = none)
    (hd : decode c.code pc = .ok (.return_, 1)) (hc : cells ≤ C) (hs : slots ≤ N) (hq : Q none T.heap locs) : Owes p e below (EndN s Q C N) (T.setTop (mkF m pc Ls [])) :=
  own_end X hlk (fun _ => rfl) hc hs hq fun fs hr => X.returnOut hx hret hd hr
/-- a static method by its contract -/
theorem Owes.callS (X : Stand p l e R s m args below meth c T locs cells slots) (hx : p.tables.exec = Jvm.exec) (hZ : Z.Warmed39 s.vm) {own : String} {index : Nat} {y : MethodName} {bytes : ByteArray} {maxL : Nat} {ret : Option FieldType} {rm : Room}
    (hown : s.vm.findClass own = some m.cls) (w1 : (Cond.methodLink own index y).before a0 Z = true) (w2 : (Cond.static y).before a0 Z = true) (w3 : (Cond.initialized y.cls).before a0 Z = true) (w4 : (Cond.code y bytes maxL ret).before a0 Z = true)
    (hy : y.cls ≠ "java/lang/invoke/MethodHandle" ∧ y.cls ≠ "java/lang/invoke/VarHandle") {pc : Nat} {Ls : Array Slot} {argsL rest : List Value} {Q' : Option Value → Heap → List Loc → Prop} (M : OMet l y bytes maxL ret [] rm argsL.toArray Z h Q') (eT : T.heap = h) (hsize : Ls.size = c.maxLocals)
    {ps : List FieldType} {rt : Option FieldType} (hpd : parseMethodDescriptor y.desc = some ⟨ps, rt⟩) (hln : argsL.length = ps.length) {st : List Value} (hst : st = argsL.reverse ++ rest) (hd : decode c.code pc = .ok (.invokestatic index, 3))
    (hf : rm.frames + 1 ≤ R.frames) (hl : (rest.map fun v => v.category).sum + (maxL + 11) + rm.locals ≤ R.locals) (hcl : cells + rm.cells ≤ R.cells) (hsl : slots + rm.slots ≤ R.slots)
    (k : ∀ (T' : State) (v : Option Value) (L : List Loc), Stand p l e R s m args below meth c T' (locs ++ L) (cells + rm.cells) (slots + rm.slots) → Q' v T'.heap L → Owes p e below F (T'.setTop (mkF m (pc + 3) Ls (v.toList ++ rest)))) :
    Owes p e below F (T.setTop (mkF m pc Ls st)) := by
  subst hst
  obtain ⟨v, _, ⟨T3, L3, k3, n3⟩, -, X3, ⟨Lc3, hQ3, l3, y3, z3⟩, st3⟩ := Jvm.LawKit.callS X hx (y := y) hown (mvT hZ w1) (mvT hZ w2) (mvT hZ w3) (mvT hZ w4) hy (backOf (W := (rest.map fun v => v.category).sum) M hZ w4 w3 hf hl) (g := mkF m pc Ls (argsL.reverse ++ rest)) rfl hsize (argsL := argsL) (rest := rest) (lenOf hpd hln) rfl (by show 2 * 0 + _ ≤ _; omega) hd (fun _ _ => ⟨rfl, eT, hcl, hsl⟩)
  dsimp only [Pt.U, Pt.locs, Pt.cells, Pt.slots] at X3 l3 y3 z3 st3 hQ3
  subst l3 y3 z3
  exact (k T3 v Lc3 X3 hQ3).go st3
/-- a constructor by its contract -/
theorem Owes.callC (X : Stand p l e R s m args below meth c T locs cells slots) (hx : p.tables.exec = Jvm.exec) (hZ : Z.Warmed39 s.vm) {own : String} {index : Nat} {y : MethodName} {bytes : ByteArray} {maxL : Nat} {rm : Room} (hy1 : y.name = "<init>")
    (hown : s.vm.findClass own = some m.cls) (w1 : (Cond.methodLink own index y).before a0 Z = true) (w2 : (Cond.instanceMethod y).before a0 Z = true) (w3 : (Cond.initialized y.cls).before a0 Z = true) (w4 : (Cond.code y bytes maxL none).before a0 Z = true)
    (hy : y.cls ≠ "java/lang/invoke/MethodHandle" ∧ y.cls ≠ "java/lang/invoke/VarHandle") {pc : Nat} {Ls : Array Slot} {a : Addr} {argsL rest : List Value} {Q' : Option Value → Heap → List Loc → Prop} (M : OMet l y bytes maxL none [] rm (.ref a :: argsL).toArray Z h Q') (eT : T.heap = h) (hsize : Ls.size = c.maxLocals)
    {ps : List FieldType} {rt : Option FieldType} (hpd : parseMethodDescriptor y.desc = some ⟨ps, rt⟩) (hln : argsL.length = ps.length) {st : List Value} (hst : st = argsL.reverse ++ .ref a :: rest) (hd : decode c.code pc = .ok (.invokespecial index, 3))
    (hf : rm.frames + 1 ≤ R.frames) (hl : (rest.map fun v => v.category).sum + (maxL + 11) + rm.locals ≤ R.locals) (hcl : cells + rm.cells ≤ R.cells) (hsl : slots + rm.slots ≤ R.slots)
    (k : ∀ (T' : State) (v : Option Value) (L : List Loc), Stand p l e R s m args below meth c T' (locs ++ L) (cells + rm.cells) (slots + rm.slots) → Q' v T'.heap L → Owes p e below F (T'.setTop (mkF m (pc + 3) Ls (v.toList ++ rest)))) :
    Owes p e below F (T.setTop (mkF m pc Ls st)) := by
  subst hst
  obtain ⟨v, _, ⟨T3, L3, k3, n3⟩, -, X3, ⟨Lc3, hQ3, l3, y3, z3⟩, st3⟩ := X.specialBack hx (y := y) hy1 hown (mvT hZ w1) (mvT hZ w2) (mvT hZ w4) hy (backOf (W := (rest.map fun v => v.category).sum) M hZ w4 w3 hf hl) (g := mkF m pc Ls (argsL.reverse ++ .ref a :: rest)) rfl hsize (Steps.refl _) (a := a) (argsL := argsL) (rest := rest) (lenOf hpd hln) rfl (by show 2 * 0 + _ ≤ _; omega) hd (fun _ _ => ⟨rfl, eT, hcl, hsl⟩)
  dsimp only [Pt.U, Pt.locs, Pt.cells, Pt.slots] at X3 l3 y3 z3 st3 hQ3
  subst l3 y3 z3
  exact (k T3 v Lc3 X3 hQ3).tr st3
/-- an instance method by the contract of the body that the receiver's class selects -/
theorem Owes.callV (X : Stand p l e R s m args below meth c T locs cells slots) (hx : p.tables.exec = Jvm.exec) (hZ : Z.Warmed39 s.vm) {own CR : String} {index : Nat} {y z : MethodName} {bytes : ByteArray} {maxL : Nat} {ret : Option FieldType} {rm : Room}
    (hown : s.vm.findClass own = some m.cls) (w1 : (Cond.methodLink own index y).before a0 Z = true) (w2 : (Cond.declares y).before a0 Z = true) (hnf : NotFace s y) (w5 : (Cond.selects CR y z).before a0 Z = true) (w6 : (Cond.instanceMethod z).before a0 Z = true) (w3 : (Cond.initialized z.cls).before a0 Z = true) (w4 : (Cond.code z bytes maxL ret).before a0 Z = true)
    (hy : y.cls ≠ "java/lang/invoke/MethodHandle" ∧ y.cls ≠ "java/lang/invoke/VarHandle") {pc : Nat} {Ls : Array Slot} {a : Addr} {argsL rest : List Value} {Q' : Option Value → Heap → List Loc → Prop} (M : OMet l z bytes maxL ret [] rm (.ref a :: argsL).toArray Z h Q') (eT : T.heap = h) (E : Exa Z h a CR) (hsize : Ls.size = c.maxLocals)
    {ps : List FieldType} {rt : Option FieldType} (hpd : parseMethodDescriptor y.desc = some ⟨ps, rt⟩) (hln : argsL.length = ps.length) {st : List Value} (hst : st = argsL.reverse ++ .ref a :: rest) (hd : decode c.code pc = .ok (.invokevirtual index, 3))
    (hf : rm.frames + 1 ≤ R.frames) (hl : (rest.map fun v => v.category).sum + (maxL + 11) + rm.locals ≤ R.locals) (hcl : cells + rm.cells ≤ R.cells) (hsl : slots + rm.slots ≤ R.slots)
    (k : ∀ (T' : State) (v : Option Value) (L : List Loc), Stand p l e R s m args below meth c T' (locs ++ L) (cells + rm.cells) (slots + rm.slots) → Q' v T'.heap L → Owes p e below F (T'.setTop (mkF m (pc + 3) Ls (v.toList ++ rest)))) :
    Owes p e below F (T.setTop (mkF m pc Ls st)) := by
  subst hst
  obtain ⟨cq, kq, qa, qb, qc⟩ := isOf hZ eT E
  obtain ⟨v, _, ⟨T3, L3, k3, n3⟩, -, X3, ⟨Lc3, hQ3, l3, y3, z3⟩, st3⟩ := X.virtualBack hx (y := y) (z := z) hown (mvT hZ w1) (mvT hZ w2) hnf (mvT hZ w5) (mvT hZ w6) hy (backOf (W := (rest.map fun v => v.category).sum) M hZ w4 w3 hf hl) qa qc (g := mkF m pc Ls (argsL.reverse ++ .ref a :: rest)) rfl hsize (Steps.refl _) (argsL := argsL) (rest := rest) (lenOf hpd hln) rfl (by show 2 * 0 + _ ≤ _; omega) hd (fun _ _ => ⟨rfl, eT, hcl, hsl⟩)
  dsimp only [Pt.U, Pt.locs, Pt.cells, Pt.slots] at X3 l3 y3 z3 st3 hQ3
  subst l3 y3 z3
  exact (k T3 v Lc3 X3 hQ3).tr st3
/-- a private method by its contract -/
theorem Owes.callP (X : Stand p l e R s m args below meth c T locs cells slots) (hx : p.tables.exec = Jvm.exec) (hZ : Z.Warmed39 s.vm) {own CR : String} {index : Nat} {y : MethodName} {bytes : ByteArray} {maxL : Nat} {ret : Option FieldType} {rm : Room}
    (hown : s.vm.findClass own = some m.cls) (w1 : (Cond.methodLink own index y).before a0 Z = true) (w2 : (Cond.instanceMethod y).before a0 Z = true) (w5 : (Cond.selects y.cls y y).before a0 Z = true) (w6 : (Cond.privateMethod y).before a0 Z = true) (w3 : (Cond.initialized y.cls).before a0 Z = true) (w4 : (Cond.code y bytes maxL ret).before a0 Z = true)
    (hy : y.cls ≠ "java/lang/invoke/MethodHandle" ∧ y.cls ≠ "java/lang/invoke/VarHandle") {pc : Nat} {Ls : Array Slot} {a : Addr} {argsL rest : List Value} {Q' : Option Value → Heap → List Loc → Prop} (M : OMet l y bytes maxL ret [] rm (.ref a :: argsL).toArray Z h Q') (eT : T.heap = h) (E : Exa Z h a CR) (hsize : Ls.size = c.maxLocals)
    {ps : List FieldType} {rt : Option FieldType} (hpd : parseMethodDescriptor y.desc = some ⟨ps, rt⟩) (hln : argsL.length = ps.length) {st : List Value} (hst : st = argsL.reverse ++ .ref a :: rest) (hd : decode c.code pc = .ok (.invokevirtual index, 3))
    (hf : rm.frames + 1 ≤ R.frames) (hl : (rest.map fun v => v.category).sum + (maxL + 11) + rm.locals ≤ R.locals) (hcl : cells + rm.cells ≤ R.cells) (hsl : slots + rm.slots ≤ R.slots)
    (k : ∀ (T' : State) (v : Option Value) (L : List Loc), Stand p l e R s m args below meth c T' (locs ++ L) (cells + rm.cells) (slots + rm.slots) → Q' v T'.heap L → Owes p e below F (T'.setTop (mkF m (pc + 3) Ls (v.toList ++ rest)))) :
    Owes p e below F (T.setTop (mkF m pc Ls st)) := by
  subst hst
  obtain ⟨cq, q1, q2⟩ := E.cell
  obtain ⟨v, _, ⟨T3, L3, k3, n3⟩, -, X3, ⟨Lc3, hQ3, l3, y3, z3⟩, st3⟩ := X.privateBack hx (y := y) hown (mvT hZ w1) (mvT hZ w2) (mvT hZ w5) (Cond.privateMethod_at (mvP hZ w6 (args := #[]))) (mvT hZ w4) hy (backOf (W := (rest.map fun v => v.category).sum) M hZ w4 w3 hf hl) (g := mkF m pc Ls (argsL.reverse ++ .ref a :: rest)) rfl hsize (Steps.refl _) (a := a) (by rw [eT]; exact q1) q2 (argsL := argsL) (rest := rest) (lenOf hpd hln) rfl (by show 2 * 0 + _ ≤ _; omega) hd (fun _ _ => ⟨rfl, eT, hcl, hsl⟩)
  dsimp only [Pt.U, Pt.locs, Pt.cells, Pt.slots] at X3 l3 y3 z3 st3 hQ3
  subst l3 y3 z3
  exact (k T3 v Lc3 X3 hQ3).tr st3
theorem own_st {c2 s2 : Nat} (X : Stand p l e R s m args below meth c T locs cells slots) (hc : cells = c2) (hs : slots = s2) : Stand p l e R s m args below meth c T locs c2 s2 := by subst hc hs; exact X
theorem Owes.initO (X : Stand p l e R s m args below meth c T locs cells slots) (hx : p.tables.exec = Jvm.exec) (hZ : Z.Warmed39 s.vm) {own : String} {index : Nat} (hown : s.vm.findClass own = some m.cls) (w1 : (Cond.methodLink own index Lib.objectInit).before a0 Z = true) (w2 : (Cond.instanceMethod Lib.objectInit).before a0 Z = true) (w3 : (Cond.code Lib.objectInit ⟨#[0xb1]⟩ 1 none).before a0 Z = true) (eT : T.heap = h)
    {pc : Nat} {Ls : Array Slot} {a : Addr} {rest : List Value} (hsize : Ls.size = c.maxLocals) (hd : decode c.code pc = .ok (.invokespecial index, 3)) (hf : 1 ≤ R.frames) (hl : (rest.map fun v => v.category).sum + 12 ≤ R.locals)
    (k : ∀ T' : State, Stand p l e R s m args below meth c T' locs cells slots → T'.heap = h → Owes p e below F (T'.setTop (mkF m (pc + 3) Ls rest))) : Owes p e below F (T.setTop (mkF m pc Ls (.ref a :: rest))) := by
  obtain ⟨T', X', e', st⟩ := Jvm.RoadKit.initO X hx hZ hown w1 w2 w3 eT (g := mkF m pc Ls (.ref a :: rest)) rfl hsize rfl hd hf (W := (rest.map fun v => v.category).sum) (by show 2 * 0 + _ ≤ _; omega) hl
  exact (k T' X' e').go st
theorem Owes.newO (X : Stand p l e R s m args below meth c T locs cells slots) (hx : p.tables.exec = Jvm.exec) (hZ : Z.Warmed39 s.vm) {own CC : String} {index n : Nat} (hown : s.vm.findClass own = some m.cls) (w : (Cond.classLink own index CC).before a0 Z = true) (wi : (Cond.instantiable CC n).before a0 Z = true) (wz : (Cond.initialized CC).before a0 Z = true) (eT : T.heap = h)
    {pc : Nat} {Ls : Array Slot} {rest : List Value} (hd : decode c.code pc = .ok (.new index, 3)) (hcl : cells + 1 ≤ R.cells) (hsl : slots + n ≤ R.slots)
    (k : ∀ (T' : State) (h' : Heap), Stand p l e R s m args below meth c T' locs (cells + 1) (slots + n) → T'.heap = h' → Ext h h' → Exa Z h' h.size CC → (∀ {O nm d : String} {ty : FieldType}, Laid Z a0 CC O nm d → parseFieldDescriptor d = some ty → Fld Z h' h.size O nm d (defaultValue ty)) → Owes p e below F (T'.setTop (mkF m (pc + 3) Ls (.ref h.size :: rest)))) : Owes p e below F (T.setTop (mkF m pc Ls rest)) := by
  obtain ⟨T', h', X', e', E, A, D, -, st⟩ := Jvm.RoadKit.newO X hx hZ hown w wi wz eT (g := mkF m pc Ls rest) rfl hd hcl hsl
  exact (k T' h' X' e' E A D).go st
theorem Owes.putF (X : Stand p l e R s m args below meth c T locs cells slots) (hx : p.tables.exec = Jvm.exec) (hZ : Z.Warmed39 s.vm) {own R0 O n d host CC : String} {index kk : Nat} {ty : FieldType} (hown : s.vm.findClass own = some m.cls) (w : (Cond.fieldLink own index R0 n d).before a0 Z = true ∨ (Cond.fieldLinkNest own index R0 n d host).before a0 Z = true) (via : Via Z R0 O n d) (eT : T.heap = h)
    {a : Addr} {v old : Value} (Fd : Fld Z h a O n d old) (E : Exa Z h a CC) (L : (Cond.lays CC O n d).before a0 Z = true ∨ ((Cond.laysFinal CC O n d).before a0 Z = true ∧ own = O ∧ meth.name = "<init>")) (wi : (Cond.instantiable CC kk).before a0 Z = true) (hty : parseFieldDescriptor d = some ty) (hn : narrow ty v = v) (hf : fits ty v = true)
    {pc : Nat} {Ls : Array Slot} {rest : List Value} (hd : decode c.code pc = .ok (.putfield index, 3))
    (k : ∀ (T' : State) (h' : Heap), Stand p l e R s m args below meth c T' (locs ++ [⟨a, Jvm.RoadKit.slotOf Z O n d⟩]) cells slots → T'.heap = h' → Wr h h' a (Jvm.RoadKit.slotOf Z O n d) v → Owes p e below F (T'.setTop (mkF m (pc + 3) Ls rest))) : Owes p e below F (T.setTop (mkF m pc Ls (v :: .ref a :: rest))) := by
  obtain ⟨T', h', X', e', W, st⟩ := Jvm.RoadKit.putF X hx hZ hown w via eT Fd E L wi hty hn hf (g := mkF m pc Ls (v :: .ref a :: rest)) rfl rfl hd
  exact (k T' h' X' e' W).go st
theorem Owes.alen (X : Stand p l e R s m args below meth c T locs cells slots) (hx : p.tables.exec = Jvm.exec) (hZ : Z.Warmed39 s.vm) (eT : T.heap = h) {a : Addr} {cl : Cell} {ty : FieldType} (A : Arr Z h a cl ty) {z : Int32} (hn : cl.slots.size.toInt32 = z) {pc : Nat} {Ls : Array Slot} {rest : List Value}
    (hd : decode c.code pc = .ok (.arraylength, 1)) (k : Owes p e below F (T.setTop (mkF m (pc + 1) Ls (.int z :: rest)))) : Owes p e below F (T.setTop (mkF m pc Ls (.ref a :: rest))) := by
  subst hn
  exact k.go fun t q => X.arraylength hx (by rw [eT]; exact A.1) (State.isArrayOf_alike hZ.alike A.2.1) (g := mkF m pc Ls (.ref a :: rest)) rfl rfl hd _ q
theorem Owes.aldI (X : Stand p l e R s m args below meth c T locs cells slots) (hx : p.tables.exec = Jvm.exec) (hZ : Z.Warmed39 s.vm) (eT : T.heap = h) {a : Addr} {cl : Cell} (A : Arr Z h a cl .int) {j : Int32} {v : Value} (hin : ¬ (j < 0 ∨ cl.slots.size ≤ j.toNatClampNeg)) (hat : cl.slots[j.toNatClampNeg]? = some v) {pc : Nat} {Ls : Array Slot} {rest : List Value}
    (hd : decode c.code pc = .ok (.iaload, 1)) (k : Owes p e below F (T.setTop (mkF m (pc + 1) Ls (v :: rest)))) : Owes p e below F (T.setTop (mkF m pc Ls (.int j :: .ref a :: rest))) :=
  k.go fun t q => X.iaload hx (by rw [eT]; exact A.1) (State.isArrayOf_alike hZ.alike A.2.1) A.2.2 hin hat (g := mkF m pc Ls (.int j :: .ref a :: rest)) rfl rfl hd _ q
theorem Owes.aldJ (X : Stand p l e R s m args below meth c T locs cells slots) (hx : p.tables.exec = Jvm.exec) (hZ : Z.Warmed39 s.vm) (eT : T.heap = h) {a : Addr} {cl : Cell} (A : Arr Z h a cl .long) {j : Int32} {v : Value} (hin : ¬ (j < 0 ∨ cl.slots.size ≤ j.toNatClampNeg)) (hat : cl.slots[j.toNatClampNeg]? = some v) {pc : Nat} {Ls : Array Slot} {rest : List Value}
    (hd : decode c.code pc = .ok (.laload, 1)) (k : Owes p e below F (T.setTop (mkF m (pc + 1) Ls (v :: rest)))) : Owes p e below F (T.setTop (mkF m pc Ls (.int j :: .ref a :: rest))) :=
  k.go fun t q => X.laload hx (by rw [eT]; exact A.1) (State.isArrayOf_alike hZ.alike A.2.1) A.2.2 hin hat (g := mkF m pc Ls (.int j :: .ref a :: rest)) rfl rfl hd _ q
theorem Owes.aldC (X : Stand p l e R s m args below meth c T locs cells slots) (hx : p.tables.exec = Jvm.exec) (hZ : Z.Warmed39 s.vm) (eT : T.heap = h) {a : Addr} {cl : Cell} (A : Arr Z h a cl .char) {j : Int32} {v : Value} (hin : ¬ (j < 0 ∨ cl.slots.size ≤ j.toNatClampNeg)) (hat : cl.slots[j.toNatClampNeg]? = some v) {pc : Nat} {Ls : Array Slot} {rest : List Value}
    (hd : decode c.code pc = .ok (.caload, 1)) (k : Owes p e below F (T.setTop (mkF m (pc + 1) Ls (v :: rest)))) : Owes p e below F (T.setTop (mkF m pc Ls (.int j :: .ref a :: rest))) :=
  k.go fun t q => X.caload hx (by rw [eT]; exact A.1) (State.isArrayOf_alike hZ.alike A.2.1) A.2.2 hin hat (g := mkF m pc Ls (.int j :: .ref a :: rest)) rfl rfl hd _ q
theorem Owes.aldZ (X : Stand p l e R s m args below meth c T locs cells slots) (hx : p.tables.exec = Jvm.exec) (hZ : Z.Warmed39 s.vm) (eT : T.heap = h) {a : Addr} {cl : Cell} (A : Arr Z h a cl .boolean) {j : Int32} {v : Value} (hin : ¬ (j < 0 ∨ cl.slots.size ≤ j.toNatClampNeg)) (hat : cl.slots[j.toNatClampNeg]? = some v) {pc : Nat} {Ls : Array Slot} {rest : List Value}
    (hd : decode c.code pc = .ok (.baload, 1)) (k : Owes p e below F (T.setTop (mkF m (pc + 1) Ls (v :: rest)))) : Owes p e below F (T.setTop (mkF m pc Ls (.int j :: .ref a :: rest))) :=
  k.go fun t q => X.baloadBooleans hx (by rw [eT]; exact A.1) (State.isArrayOf_alike hZ.alike A.2.1) A.2.2 hin hat (g := mkF m pc Ls (.int j :: .ref a :: rest)) rfl rfl hd _ q
theorem Owes.aldB (X : Stand p l e R s m args below meth c T locs cells slots) (hx : p.tables.exec = Jvm.exec) (hZ : Z.Warmed39 s.vm) (eT : T.heap = h) {a : Addr} {cl : Cell} (A : Arr Z h a cl .byte) {j : Int32} {v : Value} (hin : ¬ (j < 0 ∨ cl.slots.size ≤ j.toNatClampNeg)) (hat : cl.slots[j.toNatClampNeg]? = some v) {pc : Nat} {Ls : Array Slot} {rest : List Value}
    (hd : decode c.code pc = .ok (.baload, 1)) (k : Owes p e below F (T.setTop (mkF m (pc + 1) Ls (v :: rest)))) : Owes p e below F (T.setTop (mkF m pc Ls (.int j :: .ref a :: rest))) :=
  k.go fun t q => X.baloadBytes hx (by rw [eT]; exact A.1) (State.isArrayOf_alike hZ.alike A.2.1) A.2.2 hin hat (g := mkF m pc Ls (.int j :: .ref a :: rest)) rfl rfl hd _ q
theorem Owes.aldR (X : Stand p l e R s m args below meth c T locs cells slots) (hx : p.tables.exec = Jvm.exec) (hZ : Z.Warmed39 s.vm) (eT : T.heap = h) {a : Addr} {cl : Cell} {ty : FieldType} (A : Arr Z h a cl ty) (hty : ty.isReference = true) {j : Int32} {v : Value} (hin : ¬ (j < 0 ∨ cl.slots.size ≤ j.toNatClampNeg)) (hat : cl.slots[j.toNatClampNeg]? = some v) {pc : Nat} {Ls : Array Slot} {rest : List Value}
    (hd : decode c.code pc = .ok (.aaload, 1)) (k : Owes p e below F (T.setTop (mkF m (pc + 1) Ls (v :: rest)))) : Owes p e below F (T.setTop (mkF m pc Ls (.int j :: .ref a :: rest))) :=
  k.go fun t q => X.aaload hx (by rw [eT]; exact A.1) (State.isArrayOf_alike hZ.alike A.2.1) hty A.2.2 hin hat (g := mkF m pc Ls (.int j :: .ref a :: rest)) rfl rfl hd _ q
theorem own_eqI {first : State} {o : Option Outcome} {idx : List Nat} {t : Term} {k : Int32} (q : (Cond.eq t (.int k)).value args first o s idx = some true) : t.eval args first o idx s = some (.int k) := by
  simp only [Cond.value, Term.eval] at q
  cases hv : t.eval args first o idx s with
  | none => simp [hv] at q
  | some v => cases v <;> simp_all
end Own
section Rfx1
variable {p : Program} {l : Launch} {e : Env} {R : Room} {s : State} {m : MethodId} {args : Array Value} {below : List Frame} {meth : Method} {c : Code} {T : State} {locs : List Loc} {cells slots : Nat} {Z : State} {a0 : Array Value} {h h' : Heap}
variable {F : Outcome → State → Prop} {ρ : Nat → Nat} {ι : Nat → Int32}
/-- an abstract value: .ref k is the object number k, .retAddr i the unknown int number i, any other itself -/
def den (ρ : Nat → Nat) (ι : Nat → Int32) (v : Value) : Value := match v with | .ref k => .ref (ρ k) | .retAddr i => .int (ι i) | w => w
def denS (ρ : Nat → Nat) (ι : Nat → Int32) (x : Slot) : Slot := match x with | .val v => .val (den ρ ι v) | y => y
def denL (ρ : Nat → Nat) (ι : Nat → Int32) (L : List Slot) : Array Slot := (L.map (denS ρ ι)).toArray
def denK (ρ : Nat → Nat) (ι : Nat → Int32) (S : List Value) : List Value := S.map (den ρ ι)
def isR (v : Value) : Bool := match v with | .ref _ => true | .null => true | _ => false
def isI (v : Value) : Bool := match v with | .int _ => true | .retAddr _ => true | _ => false
def c1 (v : Value) : Bool := match v with | .long _ => false | .double _ => false | _ => true
theorem den_isR {v : Value} (h : isR v = true) : (den ρ ι v).isRef = true := by cases v <;> simp [isR, den, Value.isRef] at h ⊢
theorem den_isI {v : Value} (h : isI v = true) : ∃ x, den ρ ι v = .int x := by cases v <;> simp [isI, den] at h ⊢
theorem den_c1 {v : Value} (h : c1 v = true) : (den ρ ι v).category = 1 := by cases v <;> simp [c1, den, Value.category] at h ⊢
theorem isR_c1 {v : Value} (h : isR v = true) : c1 v = true := by cases v <;> simp [isR, c1] at h ⊢
theorem isI_c1 {v : Value} (h : isI v = true) : c1 v = true := by cases v <;> simp [isI, c1] at h ⊢
theorem denL_at {L : List Slot} {k : Nat} {x : Slot} (h : L[k]? = some x) : (denL ρ ι L)[k]? = some (denS ρ ι x) := by simp [denL, h]
theorem denL_set {L : List Slot} {k : Nat} {v : Value} : (denL ρ ι L).setIfInBounds k (.val (den ρ ι v)) = denL ρ ι (L.set k (.val v)) := by
  simp only [denL, List.setIfInBounds_toArray, List.map_set]; rfl
theorem denL_size {L : List Slot} : (denL ρ ι L).size = L.length := by simp [denL]
def nth {α : Type} (H : List α) (k : Nat) : Option α := match H, k with | [], _ => none | x :: _, 0 => some x | _ :: t, k + 1 => nth t k
def setN {α : Type} (H : List α) (k : Nat) (v : α) : List α := match H, k with | [], _ => [] | _ :: t, 0 => v :: t | x :: t, k + 1 => x :: setN t k v
theorem nth_eq {α : Type} : ∀ (H : List α) (k : Nat), nth H k = H[k]?
  | [], _ => by simp [nth]
  | _ :: _, 0 => by simp [nth]
  | _ :: t, k + 1 => by simpa [nth] using nth_eq t k
theorem setN_eq {α : Type} : ∀ (H : List α) (k : Nat) (v : α), setN H k v = H.set k v
  | [], _, _ => by simp [setN]
  | _ :: _, 0, _ => by simp [setN]
  | _ :: t, k + 1, v => by simp [setN, setN_eq t k v]
def okS (L : List Slot) (k : Nat) : Bool := match nth L k with | some .unset => true | some (.val w) => c1 w | _ => false
theorem denL_store {L : List Slot} {k : Nat} {v : Value} (h : okS L k = true) (hv : c1 v = true) : storeLocals (denL ρ ι L) k (den ρ ι v) = some (denL ρ ι (L.set k (.val v))) := by
  unfold okS at h
  split at h
  · rename_i q; rw [nth_eq] at q; rw [← denL_set]; exact Jvm.Free.XS.store1 (denL_at q) (Or.inl rfl) (den_c1 hv)
  · rename_i w q; rw [nth_eq] at q; rw [← denL_set]; exact Jvm.Free.XS.store1 (denL_at q) (Or.inr ⟨_, rfl, den_c1 h⟩) (den_c1 hv)
  · cases h
def ldR (L : List Slot) (k nx : Nat) (S : List Value) : Option (Nat × List Slot × List Value) := match nth L k with | some (.val v) => bif isR v then some (nx, L, v :: S) else none | _ => none
def ldI (L : List Slot) (k nx : Nat) (S : List Value) : Option (Nat × List Slot × List Value) := match nth L k with | some (.val v) => bif isI v then some (nx, L, v :: S) else none | _ => none
def stR (L : List Slot) (k nx : Nat) (S : List Value) : Option (Nat × List Slot × List Value) := match S with | v :: S' => bif isR v && okS L k then some (nx, setN L k (.val v), S') else none | _ => none
def stI (L : List Slot) (k nx : Nat) (S : List Value) : Option (Nat × List Slot × List Value) := match S with | v :: S' => bif isI v && okS L k then some (nx, setN L k (.val v), S') else none | _ => none
theorem ldR_ok {L L' : List Slot} {k nx nx' : Nat} {S S' : List Value} (h : ldR L k nx S = some (nx', L', S')) : ∃ v, L[k]? = some (.val v) ∧ isR v = true ∧ nx' = nx ∧ L' = L ∧ S' = v :: S := by
  unfold ldR at h
  split at h
  · rename_i v q
    rw [nth_eq] at q
    cases hv : isR v with
    | false => simp [hv] at h
    | true => simp [hv] at h; exact ⟨v, q, hv, h.1.symm, h.2.1.symm, h.2.2.symm⟩
  · cases h
theorem ldI_ok {L L' : List Slot} {k nx nx' : Nat} {S S' : List Value} (h : ldI L k nx S = some (nx', L', S')) : ∃ v, L[k]? = some (.val v) ∧ isI v = true ∧ nx' = nx ∧ L' = L ∧ S' = v :: S := by
  unfold ldI at h
  split at h
  · rename_i v q
    rw [nth_eq] at q
    cases hv : isI v with
    | false => simp [hv] at h
    | true => simp [hv] at h; exact ⟨v, q, hv, h.1.symm, h.2.1.symm, h.2.2.symm⟩
  · cases h
theorem stR_ok {L L' : List Slot} {k nx nx' : Nat} {S S' : List Value} (h : stR L k nx S = some (nx', L', S')) : ∃ v, S = v :: S' ∧ isR v = true ∧ okS L k = true ∧ nx' = nx ∧ L' = L.set k (.val v) := by
  unfold stR at h
  split at h
  · rename_i v S1
    cases hv : (isR v && okS L k) with
    | false => simp [hv] at h
    | true => simp [hv] at h; rw [Bool.and_eq_true] at hv; exact ⟨v, by rw [h.2.2], hv.1, hv.2, h.1.symm, by rw [← h.2.1, setN_eq]⟩
  · cases h
theorem stI_ok {L L' : List Slot} {k nx nx' : Nat} {S S' : List Value} (h : stI L k nx S = some (nx', L', S')) : ∃ v, S = v :: S' ∧ isI v = true ∧ okS L k = true ∧ nx' = nx ∧ L' = L.set k (.val v) := by
  unfold stI at h
  split at h
  · rename_i v S1
    cases hv : (isI v && okS L k) with
    | false => simp [hv] at h
    | true => simp [hv] at h; rw [Bool.and_eq_true] at hv; exact ⟨v, by rw [h.2.2], hv.1, hv.2, h.1.symm, by rw [← h.2.1, setN_eq]⟩
  · cases h
/-- loads, stores, constants -/
def stpA (i : Instr) (n pc : Nat) (L : List Slot) (S : List Value) : Option (Nat × List Slot × List Value) := match i, n with
  | .aload_n k, 1 => ldR L k.val (Nat.add pc 1) S
  | .aload k, 2 => ldR L k (Nat.add pc 2) S
  | .iload_n k, 1 => ldI L k.val (Nat.add pc 1) S
  | .iload k, 2 => ldI L k (Nat.add pc 2) S
  | .astore_n k, 1 => stR L k.val (Nat.add pc 1) S
  | .astore k, 2 => stR L k (Nat.add pc 2) S
  | .istore_n k, 1 => stI L k.val (Nat.add pc 1) S
  | .istore k, 2 => stI L k (Nat.add pc 2) S
  | .iconst x, 1 => some (Nat.add pc 1, L, .int (Int32.ofInt x) :: S)
  | .bipush x, 2 => some (Nat.add pc 2, L, .int (Int8.ofInt x).toInt32 :: S)
  | .sipush x, 3 => some (Nat.add pc 3, L, .int (Int16.ofInt x).toInt32 :: S)
  | .aconst_null, 1 => some (Nat.add pc 1, L, .null :: S)
  | _, _ => none
theorem stpA_len {i : Instr} {n pc nx : Nat} {L L' : List Slot} {S S' : List Value} (h : stpA i n pc L S = some (nx, L', S')) : L'.length = L.length := by
  unfold stpA at h
  split at h
  · obtain ⟨_, _, _, _, rfl, _⟩ := ldR_ok h; rfl
  · obtain ⟨_, _, _, _, rfl, _⟩ := ldR_ok h; rfl
  · obtain ⟨_, _, _, _, rfl, _⟩ := ldI_ok h; rfl
  · obtain ⟨_, _, _, _, rfl, _⟩ := ldI_ok h; rfl
  · obtain ⟨_, _, _, _, _, rfl⟩ := stR_ok h; simp
  · obtain ⟨_, _, _, _, _, rfl⟩ := stR_ok h; simp
  · obtain ⟨_, _, _, _, _, rfl⟩ := stI_ok h; simp
  · obtain ⟨_, _, _, _, _, rfl⟩ := stI_ok h; simp
  · cases h; rfl
  · cases h; rfl
  · cases h; rfl
  · cases h; rfl
  · cases h
theorem stpA_ok (X : Stand p l e R s m args below meth c T locs cells slots) (hx : p.tables.exec = Jvm.exec) {i : Instr} {n pc nx : Nat} {L L' : List Slot} {S S' : List Value} (hd : decode c.code pc = .ok (i, n)) (h : stpA i n pc L S = some (nx, L', S')) : L'.length = L.length ∧
    (Owes p e below F (T.setTop (mkF m nx (denL ρ ι L') (denK ρ ι S'))) → Owes p e below F (T.setTop (mkF m pc (denL ρ ι L) (denK ρ ι S)))) := by
  refine ⟨stpA_len h, fun k => ?_⟩
  unfold stpA at h
  split at h
  · obtain ⟨v, q1, q2, rfl, rfl, rfl⟩ := ldR_ok h
    exact k.go fun t q => Jvm.Free.XS.aloadN X.here hx rfl hd (denL_at q1) (den_isR q2) q
  · obtain ⟨v, q1, q2, rfl, rfl, rfl⟩ := ldR_ok h
    exact k.go fun t q => Jvm.Free.XS.aload X.here hx rfl hd (denL_at q1) (den_isR q2) q
  · obtain ⟨v, q1, q2, rfl, rfl, rfl⟩ := ldI_ok h
    obtain ⟨x, ex⟩ := den_isI (ρ := ρ) (ι := ι) q2
    have q3 := denL_at (ρ := ρ) (ι := ι) q1
    rw [show denS ρ ι (.val v) = .val (den ρ ι v) from rfl, ex] at q3
    rw [show denK ρ ι (v :: S) = den ρ ι v :: denK ρ ι S from rfl, ex] at k
    exact k.go fun t q => Jvm.Free.XS.iloadN X.here hx rfl hd q3 q
  · obtain ⟨v, q1, q2, rfl, rfl, rfl⟩ := ldI_ok h
    obtain ⟨x, ex⟩ := den_isI (ρ := ρ) (ι := ι) q2
    have q3 := denL_at (ρ := ρ) (ι := ι) q1
    rw [show denS ρ ι (.val v) = .val (den ρ ι v) from rfl, ex] at q3
    rw [show denK ρ ι (v :: S) = den ρ ι v :: denK ρ ι S from rfl, ex] at k
    exact k.go fun t q => Jvm.Free.XS.iload X.here hx rfl hd q3 q
  · obtain ⟨v, rfl, q2, q3, rfl, rfl⟩ := stR_ok h
    exact k.go fun t q => Jvm.Free.XS.astoreN X.here hx rfl hd rfl (den_isR q2) (denL_store q3 (isR_c1 q2)) q
  · obtain ⟨v, rfl, q2, q3, rfl, rfl⟩ := stR_ok h
    exact k.go fun t q => Jvm.Free.XS.astore X.here hx rfl hd rfl (den_isR q2) (denL_store q3 (isR_c1 q2)) q
  · obtain ⟨v, rfl, q2, q3, rfl, rfl⟩ := stI_ok h
    obtain ⟨x, ex⟩ := den_isI (ρ := ρ) (ι := ι) q2
    have q4 := denL_store (ρ := ρ) (ι := ι) q3 (isI_c1 q2)
    rw [ex] at q4
    show Owes _ _ _ _ (T.setTop (mkF m pc (denL ρ ι L) (den ρ ι v :: denK ρ ι S')))
    rw [ex]
    exact k.go fun t q => Jvm.Free.XS.istoreN X.here hx rfl hd rfl q4 q
  · obtain ⟨v, rfl, q2, q3, rfl, rfl⟩ := stI_ok h
    obtain ⟨x, ex⟩ := den_isI (ρ := ρ) (ι := ι) q2
    have q4 := denL_store (ρ := ρ) (ι := ι) q3 (isI_c1 q2)
    rw [ex] at q4
    show Owes _ _ _ _ (T.setTop (mkF m pc (denL ρ ι L) (den ρ ι v :: denK ρ ι S')))
    rw [ex]
    exact k.go fun t q => Jvm.Free.XS.istore X.here hx rfl hd rfl q4 q
  · cases h; exact k.go fun t q => Jvm.Free.XS.iconst X.here hx rfl hd q
  · cases h; exact k.go fun t q => Jvm.Free.XS.bipush X.here hx rfl hd q
  · cases h; exact k.go fun t q => Jvm.Free.XS.sipush X.here hx rfl hd q
  · cases h; exact k.go fun t q => Jvm.Free.XS.aconstNull X.here hx rfl hd q
  · cases h
/-- the int operations -/
def iop (o : Nat) (x y : Int32) : Int32 := match o with
  | 0 => x + y | 1 => x - y | 2 => x &&& y | 3 => x ||| y | 4 => x ^^^ y | 5 => x <<< (y &&& 31) | 6 => (x.toUInt32 >>> (y &&& 31).toUInt32).toInt32 | _ => x % y
def Orc := Nat → Value → Value → Option Value
def OrcOK (ρ : Nat → Nat) (ι : Nat → Int32) (orc : Orc) : Prop := ∀ o x y z, orc o x y = some z → ∃ a b, den ρ ι x = .int a ∧ den ρ ι y = .int b ∧ (o = 7 → ¬ b = 0) ∧ den ρ ι z = .int (iop o a b)
def ibin (orc : Orc) (o : Nat) (x y : Value) : Option Value := match x, y with | .int a, .int b => some (.int (iop o a b)) | x, y => orc o x y
theorem ibin_ok {orc : Orc} (ho : OrcOK ρ ι orc) {o : Nat} (o7 : ¬ o = 7) {x y z : Value} (h : ibin orc o x y = some z) : ∃ a b, den ρ ι x = .int a ∧ den ρ ι y = .int b ∧ den ρ ι z = .int (iop o a b) := by
  unfold ibin at h
  split at h
  · cases h; exact ⟨_, _, rfl, rfl, rfl⟩
  · obtain ⟨a, b, h1, h2, -, h3⟩ := ho _ _ _ _ h; exact ⟨a, b, h1, h2, h3⟩
def bin (orc : Orc) (o nx : Nat) (L : List Slot) (S : List Value) : Option (Nat × List Slot × List Value) := match S with
  | y :: x :: S' => (match ibin orc o x y with | some z => some (nx, L, z :: S') | none => none)
  | _ => none
theorem bin_ok {orc : Orc} (ho : OrcOK ρ ι orc) {o nx nx' : Nat} (o7 : ¬ o = 7) {L L' : List Slot} {S S' : List Value} (h : bin orc o nx L S = some (nx', L', S')) : ∃ (a b : Int32) (S1 : List Value), denK ρ ι S = .int b :: .int a :: denK ρ ι S1 ∧ denK ρ ι S' = .int (iop o a b) :: denK ρ ι S1 ∧ nx' = nx ∧ L' = L := by
  unfold bin at h
  split at h
  · rename_i y x S1
    split at h
    · rename_i z q
      cases h
      obtain ⟨a, b, h1, h2, h3⟩ := ibin_ok ho o7 q
      exact ⟨a, b, S1, by simp [denK, h1, h2], by simp [denK, h3], rfl, rfl⟩
    · cases h
  · cases h
def dupV (nx : Nat) (L : List Slot) (S : List Value) : Option (Nat × List Slot × List Value) := match S with | v :: S' => bif c1 v then some (nx, L, v :: v :: S') else none | _ => none
def popV (nx : Nat) (L : List Slot) (S : List Value) : Option (Nat × List Slot × List Value) := match S with | v :: S' => bif c1 v then some (nx, L, S') else none | _ => none
def dx1V (nx : Nat) (L : List Slot) (S : List Value) : Option (Nat × List Slot × List Value) := match S with | v :: w :: S' => bif c1 v && c1 w then some (nx, L, v :: w :: v :: S') else none | _ => none
/-- the stack, the ints -/
def stpB (orc : Orc) (i : Instr) (n pc : Nat) (L : List Slot) (S : List Value) : Option (Nat × List Slot × List Value) := match i, n with
  | .dup, 1 => dupV (Nat.add pc 1) L S
  | .pop, 1 => popV (Nat.add pc 1) L S
  | .dup_x1, 1 => dx1V (Nat.add pc 1) L S
  | .iadd, 1 => bin orc 0 (Nat.add pc 1) L S
  | .isub, 1 => bin orc 1 (Nat.add pc 1) L S
  | .iand, 1 => bin orc 2 (Nat.add pc 1) L S
  | .ior, 1 => bin orc 3 (Nat.add pc 1) L S
  | .ixor, 1 => bin orc 4 (Nat.add pc 1) L S
  | .ishl, 1 => bin orc 5 (Nat.add pc 1) L S
  | .iushr, 1 => bin orc 6 (Nat.add pc 1) L S
  | _, _ => none
theorem dup_len {nx nx' : Nat} {L L' : List Slot} {S S' : List Value} (h : dupV nx L S = some (nx', L', S') ∨ popV nx L S = some (nx', L', S') ∨ dx1V nx L S = some (nx', L', S')) : L'.length = L.length := by
  rcases h with h | h | h
  · unfold dupV at h
    split at h
    · rename_i v S1; cases hv : c1 v <;> simp [hv] at h; rw [h.2.1]
    · cases h
  · unfold popV at h
    split at h
    · rename_i v S1; cases hv : c1 v <;> simp [hv] at h; rw [h.2.1]
    · cases h
  · unfold dx1V at h
    split at h
    · rename_i v w S1; cases hv : (c1 v && c1 w) <;> simp [hv] at h; rw [h.2.1]
    · cases h
theorem stpB_len {orc : Orc} (ho : OrcOK ρ ι orc) {i : Instr} {n pc nx : Nat} {L L' : List Slot} {S S' : List Value} (h : stpB orc i n pc L S = some (nx, L', S')) : L'.length = L.length := by
  unfold stpB at h
  split at h
  · exact dup_len (Or.inl h)
  · exact dup_len (Or.inr (Or.inl h))
  · exact dup_len (Or.inr (Or.inr h))
  all_goals first | (obtain ⟨_, _, _, _, _, _, rfl⟩ := bin_ok ho (by decide) h; rfl) | cases h
theorem stpB_ok {orc : Orc} (ho : OrcOK ρ ι orc) (X : Stand p l e R s m args below meth c T locs cells slots) (hx : p.tables.exec = Jvm.exec) {i : Instr} {n pc nx : Nat} {L L' : List Slot} {S S' : List Value} (hd : decode c.code pc = .ok (i, n)) (h : stpB orc i n pc L S = some (nx, L', S')) : L'.length = L.length ∧
    (Owes p e below F (T.setTop (mkF m nx (denL ρ ι L') (denK ρ ι S'))) → Owes p e below F (T.setTop (mkF m pc (denL ρ ι L) (denK ρ ι S)))) := by
  refine ⟨stpB_len ho h, fun k => ?_⟩
  unfold stpB at h
  split at h
  · unfold dupV at h
    split at h
    · rename_i v S1
      cases hv : c1 v with
      | false => simp [hv] at h
      | true => simp [hv] at h; obtain ⟨rfl, rfl, rfl⟩ := h; exact k.go fun t q => Jvm.Free.XS.dup X.here hx rfl hd rfl (den_c1 hv) q
    · cases h
  · unfold popV at h
    split at h
    · rename_i v S1
      cases hv : c1 v with
      | false => simp [hv] at h
      | true => simp [hv] at h; obtain ⟨rfl, rfl, rfl⟩ := h; exact k.go fun t q => Jvm.Free.XS.pop X.here hx rfl hd rfl (den_c1 hv) q
    · cases h
  · unfold dx1V at h
    split at h
    · rename_i v w S1
      cases hv : (c1 v && c1 w) with
      | false => simp [hv] at h
      | true => simp [hv] at h; obtain ⟨rfl, rfl, rfl⟩ := h; rw [Bool.and_eq_true] at hv; exact k.go fun t q => Jvm.Free.XS.dupX1 X.here hx rfl hd rfl (den_c1 hv.1) (den_c1 hv.2) q
    · cases h
  · obtain ⟨a, b, S1, h1, h2, rfl, rfl⟩ := bin_ok ho (by decide) h
    rw [h2] at k; rw [h1]; exact k.go fun t q => Jvm.Free.XS.iadd X.here hx rfl hd rfl q
  · obtain ⟨a, b, S1, h1, h2, rfl, rfl⟩ := bin_ok ho (by decide) h
    rw [h2] at k; rw [h1]; exact k.go fun t q => Jvm.Free.XS.isub X.here hx rfl hd rfl q
  · obtain ⟨a, b, S1, h1, h2, rfl, rfl⟩ := bin_ok ho (by decide) h
    rw [h2] at k; rw [h1]; exact k.go fun t q => Jvm.Free.XS.iand X.here hx rfl hd rfl q
  · obtain ⟨a, b, S1, h1, h2, rfl, rfl⟩ := bin_ok ho (by decide) h
    rw [h2] at k; rw [h1]; exact k.go fun t q => Jvm.Free.XS.ior X.here hx rfl hd rfl q
  · obtain ⟨a, b, S1, h1, h2, rfl, rfl⟩ := bin_ok ho (by decide) h
    rw [h2] at k; rw [h1]; exact k.go fun t q => Jvm.Free.XS.ixor X.here hx rfl hd rfl q
  · obtain ⟨a, b, S1, h1, h2, rfl, rfl⟩ := bin_ok ho (by decide) h
    rw [h2] at k; rw [h1]; exact k.go fun t q => Jvm.Free.XS.ishl X.here hx rfl hd rfl q
  · obtain ⟨a, b, S1, h1, h2, rfl, rfl⟩ := bin_ok ho (by decide) h
    rw [h2] at k; rw [h1]; exact k.go fun t q => Jvm.Free.XS.iushr X.here hx rfl hd rfl q
  · cases h
/-- jumps -/
def jmp (pc : Nat) (o : Int) : Option Nat := bif decide (0 ≤ (pc : Int) + o) then some ((pc : Int) + o).toNat else none
theorem jmp_ok {pc nx : Nat} {o : Int} (h : jmp pc o = some nx) : 0 ≤ (pc : Int) + o ∧ ((pc : Int) + o).toNat = nx := by
  unfold jmp at h
  cases hd : decide (0 ≤ (pc : Int) + o) with
  | false => simp [hd] at h
  | true => simp [hd] at h; exact ⟨of_decide_eq_true hd, h⟩
def Orb := ClassFile.Cond → Value → Value → Option Bool
def OrbOK (ρ : Nat → Nat) (ι : Nat → Int32) (orb : Orb) : Prop := ∀ o x y z, orb o x y = some z → ∃ a b, den ρ ι x = .int a ∧ den ρ ι y = .int b ∧ if_icmp.holds o a b = z
def icmp (orb : Orb) (o : ClassFile.Cond) (x y : Value) : Option Bool := match x, y with | .int a, .int b => some (if_icmp.holds o a b) | x, y => orb o x y
theorem icmp_ok {orb : Orb} (ho : OrbOK ρ ι orb) {o : ClassFile.Cond} {x y : Value} {z : Bool} (h : icmp orb o x y = some z) : ∃ a b, den ρ ι x = .int a ∧ den ρ ι y = .int b ∧ if_icmp.holds o a b = z := by
  unfold icmp at h
  split at h
  · cases h; exact ⟨_, _, rfl, rfl, rfl⟩
  · exact ho _ _ _ _ h
def leg (t : Bool) (pc x : Nat) (L : List Slot) (S : List Value) : Option (Nat × List Slot × List Value) := match t with | true => some (x, L, S) | false => some (Nat.add pc 3, L, S)
theorem leg_ok {t : Bool} {pc nx x : Nat} {o : Int} (hj : jmp pc o = some x) {L L' : List Slot} {S S' : List Value} (h : leg t pc x L S = some (nx, L', S')) : L' = L ∧ S' = S ∧ ((t = true ∧ 0 ≤ (pc : Int) + o ∧ ((pc : Int) + o).toNat = nx) ∨ (t = false ∧ nx = pc + 3)) := by
  unfold leg at h
  split at h
  · cases h; exact ⟨rfl, rfl, Or.inl ⟨rfl, jmp_ok hj⟩⟩
  · cases h; exact ⟨rfl, rfl, Or.inr ⟨rfl, rfl⟩⟩
/-- are two references the same? (none: not known) -/
def same (np : Nat) (x y : Value) : Option Bool := match x, y with
  | .null, .null => some true | .null, .ref _ => some false | .ref _, .null => some false
  | .ref j, .ref k => bif Nat.beq j k then some true else bif Nat.ble np j || Nat.ble np k then some false else none
  | _, _ => none
/-- the numbers from np on are new objects, one behind the other, none of the earlier ones -/
def RhoOK (ρ : Nat → Nat) (np n0 : Nat) : Prop := (∀ k, k < np → ρ k < n0) ∧ ∀ k, np ≤ k → ρ k = n0 + (k - np)
theorem RhoOK.ne {np n0 : Nat} (H : RhoOK ρ np n0) {j k : Nat} (q : ¬ j = k) (w : np ≤ j ∨ np ≤ k) : ¬ ρ j = ρ k := fun z => by
  by_cases hj : np ≤ j <;> by_cases hk : np ≤ k
  · have := H.2 j hj; have := H.2 k hk; omega
  · have := H.2 j hj; have := H.1 k (by omega); omega
  · have := H.1 j (by omega); have := H.2 k hk; omega
  · omega
theorem same_ok {np n0 : Nat} (H : RhoOK ρ np n0) {x y : Value} {b : Bool} (h : same np x y = some b) : isR x = true ∧ isR y = true ∧ decide (den ρ ι x = den ρ ι y) = b := by
  unfold same at h
  split at h
  · cases h; exact ⟨rfl, rfl, by simp [den]⟩
  · cases h; exact ⟨rfl, rfl, by simp [den]⟩
  · cases h; exact ⟨rfl, rfl, by simp [den]⟩
  · rename_i j k
    refine ⟨rfl, rfl, ?_⟩
    cases hb : Nat.beq j k with
    | true => simp [hb] at h; subst h; simp [den, Nat.eq_of_beq_eq_true hb]
    | false =>
      simp only [hb, cond_false] at h
      cases hw : (Nat.ble np j || Nat.ble np k) with
      | false => simp [hw] at h
      | true =>
        simp [hw] at h
        subst h
        have hne : ¬ j = k := Nat.ne_of_beq_eq_false hb
        have hw' : np ≤ j ∨ np ≤ k := by rw [Bool.or_eq_true] at hw; exact hw.imp Nat.le_of_ble_eq_true Nat.le_of_ble_eq_true
        simpa [den] using H.ne hne hw'
  · cases h
def stpC (orb : Orb) (np x : Nat) (i : Instr) (n pc : Nat) (L : List Slot) (S : List Value) : Option (Nat × List Slot × List Value) := match i, n with
  | .goto _, 3 => leg true pc x L S
  | .ifCond d _, 3 => (match S with | .int z :: S' => leg (ifCond.holds d z) pc x L S' | _ => none)
  | .if_icmp d _, 3 => (match S with | w :: z :: S' => (match icmp orb d z w with | some t => leg t pc x L S' | none => none) | _ => none)
  | .ifnull _, 3 => (match S with | .null :: S' => leg true pc x L S' | .ref _ :: S' => leg false pc x L S' | _ => none)
  | .ifnonnull _, 3 => (match S with | .null :: S' => leg false pc x L S' | .ref _ :: S' => leg true pc x L S' | _ => none)
  | .if_acmp d _, 3 => (match S with | w :: z :: S' => (match same np z w with | some b => leg (Jvm.RoadKit.acV d b) pc x L S' | none => none) | _ => none)
  | _, _ => none
/-- where a jump leads -/
def jmpOf (i : Instr) (pc : Nat) : Option Nat := match i with
  | .goto o => jmp pc o | .ifCond _ o => jmp pc o | .if_icmp _ o => jmp pc o | .ifnull o => jmp pc o | .ifnonnull o => jmp pc o | .if_acmp _ o => jmp pc o | _ => none
theorem stpC_len {orb : Orb} {np x : Nat} {i : Instr} {n pc nx : Nat} {L L' : List Slot} {S S' : List Value} (h : stpC orb np x i n pc L S = some (nx, L', S')) : L'.length = L.length := by
  have leg_len : ∀ {t : Bool} {S : List Value}, leg t pc x L S = some (nx, L', S') → L'.length = L.length := fun {t S} h => by
    unfold leg at h
    split at h <;> (cases h; rfl)
  unfold stpC at h
  split at h
  · exact leg_len h
  · split at h
    · exact leg_len h
    · cases h
  · split at h
    · split at h
      · exact leg_len h
      · cases h
    · cases h
  · split at h
    · exact leg_len h
    · exact leg_len h
    · cases h
  · split at h
    · exact leg_len h
    · exact leg_len h
    · cases h
  · split at h
    · split at h
      · exact leg_len h
      · cases h
    · cases h
  · cases h
theorem stpC_ok {orb : Orb} {np n0 x : Nat} (ho : OrbOK ρ ι orb) (H : RhoOK ρ np n0) (X : Stand p l e R s m args below meth c T locs cells slots) (hx : p.tables.exec = Jvm.exec) {i : Instr} {n pc nx : Nat} {L L' : List Slot} {S S' : List Value} (hd : decode c.code pc = .ok (i, n)) (hj : jmpOf i pc = some x) (h : stpC orb np x i n pc L S = some (nx, L', S')) : L'.length = L.length ∧
    (Owes p e below F (T.setTop (mkF m nx (denL ρ ι L') (denK ρ ι S'))) → Owes p e below F (T.setTop (mkF m pc (denL ρ ι L) (denK ρ ι S)))) := by
  refine ⟨stpC_len h, fun k => ?_⟩
  unfold stpC at h
  split at h
  · obtain ⟨rfl, rfl, ⟨-, q1, q2⟩ | ⟨q, -⟩⟩ := leg_ok hj h
    · exact k.go fun t q => Jvm.Free.XS.goto X.here hx rfl (pc0 := pc) rfl hd q1 q2 q
    · cases q
  · rename_i d o
    split at h
    · rename_i z S1
      obtain ⟨rfl, rfl, ⟨q0, q1, q2⟩ | ⟨q0, rfl⟩⟩ := leg_ok hj h
      · exact k.go fun t q => Jvm.Free.XS.ifYes X.here hx rfl (pc0 := pc) rfl hd rfl q0 q1 q2 q
      · exact k.go fun t q => Jvm.Free.XS.ifNo X.here hx rfl hd rfl q0 q
    · cases h
  · split at h
    · rename_i y z S1
      split at h
      · rename_i t qt
        obtain ⟨a, b, h1, h2, h3⟩ := icmp_ok ho qt
        obtain ⟨rfl, rfl, ⟨q0, q1, q2⟩ | ⟨q0, rfl⟩⟩ := leg_ok hj h
        · show Owes _ _ _ _ (T.setTop (mkF m pc _ (den ρ ι y :: den ρ ι z :: denK ρ ι S')))
          rw [h1, h2]
          exact k.go fun t q => Jvm.Free.XS.icmpYes X.here hx rfl (pc0 := pc) rfl hd rfl (h3.trans q0) q1 q2 q
        · show Owes _ _ _ _ (T.setTop (mkF m pc _ (den ρ ι y :: den ρ ι z :: denK ρ ι S')))
          rw [h1, h2]
          exact k.go fun t q => Jvm.Free.XS.icmpNo X.here hx rfl hd rfl (h3.trans q0) q
      · cases h
    · cases h
  · split at h
    · obtain ⟨rfl, rfl, ⟨q0, q1, q2⟩ | ⟨q0, rfl⟩⟩ := leg_ok hj h
      · exact k.go fun t q => Jvm.Free.XS.ifnullYes X.here hx rfl (pc0 := pc) rfl hd rfl q1 q2 q
      · cases q0
    · obtain ⟨rfl, rfl, ⟨q0, q1, q2⟩ | ⟨q0, rfl⟩⟩ := leg_ok hj h
      · cases q0
      · exact k.go fun t q => Jvm.Free.XS.ifnullNo X.here hx rfl hd rfl q
    · cases h
  · split at h
    · obtain ⟨rfl, rfl, ⟨q0, q1, q2⟩ | ⟨q0, rfl⟩⟩ := leg_ok hj h
      · cases q0
      · exact k.go fun t q => Jvm.Free.XS.ifnonnullNo X.here hx rfl hd rfl q
    · obtain ⟨rfl, rfl, ⟨q0, q1, q2⟩ | ⟨q0, rfl⟩⟩ := leg_ok hj h
      · exact k.go fun t q => Jvm.Free.XS.ifnonnullYes X.here hx rfl (pc0 := pc) rfl hd rfl q1 q2 q
      · cases q0
    · cases h
  · split at h
    · rename_i y z S1
      split at h
      · rename_i b qb
        obtain ⟨h1, h2, h3⟩ := same_ok (ι := ι) H qb
        obtain ⟨rfl, rfl, q⟩ := leg_ok hj h
        refine k.go fun t q' => Jvm.RoadKit.acmp (g := mkF m pc (denL ρ ι L') (den ρ ι y :: den ρ ι z :: denK ρ ι S')) X hx rfl (den_isR h1) (den_isR h2) (pc0 := pc) (pc' := nx) (same := b) rfl hd rfl h3 (jmp_ok hj).1 ?_ q'
        rcases q with ⟨q0, -, q2⟩ | ⟨q0, rfl⟩
        · rw [if_pos q0, q2]
        · rw [if_neg (by rw [q0]; decide)]
      · cases h
    · cases h
  · cases h
end Rfx1

section Rfx2
abbrev AH := List (Nat × List (Nat × Value))
/-- a row of code: its pc, its group, two numbers (what its index names), the instruction and its length -/
abbrev Row := Nat × Nat × Nat × Nat × Instr × Nat
def alk {α : Type} (l : List (Nat × α)) (k : Nat) : Option α := match l with | [] => none | q :: t => bif Nat.beq q.1 k then some q.2 else alk t k
def up (fs : List (Nat × Value)) (f : Nat) (v : Value) : List (Nat × Value) := match fs with | [] => [] | q :: t => (bif Nat.beq q.1 f then (f, v) else q) :: up t f v
def setK {α β : Type} (H : List α) (k : Nat) (v : α) (c : List α → β) : β := match H, k with | [], _ => c [] | _ :: t, 0 => c (v :: t) | x :: t, k + 1 => setK t k v fun t' => c (x :: t')
def appK {α β : Type} (H : List α) (v : α) (c : List α → β) : β := match H with | [] => c [v] | x :: t => appK t v fun t' => c (x :: t')
def upK {β : Type} (fs : List (Nat × Value)) (f : Nat) (v : Value) (c : List (Nat × Value) → β) : β := match fs with | [] => c [] | (g, w) :: t => upK t f v fun t' => bif Nat.beq g f then c ((f, v) :: t') else c ((g, w) :: t')
def insAt (tb : List (List Row)) (pc : Nat) : Option (Nat × Nat × Nat × Instr × Nat) := match nth tb (Nat.div pc 16) with | some ch => alk ch pc | none => none
def catS (S : List Value) : Nat := match S with | [] => 0 | v :: t => (bif c1 v then 1 else 2) + catS t
def sel3 (t : List (Nat × Nat × Nat)) (x k : Nat) : Option Nat := match t with | [] => none | q :: t => bif Nat.beq q.1 x && Nat.beq q.2.1 k then some q.2.2 else sel3 t x k
def CN (c : Nat) : String := match nth (["com/example/keyedge/keyedge/AdjacencyListGraphDetachPinLaw", "com/example/keyedge/keyedge/AdjacencyListGraph", "com/example/keyedge/keyedge/AbstractGraph", "java/lang/Object", "com/example/keyedge/keyedge/Chain", "java/util/AbstractCollection", "com/example/keyedge/keyedge/AdjacencyListGraph$1", "com/example/keyedge/keyedge/AdjacencyListGraph$2", "com/example/keyedge/keyedge/AdjacencyListGraph$ListNode", "com/example/keyedge/keyedge/AbstractGraph$Node", "com/example/keyedge/keyedge/Chain$Linked", "com/example/keyedge/keyedge/Chain$1", "com/example/keyedge/keyedge/AdjacencyListGraph$ListLink", "com/example/keyedge/keyedge/AbstractGraph$Link", "java/util/function/Predicate", "java/util/Iterator", "com/example/keyedge/keyedge/Chain$Strand"] : List String) c with | some x => x | none => ""
def kd (c : Nat) : Nat := bif Nat.blt c 17 then 0 else 1
def FN (f : Nat) : String × String × String := match nth ([("com/example/keyedge/keyedge/Chain", "size", "I"), ("com/example/keyedge/keyedge/Chain", "changes", "I"), ("com/example/keyedge/keyedge/Chain", "first", "Lcom/example/keyedge/keyedge/Chain$Linked;"), ("com/example/keyedge/keyedge/Chain$1", "next", "Lcom/example/keyedge/keyedge/Chain$Linked;"), ("com/example/keyedge/keyedge/Chain", "last", "Lcom/example/keyedge/keyedge/Chain$Linked;"), ("com/example/keyedge/keyedge/AdjacencyListGraph$ListLink", "previousOut", "Lcom/example/keyedge/keyedge/AdjacencyListGraph$ListLink;"), ("com/example/keyedge/keyedge/AdjacencyListGraph$ListLink", "previousIn", "Lcom/example/keyedge/keyedge/AdjacencyListGraph$ListLink;"), ("com/example/keyedge/keyedge/AdjacencyListGraph$ListLink", "nextOut", "Lcom/example/keyedge/keyedge/AdjacencyListGraph$ListLink;"), ("com/example/keyedge/keyedge/AdjacencyListGraph$ListLink", "nextIn", "Lcom/example/keyedge/keyedge/AdjacencyListGraph$ListLink;"), ("com/example/keyedge/keyedge/Chain$Linked", "previous", "Lcom/example/keyedge/keyedge/Chain$Linked;"), ("com/example/keyedge/keyedge/Chain$Linked", "next", "Lcom/example/keyedge/keyedge/Chain$Linked;"), ("com/example/keyedge/keyedge/Chain", "strand", "Lcom/example/keyedge/keyedge/Chain$Strand;"), ("com/example/keyedge/keyedge/Chain", "made", "Ljava/util/function/Predicate;"), ("com/example/keyedge/keyedge/AbstractGraph", "vertices", "Lcom/example/keyedge/keyedge/Chain;"), ("com/example/keyedge/keyedge/AbstractGraph", "edges", "Lcom/example/keyedge/keyedge/Chain;"), ("com/example/keyedge/keyedge/AdjacencyListGraph", "outgoing", "Lcom/example/keyedge/keyedge/Chain$Strand;"), ("com/example/keyedge/keyedge/AdjacencyListGraph", "incoming", "Lcom/example/keyedge/keyedge/Chain$Strand;"), ("com/example/keyedge/keyedge/AbstractGraph$Node", "graph", "Lcom/example/keyedge/keyedge/AbstractGraph;"), ("com/example/keyedge/keyedge/AbstractGraph$Node", "label", "Ljava/lang/Object;"), ("com/example/keyedge/keyedge/AbstractGraph$Node", "number", "I"), ("com/example/keyedge/keyedge/AdjacencyListGraph$ListNode", "in", "Lcom/example/keyedge/keyedge/Chain;"), ("com/example/keyedge/keyedge/AdjacencyListGraph$ListNode", "out", "Lcom/example/keyedge/keyedge/Chain;"), ("com/example/keyedge/keyedge/Chain$1", "this$0", "Lcom/example/keyedge/keyedge/Chain;"), ("com/example/keyedge/keyedge/Chain$1", "changes", "I"), ("com/example/keyedge/keyedge/AbstractGraph$Link", "source", "Lcom/example/keyedge/keyedge/AbstractGraph$Node;"), ("com/example/keyedge/keyedge/AbstractGraph$Link", "target", "Lcom/example/keyedge/keyedge/AbstractGraph$Node;"), ("com/example/keyedge/keyedge/AbstractGraph$Link", "label", "Ljava/lang/Object;")] : List (String × String × String)) f with | some x => x | none => ("", "", "")
def FTy (f : Nat) : FieldType := match nth ([.int, .int, (.object "com/example/keyedge/keyedge/Chain$Linked"), (.object "com/example/keyedge/keyedge/Chain$Linked"), (.object "com/example/keyedge/keyedge/Chain$Linked"), (.object "com/example/keyedge/keyedge/AdjacencyListGraph$ListLink"), (.object "com/example/keyedge/keyedge/AdjacencyListGraph$ListLink"), (.object "com/example/keyedge/keyedge/AdjacencyListGraph$ListLink"), (.object "com/example/keyedge/keyedge/AdjacencyListGraph$ListLink"), (.object "com/example/keyedge/keyedge/Chain$Linked"), (.object "com/example/keyedge/keyedge/Chain$Linked"), (.object "com/example/keyedge/keyedge/Chain$Strand"), (.object "java/util/function/Predicate"), (.object "com/example/keyedge/keyedge/Chain"), (.object "com/example/keyedge/keyedge/Chain"), (.object "com/example/keyedge/keyedge/Chain$Strand"), (.object "com/example/keyedge/keyedge/Chain$Strand"), (.object "com/example/keyedge/keyedge/AbstractGraph"), (.object "java/lang/Object"), .int, (.object "com/example/keyedge/keyedge/Chain"), (.object "com/example/keyedge/keyedge/Chain"), (.object "com/example/keyedge/keyedge/Chain"), .int, (.object "com/example/keyedge/keyedge/AbstractGraph$Node"), (.object "com/example/keyedge/keyedge/AbstractGraph$Node"), (.object "java/lang/Object")] : List FieldType) f with | some x => x | none => .int
def FFin (f : Nat) : Bool := match nth ([false, false, false, false, false, false, false, false, false, false, false, true, true, true, true, true, true, true, true, true, true, true, true, true, true, true, true] : List Bool) f with | some x => x | none => true
def FO (f : Nat) : Nat := match nth ([4, 4, 4, 11, 4, 12, 12, 12, 12, 10, 10, 4, 4, 2, 2, 1, 1, 9, 9, 9, 8, 8, 11, 11, 13, 13, 13] : List Nat) f with | some x => x | none => 9999
def FCL : List (Nat × List Nat) := [(1, [13, 14, 15, 16]), (4, [0, 1, 2, 4, 11, 12]), (8, [9, 10, 17, 18, 19, 20, 21]), (11, [3, 22, 23]), (12, [5, 6, 7, 8, 9, 10, 24, 25, 26])]
def NFL : List (Nat × List (Nat × Value)) := [(1, [(13, .null), (14, .null), (15, .null), (16, .null)]), (4, [(0, .int 0), (1, .int 0), (2, .null), (4, .null), (11, .null), (12, .null)]), (8, [(9, .null), (10, .null), (17, .null), (18, .null), (19, .int 0), (20, .null), (21, .null)]), (11, [(3, .null), (22, .null), (23, .int 0)]), (12, [(5, .null), (6, .null), (7, .null), (8, .null), (9, .null), (10, .null), (24, .null), (25, .null), (26, .null)])]
def NF (c : Nat) : List (Nat × Value) := match alk NFL c with | some x => x | none => []
def FC (c : Nat) : List Nat := match alk FCL c with | some x => x | none => []
def KSL : List (Nat × Nat) := [(1, 5), (3, 0), (4, 6), (6, 0), (7, 0), (8, 7), (11, 3), (12, 9)]
def KSZ (c : Nat) : Nat := match alk KSL c with | some x => x | none => 0
def MO (m : Nat) : Nat := match nth ([0, 1, 2, 3, 4, 4, 5, 6, 7, 1, 8, 9, 10, 4, 1, 1, 4, 4, 11, 11, 12, 13, 4, 4, 6, 6, 7, 7, 1, 4, 4, 6, 6, 4, 6, 6, 4, 6, 6, 7, 7, 7, 7, 7, 7, 4, 8, 4, 8, 11, 11] : List Nat) m with | some x => x | none => 9999
def ML (m : Nat) : Nat := match nth ([25, 1, 1, 1, 1, 3, 1, 2, 2, 3, 4, 4, 1, 2, 5, 5, 1, 1, 2, 1, 4, 4, 2, 3, 3, 3, 3, 3, 2, 4, 2, 2, 2, 2, 2, 2, 3, 3, 3, 2, 2, 2, 2, 3, 3, 2, 3, 2, 3, 1, 2] : List Nat) m with | some x => x | none => 0
def MI (m : Nat) : Bool := match nth ([false, true, true, true, false, true, true, true, true, false, true, true, true, false, false, false, false, false, true, false, true, true, false, false, false, false, false, false, false, false, false, false, false, false, false, false, false, false, false, false, false, false, false, false, false, false, false, false, false, false, false] : List Bool) m with | some x => x | none => false
def MR (m : Nat) : Option FieldType := match nth ([some .boolean, none, none, none, some (.object "com/example/keyedge/keyedge/Chain"), none, none, none, none, some (.object "com/example/keyedge/keyedge/AdjacencyListGraph$ListNode"), none, none, none, some (.object "com/example/keyedge/keyedge/Chain"), some (.object "com/example/keyedge/keyedge/AdjacencyListGraph$ListLink"), some (.object "com/example/keyedge/keyedge/AdjacencyListGraph$ListLink"), some .int, some (.object "java/util/Iterator"), none, some .boolean, none, none, none, none, none, none, none, none, none, none, some (.object "com/example/keyedge/keyedge/Chain$Linked"), some (.object "java/lang/Object"), some (.object "com/example/keyedge/keyedge/AdjacencyListGraph$ListLink"), some (.object "com/example/keyedge/keyedge/Chain$Linked"), some (.object "java/lang/Object"), some (.object "com/example/keyedge/keyedge/AdjacencyListGraph$ListLink"), none, none, none, some (.object "java/lang/Object"), some (.object "com/example/keyedge/keyedge/AdjacencyListGraph$ListLink"), some (.object "java/lang/Object"), some (.object "com/example/keyedge/keyedge/AdjacencyListGraph$ListLink"), none, none, some .boolean, some .boolean, some .boolean, some .boolean, some (.object "java/lang/Object"), some (.object "com/example/keyedge/keyedge/Chain$Linked")] : List (Option FieldType)) m with | some x => x | none => none
def fresT : List (Nat × Nat × Nat) := [(0, 22, 5), (0, 28, 7), (0, 31, 6), (0, 34, 8), (0, 37, 21), (0, 49, 20), (1, 12, 15), (1, 21, 16), (1, 29, 20), (1, 33, 21), (1, 58, 25), (1, 62, 24), (2, 17, 13), (2, 24, 14), (4, 7, 11), (4, 13, 12), (4, 20, 4), (4, 28, 2), (4, 34, 0), (4, 38, 1), (4, 55, 9), (4, 93, 10), (6, 7, 5), (6, 13, 7), (7, 7, 6), (7, 13, 8), (8, 7, 16), (8, 23, 20), (8, 29, 15), (8, 33, 21), (8, 38, 24), (8, 42, 25), (9, 7, 17), (9, 13, 18), (9, 17, 19), (11, 1, 22), (11, 13, 1), (11, 19, 23), (11, 20, 2), (11, 24, 3), (13, 7, 24), (13, 13, 25), (13, 16, 26)]
def cresT : List (Nat × Nat × Nat) := [(0, 7, 1), (1, 7, 6), (1, 18, 7), (1, 24, 8), (1, 56, 12), (4, 8, 4), (4, 56, 10), (4, 69, 11), (6, 8, 12), (7, 8, 12), (8, 36, 12)]
def castP : List (Nat × Nat) := [(6, 16), (7, 16), (11, 15), (12, 10)]
def castT (c k : Nat) : Bool := Nat.beq c k || castP.any fun q => Nat.beq q.1 c && Nat.beq q.2 k
def mresST : List (Nat × Nat × Nat × Nat) := [(2, 11, 4, 1), (8, 17, 13, 2)]
def mresCT : List (Nat × Nat × Nat × Nat) := [(0, 9, 1, 0), (1, 1, 2, 0), (1, 9, 7, 1), (1, 20, 8, 1), (1, 26, 10, 3), (1, 69, 20, 3), (4, 1, 6, 0), (4, 17, 5, 2), (4, 71, 18, 1), (8, 1, 11, 3), (9, 1, 12, 0), (12, 1, 21, 3), (13, 1, 12, 0)]
def mresVT : List (Nat × Nat × Nat × Nat) := [(0, 10, 0, 2), (0, 14, 1, 3), (0, 18, 2, 1), (0, 43, 3, 0), (0, 52, 4, 1), (1, 36, 3, 0), (1, 42, 5, 0), (1, 65, 6, 2), (1, 72, 7, 1), (1, 76, 8, 1), (4, 24, 9, 2), (4, 31, 10, 2), (4, 41, 11, 1), (4, 45, 12, 1), (4, 65, 13, 1), (6, 16, 14, 2), (6, 22, 15, 2), (6, 25, 16, 1), (6, 29, 17, 1), (7, 16, 18, 2), (7, 22, 19, 2), (7, 25, 20, 1), (7, 29, 21, 1), (11, 33, 12, 1), (11, 36, 22, 0)]
def mresIT : List (Nat × Nat × Nat × Nat) := [(1, 46, 0, 0), (1, 52, 1, 0), (4, 59, 2, 1), (4, 89, 3, 1), (4, 95, 4, 1), (4, 97, 5, 2), (4, 100, 6, 2)]
def isOIT : List (Nat × Nat) := [(2, 1), (5, 1), (6, 1), (7, 1), (10, 1), (11, 7)]
def newT : List Nat := [1, 4, 6, 7, 8, 11, 12]
def newOK (c : Nat) : Bool := newT.any fun k => Nat.beq k c
def vselT : List (Nat × Nat × Nat) := [(0, 1, 9), (1, 1, 14), (2, 1, 28), (3, 4, 16), (4, 4, 45), (5, 4, 17), (6, 1, 15), (7, 4, 22), (8, 4, 29), (9, 4, 23), (10, 4, 36), (11, 4, 30), (12, 4, 33), (13, 4, 47), (14, 6, 38), (15, 6, 25), (16, 6, 35), (17, 6, 32), (18, 7, 44), (19, 7, 27), (20, 7, 42), (21, 7, 40), (22, 11, 50)]
def vsel (v c : Nat) : Option Nat := sel3 vselT v c
def iselT : List (Nat × Nat × Nat) := [(0, 11, 19), (1, 11, 49), (3, 6, 31), (3, 7, 39), (4, 6, 34), (4, 7, 41), (5, 6, 24), (5, 7, 26), (6, 6, 37), (6, 7, 43)]
def isel (v c : Nat) : Option Nat := sel3 iselT v c
def siteT : List (Nat × Nat × Nat × Nat) := [(2, 6, 7, 17), (2, 19, 23, 18), (10, 13, 13, 19), (10, 30, 32, 20)]
def fwdT : List (Nat × Nat × Nat) := [(2, 19, 48), (2, 20, 46)]
def fwd (v c : Nat) : Option Nat := sel3 fwdT v c
def tab_0 : List (List Row) := [[(0, 0, 0, 0, .iload_n 0, 1), (1, 0, 0, 0, .iconst 1, 1), (2, 1, 0, 0, .iand, 1), (3, 2, 10, 0, .ifCond .eq 7, 3), (6, 0, 0, 0, .iconst 1, 1), (7, 2, 11, 0, .goto 4, 3), (10, 0, 0, 0, .iconst 0, 1), (11, 0, 0, 0, .istore_n 1, 1), (12, 0, 0, 0, .iload_n 0, 1), (13, 0, 0, 0, .iconst 2, 1), (14, 1, 0, 0, .iand, 1), (15, 2, 22, 0, .ifCond .eq 7, 3)], [(18, 0, 0, 0, .iconst 1, 1), (19, 2, 23, 0, .goto 4, 3), (22, 0, 0, 0, .iconst 0, 1), (23, 0, 0, 0, .istore_n 2, 1), (24, 0, 0, 0, .iload_n 0, 1), (25, 0, 0, 0, .iconst 4, 1), (26, 1, 0, 0, .iand, 1), (27, 2, 34, 0, .ifCond .eq 7, 3), (30, 0, 0, 0, .iconst 1, 1), (31, 2, 35, 0, .goto 4, 3)], [(34, 0, 0, 0, .iconst 0, 1), (35, 0, 0, 0, .istore_n 3, 1), (36, 0, 0, 0, .iload_n 0, 1), (37, 0, 0, 0, .bipush 8, 2), (39, 1, 0, 0, .iand, 1), (40, 2, 47, 0, .ifCond .eq 7, 3), (43, 0, 0, 0, .iconst 1, 1), (44, 2, 48, 0, .goto 4, 3), (47, 0, 0, 0, .iconst 0, 1)], [(48, 0, 0, 0, .istore 4, 2), (50, 0, 0, 0, .iload_n 0, 1), (51, 0, 0, 0, .bipush 16, 2), (53, 1, 0, 0, .iand, 1), (54, 2, 61, 0, .ifCond .eq 7, 3), (57, 0, 0, 0, .iconst 1, 1), (58, 2, 62, 0, .goto 4, 3), (61, 0, 0, 0, .iconst 0, 1), (62, 0, 0, 0, .istore 5, 2)], [(64, 3, 1, 0, .new 7, 3), (67, 1, 0, 0, .dup, 1), (68, 5, 1, 0, .invokespecial 9, 3), (71, 0, 0, 0, .astore 6, 2), (73, 0, 0, 0, .aload 6, 2), (75, 0, 0, 0, .aconst_null, 1), (76, 0, 0, 0, .iconst 0, 1), (77, 5, 0, 2, .invokevirtual 10, 3)], [(80, 0, 0, 0, .astore 7, 2), (82, 0, 0, 0, .aload 6, 2), (84, 0, 0, 0, .aconst_null, 1), (85, 0, 0, 0, .iconst 1, 1), (86, 5, 0, 2, .invokevirtual 10, 3), (89, 0, 0, 0, .astore 8, 2), (91, 0, 0, 0, .aload 6, 2), (93, 0, 0, 0, .aconst_null, 1), (94, 0, 0, 0, .iconst 2, 1), (95, 5, 0, 2, .invokevirtual 10, 3)], [(98, 0, 0, 0, .astore 9, 2), (100, 0, 0, 0, .iload 5, 2), (102, 2, 110, 0, .ifCond .eq 8, 3), (105, 0, 0, 0, .aload 7, 2), (107, 2, 112, 0, .goto 5, 3), (110, 0, 0, 0, .aload 8, 2)], [(112, 0, 0, 0, .astore 10, 2), (114, 0, 0, 0, .iload 5, 2), (116, 2, 124, 0, .ifCond .eq 8, 3), (119, 0, 0, 0, .aload 8, 2), (121, 2, 126, 0, .goto 5, 3), (124, 0, 0, 0, .aload 7, 2), (126, 0, 0, 0, .astore 11, 2)], [(128, 0, 0, 0, .iload_n 1, 1), (129, 2, 145, 0, .ifCond .eq 16, 3), (132, 0, 0, 0, .aload 6, 2), (134, 0, 0, 0, .aload 7, 2), (136, 0, 0, 0, .aload 9, 2), (138, 0, 0, 0, .aconst_null, 1), (139, 5, 1, 3, .invokevirtual 14, 3), (142, 2, 146, 0, .goto 4, 3)], [(145, 0, 0, 0, .aconst_null, 1), (146, 0, 0, 0, .astore 12, 2), (148, 0, 0, 0, .iload_n 2, 1), (149, 2, 165, 0, .ifCond .eq 16, 3), (152, 0, 0, 0, .aload 6, 2), (154, 0, 0, 0, .aload 9, 2), (156, 0, 0, 0, .aload 10, 2), (158, 0, 0, 0, .aconst_null, 1), (159, 5, 1, 3, .invokevirtual 14, 3)], [(162, 2, 166, 0, .goto 4, 3), (165, 0, 0, 0, .aconst_null, 1), (166, 0, 0, 0, .astore 13, 2), (168, 0, 0, 0, .aload 6, 2), (170, 0, 0, 0, .aload 7, 2), (172, 0, 0, 0, .aload 10, 2), (174, 0, 0, 0, .aconst_null, 1), (175, 5, 1, 3, .invokevirtual 14, 3)], [(178, 0, 0, 0, .astore 14, 2), (180, 0, 0, 0, .iload_n 3, 1), (181, 2, 197, 0, .ifCond .eq 16, 3), (184, 0, 0, 0, .aload 6, 2), (186, 0, 0, 0, .aload 7, 2), (188, 0, 0, 0, .aload 11, 2), (190, 0, 0, 0, .aconst_null, 1), (191, 5, 1, 3, .invokevirtual 14, 3)], [(194, 2, 198, 0, .goto 4, 3), (197, 0, 0, 0, .aconst_null, 1), (198, 0, 0, 0, .astore 15, 2), (200, 0, 0, 0, .iload 4, 2), (202, 2, 218, 0, .ifCond .eq 16, 3), (205, 0, 0, 0, .aload 6, 2), (207, 0, 0, 0, .aload 8, 2)], [(209, 0, 0, 0, .aload 10, 2), (211, 0, 0, 0, .aconst_null, 1), (212, 5, 1, 3, .invokevirtual 14, 3), (215, 2, 219, 0, .goto 4, 3), (218, 0, 0, 0, .aconst_null, 1), (219, 0, 0, 0, .astore 16, 2), (221, 0, 0, 0, .aload 14, 2), (223, 2, 228, 0, .ifnonnull 5, 3)], [(226, 0, 0, 0, .iconst 0, 1), (227, 4, 0, 0, .ireturn, 1), (228, 0, 0, 0, .aload 6, 2), (230, 0, 0, 0, .aload 14, 2), (232, 5, 2, 1, .invokevirtual 18, 3), (235, 0, 0, 0, .aload 14, 2), (237, 3, 5, 0, .getfield 22, 3)], [(240, 2, 271, 0, .ifnonnull 31, 3), (243, 0, 0, 0, .aload 14, 2), (245, 3, 7, 0, .getfield 28, 3), (248, 2, 271, 0, .ifnonnull 23, 3), (251, 0, 0, 0, .aload 14, 2), (253, 3, 6, 0, .getfield 31, 3)], [(256, 2, 271, 0, .ifnonnull 15, 3), (259, 0, 0, 0, .aload 14, 2), (261, 3, 8, 0, .getfield 34, 3), (264, 2, 271, 0, .ifnonnull 7, 3), (267, 0, 0, 0, .iconst 1, 1), (268, 2, 272, 0, .goto 4, 3), (271, 0, 0, 0, .iconst 0, 1)], [(272, 0, 0, 0, .istore 17, 2), (274, 0, 0, 0, .aload 12, 2), (276, 2, 301, 0, .ifnull 25, 3), (279, 0, 0, 0, .iload 17, 2), (281, 2, 298, 0, .ifCond .eq 17, 3), (284, 0, 0, 0, .aload 12, 2), (286, 3, 7, 0, .getfield 28, 3)], [(289, 0, 0, 0, .aload 15, 2), (291, 2, 298, 0, .if_acmp .ne 7, 3), (294, 0, 0, 0, .iconst 1, 1), (295, 2, 299, 0, .goto 4, 3), (298, 0, 0, 0, .iconst 0, 1), (299, 0, 0, 0, .istore 17, 2), (301, 0, 0, 0, .aload 15, 2), (303, 2, 336, 0, .ifnull 33, 3)], [(306, 0, 0, 0, .iload 17, 2), (308, 2, 333, 0, .ifCond .eq 25, 3), (311, 0, 0, 0, .aload 15, 2), (313, 3, 5, 0, .getfield 22, 3), (316, 0, 0, 0, .aload 12, 2), (318, 2, 333, 0, .if_acmp .ne 15, 3)], [(321, 0, 0, 0, .aload 15, 2), (323, 3, 7, 0, .getfield 28, 3), (326, 2, 333, 0, .ifnonnull 7, 3), (329, 0, 0, 0, .iconst 1, 1), (330, 2, 334, 0, .goto 4, 3), (333, 0, 0, 0, .iconst 0, 1), (334, 0, 0, 0, .istore 17, 2)], [(336, 0, 0, 0, .aload 13, 2), (338, 2, 363, 0, .ifnull 25, 3), (341, 0, 0, 0, .iload 17, 2), (343, 2, 360, 0, .ifCond .eq 17, 3), (346, 0, 0, 0, .aload 13, 2), (348, 3, 8, 0, .getfield 34, 3), (351, 0, 0, 0, .aload 16, 2)], [(353, 2, 360, 0, .if_acmp .ne 7, 3), (356, 0, 0, 0, .iconst 1, 1), (357, 2, 361, 0, .goto 4, 3), (360, 0, 0, 0, .iconst 0, 1), (361, 0, 0, 0, .istore 17, 2), (363, 0, 0, 0, .aload 16, 2), (365, 2, 398, 0, .ifnull 33, 3)], [(368, 0, 0, 0, .iload 17, 2), (370, 2, 395, 0, .ifCond .eq 25, 3), (373, 0, 0, 0, .aload 16, 2), (375, 3, 6, 0, .getfield 31, 3), (378, 0, 0, 0, .aload 13, 2), (380, 2, 395, 0, .if_acmp .ne 15, 3), (383, 0, 0, 0, .aload 16, 2)], [(385, 3, 8, 0, .getfield 34, 3), (388, 2, 395, 0, .ifnonnull 7, 3), (391, 0, 0, 0, .iconst 1, 1), (392, 2, 396, 0, .goto 4, 3), (395, 0, 0, 0, .iconst 0, 1), (396, 0, 0, 0, .istore 17, 2), (398, 0, 0, 0, .aload 12, 2)], [(400, 2, 407, 0, .ifnull 7, 3), (403, 0, 0, 0, .iconst 1, 1), (404, 2, 408, 0, .goto 4, 3), (407, 0, 0, 0, .iconst 0, 1), (408, 0, 0, 0, .aload 15, 2), (410, 2, 417, 0, .ifnull 7, 3), (413, 0, 0, 0, .iconst 1, 1), (414, 2, 418, 0, .goto 4, 3)], [(417, 0, 0, 0, .iconst 0, 1), (418, 1, 0, 0, .iadd, 1), (419, 0, 0, 0, .istore 18, 2), (421, 0, 0, 0, .aload 13, 2), (423, 2, 430, 0, .ifnull 7, 3), (426, 0, 0, 0, .iconst 1, 1), (427, 2, 431, 0, .goto 4, 3), (430, 0, 0, 0, .iconst 0, 1), (431, 0, 0, 0, .aload 16, 2)], [(433, 2, 440, 0, .ifnull 7, 3), (436, 0, 0, 0, .iconst 1, 1), (437, 2, 441, 0, .goto 4, 3), (440, 0, 0, 0, .iconst 0, 1), (441, 1, 0, 0, .iadd, 1), (442, 0, 0, 0, .istore 19, 2), (444, 0, 0, 0, .iload 17, 2), (446, 2, 479, 0, .ifCond .eq 33, 3)], [(449, 0, 0, 0, .aload 7, 2), (451, 3, 21, 0, .getfield 37, 3), (454, 5, 3, 0, .invokevirtual 43, 3), (457, 0, 0, 0, .iload 18, 2), (459, 2, 479, 0, .if_icmp .ne 20, 3), (462, 0, 0, 0, .aload 10, 2)], [(464, 3, 20, 0, .getfield 49, 3), (467, 5, 3, 0, .invokevirtual 43, 3), (470, 0, 0, 0, .iload 19, 2), (472, 2, 479, 0, .if_icmp .ne 7, 3), (475, 0, 0, 0, .iconst 1, 1), (476, 2, 480, 0, .goto 4, 3), (479, 0, 0, 0, .iconst 0, 1)], [(480, 0, 0, 0, .istore 17, 2), (482, 0, 0, 0, .aload 12, 2), (484, 2, 492, 0, .ifnull 8, 3), (487, 0, 0, 0, .aload 12, 2), (489, 2, 494, 0, .goto 5, 3), (492, 0, 0, 0, .aload 15, 2), (494, 0, 0, 0, .astore 20, 2)], [(496, 0, 0, 0, .aload 13, 2), (498, 2, 506, 0, .ifnull 8, 3), (501, 0, 0, 0, .aload 13, 2), (503, 2, 508, 0, .goto 5, 3), (506, 0, 0, 0, .aload 16, 2), (508, 0, 0, 0, .astore 21, 2), (510, 0, 0, 0, .aload 20, 2)], [(512, 2, 543, 0, .ifnull 31, 3), (515, 0, 0, 0, .iload 17, 2), (517, 2, 537, 0, .ifCond .eq 20, 3), (520, 0, 0, 0, .aload 7, 2), (522, 3, 21, 0, .getfield 37, 3), (525, 0, 0, 0, .aload 20, 2), (527, 5, 4, 1, .invokevirtual 52, 3)], [(530, 2, 537, 0, .ifCond .eq 7, 3), (533, 0, 0, 0, .iconst 1, 1), (534, 2, 538, 0, .goto 4, 3), (537, 0, 0, 0, .iconst 0, 1), (538, 0, 0, 0, .istore 17, 2), (540, 2, 568, 0, .goto 28, 3), (543, 0, 0, 0, .iload 17, 2)], [(545, 2, 565, 0, .ifCond .eq 20, 3), (548, 0, 0, 0, .aload 7, 2), (550, 3, 21, 0, .getfield 37, 3), (553, 0, 0, 0, .aload 14, 2), (555, 5, 4, 1, .invokevirtual 52, 3), (558, 2, 565, 0, .ifCond .ne 7, 3)], [(561, 0, 0, 0, .iconst 1, 1), (562, 2, 566, 0, .goto 4, 3), (565, 0, 0, 0, .iconst 0, 1), (566, 0, 0, 0, .istore 17, 2), (568, 0, 0, 0, .aload 21, 2), (570, 2, 601, 0, .ifnull 31, 3), (573, 0, 0, 0, .iload 17, 2), (575, 2, 595, 0, .ifCond .eq 20, 3)], [(578, 0, 0, 0, .aload 10, 2), (580, 3, 20, 0, .getfield 49, 3), (583, 0, 0, 0, .aload 21, 2), (585, 5, 4, 1, .invokevirtual 52, 3), (588, 2, 595, 0, .ifCond .eq 7, 3), (591, 0, 0, 0, .iconst 1, 1)], [(592, 2, 596, 0, .goto 4, 3), (595, 0, 0, 0, .iconst 0, 1), (596, 0, 0, 0, .istore 17, 2), (598, 2, 626, 0, .goto 28, 3), (601, 0, 0, 0, .iload 17, 2), (603, 2, 623, 0, .ifCond .eq 20, 3), (606, 0, 0, 0, .aload 10, 2)], [(608, 3, 20, 0, .getfield 49, 3), (611, 0, 0, 0, .aload 14, 2), (613, 5, 4, 1, .invokevirtual 52, 3), (616, 2, 623, 0, .ifCond .ne 7, 3), (619, 0, 0, 0, .iconst 1, 1), (620, 2, 624, 0, .goto 4, 3), (623, 0, 0, 0, .iconst 0, 1)], [(624, 0, 0, 0, .istore 17, 2), (626, 0, 0, 0, .aload 15, 2), (628, 2, 636, 0, .ifnull 8, 3), (631, 0, 0, 0, .aload 15, 2), (633, 2, 638, 0, .goto 5, 3), (636, 0, 0, 0, .aload 12, 2), (638, 0, 0, 0, .astore 22, 2)], [(640, 0, 0, 0, .aload 16, 2), (642, 2, 650, 0, .ifnull 8, 3), (645, 0, 0, 0, .aload 16, 2), (647, 2, 652, 0, .goto 5, 3), (650, 0, 0, 0, .aload 13, 2), (652, 0, 0, 0, .astore 23, 2), (654, 0, 0, 0, .aload 6, 2)], [(656, 0, 0, 0, .aload 7, 2), (658, 0, 0, 0, .aload 10, 2), (660, 0, 0, 0, .aconst_null, 1), (661, 5, 1, 3, .invokevirtual 14, 3), (664, 0, 0, 0, .astore 24, 2), (666, 0, 0, 0, .iload 17, 2), (668, 2, 700, 0, .ifCond .eq 32, 3), (671, 0, 0, 0, .aload 24, 2)], [(673, 2, 700, 0, .ifnull 27, 3), (676, 0, 0, 0, .aload 24, 2), (678, 3, 5, 0, .getfield 22, 3), (681, 0, 0, 0, .aload 22, 2), (683, 2, 700, 0, .if_acmp .ne 17, 3), (686, 0, 0, 0, .aload 24, 2)], [(688, 3, 6, 0, .getfield 31, 3), (691, 0, 0, 0, .aload 23, 2), (693, 2, 700, 0, .if_acmp .ne 7, 3), (696, 0, 0, 0, .iconst 1, 1), (697, 2, 701, 0, .goto 4, 3), (700, 0, 0, 0, .iconst 0, 1), (701, 0, 0, 0, .istore 17, 2), (703, 0, 0, 0, .iload 17, 2)], [(705, 4, 0, 0, .ireturn, 1)]]
def tab_1 : List (List Row) := [[(0, 0, 0, 0, .aload_n 0, 1), (1, 5, 2, 0, .invokespecial 1, 3), (4, 0, 0, 0, .aload_n 0, 1), (5, 3, 6, 0, .new 7, 3), (8, 1, 0, 0, .dup, 1), (9, 0, 0, 0, .aload_n 0, 1), (10, 5, 7, 1, .invokespecial 9, 3), (13, 3, 15, 0, .putfield 12, 3)], [(16, 0, 0, 0, .aload_n 0, 1), (17, 3, 7, 0, .new 18, 3), (20, 1, 0, 0, .dup, 1), (21, 0, 0, 0, .aload_n 0, 1), (22, 5, 8, 1, .invokespecial 20, 3), (25, 3, 16, 0, .putfield 21, 3), (28, 4, 0, 0, .return_, 1)]]
def tab_2 : List (List Row) := [[(0, 0, 0, 0, .aload_n 0, 1), (1, 3, 0, 0, .invokespecial 1, 3), (4, 0, 0, 0, .aload_n 0, 1), (5, 0, 0, 0, .aload_n 0, 1), (6, 3, 17, 0, .invokedynamic 7, 5), (11, 5, 4, 1, .invokestatic 11, 3), (14, 3, 13, 0, .putfield 17, 3)], [(17, 0, 0, 0, .aload_n 0, 1), (18, 0, 0, 0, .aload_n 0, 1), (19, 3, 18, 0, .invokedynamic 23, 5), (24, 5, 4, 1, .invokestatic 11, 3), (27, 3, 14, 0, .putfield 24, 3), (30, 4, 0, 0, .return_, 1)]]
def tab_3 : List (List Row) := [[(0, 4, 0, 0, .return_, 1)]]
def tab_4 : List (List Row) := [[(0, 3, 4, 0, .new 8, 3), (3, 1, 0, 0, .dup, 1), (4, 0, 0, 0, .aconst_null, 1), (5, 0, 0, 0, .aload_n 0, 1), (6, 5, 5, 2, .invokespecial 17, 3), (9, 4, 0, 0, .areturn, 1)]]
def tab_5 : List (List Row) := [[(0, 0, 0, 0, .aload_n 0, 1), (1, 5, 6, 0, .invokespecial 1, 3), (4, 0, 0, 0, .aload_n 0, 1), (5, 0, 0, 0, .aload_n 1, 1), (6, 3, 11, 0, .putfield 7, 3), (9, 0, 0, 0, .aload_n 0, 1), (10, 0, 0, 0, .aload_n 2, 1), (11, 3, 12, 0, .putfield 13, 3), (14, 4, 0, 0, .return_, 1)]]
def tab_6 : List (List Row) := [[(0, 0, 0, 0, .aload_n 0, 1), (1, 3, 0, 0, .invokespecial 1, 3), (4, 4, 0, 0, .return_, 1)]]
def tab_7 : List (List Row) := [[(0, 0, 0, 0, .aload_n 0, 1), (1, 3, 0, 0, .invokespecial 1, 3), (4, 4, 0, 0, .return_, 1)]]
def tab_8 : List (List Row) := [[(0, 0, 0, 0, .aload_n 0, 1), (1, 3, 0, 0, .invokespecial 1, 3), (4, 4, 0, 0, .return_, 1)]]
def tab_9 : List (List Row) := [[(0, 3, 8, 0, .new 24, 3), (3, 1, 0, 0, .dup, 1), (4, 0, 0, 0, .aload_n 0, 1), (5, 0, 0, 0, .aload_n 1, 1), (6, 0, 0, 0, .iload_n 2, 1), (7, 5, 10, 3, .invokespecial 26, 3), (10, 4, 0, 0, .areturn, 1)]]
def tab_10 : List (List Row) := [[(0, 0, 0, 0, .aload_n 0, 1), (1, 0, 0, 0, .aload_n 1, 1), (2, 0, 0, 0, .aload_n 2, 1), (3, 0, 0, 0, .iload_n 3, 1), (4, 5, 11, 3, .invokespecial 1, 3), (7, 0, 0, 0, .aload_n 0, 1), (8, 0, 0, 0, .aload_n 1, 1), (9, 3, 16, 0, .getfield 7, 3), (12, 0, 0, 0, .aload_n 0, 1), (13, 3, 19, 0, .invokedynamic 13, 5)], [(18, 5, 13, 2, .invokestatic 17, 3), (21, 3, 20, 0, .putfield 23, 3), (24, 0, 0, 0, .aload_n 0, 1), (25, 0, 0, 0, .aload_n 1, 1), (26, 3, 15, 0, .getfield 29, 3), (29, 0, 0, 0, .aload_n 0, 1), (30, 3, 20, 0, .invokedynamic 32, 5)], [(35, 5, 13, 2, .invokestatic 17, 3), (38, 3, 21, 0, .putfield 33, 3), (41, 4, 0, 0, .return_, 1)]]
def tab_11 : List (List Row) := [[(0, 0, 0, 0, .aload_n 0, 1), (1, 5, 12, 0, .invokespecial 1, 3), (4, 0, 0, 0, .aload_n 0, 1), (5, 0, 0, 0, .aload_n 1, 1), (6, 3, 17, 0, .putfield 7, 3), (9, 0, 0, 0, .aload_n 0, 1), (10, 0, 0, 0, .aload_n 2, 1), (11, 3, 18, 0, .putfield 13, 3), (14, 0, 0, 0, .aload_n 0, 1), (15, 0, 0, 0, .iload_n 3, 1)], [(16, 3, 19, 0, .putfield 17, 3), (19, 4, 0, 0, .return_, 1)]]
def tab_12 : List (List Row) := [[(0, 0, 0, 0, .aload_n 0, 1), (1, 3, 0, 0, .invokespecial 1, 3), (4, 4, 0, 0, .return_, 1)]]
def tab_13 : List (List Row) := [[(0, 3, 4, 0, .new 8, 3), (3, 1, 0, 0, .dup, 1), (4, 0, 0, 0, .aload_n 0, 1), (5, 0, 0, 0, .aload_n 1, 1), (6, 5, 5, 2, .invokespecial 17, 3), (9, 4, 0, 0, .areturn, 1)]]
def tab_14 : List (List Row) := [[(0, 0, 0, 0, .aload_n 0, 1), (1, 0, 0, 0, .aload_n 1, 1), (2, 0, 0, 0, .aload_n 2, 1), (3, 5, 6, 2, .invokevirtual 65, 3), (6, 2, 11, 0, .ifnull 5, 3), (9, 0, 0, 0, .aconst_null, 1), (10, 4, 0, 0, .areturn, 1), (11, 3, 12, 0, .new 56, 3), (14, 1, 0, 0, .dup, 1), (15, 0, 0, 0, .aload_n 1, 1)], [(16, 0, 0, 0, .aload_n 2, 1), (17, 0, 0, 0, .aload_n 3, 1), (18, 5, 20, 3, .invokespecial 69, 3), (21, 0, 0, 0, .astore 4, 2), (23, 0, 0, 0, .aload_n 1, 1), (24, 3, 21, 0, .getfield 33, 3), (27, 0, 0, 0, .aload 4, 2), (29, 5, 7, 1, .invokevirtual 72, 3)], [(32, 0, 0, 0, .aload_n 2, 1), (33, 3, 20, 0, .getfield 29, 3), (36, 0, 0, 0, .aload 4, 2), (38, 5, 7, 1, .invokevirtual 72, 3), (41, 0, 0, 0, .aload 4, 2), (43, 4, 0, 0, .areturn, 1)]]
def tab_15 : List (List Row) := [[(0, 0, 0, 0, .aload_n 1, 1), (1, 3, 21, 0, .getfield 33, 3), (4, 5, 3, 0, .invokevirtual 36, 3), (7, 0, 0, 0, .aload_n 2, 1), (8, 3, 20, 0, .getfield 29, 3), (11, 5, 3, 0, .invokevirtual 36, 3), (14, 2, 63, 0, .if_icmp .gt 49, 3)], [(17, 0, 0, 0, .aload_n 1, 1), (18, 3, 21, 0, .getfield 33, 3), (21, 5, 5, 0, .invokevirtual 42, 3), (24, 0, 0, 0, .astore_n 3, 1), (25, 0, 0, 0, .aload_n 3, 1), (26, 5, 0, 0, .invokeinterface 46 1, 5), (31, 2, 60, 0, .ifCond .eq 29, 3)], [(34, 0, 0, 0, .aload_n 3, 1), (35, 5, 1, 0, .invokeinterface 52 1, 5), (40, 3, 12, 0, .checkcast 56, 3), (43, 0, 0, 0, .astore 4, 2), (45, 0, 0, 0, .aload 4, 2), (47, 3, 25, 0, .getfield 58, 3)], [(50, 0, 0, 0, .aload_n 2, 1), (51, 2, 57, 0, .if_acmp .ne 6, 3), (54, 0, 0, 0, .aload 4, 2), (56, 4, 0, 0, .areturn, 1), (57, 2, 25, 0, .goto (-32), 3), (60, 2, 106, 0, .goto 46, 3), (63, 0, 0, 0, .aload_n 2, 1)], [(64, 3, 20, 0, .getfield 29, 3), (67, 5, 5, 0, .invokevirtual 42, 3), (70, 0, 0, 0, .astore_n 3, 1), (71, 0, 0, 0, .aload_n 3, 1), (72, 5, 0, 0, .invokeinterface 46 1, 5), (77, 2, 106, 0, .ifCond .eq 29, 3)], [(80, 0, 0, 0, .aload_n 3, 1), (81, 5, 1, 0, .invokeinterface 52 1, 5), (86, 3, 12, 0, .checkcast 56, 3), (89, 0, 0, 0, .astore 4, 2), (91, 0, 0, 0, .aload 4, 2), (93, 3, 24, 0, .getfield 62, 3)], [(96, 0, 0, 0, .aload_n 1, 1), (97, 2, 103, 0, .if_acmp .ne 6, 3), (100, 0, 0, 0, .aload 4, 2), (102, 4, 0, 0, .areturn, 1), (103, 2, 71, 0, .goto (-32), 3), (106, 0, 0, 0, .aconst_null, 1), (107, 4, 0, 0, .areturn, 1)]]
def tab_16 : List (List Row) := [[(0, 0, 0, 0, .aload_n 0, 1), (1, 3, 0, 0, .getfield 34, 3), (4, 4, 0, 0, .ireturn, 1)]]
def tab_17 : List (List Row) := [[(0, 3, 11, 0, .new 69, 3), (3, 1, 0, 0, .dup, 1), (4, 0, 0, 0, .aload_n 0, 1), (5, 5, 18, 1, .invokespecial 71, 3), (8, 4, 0, 0, .areturn, 1)]]
def tab_18 : List (List Row) := [[(0, 0, 0, 0, .aload_n 0, 1), (1, 0, 0, 0, .aload_n 1, 1), (2, 3, 22, 0, .putfield 1, 3), (5, 0, 0, 0, .aload_n 0, 1), (6, 3, 0, 0, .invokespecial 7, 3), (9, 0, 0, 0, .aload_n 0, 1), (10, 0, 0, 0, .aload_n 0, 1), (11, 3, 22, 0, .getfield 1, 3), (14, 3, 1, 0, .getfield 13, 3)], [(17, 3, 23, 0, .putfield 19, 3), (20, 0, 0, 0, .aload_n 0, 1), (21, 0, 0, 0, .aload_n 0, 1), (22, 3, 22, 0, .getfield 1, 3), (25, 3, 2, 0, .getfield 20, 3), (28, 3, 3, 0, .putfield 24, 3), (31, 4, 0, 0, .return_, 1)]]
def tab_19 : List (List Row) := [[(0, 0, 0, 0, .aload_n 0, 1), (1, 3, 3, 0, .getfield 24, 3), (4, 2, 11, 0, .ifnull 7, 3), (7, 0, 0, 0, .iconst 1, 1), (8, 2, 12, 0, .goto 4, 3), (11, 0, 0, 0, .iconst 0, 1), (12, 4, 0, 0, .ireturn, 1)]]
def tab_20 : List (List Row) := [[(0, 0, 0, 0, .aload_n 0, 1), (1, 0, 0, 0, .aload_n 1, 1), (2, 0, 0, 0, .aload_n 2, 1), (3, 0, 0, 0, .aload_n 3, 1), (4, 5, 21, 3, .invokespecial 1, 3), (7, 4, 0, 0, .return_, 1)]]
def tab_21 : List (List Row) := [[(0, 0, 0, 0, .aload_n 0, 1), (1, 5, 12, 0, .invokespecial 1, 3), (4, 0, 0, 0, .aload_n 0, 1), (5, 0, 0, 0, .aload_n 1, 1), (6, 3, 24, 0, .putfield 7, 3), (9, 0, 0, 0, .aload_n 0, 1), (10, 0, 0, 0, .aload_n 2, 1), (11, 3, 25, 0, .putfield 13, 3), (14, 0, 0, 0, .aload_n 0, 1), (15, 0, 0, 0, .aload_n 3, 1)], [(16, 3, 26, 0, .putfield 16, 3), (19, 4, 0, 0, .return_, 1)]]
def tab_22 : List (List Row) := [[(0, 0, 0, 0, .aload_n 0, 1), (1, 0, 0, 0, .aload_n 1, 1), (2, 0, 0, 0, .aload_n 0, 1), (3, 3, 4, 0, .getfield 20, 3), (6, 5, 9, 2, .invokevirtual 24, 3), (9, 0, 0, 0, .aload_n 0, 1), (10, 3, 4, 0, .getfield 20, 3), (13, 2, 24, 0, .ifnonnull 11, 3)], [(16, 0, 0, 0, .aload_n 0, 1), (17, 0, 0, 0, .aload_n 1, 1), (18, 3, 2, 0, .putfield 28, 3), (21, 2, 33, 0, .goto 12, 3), (24, 0, 0, 0, .aload_n 0, 1), (25, 0, 0, 0, .aload_n 0, 1), (26, 3, 4, 0, .getfield 20, 3), (29, 0, 0, 0, .aload_n 1, 1), (30, 5, 10, 2, .invokevirtual 31, 3)], [(33, 0, 0, 0, .aload_n 0, 1), (34, 0, 0, 0, .aload_n 1, 1), (35, 3, 4, 0, .putfield 20, 3), (38, 0, 0, 0, .aload_n 0, 1), (39, 1, 0, 0, .dup, 1), (40, 3, 0, 0, .getfield 34, 3), (43, 0, 0, 0, .iconst 1, 1), (44, 1, 0, 0, .iadd, 1), (45, 3, 0, 0, .putfield 34, 3)], [(48, 0, 0, 0, .aload_n 0, 1), (49, 1, 0, 0, .dup, 1), (50, 3, 1, 0, .getfield 38, 3), (53, 0, 0, 0, .iconst 1, 1), (54, 1, 0, 0, .iadd, 1), (55, 3, 1, 0, .putfield 38, 3), (58, 4, 0, 0, .return_, 1)]]
def tab_23 : List (List Row) := [[(0, 0, 0, 0, .aload_n 0, 1), (1, 3, 11, 0, .getfield 7, 3), (4, 2, 15, 0, .ifnonnull 11, 3), (7, 0, 0, 0, .aload_n 1, 1), (8, 0, 0, 0, .aload_n 2, 1), (9, 3, 9, 0, .putfield 55, 3), (12, 2, 26, 0, .goto 14, 3), (15, 0, 0, 0, .aload_n 0, 1)], [(16, 3, 11, 0, .getfield 7, 3), (19, 0, 0, 0, .aload_n 1, 1), (20, 0, 0, 0, .aload_n 2, 1), (21, 5, 5, 2, .invokeinterface 97 3, 5), (26, 4, 0, 0, .return_, 1)]]
def tab_24 : List (List Row) := [[(0, 0, 0, 0, .aload_n 0, 1), (1, 0, 0, 0, .aload_n 1, 1), (2, 3, 12, 0, .checkcast 8, 3), (5, 0, 0, 0, .aload_n 2, 1), (6, 3, 12, 0, .checkcast 8, 3), (9, 5, 15, 2, .invokevirtual 22, 3), (12, 4, 0, 0, .return_, 1)]]
def tab_25 : List (List Row) := [[(0, 0, 0, 0, .aload_n 1, 1), (1, 0, 0, 0, .aload_n 2, 1), (2, 3, 5, 0, .putfield 7, 3), (5, 4, 0, 0, .return_, 1)]]
def tab_26 : List (List Row) := [[(0, 0, 0, 0, .aload_n 0, 1), (1, 0, 0, 0, .aload_n 1, 1), (2, 3, 12, 0, .checkcast 8, 3), (5, 0, 0, 0, .aload_n 2, 1), (6, 3, 12, 0, .checkcast 8, 3), (9, 5, 19, 2, .invokevirtual 22, 3), (12, 4, 0, 0, .return_, 1)]]
def tab_27 : List (List Row) := [[(0, 0, 0, 0, .aload_n 1, 1), (1, 0, 0, 0, .aload_n 2, 1), (2, 3, 6, 0, .putfield 7, 3), (5, 4, 0, 0, .return_, 1)]]
def tab_28 : List (List Row) := [[(0, 0, 0, 0, .aload_n 1, 1), (1, 3, 24, 0, .getfield 62, 3), (4, 3, 8, 0, .checkcast 24, 3), (7, 3, 21, 0, .getfield 33, 3), (10, 0, 0, 0, .aload_n 1, 1), (11, 5, 8, 1, .invokevirtual 76, 3), (14, 0, 0, 0, .aload_n 1, 1), (15, 3, 25, 0, .getfield 58, 3)], [(18, 3, 8, 0, .checkcast 24, 3), (21, 3, 20, 0, .getfield 29, 3), (24, 0, 0, 0, .aload_n 1, 1), (25, 5, 8, 1, .invokevirtual 76, 3), (28, 4, 0, 0, .return_, 1)]]
def tab_29 : List (List Row) := [[(0, 0, 0, 0, .aload_n 0, 1), (1, 0, 0, 0, .aload_n 1, 1), (2, 5, 11, 1, .invokevirtual 41, 3), (5, 0, 0, 0, .astore_n 2, 1), (6, 0, 0, 0, .aload_n 0, 1), (7, 0, 0, 0, .aload_n 1, 1), (8, 5, 12, 1, .invokevirtual 45, 3), (11, 0, 0, 0, .astore_n 3, 1), (12, 0, 0, 0, .aload_n 2, 1), (13, 2, 24, 0, .ifnonnull 11, 3)], [(16, 0, 0, 0, .aload_n 0, 1), (17, 0, 0, 0, .aload_n 3, 1), (18, 3, 2, 0, .putfield 28, 3), (21, 2, 30, 0, .goto 9, 3), (24, 0, 0, 0, .aload_n 0, 1), (25, 0, 0, 0, .aload_n 2, 1), (26, 0, 0, 0, .aload_n 3, 1), (27, 5, 10, 2, .invokevirtual 31, 3), (30, 0, 0, 0, .aload_n 3, 1), (31, 2, 42, 0, .ifnonnull 11, 3)], [(34, 0, 0, 0, .aload_n 0, 1), (35, 0, 0, 0, .aload_n 2, 1), (36, 3, 4, 0, .putfield 20, 3), (39, 2, 48, 0, .goto 9, 3), (42, 0, 0, 0, .aload_n 0, 1), (43, 0, 0, 0, .aload_n 3, 1), (44, 0, 0, 0, .aload_n 2, 1), (45, 5, 9, 2, .invokevirtual 24, 3)], [(48, 0, 0, 0, .aload_n 0, 1), (49, 0, 0, 0, .aload_n 1, 1), (50, 0, 0, 0, .aconst_null, 1), (51, 5, 9, 2, .invokevirtual 24, 3), (54, 0, 0, 0, .aload_n 0, 1), (55, 0, 0, 0, .aload_n 1, 1), (56, 0, 0, 0, .aconst_null, 1), (57, 5, 10, 2, .invokevirtual 31, 3), (60, 0, 0, 0, .aload_n 0, 1), (61, 1, 0, 0, .dup, 1), (62, 3, 0, 0, .getfield 34, 3)], [(65, 0, 0, 0, .iconst 1, 1), (66, 1, 0, 0, .isub, 1), (67, 3, 0, 0, .putfield 34, 3), (70, 0, 0, 0, .aload_n 0, 1), (71, 1, 0, 0, .dup, 1), (72, 3, 1, 0, .getfield 38, 3), (75, 0, 0, 0, .iconst 1, 1), (76, 1, 0, 0, .iadd, 1), (77, 3, 1, 0, .putfield 38, 3)], [(80, 4, 0, 0, .return_, 1)]]
def tab_30 : List (List Row) := [[(0, 0, 0, 0, .aload_n 0, 1), (1, 3, 11, 0, .getfield 7, 3), (4, 2, 14, 0, .ifnonnull 10, 3), (7, 0, 0, 0, .aload_n 1, 1), (8, 3, 9, 0, .getfield 55, 3), (11, 2, 27, 0, .goto 16, 3), (14, 0, 0, 0, .aload_n 0, 1), (15, 3, 11, 0, .getfield 7, 3)], [(18, 0, 0, 0, .aload_n 1, 1), (19, 5, 3, 1, .invokeinterface 89 2, 5), (24, 3, 10, 0, .checkcast 56, 3), (27, 4, 0, 0, .areturn, 1)]]
def tab_31 : List (List Row) := [[(0, 0, 0, 0, .aload_n 0, 1), (1, 0, 0, 0, .aload_n 1, 1), (2, 3, 12, 0, .checkcast 8, 3), (5, 5, 17, 1, .invokevirtual 29, 3), (8, 4, 0, 0, .areturn, 1)]]
def tab_32 : List (List Row) := [[(0, 0, 0, 0, .aload_n 1, 1), (1, 3, 5, 0, .getfield 7, 3), (4, 4, 0, 0, .areturn, 1)]]
def tab_33 : List (List Row) := [[(0, 0, 0, 0, .aload_n 0, 1), (1, 3, 11, 0, .getfield 7, 3), (4, 2, 14, 0, .ifnonnull 10, 3), (7, 0, 0, 0, .aload_n 1, 1), (8, 3, 10, 0, .getfield 93, 3), (11, 2, 27, 0, .goto 16, 3), (14, 0, 0, 0, .aload_n 0, 1), (15, 3, 11, 0, .getfield 7, 3)], [(18, 0, 0, 0, .aload_n 1, 1), (19, 5, 4, 1, .invokeinterface 95 2, 5), (24, 3, 10, 0, .checkcast 56, 3), (27, 4, 0, 0, .areturn, 1)]]
def tab_34 : List (List Row) := [[(0, 0, 0, 0, .aload_n 0, 1), (1, 0, 0, 0, .aload_n 1, 1), (2, 3, 12, 0, .checkcast 8, 3), (5, 5, 16, 1, .invokevirtual 25, 3), (8, 4, 0, 0, .areturn, 1)]]
def tab_35 : List (List Row) := [[(0, 0, 0, 0, .aload_n 1, 1), (1, 3, 7, 0, .getfield 13, 3), (4, 4, 0, 0, .areturn, 1)]]
def tab_36 : List (List Row) := [[(0, 0, 0, 0, .aload_n 0, 1), (1, 3, 11, 0, .getfield 7, 3), (4, 2, 15, 0, .ifnonnull 11, 3), (7, 0, 0, 0, .aload_n 1, 1), (8, 0, 0, 0, .aload_n 2, 1), (9, 3, 10, 0, .putfield 93, 3), (12, 2, 26, 0, .goto 14, 3), (15, 0, 0, 0, .aload_n 0, 1)], [(16, 3, 11, 0, .getfield 7, 3), (19, 0, 0, 0, .aload_n 1, 1), (20, 0, 0, 0, .aload_n 2, 1), (21, 5, 6, 2, .invokeinterface 100 3, 5), (26, 4, 0, 0, .return_, 1)]]
def tab_37 : List (List Row) := [[(0, 0, 0, 0, .aload_n 0, 1), (1, 0, 0, 0, .aload_n 1, 1), (2, 3, 12, 0, .checkcast 8, 3), (5, 0, 0, 0, .aload_n 2, 1), (6, 3, 12, 0, .checkcast 8, 3), (9, 5, 14, 2, .invokevirtual 16, 3), (12, 4, 0, 0, .return_, 1)]]
def tab_38 : List (List Row) := [[(0, 0, 0, 0, .aload_n 1, 1), (1, 0, 0, 0, .aload_n 2, 1), (2, 3, 7, 0, .putfield 13, 3), (5, 4, 0, 0, .return_, 1)]]
def tab_39 : List (List Row) := [[(0, 0, 0, 0, .aload_n 0, 1), (1, 0, 0, 0, .aload_n 1, 1), (2, 3, 12, 0, .checkcast 8, 3), (5, 5, 21, 1, .invokevirtual 29, 3), (8, 4, 0, 0, .areturn, 1)]]
def tab_40 : List (List Row) := [[(0, 0, 0, 0, .aload_n 1, 1), (1, 3, 6, 0, .getfield 7, 3), (4, 4, 0, 0, .areturn, 1)]]
def tab_41 : List (List Row) := [[(0, 0, 0, 0, .aload_n 0, 1), (1, 0, 0, 0, .aload_n 1, 1), (2, 3, 12, 0, .checkcast 8, 3), (5, 5, 20, 1, .invokevirtual 25, 3), (8, 4, 0, 0, .areturn, 1)]]
def tab_42 : List (List Row) := [[(0, 0, 0, 0, .aload_n 1, 1), (1, 3, 8, 0, .getfield 13, 3), (4, 4, 0, 0, .areturn, 1)]]
def tab_43 : List (List Row) := [[(0, 0, 0, 0, .aload_n 0, 1), (1, 0, 0, 0, .aload_n 1, 1), (2, 3, 12, 0, .checkcast 8, 3), (5, 0, 0, 0, .aload_n 2, 1), (6, 3, 12, 0, .checkcast 8, 3), (9, 5, 18, 2, .invokevirtual 16, 3), (12, 4, 0, 0, .return_, 1)]]
def tab_44 : List (List Row) := [[(0, 0, 0, 0, .aload_n 1, 1), (1, 0, 0, 0, .aload_n 2, 1), (2, 3, 8, 0, .putfield 13, 3), (5, 4, 0, 0, .return_, 1)]]
def tab_45 : List (List Row) := [[(0, 0, 0, 0, .aload_n 0, 1), (1, 3, 12, 0, .getfield 13, 3), (4, 0, 0, 0, .aload_n 1, 1), (5, 5, 2, 1, .invokeinterface 59 2, 5), (10, 2, 28, 0, .ifCond .eq 18, 3), (13, 0, 0, 0, .aload_n 0, 1), (14, 0, 0, 0, .aload_n 1, 1), (15, 3, 10, 0, .checkcast 56, 3)], [(18, 5, 13, 1, .invokevirtual 65, 3), (21, 2, 28, 0, .ifCond .eq 7, 3), (24, 0, 0, 0, .iconst 1, 1), (25, 2, 29, 0, .goto 4, 3), (28, 0, 0, 0, .iconst 0, 1), (29, 4, 0, 0, .ireturn, 1)]]
def tab_46 : List (List Row) := [[(0, 0, 0, 0, .aload_n 1, 1), (1, 3, 12, 0, .instanceof 36, 3), (4, 2, 24, 0, .ifCond .eq 20, 3), (7, 0, 0, 0, .aload_n 1, 1), (8, 3, 12, 0, .checkcast 36, 3), (11, 0, 0, 0, .astore_n 2, 1), (12, 0, 0, 0, .aload_n 2, 1), (13, 3, 24, 0, .getfield 38, 3)], [(16, 0, 0, 0, .aload_n 0, 1), (17, 2, 24, 0, .if_acmp .ne 7, 3), (20, 0, 0, 0, .iconst 1, 1), (21, 2, 25, 0, .goto 4, 3), (24, 0, 0, 0, .iconst 0, 1), (25, 4, 0, 0, .ireturn, 1)]]
def tab_47 : List (List Row) := [[(0, 0, 0, 0, .aload_n 0, 1), (1, 0, 0, 0, .aload_n 1, 1), (2, 5, 11, 1, .invokevirtual 41, 3), (5, 2, 16, 0, .ifnonnull 11, 3), (8, 0, 0, 0, .aload_n 1, 1), (9, 0, 0, 0, .aload_n 0, 1), (10, 3, 2, 0, .getfield 28, 3), (13, 2, 20, 0, .if_acmp .ne 7, 3)], [(16, 0, 0, 0, .iconst 1, 1), (17, 2, 21, 0, .goto 4, 3), (20, 0, 0, 0, .iconst 0, 1), (21, 4, 0, 0, .ireturn, 1)]]
def tab_48 : List (List Row) := [[(0, 0, 0, 0, .aload_n 1, 1), (1, 3, 12, 0, .instanceof 36, 3), (4, 2, 24, 0, .ifCond .eq 20, 3), (7, 0, 0, 0, .aload_n 1, 1), (8, 3, 12, 0, .checkcast 36, 3), (11, 0, 0, 0, .astore_n 2, 1), (12, 0, 0, 0, .aload_n 2, 1), (13, 3, 25, 0, .getfield 42, 3)], [(16, 0, 0, 0, .aload_n 0, 1), (17, 2, 24, 0, .if_acmp .ne 7, 3), (20, 0, 0, 0, .iconst 1, 1), (21, 2, 25, 0, .goto 4, 3), (24, 0, 0, 0, .iconst 0, 1), (25, 4, 0, 0, .ireturn, 1)]]
def tab_49 : List (List Row) := [[(0, 0, 0, 0, .aload_n 0, 1), (1, 5, 22, 0, .invokevirtual 36, 3), (4, 4, 0, 0, .areturn, 1)]]
def tab_50 : List (List Row) := [[(0, 0, 0, 0, .aload_n 0, 1), (1, 3, 22, 0, .getfield 1, 3), (4, 3, 1, 0, .getfield 13, 3), (7, 0, 0, 0, .aload_n 0, 1), (8, 3, 23, 0, .getfield 19, 3), (11, 2, 22, 0, .if_icmp .eq 11, 3)], [(17, 1, 0, 0, .dup, 1), (22, 0, 0, 0, .aload_n 0, 1), (23, 3, 3, 0, .getfield 24, 3), (26, 0, 0, 0, .astore_n 1, 1), (27, 0, 0, 0, .aload_n 1, 1), (28, 2, 39, 0, .ifnonnull 11, 3)], [(34, 1, 0, 0, .dup, 1), (39, 0, 0, 0, .aload_n 0, 1), (40, 0, 0, 0, .aload_n 0, 1), (41, 3, 22, 0, .getfield 1, 3), (44, 0, 0, 0, .aload_n 1, 1), (45, 5, 12, 1, .invokevirtual 33, 3)], [(48, 3, 3, 0, .putfield 24, 3), (51, 0, 0, 0, .aload_n 1, 1), (52, 4, 0, 0, .areturn, 1)]]
def tabOf (m : Nat) : List (List Row) := match nth [tab_0, tab_1, tab_2, tab_3, tab_4, tab_5, tab_6, tab_7, tab_8, tab_9, tab_10, tab_11, tab_12, tab_13, tab_14, tab_15, tab_16, tab_17, tab_18, tab_19, tab_20, tab_21, tab_22, tab_23, tab_24, tab_25, tab_26, tab_27, tab_28, tab_29, tab_30, tab_31, tab_32, tab_33, tab_34, tab_35, tab_36, tab_37, tab_38, tab_39, tab_40, tab_41, tab_42, tab_43, tab_44, tab_45, tab_46, tab_47, tab_48, tab_49, tab_50] m with | some x => x | none => []
def stp (orc : Orc) (orb : Orb) (np g x : Nat) (i : Instr) (n pc : Nat) (L : List Slot) (S : List Value) : Option (Nat × List Slot × List Value) :=
  bif Nat.beq g 0 then stpA i n pc L S else bif Nat.beq g 1 then stpB orc i n pc L S else stpC orb np x i n pc L S
/-- may the value v stand in a place of type t? -/
def fitv (t : FieldType) (v : Value) : Bool := match t with
  | .object _ => isR v
  | .array _ => isR v
  | .int => isI v
  | .boolean => (match v with | .int x => x == 0 || x == 1 | _ => false)
  | .float => (match v with | .float _ => true | _ => false)
  | _ => false
/-- what touches the heap and makes no frame: getfield, putfield, new, checkcast, .. -/
def hst (np mi x : Nat) (i : Instr) (n : Nat) (S : List Value) (H : AH) : Option (List Value × AH × Nat × Nat × Nat × Nat) := match i, n with
  | .getfield _, 3 => (match S with
    | .ref k :: S' => (match nth H k with
      | some (c, fs) => bif Nat.beq (kd c) 0 then (match alk fs x with | some v => some (v :: S', H, 0, 0, 0, 0) | none => none) else none
      | none => none)
    | _ => none)
  | .putfield _, 3 => (match S with
    | v :: .ref k :: S' => (match nth H k with
      | some (c, fs) => bif Nat.beq (kd c) 0 && Nat.ble np k && (alk fs x).isSome && fitv (FTy x) v && (!FFin x || (MI mi && Nat.beq (FO x) (MO mi))) then upK fs x v fun fs' => setK H k (c, fs') fun H' => some (S', H', 0, 0, 0, 0) else none
      | none => none)
    | _ => none)
  | .new _, 3 => bif Nat.beq (kd x) 0 then appK H (x, NF x) fun H' => some (.ref H.length :: S, H', 1, KSZ x, 0, 0) else none
  | .checkcast _, 3 => (match S with
    | .null :: S' => some (.null :: S', H, 0, 0, 0, 0)
    | .ref k :: S' => (match nth H k with
      | some (c, _) => bif Nat.beq (kd c) 0 && castT c x then some (.ref k :: S', H, 0, 0, 0, 0) else none
      | none => none)
    | _ => none)
  | .instanceof _, 3 => (match S with
    | .ref k :: S' => (match nth H k with
      | some (c, _) => bif Nat.beq (kd c) 0 && castT c x then some (.int 1 :: S', H, 0, 0, 0, 0) else none
      | none => none)
    | _ => none)
  | .invokedynamic _, 5 => (match S with
    | v :: S' => bif isR v && Nat.beq (kd x) 1 then appK H (x, [(0, v)]) fun H' => some (.ref H.length :: S', H', 1, 1, 0, catS S + 3072) else none
    | _ => none)
  | .invokespecial _, 3 => (match S with
    | .ref _ :: S' => some (S', H, 0, 0, 1, catS S' + 12)
    | _ => none)
  | _, _ => none
def rst (mi : Nat) (i : Instr) (n : Nat) (S : List Value) : Option (Option Value) := match i, n with
  | .return_, 1 => (match MR mi with | none => (match S with | [] => some none | _ => none) | _ => none)
  | .areturn, 1 => (match MR mi, S with
    | some (.object _), v :: _ => bif isR v then some (some v) else none
    | some (.array _), v :: _ => bif isR v then some (some v) else none
    | _, _ => none)
  | .ireturn, 1 => (match MR mi, S with
    | some .int, v :: _ => bif isI v then some (some v) else none
    | some .boolean, .int x :: _ => bif x == 0 || x == 1 then some (some (.int x)) else none
    | _, _ => none)
  | _, _ => none
/-- the last n values of the stack, in the order of the call, and what lies below -/
def takeR (n : Nat) (S acc : List Value) : Option (List Value × List Value) := match n, S with | 0, S => some (acc, S) | n + 1, v :: S' => takeR n S' (v :: acc) | _ + 1, [] => none
/-- a call: the body, its arguments, what stays on the stack, frames and words beside -/
def cst (x y : Nat) (i : Instr) (n : Nat) (S : List Value) (H : AH) : Option (Nat × List Value × List Value × Nat × Nat) := match i, n with
  | .invokestatic _, 3 => (match takeR y S [] with | some (as', rest) => some (x, as', rest, 0, 0) | none => none)
  | .invokespecial _, 3 => (match takeR y S [] with | some (as', .ref k :: rest) => some (x, .ref k :: as', rest, 0, 0) | _ => none)
  | .invokevirtual _, 3 => (match takeR y S [] with
    | some (as', .ref k :: rest) => (match nth H k with
      | some (c, _) => bif Nat.beq (kd c) 0 then (match vsel x c with | some mj => some (mj, .ref k :: as', rest, 0, 0) | none => none) else none
      | none => none)
    | _ => none)
  | .invokeinterface _ _, 5 => (match takeR y S [] with
    | some (as', .ref k :: rest) => (match nth H k with
      | some (c, fs) => bif Nat.beq (kd c) 0 then (match isel x c with | some mj => some (mj, .ref k :: as', rest, 0, 0) | none => none)
          else (match fwd x c, alk fs 0 with
            | some mj, some (.ref b) => (match nth H b with
              | some (cb, _) => bif Nat.beq (kd cb) 0 && as'.all isR then some (mj, .ref b :: as', rest, 1, 13) else none
              | none => none)
            | _, _ => none)
      | none => none)
    | _ => none)
  | _, _ => none
def entry (ml : Nat) (as' : List Value) : List Slot := as'.map .val ++ List.replicate (ml - as'.length) .unset
abbrev Res := Option Value × AH × Nat × Nat × Nat × Nat
abbrev Ih := Nat → List (List Row) → Nat → List Slot → List Value → AH → Option Res
def sA (ih : Ih) (mi : Nat) (tb : List (List Row)) (H : AH) (r : Option (Nat × List Slot × List Value)) : Option Res := match r with
  | some (nx, L', S') => ih mi tb nx L' S' H
  | none => none
def addH (dc ds fr lc : Nat) (r : Option Res) : Option Res := match r with
  | some (rv, H2, dc2, ds2, fr2, lc2) => some (rv, H2, dc + dc2, ds + ds2, Nat.max fr fr2, Nat.max lc lc2)
  | none => none
def sH (ih : Ih) (mi : Nat) (tb : List (List Row)) (nx : Nat) (L : List Slot) (r : Option (List Value × AH × Nat × Nat × Nat × Nat)) : Option Res := match r with
  | some (S', H', dc, ds, fr, lc) => addH dc ds fr lc (ih mi tb nx L S' H')
  | none => none
def sR (H : AH) (r : Option (Option Value)) : Option Res := match r with
  | some rv => some (rv, H, 0, 0, 0, 0)
  | none => none
def okRv (ef : Nat) (rv : Option Value) : Bool := Nat.beq ef 0 || (match rv with | some (.int x) => x == 0 || x == 1 | _ => false)
def sC2 (ih : Ih) (mi : Nat) (tb : List (List Row)) (nx : Nat) (L : List Slot) (rest : List Value) (ef el ml : Nat) (r : Option Res) : Option Res := match r with
  | some (rv, H1, dc, ds, fr, lc) => bif okRv ef rv then addH dc ds (fr + 1 + ef) (catS rest + el + (ml + 11) + lc) (ih mi tb nx L (rv.toList ++ rest) H1) else none
  | none => none
def sC (ih : Ih) (mi : Nat) (tb : List (List Row)) (nx : Nat) (L : List Slot) (H : AH) (r : Option (Nat × List Value × List Value × Nat × Nat)) : Option Res := match r with
  | some (mj, as', rest, ef, el) => bif as'.all c1 && Nat.ble as'.length (ML mj) then sC2 ih mi tb nx L rest ef el (ML mj) (ih mj (tabOf mj) 0 (entry (ML mj) as') [] H) else none
  | none => none
def sX (orc : Orc) (orb : Orb) (np : Nat) (ih : Ih) (mi : Nat) (tb : List (List Row)) (pc : Nat) (L : List Slot) (S : List Value) (H : AH) (r : Option (Nat × Nat × Nat × Instr × Nat)) : Option Res := match r with
  | some (g, x, y, i, len) =>
    bif Nat.ble g 2 then sA ih mi tb H (stp orc orb np g x i len pc L S)
    else bif Nat.beq g 3 then sH ih mi tb (Nat.add pc len) L (hst np mi x i len S H)
    else bif Nat.beq g 4 then sR H (rst mi i len S)
    else sC ih mi tb (Nat.add pc len) L H (cst x y i len S H)
  | none => none
def exec (orc : Orc) (orb : Orb) (np : Nat) : Nat → Ih
  | 0 => fun _ _ _ _ _ _ => none
  | n + 1 => fun mi tb pc L S H => sX orc orb np (exec orc orb np n) mi tb pc L S H (insAt tb pc)
end Rfx2

def MN (k : Nat) : MethodName := match nth ([(⟨"com/example/keyedge/keyedge/AdjacencyListGraphDetachPinLaw", "law", "(I)Z"⟩ : MethodName), (⟨"com/example/keyedge/keyedge/AdjacencyListGraph", "<init>", "()V"⟩ : MethodName), (⟨"com/example/keyedge/keyedge/AbstractGraph", "<init>", "()V"⟩ : MethodName), (⟨"java/lang/Object", "<init>", "()V"⟩ : MethodName), (⟨"com/example/keyedge/keyedge/Chain", "of", "(Ljava/util/function/Predicate;)Lcom/example/keyedge/keyedge/Chain;"⟩ : MethodName), (⟨"com/example/keyedge/keyedge/Chain", "<init>", "(Lcom/example/keyedge/keyedge/Chain$Strand;Ljava/util/function/Predicate;)V"⟩ : MethodName), (⟨"java/util/AbstractCollection", "<init>", "()V"⟩ : MethodName), (⟨"com/example/keyedge/keyedge/AdjacencyListGraph$1", "<init>", "(Lcom/example/keyedge/keyedge/AdjacencyListGraph;)V"⟩ : MethodName), (⟨"com/example/keyedge/keyedge/AdjacencyListGraph$2", "<init>", "(Lcom/example/keyedge/keyedge/AdjacencyListGraph;)V"⟩ : MethodName), (⟨"com/example/keyedge/keyedge/AdjacencyListGraph", "newNode", "(Ljava/lang/Object;I)Lcom/example/keyedge/keyedge/AdjacencyListGraph$ListNode;"⟩ : MethodName), (⟨"com/example/keyedge/keyedge/AdjacencyListGraph$ListNode", "<init>", "(Lcom/example/keyedge/keyedge/AdjacencyListGraph;Ljava/lang/Object;I)V"⟩ : MethodName), (⟨"com/example/keyedge/keyedge/AbstractGraph$Node", "<init>", "(Lcom/example/keyedge/keyedge/AbstractGraph;Ljava/lang/Object;I)V"⟩ : MethodName), (⟨"com/example/keyedge/keyedge/Chain$Linked", "<init>", "()V"⟩ : MethodName), (⟨"com/example/keyedge/keyedge/Chain", "of", "(Lcom/example/keyedge/keyedge/Chain$Strand;Ljava/util/function/Predicate;)Lcom/example/keyedge/keyedge/Chain;"⟩ : MethodName), (⟨"com/example/keyedge/keyedge/AdjacencyListGraph", "attach", "(Lcom/example/keyedge/keyedge/AdjacencyListGraph$ListNode;Lcom/example/keyedge/keyedge/AdjacencyListGraph$ListNode;Ljava/lang/Object;)Lcom/example/keyedge/keyedge/AdjacencyListGraph$ListLink;"⟩ : MethodName), (⟨"com/example/keyedge/keyedge/AdjacencyListGraph", "edge", "(Lcom/example/keyedge/keyedge/AdjacencyListGraph$ListNode;Lcom/example/keyedge/keyedge/AdjacencyListGraph$ListNode;)Lcom/example/keyedge/keyedge/AdjacencyListGraph$ListLink;"⟩ : MethodName), (⟨"com/example/keyedge/keyedge/Chain", "size", "()I"⟩ : MethodName), (⟨"com/example/keyedge/keyedge/Chain", "iterator", "()Ljava/util/Iterator;"⟩ : MethodName), (⟨"com/example/keyedge/keyedge/Chain$1", "<init>", "(Lcom/example/keyedge/keyedge/Chain;)V"⟩ : MethodName), (⟨"com/example/keyedge/keyedge/Chain$1", "hasNext", "()Z"⟩ : MethodName), (⟨"com/example/keyedge/keyedge/AdjacencyListGraph$ListLink", "<init>", "(Lcom/example/keyedge/keyedge/AdjacencyListGraph$ListNode;Lcom/example/keyedge/keyedge/AdjacencyListGraph$ListNode;Ljava/lang/Object;)V"⟩ : MethodName), (⟨"com/example/keyedge/keyedge/AbstractGraph$Link", "<init>", "(Lcom/example/keyedge/keyedge/AbstractGraph$Node;Lcom/example/keyedge/keyedge/AbstractGraph$Node;Ljava/lang/Object;)V"⟩ : MethodName), (⟨"com/example/keyedge/keyedge/Chain", "append", "(Lcom/example/keyedge/keyedge/Chain$Linked;)V"⟩ : MethodName), (⟨"com/example/keyedge/keyedge/Chain", "setPrevious", "(Lcom/example/keyedge/keyedge/Chain$Linked;Lcom/example/keyedge/keyedge/Chain$Linked;)V"⟩ : MethodName), (⟨"com/example/keyedge/keyedge/AdjacencyListGraph$1", "setPrevious", "(Ljava/lang/Object;Ljava/lang/Object;)V"⟩ : MethodName), (⟨"com/example/keyedge/keyedge/AdjacencyListGraph$1", "setPrevious", "(Lcom/example/keyedge/keyedge/AdjacencyListGraph$ListLink;Lcom/example/keyedge/keyedge/AdjacencyListGraph$ListLink;)V"⟩ : MethodName), (⟨"com/example/keyedge/keyedge/AdjacencyListGraph$2", "setPrevious", "(Ljava/lang/Object;Ljava/lang/Object;)V"⟩ : MethodName), (⟨"com/example/keyedge/keyedge/AdjacencyListGraph$2", "setPrevious", "(Lcom/example/keyedge/keyedge/AdjacencyListGraph$ListLink;Lcom/example/keyedge/keyedge/AdjacencyListGraph$ListLink;)V"⟩ : MethodName), (⟨"com/example/keyedge/keyedge/AdjacencyListGraph", "detach", "(Lcom/example/keyedge/keyedge/AdjacencyListGraph$ListLink;)V"⟩ : MethodName), (⟨"com/example/keyedge/keyedge/Chain", "unlink", "(Lcom/example/keyedge/keyedge/Chain$Linked;)V"⟩ : MethodName), (⟨"com/example/keyedge/keyedge/Chain", "previous", "(Lcom/example/keyedge/keyedge/Chain$Linked;)Lcom/example/keyedge/keyedge/Chain$Linked;"⟩ : MethodName), (⟨"com/example/keyedge/keyedge/AdjacencyListGraph$1", "previous", "(Ljava/lang/Object;)Ljava/lang/Object;"⟩ : MethodName), (⟨"com/example/keyedge/keyedge/AdjacencyListGraph$1", "previous", "(Lcom/example/keyedge/keyedge/AdjacencyListGraph$ListLink;)Lcom/example/keyedge/keyedge/AdjacencyListGraph$ListLink;"⟩ : MethodName), (⟨"com/example/keyedge/keyedge/Chain", "next", "(Lcom/example/keyedge/keyedge/Chain$Linked;)Lcom/example/keyedge/keyedge/Chain$Linked;"⟩ : MethodName), (⟨"com/example/keyedge/keyedge/AdjacencyListGraph$1", "next", "(Ljava/lang/Object;)Ljava/lang/Object;"⟩ : MethodName), (⟨"com/example/keyedge/keyedge/AdjacencyListGraph$1", "next", "(Lcom/example/keyedge/keyedge/AdjacencyListGraph$ListLink;)Lcom/example/keyedge/keyedge/AdjacencyListGraph$ListLink;"⟩ : MethodName), (⟨"com/example/keyedge/keyedge/Chain", "setNext", "(Lcom/example/keyedge/keyedge/Chain$Linked;Lcom/example/keyedge/keyedge/Chain$Linked;)V"⟩ : MethodName), (⟨"com/example/keyedge/keyedge/AdjacencyListGraph$1", "setNext", "(Ljava/lang/Object;Ljava/lang/Object;)V"⟩ : MethodName), (⟨"com/example/keyedge/keyedge/AdjacencyListGraph$1", "setNext", "(Lcom/example/keyedge/keyedge/AdjacencyListGraph$ListLink;Lcom/example/keyedge/keyedge/AdjacencyListGraph$ListLink;)V"⟩ : MethodName), (⟨"com/example/keyedge/keyedge/AdjacencyListGraph$2", "previous", "(Ljava/lang/Object;)Ljava/lang/Object;"⟩ : MethodName), (⟨"com/example/keyedge/keyedge/AdjacencyListGraph$2", "previous", "(Lcom/example/keyedge/keyedge/AdjacencyListGraph$ListLink;)Lcom/example/keyedge/keyedge/AdjacencyListGraph$ListLink;"⟩ : MethodName), (⟨"com/example/keyedge/keyedge/AdjacencyListGraph$2", "next", "(Ljava/lang/Object;)Ljava/lang/Object;"⟩ : MethodName), (⟨"com/example/keyedge/keyedge/AdjacencyListGraph$2", "next", "(Lcom/example/keyedge/keyedge/AdjacencyListGraph$ListLink;)Lcom/example/keyedge/keyedge/AdjacencyListGraph$ListLink;"⟩ : MethodName), (⟨"com/example/keyedge/keyedge/AdjacencyListGraph$2", "setNext", "(Ljava/lang/Object;Ljava/lang/Object;)V"⟩ : MethodName), (⟨"com/example/keyedge/keyedge/AdjacencyListGraph$2", "setNext", "(Lcom/example/keyedge/keyedge/AdjacencyListGraph$ListLink;Lcom/example/keyedge/keyedge/AdjacencyListGraph$ListLink;)V"⟩ : MethodName), (⟨"com/example/keyedge/keyedge/Chain", "contains", "(Ljava/lang/Object;)Z"⟩ : MethodName), (⟨"com/example/keyedge/keyedge/AdjacencyListGraph$ListNode", "lambda$new$1", "(Ljava/lang/Object;)Z"⟩ : MethodName), (⟨"com/example/keyedge/keyedge/Chain", "linked", "(Lcom/example/keyedge/keyedge/Chain$Linked;)Z"⟩ : MethodName), (⟨"com/example/keyedge/keyedge/AdjacencyListGraph$ListNode", "lambda$new$0", "(Ljava/lang/Object;)Z"⟩ : MethodName), (⟨"com/example/keyedge/keyedge/Chain$1", "next", "()Ljava/lang/Object;"⟩ : MethodName), (⟨"com/example/keyedge/keyedge/Chain$1", "next", "()Lcom/example/keyedge/keyedge/Chain$Linked;"⟩ : MethodName)] : List MethodName) k with | some x => x | none => (⟨"", "", ""⟩ : MethodName)
def VN (k : Nat) : MethodName := match nth ([(⟨"com/example/keyedge/keyedge/AdjacencyListGraph", "newNode", "(Ljava/lang/Object;I)Lcom/example/keyedge/keyedge/AdjacencyListGraph$ListNode;"⟩ : MethodName), (⟨"com/example/keyedge/keyedge/AdjacencyListGraph", "attach", "(Lcom/example/keyedge/keyedge/AdjacencyListGraph$ListNode;Lcom/example/keyedge/keyedge/AdjacencyListGraph$ListNode;Ljava/lang/Object;)Lcom/example/keyedge/keyedge/AdjacencyListGraph$ListLink;"⟩ : MethodName), (⟨"com/example/keyedge/keyedge/AdjacencyListGraph", "detach", "(Lcom/example/keyedge/keyedge/AdjacencyListGraph$ListLink;)V"⟩ : MethodName), (⟨"com/example/keyedge/keyedge/Chain", "size", "()I"⟩ : MethodName), (⟨"com/example/keyedge/keyedge/Chain", "contains", "(Ljava/lang/Object;)Z"⟩ : MethodName), (⟨"com/example/keyedge/keyedge/Chain", "iterator", "()Ljava/util/Iterator;"⟩ : MethodName), (⟨"com/example/keyedge/keyedge/AdjacencyListGraph", "edge", "(Lcom/example/keyedge/keyedge/AdjacencyListGraph$ListNode;Lcom/example/keyedge/keyedge/AdjacencyListGraph$ListNode;)Lcom/example/keyedge/keyedge/AdjacencyListGraph$ListLink;"⟩ : MethodName), (⟨"com/example/keyedge/keyedge/Chain", "append", "(Lcom/example/keyedge/keyedge/Chain$Linked;)V"⟩ : MethodName), (⟨"com/example/keyedge/keyedge/Chain", "unlink", "(Lcom/example/keyedge/keyedge/Chain$Linked;)V"⟩ : MethodName), (⟨"com/example/keyedge/keyedge/Chain", "setPrevious", "(Lcom/example/keyedge/keyedge/Chain$Linked;Lcom/example/keyedge/keyedge/Chain$Linked;)V"⟩ : MethodName), (⟨"com/example/keyedge/keyedge/Chain", "setNext", "(Lcom/example/keyedge/keyedge/Chain$Linked;Lcom/example/keyedge/keyedge/Chain$Linked;)V"⟩ : MethodName), (⟨"com/example/keyedge/keyedge/Chain", "previous", "(Lcom/example/keyedge/keyedge/Chain$Linked;)Lcom/example/keyedge/keyedge/Chain$Linked;"⟩ : MethodName), (⟨"com/example/keyedge/keyedge/Chain", "next", "(Lcom/example/keyedge/keyedge/Chain$Linked;)Lcom/example/keyedge/keyedge/Chain$Linked;"⟩ : MethodName), (⟨"com/example/keyedge/keyedge/Chain", "linked", "(Lcom/example/keyedge/keyedge/Chain$Linked;)Z"⟩ : MethodName), (⟨"com/example/keyedge/keyedge/AdjacencyListGraph$1", "setNext", "(Lcom/example/keyedge/keyedge/AdjacencyListGraph$ListLink;Lcom/example/keyedge/keyedge/AdjacencyListGraph$ListLink;)V"⟩ : MethodName), (⟨"com/example/keyedge/keyedge/AdjacencyListGraph$1", "setPrevious", "(Lcom/example/keyedge/keyedge/AdjacencyListGraph$ListLink;Lcom/example/keyedge/keyedge/AdjacencyListGraph$ListLink;)V"⟩ : MethodName), (⟨"com/example/keyedge/keyedge/AdjacencyListGraph$1", "next", "(Lcom/example/keyedge/keyedge/AdjacencyListGraph$ListLink;)Lcom/example/keyedge/keyedge/AdjacencyListGraph$ListLink;"⟩ : MethodName), (⟨"com/example/keyedge/keyedge/AdjacencyListGraph$1", "previous", "(Lcom/example/keyedge/keyedge/AdjacencyListGraph$ListLink;)Lcom/example/keyedge/keyedge/AdjacencyListGraph$ListLink;"⟩ : MethodName), (⟨"com/example/keyedge/keyedge/AdjacencyListGraph$2", "setNext", "(Lcom/example/keyedge/keyedge/AdjacencyListGraph$ListLink;Lcom/example/keyedge/keyedge/AdjacencyListGraph$ListLink;)V"⟩ : MethodName), (⟨"com/example/keyedge/keyedge/AdjacencyListGraph$2", "setPrevious", "(Lcom/example/keyedge/keyedge/AdjacencyListGraph$ListLink;Lcom/example/keyedge/keyedge/AdjacencyListGraph$ListLink;)V"⟩ : MethodName), (⟨"com/example/keyedge/keyedge/AdjacencyListGraph$2", "next", "(Lcom/example/keyedge/keyedge/AdjacencyListGraph$ListLink;)Lcom/example/keyedge/keyedge/AdjacencyListGraph$ListLink;"⟩ : MethodName), (⟨"com/example/keyedge/keyedge/AdjacencyListGraph$2", "previous", "(Lcom/example/keyedge/keyedge/AdjacencyListGraph$ListLink;)Lcom/example/keyedge/keyedge/AdjacencyListGraph$ListLink;"⟩ : MethodName), (⟨"com/example/keyedge/keyedge/Chain$1", "next", "()Lcom/example/keyedge/keyedge/Chain$Linked;"⟩ : MethodName)] : List MethodName) k with | some x => x | none => (⟨"", "", ""⟩ : MethodName)
def IN (k : Nat) : MethodName := match nth ([(⟨"java/util/Iterator", "hasNext", "()Z"⟩ : MethodName), (⟨"java/util/Iterator", "next", "()Ljava/lang/Object;"⟩ : MethodName), (⟨"java/util/function/Predicate", "test", "(Ljava/lang/Object;)Z"⟩ : MethodName), (⟨"com/example/keyedge/keyedge/Chain$Strand", "previous", "(Ljava/lang/Object;)Ljava/lang/Object;"⟩ : MethodName), (⟨"com/example/keyedge/keyedge/Chain$Strand", "next", "(Ljava/lang/Object;)Ljava/lang/Object;"⟩ : MethodName), (⟨"com/example/keyedge/keyedge/Chain$Strand", "setPrevious", "(Ljava/lang/Object;Ljava/lang/Object;)V"⟩ : MethodName), (⟨"com/example/keyedge/keyedge/Chain$Strand", "setNext", "(Ljava/lang/Object;Ljava/lang/Object;)V"⟩ : MethodName)] : List MethodName) k with | some x => x | none => (⟨"", "", ""⟩ : MethodName)
def MB (k : Nat) : ByteArray := match nth [code, prog_4_method_1_code, prog_1_method_1_code, object_method_1_code, prog_13_method_2_code, prog_13_method_1_code, jdk_22_method_1_code, prog_5_method_1_code, prog_6_method_1_code, prog_4_method_2_code, prog_8_method_1_code, prog_3_method_1_code, prog_15_method_1_code, prog_13_method_3_code, prog_4_method_6_code, prog_4_method_5_code, prog_13_method_8_code, prog_13_method_10_code, prog_14_method_1_code, prog_14_method_2_code, prog_7_method_1_code, prog_2_method_1_code, prog_13_method_4_code, prog_13_method_14_code, prog_5_method_7_code, prog_5_method_4_code, prog_6_method_7_code, prog_6_method_4_code, prog_4_method_7_code, prog_13_method_5_code, prog_13_method_12_code, prog_5_method_9_code, prog_5_method_2_code, prog_13_method_13_code, prog_5_method_8_code, prog_5_method_3_code, prog_13_method_15_code, prog_5_method_6_code, prog_5_method_5_code, prog_6_method_9_code, prog_6_method_2_code, prog_6_method_8_code, prog_6_method_3_code, prog_6_method_6_code, prog_6_method_5_code, prog_13_method_9_code, prog_8_method_2_code, prog_13_method_6_code, prog_8_method_3_code, prog_14_method_4_code, prog_14_method_3_code] k with | some x => x | none => ⟨#[]⟩
def NM : Nat := 51
def LH (k : Nat) : String := match nth (["com/example/keyedge/keyedge/AbstractGraph", "com/example/keyedge/keyedge/AbstractGraph", "com/example/keyedge/keyedge/AdjacencyListGraph$ListNode", "com/example/keyedge/keyedge/AdjacencyListGraph$ListNode"] : List String) (k - 17) with | some x => x | none => ""
def shp_0 : Jvm.Lambda.Shape := (Jvm.Lambda.Shape.mk "java/util/function/Predicate" "test" (Jvm.ClassFile.MethodDescriptor.mk ([(Jvm.ClassFile.FieldType.object "java/lang/Object")] : List Jvm.ClassFile.FieldType) (Option.some Jvm.ClassFile.FieldType.boolean)) ([(Jvm.ClassFile.FieldType.object "com/example/keyedge/keyedge/AbstractGraph")] : List Jvm.ClassFile.FieldType) (5 : Nat) "com/example/keyedge/keyedge/AbstractGraph" "madeVertex" (Jvm.ClassFile.MethodDescriptor.mk ([(Jvm.ClassFile.FieldType.object "java/lang/Object")] : List Jvm.ClassFile.FieldType) (Option.some Jvm.ClassFile.FieldType.boolean)) false (Jvm.ClassFile.MethodDescriptor.mk ([(Jvm.ClassFile.FieldType.object "java/lang/Object")] : List Jvm.ClassFile.FieldType) (Option.some Jvm.ClassFile.FieldType.boolean)))
def shp_1 : Jvm.Lambda.Shape := (Jvm.Lambda.Shape.mk "java/util/function/Predicate" "test" (Jvm.ClassFile.MethodDescriptor.mk ([(Jvm.ClassFile.FieldType.object "java/lang/Object")] : List Jvm.ClassFile.FieldType) (Option.some Jvm.ClassFile.FieldType.boolean)) ([(Jvm.ClassFile.FieldType.object "com/example/keyedge/keyedge/AbstractGraph")] : List Jvm.ClassFile.FieldType) (5 : Nat) "com/example/keyedge/keyedge/AbstractGraph" "madeEdge" (Jvm.ClassFile.MethodDescriptor.mk ([(Jvm.ClassFile.FieldType.object "java/lang/Object")] : List Jvm.ClassFile.FieldType) (Option.some Jvm.ClassFile.FieldType.boolean)) false (Jvm.ClassFile.MethodDescriptor.mk ([(Jvm.ClassFile.FieldType.object "java/lang/Object")] : List Jvm.ClassFile.FieldType) (Option.some Jvm.ClassFile.FieldType.boolean)))
def shp_2 : Jvm.Lambda.Shape := (Jvm.Lambda.Shape.mk "java/util/function/Predicate" "test" (Jvm.ClassFile.MethodDescriptor.mk ([(Jvm.ClassFile.FieldType.object "java/lang/Object")] : List Jvm.ClassFile.FieldType) (Option.some Jvm.ClassFile.FieldType.boolean)) ([(Jvm.ClassFile.FieldType.object "com/example/keyedge/keyedge/AdjacencyListGraph$ListNode")] : List Jvm.ClassFile.FieldType) (5 : Nat) "com/example/keyedge/keyedge/AdjacencyListGraph$ListNode" "lambda$new$0" (Jvm.ClassFile.MethodDescriptor.mk ([(Jvm.ClassFile.FieldType.object "java/lang/Object")] : List Jvm.ClassFile.FieldType) (Option.some Jvm.ClassFile.FieldType.boolean)) false (Jvm.ClassFile.MethodDescriptor.mk ([(Jvm.ClassFile.FieldType.object "java/lang/Object")] : List Jvm.ClassFile.FieldType) (Option.some Jvm.ClassFile.FieldType.boolean)))
def shp_3 : Jvm.Lambda.Shape := (Jvm.Lambda.Shape.mk "java/util/function/Predicate" "test" (Jvm.ClassFile.MethodDescriptor.mk ([(Jvm.ClassFile.FieldType.object "java/lang/Object")] : List Jvm.ClassFile.FieldType) (Option.some Jvm.ClassFile.FieldType.boolean)) ([(Jvm.ClassFile.FieldType.object "com/example/keyedge/keyedge/AdjacencyListGraph$ListNode")] : List Jvm.ClassFile.FieldType) (5 : Nat) "com/example/keyedge/keyedge/AdjacencyListGraph$ListNode" "lambda$new$1" (Jvm.ClassFile.MethodDescriptor.mk ([(Jvm.ClassFile.FieldType.object "java/lang/Object")] : List Jvm.ClassFile.FieldType) (Option.some Jvm.ClassFile.FieldType.boolean)) false (Jvm.ClassFile.MethodDescriptor.mk ([(Jvm.ClassFile.FieldType.object "java/lang/Object")] : List Jvm.ClassFile.FieldType) (Option.some Jvm.ClassFile.FieldType.boolean)))
def LSh (k : Nat) : Jvm.Lambda.Shape := match nth [shp_0, shp_1, shp_2, shp_3] (k - 17) with | some x => x | none => shp_0
def fcode : ByteArray := ⟨#[0x2a, 0xb4, 0x00, 0x0f, 0x2b, 0xb6, 0x00, 0x16, 0xac]⟩
theorem fd0 : decode fcode 0 = .ok (.aload_n 0, 1) := by decide +kernel
theorem fd1 : decode fcode 1 = .ok (.getfield 15, 3) := by decide +kernel
theorem fd4 : decode fcode 4 = .ok (.aload_n 1, 1) := by decide +kernel
theorem fd5 : decode fcode 5 = .ok (.invokevirtual 22, 3) := by decide +kernel
theorem fd8 : decode fcode 8 = .ok (.ireturn, 1) := by decide +kernel
theorem fcl_ne : (FCL.all fun r => r.2.all fun f => r.2.all fun g => Nat.beq f g || decide ((FN f).2.1 ≠ (FN g).2.1)) = true := by decide +kernel
theorem nfl_ok : (NFL.all fun r => r.2.all fun q => ((FC r.1).any fun k => Nat.beq k q.1) && decide (q.2 = defaultValue (FTy q.1))) = true := by decide +kernel
section Rfx3
variable {p : Program} {l : Launch} {e : Env} {R : Room} {s : State} {m : MethodId} {args : Array Value} {below : List Frame} {meth : Method} {c : Code} {T : State} {locs : List Loc} {cells slots : Nat} {Z : State} {a0 : Array Value} {h h' : Heap}
variable {F : Outcome → State → Prop} {ρ : Nat → Nat} {ι : Nat → Int32} {np n0 : Nat}
theorem fa_nil {α : Type} {P : α → Prop} : ∀ q ∈ ([] : List α), P q := fun _ h => absurd h List.not_mem_nil
theorem fa_cons {α : Type} {P : α → Prop} {a : α} {t : List α} (h1 : P a) (h2 : ∀ q ∈ t, P q) : ∀ q ∈ a :: t, P q := fun q hq => by
  rcases List.mem_cons.mp hq with rfl | hq
  · exact h1
  · exact h2 q hq
theorem alk_mem {α : Type} : ∀ {t : List (Nat × α)} {k : Nat} {v : α}, alk t k = some v → (k, v) ∈ t
  | [], _, _, h => by simp [alk] at h
  | q :: t, k, v, h => by
    unfold alk at h
    cases hb : Nat.beq q.1 k with
    | true => simp [hb] at h; exact List.mem_cons.mpr (Or.inl (by rw [← h, ← Nat.eq_of_beq_eq_true hb]))
    | false => simp [hb] at h; exact List.mem_cons.mpr (Or.inr (alk_mem h))
theorem nth_mem {α : Type} {H : List α} {k : Nat} {x : α} (h : nth H k = some x) : x ∈ H := by rw [nth_eq] at h; exact List.mem_of_getElem? h
theorem setK_eq {α β : Type} : ∀ (H : List α) (k : Nat) (v : α) (f : List α → β), setK H k v f = f (setN H k v)
  | [], _, _, _ => by simp [setK, setN]
  | _ :: _, 0, _, _ => by simp [setK, setN]
  | x :: t, k + 1, v, f => by simp only [setK, setN]; rw [setK_eq t k v]
theorem appK_eq {α β : Type} : ∀ (H : List α) (v : α) (f : List α → β), appK H v f = f (H ++ [v])
  | [], _, _ => by simp [appK]
  | x :: t, v, f => by simp only [appK, List.cons_append]; rw [appK_eq t v]
theorem upK_eq {β : Type} : ∀ (fs : List (Nat × Value)) (x : Nat) (v : Value) (f : List (Nat × Value) → β), upK fs x v f = f (up fs x v)
  | [], _, _, _ => by simp [upK, up]
  | (g, w) :: t, x, v, f => by
    simp only [upK, up]
    rw [upK_eq t x v]
    cases Nat.beq g x <;> rfl
theorem up_mem : ∀ {fs : List (Nat × Value)} {x : Nat} {v : Value} {q : Nat × Value}, q ∈ up fs x v → (q = (x, v) ∧ ∃ w, (x, w) ∈ fs) ∨ (q ∈ fs ∧ ¬ q.1 = x)
  | [], _, _, _, h => by simp [up] at h
  | g :: t, x, v, q, h => by
    unfold up at h
    rcases List.mem_cons.mp h with rfl | h
    · cases hb : Nat.beq g.1 x with
      | true => have := Nat.eq_of_beq_eq_true hb; exact Or.inl ⟨by simp, g.2, by rw [← this]; exact List.mem_cons.mpr (Or.inl rfl)⟩
      | false => exact Or.inr ⟨by simp, by simpa using Nat.ne_of_beq_eq_false hb⟩
    · rcases up_mem h with ⟨h1, w, h2⟩ | ⟨h1, h2⟩
      · exact Or.inl ⟨h1, w, List.mem_cons.mpr (Or.inr h2)⟩
      · exact Or.inr ⟨List.mem_cons.mpr (Or.inr h1), h2⟩
theorem fitv_ok {t : FieldType} {v : Value} (h : fitv t v = true) : narrow t (den ρ ι v) = den ρ ι v ∧ fits t (den ρ ι v) = true := by
  cases t with
  | object _ => cases v <;> simp [fitv, isR] at h <;> exact ⟨rfl, rfl⟩
  | array _ => cases v <;> simp [fitv, isR] at h <;> exact ⟨rfl, rfl⟩
  | int => cases v <;> simp [fitv, isI] at h <;> exact ⟨rfl, rfl⟩
  | boolean =>
    cases v with
    | int x =>
      simp [fitv] at h
      rcases h with rfl | rfl
      · exact ⟨rfl, rfl⟩
      · exact ⟨rfl, rfl⟩
    | _ => simp [fitv] at h
  | float => cases v <;> simp [fitv] at h; exact ⟨rfl, rfl⟩
  | _ => simp [fitv] at h
/-- the words of a field's entry -/
abbrev FOK (Z : State) (a0 : Array Value) (q : Nat × Nat × Nat) : Prop := ∃ R0 host : String, ((Cond.fieldLink (CN q.1) q.2.1 R0 (FN q.2.2).2.1 (FN q.2.2).2.2).before a0 Z = true ∨ (Cond.fieldLinkNest (CN q.1) q.2.1 R0 (FN q.2.2).2.1 (FN q.2.2).2.2 host).before a0 Z = true) ∧ Via Z R0 (FN q.2.2).1 (FN q.2.2).2.1 (FN q.2.2).2.2
/-- the words of a field of an object -/
abbrev LOK (Z : State) (a0 : Array Value) (k f : Nat) : Prop := ((FFin f = false ∧ (Cond.lays (CN k) (FN f).1 (FN f).2.1 (FN f).2.2).before a0 Z = true) ∨ (FFin f = true ∧ (Cond.laysFinal (CN k) (FN f).1 (FN f).2.1 (FN f).2.2).before a0 Z = true)) ∧ parseFieldDescriptor (FN f).2.2 = some (FTy f) ∧ CN (FO f) = (FN f).1 ∧ (Cond.instantiable (CN k) (KSZ k)).before a0 Z = true
theorem LOK.laid {k f : Nat} (L : LOK Z a0 k f) : Laid Z a0 (CN k) (FN f).1 (FN f).2.1 (FN f).2.2 := L.1.elim (fun q => Or.inl q.2) fun q => Or.inr q.2
/-- all that the run asks of the words: fields' entries, fields, names, new objects, entries of names, casts -/
abbrev TabOK (Z : State) (a0 : Array Value) : Prop :=
  (∀ q ∈ fresT, FOK Z a0 q) ∧ (∀ r ∈ FCL, ∀ f ∈ r.2, LOK Z a0 r.1 f) ∧
  (∀ q ∈ cresT, (Cond.classLink (CN q.1) q.2.1 (CN q.2.2)).before a0 Z = true) ∧
  (∀ k ∈ newT, (Cond.instantiable (CN k) (KSZ k)).before a0 Z = true ∧ (Cond.initialized (CN k)).before a0 Z = true) ∧
  (∀ q ∈ castP, (Cond.castable (CN q.1) (CN q.2)).before a0 Z = true) ∧
  (∀ q ∈ isOIT, (Cond.methodLink (CN q.1) q.2 Lib.objectInit).before a0 Z = true) ∧ (Cond.instanceMethod Lib.objectInit).before a0 Z = true ∧ (Cond.code Lib.objectInit ⟨#[0xb1]⟩ 1 none).before a0 Z = true
theorem FC_mem {k f : Nat} (hf : f ∈ FC k) : ∃ fs, (k, fs) ∈ FCL ∧ FC k = fs := by
  unfold FC at hf ⊢
  cases ha : alk FCL k with
  | none => rw [ha] at hf; exact absurd hf List.not_mem_nil
  | some fs => exact ⟨fs, alk_mem ha, rfl⟩
theorem TabOK.lay (TF : TabOK Z a0) {k f : Nat} (hf : f ∈ FC k) : LOK Z a0 k f := by
  obtain ⟨fs, h1, h2⟩ := FC_mem hf
  rw [h2] at hf
  exact TF.2.1 _ h1 f hf
theorem anyN {L : List Nat} {a : Nat} (h : (L.any fun k => Nat.beq k a) = true) : a ∈ L := by
  obtain ⟨q, hq, e⟩ := List.any_eq_true.mp h
  rw [← Nat.eq_of_beq_eq_true e]; exact hq
theorem nf_ok {x : Nat} {q : Nat × Value} (hq : q ∈ NF x) : q.1 ∈ FC x ∧ q.2 = defaultValue (FTy q.1) := by
  have H := nfl_ok
  unfold NF at hq
  cases ha : alk NFL x with
  | none => rw [ha] at hq; exact absurd hq List.not_mem_nil
  | some fs =>
    rw [ha] at hq
    have h1 := List.all_eq_true.mp (List.all_eq_true.mp H _ (alk_mem ha)) q hq
    rw [Bool.and_eq_true] at h1
    exact ⟨anyN h1.1, of_decide_eq_true h1.2⟩
theorem nm_ne {k f g : Nat} (hf : f ∈ FC k) (hg : g ∈ FC k) (q : ¬ f = g) : (FN f).2.1 ≠ (FN g).2.1 := by
  have H : (FCL.all fun r => r.2.all fun f => r.2.all fun g => Nat.beq f g || decide ((FN f).2.1 ≠ (FN g).2.1)) = true := fcl_ne
  obtain ⟨fs, e1, e2⟩ := FC_mem hf
  rw [e2] at hf hg
  have h1 := List.all_eq_true.mp H _ e1
  have h2 := List.all_eq_true.mp (List.all_eq_true.mp h1 f hf) g hg
  rw [Bool.or_eq_true] at h2
  rcases h2 with h2 | h2
  · exact absurd (Nat.eq_of_beq_eq_true h2) q
  · exact of_decide_eq_true h2
/-- what the abstract cell (k, fs) says of the address a -/
def COK (ρ : Nat → Nat) (ι : Nat → Int32) (Z : State) (h : Heap) (a : Addr) (k : Nat) (fs : List (Nat × Value)) : Prop :=
  (kd k = 0 ∧ Exa Z h a (CN k) ∧ ∀ q ∈ fs, q.1 ∈ FC k ∧ Fld Z h a (FN q.1).1 (FN q.1).2.1 (FN q.1).2.2 (den ρ ι q.2)) ∨
  (kd k = 1 ∧ ∃ (cK : ClassId) (cell : Cell), Jvm.LamKit.Made Z (LH k) (LSh k) cK ∧ h[a]? = some cell ∧ cell.cls = cK ∧ cell.vm = .none ∧ ∀ q ∈ fs, cell.slots[q.1]? = some (den ρ ι q.2))
theorem COK.ext {a : Addr} {k : Nat} {fs : List (Nat × Value)} (H : COK ρ ι Z h a k fs) (E : Ext h h') : COK ρ ι Z h' a k fs := by
  rcases H with ⟨h0, h1, h2⟩ | ⟨h0, cK, cell, h1, h2, h3⟩
  · exact Or.inl ⟨h0, h1.ext E, fun q hq => ⟨(h2 q hq).1, (h2 q hq).2.ext E⟩⟩
  · exact Or.inr ⟨h0, cK, cell, h1, E.2 _ _ h2, h3⟩
theorem COK.wr {a b : Addr} {k sl : Nat} {v : Value} {fs : List (Nat × Value)} (H : COK ρ ι Z h a k fs) (W : Wr h h' b sl v) (q : ¬ a = b) : COK ρ ι Z h' a k fs := by
  rcases H with ⟨h0, h1, h2⟩ | ⟨h0, cK, cell, h1, h2, h3⟩
  · exact Or.inl ⟨h0, Exa.wr W h1, fun r hr => ⟨(h2 r hr).1, Fld.other W (h2 r hr).2 (Or.inl q)⟩⟩
  · refine Or.inr ⟨h0, cK, cell, h1, ?_, h3⟩
    obtain ⟨cl, -, -, -, rfl⟩ := W
    rw [Array.getElem?_setIfInBounds_ne (Ne.symm q)]
    exact h2
/-- the abstract heap H says what is of the heap h -/
def SH (ρ : Nat → Nat) (ι : Nat → Int32) (np n0 : Nat) (Z : State) (H : AH) (h : Heap) : Prop :=
  ρ H.length = h.size ∧ np ≤ H.length ∧ (∀ k q, nth H k = some q → COK ρ ι Z h (ρ k) q.1 q.2) ∧ ∀ (a : Addr) (c : Cell), a < n0 → Z.heap[a]? = some c → h[a]? = some c
theorem SH.push (HR : RhoOK ρ np n0) {H : AH} {k : Nat} {fs : List (Nat × Value)} (G : SH ρ ι np n0 Z H h) (E : Ext h h') (es : h'.size = h.size + 1) (C : COK ρ ι Z h' h.size k fs) : SH ρ ι np n0 Z (H ++ [(k, fs)]) h' := by
  obtain ⟨g1, g2, g3, g4⟩ := G
  refine ⟨?_, ?_, fun j q hq => ?_, fun a c ha hc => E.2 _ _ (g4 a c ha hc)⟩
  · have h1 := HR.2 H.length g2
    have h2 := HR.2 (H ++ [(k, fs)]).length (by simp; omega)
    simp only [List.length_append, List.length_singleton] at h2 ⊢
    omega
  · simp; omega
  · rw [nth_eq] at hq
    by_cases hj : j < H.length
    · rw [List.getElem?_append_left hj, ← nth_eq] at hq
      exact (g3 j q hq).ext E
    · by_cases hj' : j = H.length
      · subst hj'
        simp at hq
        subst hq
        rw [g1]; exact C
      · rw [List.getElem?_eq_none (by simp; omega)] at hq
        cases hq
theorem SH.put (HR : RhoOK ρ np n0) {H : AH} {j k x : Nat} {v : Value} {fs : List (Nat × Value)} (TF : TabOK Z a0) (G : SH ρ ι np n0 Z H h) (hj : nth H j = some (k, fs)) (hk : kd k = 0) (hp : np ≤ j) {w0 : Value} (hxf : (x, w0) ∈ fs) (W : Wr h h' (ρ j) (Jvm.RoadKit.slotOf Z (FN x).1 (FN x).2.1 (FN x).2.2) (den ρ ι v)) : SH ρ ι np n0 Z (setN H j (k, up fs x v)) h' := by
  obtain ⟨g1, g2, g3, g4⟩ := G
  refine ⟨by rw [setN_eq, List.length_set, W.size]; exact g1, by rw [setN_eq, List.length_set]; exact g2, fun i q hq => ?_, fun a c ha hc => ?_⟩
  · rw [setN_eq, nth_eq] at hq
    by_cases hi : i = j
    · subst hi
      have hl : i < H.length := by rw [nth_eq] at hj; exact (List.getElem?_eq_some_iff.mp hj).1
      rw [List.getElem?_set_self hl] at hq
      cases hq
      rcases g3 i _ hj with ⟨h0, h1, h2⟩ | ⟨h0, -⟩
      · refine Or.inl ⟨h0, Exa.wr W h1, fun r hr => ?_⟩
        rcases up_mem hr with ⟨rfl, w, hw⟩ | ⟨hr, hne⟩
        · exact ⟨(h2 _ hw).1, Fld.same W (h2 _ hw).2⟩
        · have hrx := (h2 _ hr).1
          have hxx := (h2 _ hxf).1
          have L1 := TF.lay hrx
          have L2 := TF.lay hxx
          exact ⟨hrx, Fld.other W (h2 _ hr).2 (Or.inr (slot_ne L1.laid L2.laid (nm_ne hrx hxx hne) L1.2.1 L2.2.1))⟩
      · rw [hk] at h0; cases h0
    · rw [List.getElem?_set_ne (Ne.symm hi), ← nth_eq] at hq
      exact (g3 i q hq).wr W (HR.ne hi (Or.inr hp))
  · obtain ⟨cl, -, -, -, rfl⟩ := W
    have hne : ¬ ρ j = a := fun z => by
      have h1 := HR.2 j hp
      rw [z] at h1
      exact Nat.not_lt.mpr (Nat.le_add_right n0 (j - np)) (h1 ▸ ha)
    rw [Array.getElem?_setIfInBounds_ne hne]
    exact g4 a c ha hc
theorem newOs (X : Stand p l e R s m args below meth c T locs cells slots) (hx : p.tables.exec = Jvm.exec) (hZ : Z.Warmed39 s.vm) {own C : String} {index n : Nat} (hown : s.vm.findClass own = some m.cls) (w : (Cond.classLink own index C).before a0 Z = true) (wi : (Cond.instantiable C n).before a0 Z = true) (wz : (Cond.initialized C).before a0 Z = true)
    {g : JFrame} (hg : g.method = m) (hd : decode c.code g.pc = .ok (.new index, 3)) (hc : cells + 1 ≤ R.cells) (hl : slots + n ≤ R.slots) :
    ∃ T' : State, Stand p l e R s m args below meth c T' locs (cells + 1) (slots + n) ∧ T'.heap.size = T.heap.size + 1 ∧ Ext T.heap T'.heap ∧ Exa Z T'.heap T.heap.size C ∧ (∀ {O nm d : String} {ty : FieldType}, Laid Z a0 C O nm d → parseFieldDescriptor d = some ty → Fld Z T'.heap T.heap.size O nm d (defaultValue ty)) ∧
      ∀ target, Steps p.tables e below (T'.setTop { g with pc := g.pc + 3, stack := .ref T.heap.size :: g.stack }) target → Steps p.tables e below (T.setTop g) target := by
  obtain ⟨vm', cC, kC, h1, h2, h3, h4, X', st⟩ := X.newCold hx hown (mvT hZ w) (mvT hZ wi) (mvT hZ wz) hg hd hc hl
  rw [hZ.alike.findClass] at h1
  obtain ⟨kZ, z1, -⟩ := Vm.findClass_spec h1
  obtain ⟨k', z2, z3⟩ := hZ.alike.2.2 _ _ z1
  cases h2.symm.trans z2
  have ei : kC.instanceTypes = kZ.instanceTypes := by rw [z3]
  have hN : (T.heap.push { cls := cC, slots := kC.instanceTypes.map defaultValue, vm := .none })[T.heap.size]? = some { cls := cC, slots := kC.instanceTypes.map defaultValue, vm := .none } := by simp
  refine ⟨_, X', by show (T.heap.push _).size = _; simp, ⟨by show T.heap.size ≤ (T.heap.push _).size; simp, fun a c h => ?_⟩, ⟨_, kZ, hN, h1, z1, rfl, fun _ => by simp [ei]⟩, fun {O nm d ty} L ht => ?_, st⟩
  · show (T.heap.push _)[a]? = _
    rw [Array.getElem?_push_lt (Array.getElem?_eq_some_iff.mp h).1]; exact (Array.getElem?_eq_getElem _).symm.trans h
  · obtain ⟨c1, k1, cf, kf, i, f, a1, a2, a3, a4, a5, a6, -⟩ := L.spec
    cases h1.symm.trans a1
    cases z1.symm.trans a2
    exact ⟨_, cf, kf, i, f, hN, a3, a4, by simp, rfl, a5, by simp [ei, a6, (State.fieldFound?_type a3 ht).2]⟩
theorem catS_ok (S : List Value) : ((denK ρ ι S).map fun v => v.category).sum = catS S := by
  induction S with
  | nil => rfl
  | cons v t ih =>
    have hv : (den ρ ι v).category = (bif c1 v then 1 else 2) := by cases v <;> rfl
    show (den ρ ι v).category + ((denK ρ ι t).map fun v => v.category).sum = _
    rw [ih, hv]; rfl
/-- the words of the sites -/
abbrev SiteOK (Z : State) (a0 : Array Value) : Prop := (∀ q ∈ siteT, (Cond.lambdaSite (MN q.1) q.2.1 q.2.2.1 (LSh q.2.2.2)).before a0 Z = true ∧ LH q.2.2.2 = (MN q.1).cls ∧ (∃ C, (LSh q.2.2.2).captured = [.object C]) ∧ Jvm.LamKit.capOK (LSh q.2.2.2) (LH q.2.2.2) 15 0 = true) ∧ (Cond.instantiable "java/lang/Object" 0).before a0 Z = true
theorem site_ok (SF : SiteOK Z a0) (X : Stand p l e R s m args below meth c T locs cells slots) (hx : p.tables.exec = Jvm.exec) (hZ : Z.Warmed39 s.vm) {mi pc idx x : Nat} (hnamed : s.methodNamed? (MN mi) = some m) {L : List Slot} (hsz : L.length = c.maxLocals) (hd : decode c.code pc = .ok (.invokedynamic idx, 5)) (hq : (mi, pc, idx, x) ∈ siteT)
    {v : Value} {S : List Value} (hv : isR v = true) (hw : ((denK ρ ι (v :: S)).map fun v => v.category).sum + 3072 ≤ R.locals) (r1 : cells + 1 ≤ R.cells) (r2 : slots + 1 ≤ R.slots) :
    ∃ cK : ClassId, Jvm.LamKit.Made Z (LH x) (LSh x) cK ∧ ∃ T' : State, Stand p l e R s m args below meth c T' locs (cells + 1) (slots + 1) ∧ T'.heap = T.heap.push { cls := cK, slots := #[den ρ ι v], vm := .none } ∧ T'.heap.size = T.heap.size + 1 ∧
      ∀ target, Steps p.tables e below (T'.setTop (mkF m (pc + 5) (denL ρ ι L) (.ref T.heap.size :: denK ρ ι S))) target → Steps p.tables e below (T.setTop (mkF m pc (denL ρ ι L) (denK ρ ι (v :: S)))) target := by
  obtain ⟨hsite, hLH, ⟨C, hcap⟩, hcok⟩ := SF.1 _ hq
  dsimp only at hsite hLH hcap hcok
  obtain ⟨cK, one, hat⟩ := Cond.lambdaSite_spec hsite
  obtain ⟨mD, kD, cfD, i0, p0, lk, hmD, hkD, hcfD, hsh, -, hfind, hmade, hcan, hl⟩ := State.lambdaAt?_spec hat
  have q0 : (Z.setVm s.vm).methodNamed? (MN mi) = some mD := by rw [State.methodNamed?_setVm hZ.alike]; exact hmD
  have q1 : s.methodNamed? (MN mi) = some mD := q0
  cases hnamed.symm.trans q1
  obtain ⟨kn, hkn, hnameD⟩ := className_of_methodNamed hmD
  cases hkD.symm.trans hkn
  rw [← hLH] at hnameD
  obtain ⟨kD', hkD', heD⟩ := hZ.alike.2.2 _ _ hkD
  rcases hl with ⟨a, cell, -, -, hc0, -⟩ | ⟨rfl, -, -⟩
  · rw [hcap] at hc0; cases hc0
  · obtain ⟨b, nt, desc, site, h1, h2, h3, h4⟩ := Lambda.shapeOf?_site hsh
    obtain ⟨kc, f, hkc, hkind, hty, -⟩ := Jvm.LamKit.made_cap hcok hkD hnameD hmade (Jvm.LamKit.noFields SF.2 (State.WarmedH.refl Z))
    obtain ⟨kc', hkc', hec⟩ := hZ.alike.2.2 _ _ hkc
    have hty' : kc'.instanceTypes = #[.object C] := by rw [hec, hty, hcap]
    have hkind' : kc'.kind = .ordinary := by rw [hec]; exact hkind
    have hnar : narrow (.object C) (den ρ ι v) = den ρ ι v ∧ fits (.object C) (den ρ ι v) = true := by cases v <;> simp [isR] at hv <;> exact ⟨rfl, rfl⟩
    have hz : ((kc'.instanceTypes.toList.zip [den ρ ι v]).map fun (t, v) => narrow t v) = [den ρ ι v] := by rw [hty']; show [narrow _ _] = _; rw [hnar.1]
    have hlw : e.platform.lambdaLinkWords = 3072 := by rw [X.admits.platform]
    have q := X.lambdaMakes hx (g := mkF m pc (denL ρ ι L) (denK ρ ι (v :: S))) rfl (by rw [denL_size]; exact hsz) hd (vals := [den ρ ι v]) (rest := denK ρ ι S) hkD' (by rw [heD]; exact hfind) (by rw [heD]; exact hcfD) h1 h2 (parseLong_of_parse h3) (by rw [h4, hcap]; rfl) rfl hkc' (by rw [hlw]; show 2 * 0 + ((denK ρ ι (v :: S)).map fun v => v.category).sum + 3072 ≤ _; omega) r1 (by rw [hz]; exact r2)
      (fun i w hw' => by
        rw [hz] at hw'
        cases i with
        | zero =>
          have hw2 : den ρ ι v = w := by simpa using hw'
          subst hw2
          simp [State.fitsSlot, State.slotType?, hkc', hkind', hty', hnar.2]
        | succ i => simp at hw')
    rw [hz] at q
    refine ⟨cK, ⟨_, kD, hkD, hnameD, hmade, hcan⟩, _, q.1, rfl, ?_, q.2⟩
    show (T.heap.push _).size = _
    simp
/-- is the row's number what the entry names? -/
def resH (mi x pc : Nat) (i : Instr) : Bool := match i with
  | .getfield idx => fresT.any fun q => Nat.beq q.1 (MO mi) && Nat.beq q.2.1 idx && Nat.beq q.2.2 x
  | .putfield idx => fresT.any fun q => Nat.beq q.1 (MO mi) && Nat.beq q.2.1 idx && Nat.beq q.2.2 x
  | .new idx => newOK x && cresT.any fun q => Nat.beq q.1 (MO mi) && Nat.beq q.2.1 idx && Nat.beq q.2.2 x
  | .checkcast idx => cresT.any fun q => Nat.beq q.1 (MO mi) && Nat.beq q.2.1 idx && Nat.beq q.2.2 x
  | .instanceof idx => cresT.any fun q => Nat.beq q.1 (MO mi) && Nat.beq q.2.1 idx && Nat.beq q.2.2 x
  | .invokespecial idx => isOIT.any fun q => Nat.beq q.1 (MO mi) && Nat.beq q.2 idx
  | .invokedynamic idx => siteT.any fun q => Nat.beq q.1 mi && Nat.beq q.2.1 pc && Nat.beq q.2.2.1 idx && Nat.beq q.2.2.2 x
  | _ => false
theorem any3 {L : List (Nat × Nat × Nat)} {a b x : Nat} (h : (L.any fun q => Nat.beq q.1 a && Nat.beq q.2.1 b && Nat.beq q.2.2 x) = true) : (a, b, x) ∈ L := by
  obtain ⟨q, hq, e⟩ := List.any_eq_true.mp h
  simp only [Bool.and_eq_true] at e
  obtain ⟨⟨e1, e2⟩, e3⟩ := e
  obtain ⟨q1, q2, q3⟩ := q
  cases Nat.eq_of_beq_eq_true e1; cases Nat.eq_of_beq_eq_true e2; cases Nat.eq_of_beq_eq_true e3
  exact hq
theorem any2 {L : List (Nat × Nat)} {a b : Nat} (h : (L.any fun q => Nat.beq q.1 a && Nat.beq q.2 b) = true) : (a, b) ∈ L := by
  obtain ⟨q, hq, e⟩ := List.any_eq_true.mp h
  simp only [Bool.and_eq_true] at e
  obtain ⟨e1, e2⟩ := e
  obtain ⟨q1, q2⟩ := q
  cases Nat.eq_of_beq_eq_true e1; cases Nat.eq_of_beq_eq_true e2
  exact hq
theorem any4 {L : List (Nat × Nat × Nat × Nat)} {a b d x : Nat} (h : (L.any fun q => Nat.beq q.1 a && Nat.beq q.2.1 b && Nat.beq q.2.2.1 d && Nat.beq q.2.2.2 x) = true) : (a, b, d, x) ∈ L := by
  obtain ⟨q, hq, e⟩ := List.any_eq_true.mp h
  simp only [Bool.and_eq_true] at e
  obtain ⟨⟨⟨e1, e2⟩, e3⟩, e4⟩ := e
  obtain ⟨q1, q2, q3, q4⟩ := q
  cases Nat.eq_of_beq_eq_true e1; cases Nat.eq_of_beq_eq_true e2; cases Nat.eq_of_beq_eq_true e3; cases Nat.eq_of_beq_eq_true e4
  exact hq
theorem castT_mem {j k : Nat} (h : castT j k = true) (q : Nat.beq j k = false) : (j, k) ∈ castP := by
  unfold castT at h
  rw [q, Bool.false_or] at h
  exact any2 h
theorem kd0 {k : Nat} (h : Nat.beq (kd k) 0 = true) : kd k = 0 := Nat.eq_of_beq_eq_true h
/-- what a step of the heap leaves behind -/
def After (p : Program) (l : Launch) (e : Env) (R : Room) (s : State) (m : MethodId) (args : Array Value) (below : List Frame) (meth : Method) (c : Code) (ρ : Nat → Nat) (ι : Nat → Int32) (np n0 : Nat) (Z : State) (T' : State) (locs' : List Loc) (cells slots : Nat) (H : AH) : Prop :=
  Stand p l e R s m args below meth c T' locs' cells slots ∧ SH ρ ι np n0 Z H T'.heap ∧ ∀ y ∈ locs', n0 ≤ y.base
theorem hst_ok (HR : RhoOK ρ np n0) (TF : TabOK Z a0) (SF : SiteOK Z a0) (X : Stand p l e R s m args below meth c T locs cells slots) (hx : p.tables.exec = Jvm.exec) (hZ : Z.Warmed39 s.vm) {mi : Nat} (hown : s.vm.findClass (CN (MO mi)) = some m.cls) (hnm : MI mi = true → meth.name = "<init>") (hnamed : s.methodNamed? (MN mi) = some m)
    {L : List Slot} {S S' : List Value} {H H' : AH} {x pc n dc ds fr lc : Nat} {i : Instr} (hsz : L.length = c.maxLocals) (G : SH ρ ι np n0 Z H T.heap) (hN : ∀ y ∈ locs, n0 ≤ y.base) (hd : decode c.code pc = .ok (i, n)) (hr : resH mi x pc i = true) (hh : hst np mi x i n S H = some (S', H', dc, ds, fr, lc))
    (r1 : cells + dc ≤ R.cells) (r2 : slots + ds ≤ R.slots) (r3 : fr ≤ R.frames) (r4 : lc ≤ R.locals)
    (k : ∀ (T' : State) (locs' : List Loc), After p l e R s m args below meth c ρ ι np n0 Z T' locs' (cells + dc) (slots + ds) H' → Owes p e below F (T'.setTop (mkF m (pc + n) (denL ρ ι L) (denK ρ ι S')))) : Owes p e below F (T.setTop (mkF m pc (denL ρ ι L) (denK ρ ι S))) := by
  unfold hst at hh
  split at hh
  · rename_i idx
    split at hh
    · rename_i j S1
      split at hh
      · rename_i c0 fs hj
        cases hb : Nat.beq (kd c0) 0 with
        | false => simp [hb] at hh
        | true =>
          simp only [hb, cond_true] at hh
          split at hh
          · rename_i v hv
            cases hh
            obtain ⟨R0, host, w, via⟩ := TF.1 _ (any3 hr)
            rcases G.2.2.1 _ _ hj with ⟨-, -, h2⟩ | ⟨h0, -⟩
            · obtain ⟨T', X', e', st⟩ := getF X hx hZ hown w via rfl (h2 _ (alk_mem hv)).2 (g := mkF m pc (denL ρ ι L) (.ref (ρ j) :: denK ρ ι S1)) rfl rfl hd
              exact (k T' locs ⟨X', by rw [e']; exact G, hN⟩).go st
            · rw [kd0 hb] at h0; cases h0
          · cases hh
      · cases hh
    · cases hh
  · rename_i idx
    split at hh
    · rename_i v j S1
      split at hh
      · rename_i c0 fs hj
        cases hb : (Nat.beq (kd c0) 0 && Nat.ble np j && (alk fs x).isSome && fitv (FTy x) v && (!FFin x || (MI mi && Nat.beq (FO x) (MO mi)))) with
        | false => simp [hb] at hh
        | true =>
          simp only [hb, cond_true, upK_eq, setK_eq] at hh
          cases hh
          simp only [Bool.and_eq_true] at hb
          obtain ⟨⟨⟨⟨b1, b2⟩, b3⟩, b4⟩, b5⟩ := hb
          obtain ⟨w0, hw0⟩ := Option.isSome_iff_exists.mp b3
          obtain ⟨R0, host, w, via⟩ := TF.1 _ (any3 hr)
          rcases G.2.2.1 _ _ hj with ⟨-, h1, h2⟩ | ⟨h0, -⟩
          · have hq := h2 _ (alk_mem hw0)
            have LK := TF.lay hq.1
            refine Owes.putF X hx hZ hown w via rfl hq.2 h1 ?_ LK.2.2.2 LK.2.1 (fitv_ok b4).1 (fitv_ok b4).2 hd ?_
            · rcases LK.1 with ⟨f1, f2⟩ | ⟨f1, f2⟩
              · exact Or.inl f2
              · rw [f1] at b5
                simp only [Bool.not_true, Bool.false_or, Bool.and_eq_true] at b5
                exact Or.inr ⟨f2, by rw [← LK.2.2.1, Nat.eq_of_beq_eq_true b5.2], hnm b5.1⟩
            · intro T' h' X' e' W
              refine k T' _ ⟨X', by rw [e']; exact G.put HR TF hj (kd0 b1) (Nat.le_of_ble_eq_true b2) (alk_mem hw0) W, fun y hy => ?_⟩
              rcases List.mem_append.mp hy with hy | hy
              · exact hN y hy
              · rw [List.mem_singleton.mp hy]
                show n0 ≤ ρ j
                have := HR.2 j (Nat.le_of_ble_eq_true b2); omega
          · rw [kd0 b1] at h0; cases h0
      · cases hh
    · cases hh
  · rename_i idx
    cases hb : Nat.beq (kd x) 0 with
    | false => simp [hb] at hh
    | true =>
      simp only [hb, cond_true, appK_eq] at hh
      cases hh
      have hr' : (newOK x && cresT.any fun q => Nat.beq q.1 (MO mi) && Nat.beq q.2.1 idx && Nat.beq q.2.2 x) = true := hr
      rw [Bool.and_eq_true] at hr'
      have w := TF.2.2.1 _ (any3 hr'.2)
      have w2 := TF.2.2.2.1 x (anyN hr'.1)
      obtain ⟨T', X', es, E, A, D, st⟩ := newOs X hx hZ hown w w2.1 w2.2 (g := mkF m pc (denL ρ ι L) (denK ρ ι S)) rfl hd r1 r2
      have e0 : den ρ ι (.ref H.length) = .ref T.heap.size := by show Value.ref (ρ H.length) = _; rw [G.1]
      have kk := k T' locs ⟨X', G.push HR E es (Or.inl ⟨kd0 hb, A, fun q hq => ?_⟩), hN⟩
      · rw [show denK ρ ι (.ref H.length :: S) = den ρ ι (.ref H.length) :: denK ρ ι S from rfl, e0] at kk
        exact kk.go st
      · obtain ⟨q1, q2⟩ := nf_ok hq
        refine ⟨q1, ?_⟩
        have LK := TF.lay q1
        rw [q2, show den ρ ι (defaultValue (FTy q.1)) = defaultValue (FTy q.1) from by cases FTy q.1 <;> rfl]
        exact D LK.laid LK.2.1
  · rename_i idx
    split at hh
    · rename_i S1
      cases hh
      exact (k T locs ⟨X, G, hN⟩).go fun t q => X.checkcastNull hx (g := mkF m pc (denL ρ ι L) (.null :: denK ρ ι S1)) rfl rfl hd t q
    · rename_i j S1
      split at hh
      · rename_i c0 fs hj
        cases hb : (Nat.beq (kd c0) 0 && castT c0 x) with
        | false => simp [hb] at hh
        | true =>
          simp only [hb, cond_true] at hh
          cases hh
          rw [Bool.and_eq_true] at hb
          have w := TF.2.2.1 _ (any3 hr)
          rcases G.2.2.1 _ _ hj with ⟨-, h1, h2⟩ | ⟨h0, -⟩
          · have hI : Ins Z T.heap (ρ j) (CN x) true := by
              cases hq : Nat.beq c0 x with
              | true => rw [← Nat.eq_of_beq_eq_true hq]; exact Ins.self h1
              | false => exact Ins.of_exa h1 (TF.2.2.2.2.1 _ (castT_mem hb.2 hq))
            obtain ⟨T', X', e', st⟩ := castY X hx hZ hown w rfl hI (g := mkF m pc (denL ρ ι L) (.ref (ρ j) :: denK ρ ι S1)) rfl rfl hd
            exact (k T' locs ⟨X', by rw [e']; exact G, hN⟩).go st
          · rw [kd0 hb.1] at h0; cases h0
      · cases hh
    · cases hh
  · rename_i idx
    split at hh
    · rename_i j S1
      split at hh
      · rename_i c0 fs hj
        cases hb : (Nat.beq (kd c0) 0 && castT c0 x) with
        | false => simp [hb] at hh
        | true =>
          simp only [hb, cond_true] at hh
          cases hh
          rw [Bool.and_eq_true] at hb
          have w := TF.2.2.1 _ (any3 hr)
          rcases G.2.2.1 _ _ hj with ⟨-, h1, h2⟩ | ⟨h0, -⟩
          · have hI : Ins Z T.heap (ρ j) (CN x) true := by
              cases hq : Nat.beq c0 x with
              | true => rw [← Nat.eq_of_beq_eq_true hq]; exact Ins.self h1
              | false => exact Ins.of_exa h1 (TF.2.2.2.2.1 _ (castT_mem hb.2 hq))
            obtain ⟨T', X', e', st⟩ := instY X hx hZ hown w rfl hI (g := mkF m pc (denL ρ ι L) (.ref (ρ j) :: denK ρ ι S1)) rfl rfl hd
            exact (k T' locs ⟨X', by rw [e']; exact G, hN⟩).go st
          · rw [kd0 hb.1] at h0; cases h0
      · cases hh
    · cases hh
  · rename_i idx
    split at hh
    · rename_i v S1
      cases hb : (isR v && Nat.beq (kd x) 1) with
      | false => simp [hb] at hh
      | true =>
        simp only [hb, cond_true, appK_eq] at hh
        cases hh
        rw [Bool.and_eq_true] at hb
        obtain ⟨cK, hmd, T', X', eT', es, st⟩ := site_ok SF X hx hZ hnamed hsz hd (any4 hr) (v := v) (S := S1) (ρ := ρ) (ι := ι) (L := L) hb.1 (by rw [catS_ok]; exact r4) r1 r2
        have E : Ext T.heap T'.heap := ⟨by rw [es]; omega, fun a c q => by rw [eT', Array.getElem?_push_lt (Array.getElem?_eq_some_iff.mp q).1]; exact (Array.getElem?_eq_getElem _).symm.trans q⟩
        have e0 : den ρ ι (.ref H.length) = .ref T.heap.size := by show Value.ref (ρ H.length) = _; rw [G.1]
        have kk := k T' locs ⟨X', G.push HR E es (Or.inr ⟨Nat.eq_of_beq_eq_true hb.2, cK, { cls := cK, slots := #[den ρ ι v], vm := .none }, hmd, by rw [eT']; simp, rfl, rfl, fun q hq => ?_⟩), hN⟩
        · rw [show denK ρ ι (.ref H.length :: S1) = den ρ ι (.ref H.length) :: denK ρ ι S1 from rfl, e0] at kk
          exact kk.go st
        · rw [List.mem_singleton.mp hq]; rfl
    · cases hh
  · rename_i idx
    split at hh
    · rename_i j S1
      cases hh
      have w := TF.2.2.2.2.2.1 _ (any2 hr)
      refine Owes.initO X hx hZ hown w TF.2.2.2.2.2.2.1 TF.2.2.2.2.2.2.2 rfl (by rw [denL_size]; exact hsz) hd r3 (by show ((denK ρ ι S').map fun v => v.category).sum + 12 ≤ _; rw [catS_ok]; exact r4) ?_
      intro T' X' e'
      exact k T' locs ⟨X', by rw [e']; exact G, hN⟩
    · cases hh
  · cases hh
end Rfx3

section Rfx4
variable {p : Program} {l : Launch} {e : Env} {R : Room} {s : State} {m : MethodId} {args : Array Value} {below : List Frame} {meth : Method} {c : Code} {T : State} {locs : List Loc} {cells slots : Nat} {Z : State} {a0 : Array Value} {h h' : Heap}
variable {F : Outcome → State → Prop} {ρ : Nat → Nat} {ι : Nat → Int32} {np n0 : Nat}
theorem OMet.of2 {Q : Option Value → Heap → List Loc → Prop} {y : MethodName} {bytes : ByteArray} {maxL : Nat} {ret : Option FieldType} {ws : List Jvm.Cond} {rm : Room} {as' : Array Value} {h0 : Heap} (hpl : plainFor y = true) {Ls : Array Slot} (ef : ∀ m, entryFrame m as' maxL = mkF m 0 Ls [])
    (body : ∀ (p : Program) (e : Env) (s : State) (m : MethodId) (below : List Frame) (meth : Method) (c : Code) (s₁ : State), p.tables.exec = Jvm.exec → c.code = bytes → c.maxLocals = maxL → s.methodNamed? y = some m → meth.name = y.name → meth.sig.returnType = ret → meth.locks = false → Z.Warmed39 s.vm →
      Stand p l e rm s m as' below meth c s₁ [] 0 0 → s₁.heap = h0 → Owes p e below (EndN s Q rm.cells rm.slots) (s₁.setTop (mkF m 0 Ls []))) : OMet l y bytes maxL ret ws rm as' Z h0 Q := by
  refine MetFree.of_bodySF hpl hisR ?_
  intro p e s m args below meth c s₁ Bd hml0 hP hK
  obtain ⟨rfl, hZ, hh⟩ := hP
  have hlk : meth.locks = false := BodyLoose.notSynchronized Bd
  have X0 : Stand p l e rm s m args below meth c s₁ [] 0 0 := Stand.of_body Bd
  have e0 : s₁.heap = h0 := by rw [← hh, Bd.state]; rfl
  obtain ⟨s₂, o, h1, h2, h3, h4⟩ := body p e s m below meth c s₁ Bd.exec Bd.bytes hml0 Bd.named (name_of_methodNamed Bd.named Bd.method).1 Bd.returns hlk hZ X0 e0
  exact ⟨s₂, o, castTop (ef m) h1, h2, h3, h4⟩
/-- a method of an interface by the contract of the body that the receiver selects -/
theorem Owes.callI (X : Stand p l e R s m args below meth c T locs cells slots) (hx : p.tables.exec = Jvm.exec) (hZ : Z.Warmed39 s.vm) {own CR : String} {index count : Nat} {y z : MethodName} {bytes : ByteArray} {maxL : Nat} {ret : Option FieldType} {rm : Room}
    (hown : s.vm.findClass own = some m.cls) (w1 : (Cond.methodLink own index y).before a0 Z = true) (w2 : (Cond.declares y).before a0 Z = true) (wf : (Cond.interfaceMethod y.cls y.cls y.name y.desc).before a0 Z = true) (w5 : (Cond.selects CR y z).before a0 Z = true) (w6 : (Cond.instanceMethod z).before a0 Z = true)
    (wp : (Cond.publicMethod z).before a0 Z = true) (wu : (Cond.unhidden CR y.name y.desc).before a0 Z = true) (wk : (Cond.castable CR y.cls).before a0 Z = true) (w3 : (Cond.initialized z.cls).before a0 Z = true) (w4 : (Cond.code z bytes maxL ret).before a0 Z = true)
    (hy : y.cls ≠ "java/lang/invoke/MethodHandle" ∧ y.cls ≠ "java/lang/invoke/VarHandle") {pc : Nat} {Ls : Array Slot} {a : Addr} {argsL rest : List Value} {Q' : Option Value → Heap → List Loc → Prop} (M : OMet l z bytes maxL ret [] rm (.ref a :: argsL).toArray Z h Q') (eT : T.heap = h) (E : Exa Z h a CR) (hsize : Ls.size = c.maxLocals)
    {ps : List FieldType} {rt : Option FieldType} (hpd : parseMethodDescriptor y.desc = some ⟨ps, rt⟩) (hln : argsL.length = ps.length) {st : List Value} (hst : st = argsL.reverse ++ .ref a :: rest) (hd : decode c.code pc = .ok (.invokeinterface index count, 5))
    (hf : rm.frames + 1 ≤ R.frames) (hl : (rest.map fun v => v.category).sum + (maxL + 11) + rm.locals ≤ R.locals) (hcl : cells + rm.cells ≤ R.cells) (hsl : slots + rm.slots ≤ R.slots)
    (k : ∀ (T' : State) (v : Option Value) (L : List Loc), Stand p l e R s m args below meth c T' (locs ++ L) (cells + rm.cells) (slots + rm.slots) → Q' v T'.heap L → Owes p e below F (T'.setTop (mkF m (pc + 5) Ls (v.toList ++ rest)))) :
    Owes p e below F (T.setTop (mkF m pc Ls st)) := by
  subst hst
  obtain ⟨cq, kq, qa, qb, qc⟩ := isOf hZ eT E
  obtain ⟨v, _, ⟨T3, L3, k3, n3⟩, -, X3, ⟨Lc3, hQ3, l3, y3, z3⟩, st3⟩ := X.interfaceBack hx (xi := y) (y := z) hown (mvT hZ w1) (mvT hZ w2) (mvT hZ wf (by simp [Cond.onTables, Cond.keepsFace, Cond.keeps, Cond.steady, Cond.faceAtom, hy.1, hy.2])) (mvT hZ w5) (mvT hZ w6) (mvT hZ wp) (mvT hZ wu) (mvT hZ wk) hy (backOf (W := (rest.map fun v => v.category).sum) M hZ w4 w3 hf hl) qa qb qc (g := mkF m pc Ls (argsL.reverse ++ .ref a :: rest)) rfl hsize (Steps.refl _) (argsL := argsL) (rest := rest) (lenOf hpd hln) rfl (by show 2 * 0 + _ ≤ _; omega) hd (fun _ _ => ⟨rfl, eT, hcl, hsl⟩)
  dsimp only [Pt.U, Pt.locs, Pt.cells, Pt.slots] at X3 l3 y3 z3 st3 hQ3
  subst l3 y3 z3
  exact (k T3 v Lc3 X3 hQ3).tr st3
theorem privSel {y : MethodName} {n : Nat} (wi : (Cond.instantiable y.cls n).before a0 Z = true) (w2 : (Cond.instanceMethod y).before a0 Z = true) (w6 : (Cond.privateMethod y).before a0 Z = true) (hy : y.cls ≠ "java/lang/invoke/MethodHandle" ∧ y.cls ≠ "java/lang/invoke/VarHandle") : (Cond.selects y.cls y y).before a0 Z = true := by
  obtain ⟨cC, kC, h1, h2, -, h4, -⟩ := Cond.instantiable_spec wi
  rw [Bool.or_eq_false_iff] at h4
  exact Jvm.Stand.selects_self_of_private h1 h2 h4.1 (Cond.privateMethod_at w6) w2 hy
theorem mvMN {own host : String} {y : MethodName} {index : Nat} (hZ : Z.Warmed39 s.vm) (w : (Cond.methodLinkNest own index y host).before a0 Z = true) : (Cond.methodLinkNest own index y host).before args s = true := Cond.methodLinkNest_wide hZ w
/-- a private method of a nest mate by its contract -/
theorem Owes.callPN (X : Stand p l e R s m args below meth c T locs cells slots) (hx : p.tables.exec = Jvm.exec) (hZ : Z.Warmed39 s.vm) {own CR host : String} {index : Nat} {y : MethodName} {bytes : ByteArray} {maxL : Nat} {ret : Option FieldType} {rm : Room}
    (hown : s.vm.findClass own = some m.cls) (w1 : (Cond.methodLinkNest own index y host).before a0 Z = true) (w2 : (Cond.instanceMethod y).before a0 Z = true) (w5 : (Cond.selects y.cls y y).before a0 Z = true) (w6 : (Cond.privateMethod y).before a0 Z = true) (w3 : (Cond.initialized y.cls).before a0 Z = true) (w4 : (Cond.code y bytes maxL ret).before a0 Z = true)
    (hy : y.cls ≠ "java/lang/invoke/MethodHandle" ∧ y.cls ≠ "java/lang/invoke/VarHandle") {pc : Nat} {Ls : Array Slot} {a : Addr} {argsL rest : List Value} {Q' : Option Value → Heap → List Loc → Prop} (M : OMet l y bytes maxL ret [] rm (.ref a :: argsL).toArray Z h Q') (eT : T.heap = h) (E : Exa Z h a CR) (hsize : Ls.size = c.maxLocals)
    {ps : List FieldType} {rt : Option FieldType} (hpd : parseMethodDescriptor y.desc = some ⟨ps, rt⟩) (hln : argsL.length = ps.length) {st : List Value} (hst : st = argsL.reverse ++ .ref a :: rest) (hd : decode c.code pc = .ok (.invokevirtual index, 3))
    (hf : rm.frames + 1 ≤ R.frames) (hl : (rest.map fun v => v.category).sum + (maxL + 11) + rm.locals ≤ R.locals) (hcl : cells + rm.cells ≤ R.cells) (hsl : slots + rm.slots ≤ R.slots)
    (k : ∀ (T' : State) (v : Option Value) (L : List Loc), Stand p l e R s m args below meth c T' (locs ++ L) (cells + rm.cells) (slots + rm.slots) → Q' v T'.heap L → Owes p e below F (T'.setTop (mkF m (pc + 3) Ls (v.toList ++ rest)))) :
    Owes p e below F (T.setTop (mkF m pc Ls st)) := by
  subst hst
  obtain ⟨cq, q1, q2⟩ := E.cell
  have hpriv := Cond.privateMethod_at (mvP hZ w6 (args := #[]))
  obtain ⟨mk, methM, hnamed, hmethM, hstM, habM⟩ := Cond.instanceMethod_spec (mvT (args := #[]) hZ w2)
  obtain ⟨methM', cM, hmethM', -, -, -, -, -, -, hsigM⟩ := Cond.code_spec hnamed (mvT (args := #[]) hZ w4)
  cases hmethM.symm.trans hmethM'
  obtain ⟨c2, r2, m2, -, -, q3, -, kP, hkP, hkPi⟩ := Cond.selects_spec (mvT (args := #[]) hZ w5)
  cases hnamed.symm.trans q3
  have hselP : selectMethod e.platform s.vm cq.cls mk = .method mk := selectMethod_private hmethM (hpriv mk methM hnamed hmethM)
  obtain ⟨vm₁, X₁, hstep₁⟩ := X.invokevirtualNest hx hown (mvMN hZ w1) hnamed hmethM hstM hkP hkPi hy (a := a) (cell := cq) (by rw [eT]; exact q1) q2 hselP hmethM habM hkP hkPi (g := mkF m pc Ls (argsL.reverse ++ .ref a :: rest)) rfl (argsL := argsL) (rest := rest) (lenOf hpd hln _ hsigM) rfl hd
  obtain ⟨v, ⟨T3, L3, k3, n3⟩, X3, ⟨Lc3, hQ3, l3, y3, z3⟩, st3⟩ := (backOf (len := 3) (W := (rest.map fun v => v.category).sum) M hZ w4 w3 hf hl) m meth c ⟨T.setVm vm₁, locs, cells, slots⟩ (mkF m pc Ls rest) (.invokevirtual index) mk (.ref a :: argsL).toArray X₁ rfl hsize hd (by show 2 * 0 + (rest.map fun v => v.category).sum ≤ _; omega) (X₁.named hnamed) ⟨rfl, eT, hcl, hsl⟩
  dsimp only [Pt.U, Pt.locs, Pt.cells, Pt.slots] at X3 l3 y3 z3 st3 hQ3
  subst l3 y3 z3
  exact (k T3 v Lc3 X3 hQ3).tr (hstep₁ _ fun acts => by rw [doInvoke_state]; exact st3)
theorem res39 {vm' : Vm} (hW : Z.Warmed39 vm') {d : ClassId} {k : Class} {i : Nat} {r : Resolved} (hk : Z.vm.classes[d]? = some k) (hr : k.resolved[i]? = some (some r)) : ∃ k', vm'.classes[d]? = some k' ∧ k'.resolved[i]? = some (some r) := by
  obtain ⟨k', h1, -, -, hres, -⟩ := hW.2.2.2 _ _ hk
  refine ⟨k', h1, ?_⟩
  rcases hres i with q | ⟨q, -⟩
  · rw [q]; exact hr
  · rw [hr] at q; cases q
/-- the made method of a function object that holds b: it calls the private method y of b -/
theorem fwdV (X : Stand p l e R s m args below meth c T locs cells slots) (hx : p.tables.exec = Jvm.exec) (hZ : Z.Warmed39 s.vm) {host CB : String} {y : MethodName} {σ : Lambda.Shape} {bytes : ByteArray} {maxL kk : Nat} {ret : Option FieldType} {rm : Room} {Q' : Option Value → Heap → List Loc → Prop}
    (wc : (Cond.code y bytes maxL ret).before a0 Z = true) (wz : (Cond.initialized y.cls).before a0 Z = true) (wm : (Cond.instanceMethod y).before a0 Z = true) (wp : (Cond.privateMethod y).before a0 Z = true) (wi : (Cond.instantiable y.cls kk).before a0 Z = true)
    (hy : y.cls = σ.implClass ∧ y.name = σ.implName ∧ y.desc = σ.implDesc.toString) (hpoly : y.cls ≠ "java/lang/invoke/MethodHandle" ∧ y.cls ≠ "java/lang/invoke/VarHandle") {ps : List FieldType} {rt : Option FieldType} (hpd : parseMethodDescriptor y.desc = some ⟨ps, rt⟩) (hps : ps.length = 1)
    {cK : ClassId} (hmd : Jvm.LamKit.Made Z host σ cK) {fcode : ByteArray} {idx ci fi : Nat} (hok : Jvm.LamKit.fwdOK σ host fcode 2 (some .boolean) idx ci = true) (hcap : Jvm.LamKit.capOK σ host fi 0 = true) (hO : (Cond.instantiable "java/lang/Object" 0).before a0 Z = true)
    (hd0 : decode fcode 0 = .ok (.aload_n 0, 1)) (hd1 : decode fcode 1 = .ok (.getfield fi, 3)) (hd4 : decode fcode 4 = .ok (.aload_n 1, 1)) (hd5 : decode fcode 5 = .ok (.invokevirtual idx, 3)) (hd8 : decode fcode 8 = .ok (.ireturn, 1))
    {g : JFrame} (hg : g.method = m) (hsize : g.locals.size = c.maxLocals) {ig : Instr} {len : Nat} (hdg : decode c.code g.pc = .ok (ig, len)) {a b : Addr} {o : Value} (ho : o.isRef = true) {cell : Cell} (hcell : T.heap[a]? = some cell) (hvm : cell.vm = .none) (hslot : cell.slots[0]? = some (.ref b)) (E : Exa Z T.heap b CB)
    (M : OMet l y bytes maxL ret [] rm #[.ref b, o] Z T.heap Q') (hout : ∀ v h L, Q' v h L → ∃ w, v = some (.int w) ∧ narrow .boolean (.int w) = .int w)
    (hfr : rm.frames + 2 ≤ R.frames) (hlo : 2 * g.monitorRoom + (g.stack.map fun v => v.category).sum + (2 + 11) + ((maxL + 11) + rm.locals) ≤ R.locals) (hcells : cells + rm.cells ≤ R.cells) (hslots : slots + rm.slots ≤ R.slots) :
    ∃ (v : Option Value) (T' : State) (L : List Loc), Stand p l e R s m args below meth c T' (locs ++ L) (cells + rm.cells) (slots + rm.slots) ∧ Q' v T'.heap L ∧
      ∀ acts, Steps p.tables e below (doInvoke e (T.setTop g) acts ⟨cK, 1⟩ #[.ref a, o]).1 (T'.setTop { g with pc := g.pc + len, stack := v.toList ++ g.stack }) := by
  obtain ⟨d, dk, hd, hdn, hmade, -⟩ := hmd
  obtain ⟨y1, y2, y3⟩ := hy
  have hZT : Z.Warmed39 T.vm := wtrans hZ X.warmed
  obtain ⟨mT, methT, hmT, hmethT, hstT, habT⟩ := Cond.instanceMethod_spec wm
  obtain ⟨methT', cT, hmethT', hcT, -, hlocT, -, -, -, hsigT⟩ := Cond.code_spec hmT wc
  cases hmethT.symm.trans hmethT'
  obtain ⟨kT, hkT, hnameT⟩ := className_of_methodNamed hmT
  have hfT := findClass_of_methodNamed hmT
  obtain ⟨kK, tk, file, methk, ck, toy, t, nt, hkK, hpn, hfile, hidx, hnt, hmk, hck, hbytes, hml, hlk, -, hretk, htoy, htk, hlook, hready, hclsR⟩ := Jvm.LamKit.made_static hok hd hdn hmade
  rw [← y1] at htoy
  cases htoy.symm.trans hfT
  cases htk.symm.trans hkT
  have ht : t = mT := by
    have h1 : Z.methodFound? y.cls y.name y.desc = some mT := State.methodFound?_of_named hmT hpoly
    simp only [State.methodFound?, hfT, htk, Option.bind_eq_bind, Option.bind_some] at h1
    rw [← y2, ← y3] at hlook
    rw [hlook] at h1
    exact Option.some.inj h1
  subst ht
  obtain ⟨kK', hkK', heK⟩ := hZT.alike.2.2 _ _ hkK
  have hmk' : T.vm.method? ⟨cK, 1⟩ = some methk := by rw [hZT.alike.method?]; exact hmk
  have hmT' : T.vm.method? t = some methT := by rw [hZT.alike.method?]; exact hmethT
  obtain ⟨tk', htk', hetk⟩ := hZT.alike.2.2 _ _ htk
  have hready' : T.vm.methodReady cK idx t := by
    obtain ⟨k0, q1, q2⟩ := hready
    exact res39 hZT q1 q2
  have hclsR' : T.vm.classReady cK ci t.cls := by
    obtain ⟨k0, q1, q2⟩ := hclsR
    exact res39 hZT q1 q2
  have hsp : ∀ z : Method, signaturePolymorphic tk' z = false := fun z => by
    have hn' : tk'.name = y.cls := by rw [hetk]; exact hnameT
    simp [signaturePolymorphic, hn', hpoly.1, hpoly.2]
  have hni : tk'.isInterface = false := by
    obtain ⟨cC, kC, h1, h2, -, h4, -⟩ := Cond.instantiable_spec wi
    cases hfT.symm.trans h1
    cases htk.symm.trans h2
    rw [Bool.or_eq_false_iff] at h4
    rw [hetk]; exact h4.1
  obtain ⟨kc, fd, hkc, -, -, hfld, hfs, hsl⟩ := Jvm.LamKit.made_cap hcap hd hdn hmade (Jvm.LamKit.noFields hO (State.WarmedH.refl Z))
  have hfld' : T.vm.fieldReady cK fi cK fd := by
    obtain ⟨k0, i0, k1, q1, q2, q3, q4⟩ := hfld
    obtain ⟨k0', r1, r2⟩ := res39 hZT q1 q2
    obtain ⟨k1', r3, r4⟩ := hZT.alike.2.2 _ _ q3
    exact ⟨k0', i0, k1', r1, r2, r3, by rw [r4]; exact q4⟩
  have hpk : T.plainMethod ⟨cK, 1⟩ := State.plainMethod.of_name (fun k' hk' => by
    cases hkK'.symm.trans hk'
    rw [show kK'.name = kK.name from by rw [heK]]; exact hpn)
  have hnc : namesAClass T cK idx := ⟨kK', file, ci, nt, t.cls, tk', hkK', by rw [heK]; exact hfile, hidx, hclsR', htk', hni⟩
  obtain ⟨Y₀, hin⟩ := X.into hg hsize hdg #[.ref a, o] (R' := { frames := rm.frames + 1, cells := rm.cells, slots := rm.slots, locals := (maxL + 11) + rm.locals }) hmk' hck hlk hpk hfr (by rw [hml]; exact hlo) hcells hslots
  have hL0 : ∀ mk, entryFrame mk #[.ref a, o] 2 = { method := mk, pc := 0, locals := #[.val (.ref a), .val o], stack := [], locked := none } := fun mk => by
    rcases ref_cases ho with rfl | ⟨_, rfl⟩ <;> rfl
  rw [hml, hL0] at Y₀ hin
  generalize hU : (T.setTop g).pushFrame (.java { method := ⟨cK, 1⟩, pc := 0, locals := #[.val (.ref a), .val o], stack := [], locked := none }) = U at Y₀ hin
  have hvmU : U.vm = T.vm := by rw [← hU]; rfl
  have hheapU : U.heap = T.heap := by rw [← hU]; rfl
  generalize hs' : T.calling g ⟨cK, 1⟩ #[.ref a, o] = s' at Y₀
  have hvm' : s'.vm = T.vm := by rw [← hs']; rfl
  have hZs : Z.Warmed39 s'.vm := by rw [hvm']; exact hZT
  have hnamedU : U.methodNamed? y = some t := by
    have q : (Z.setVm T.vm).methodNamed? y = some t := by rw [State.methodNamed?_setVm hZT.alike]; exact hmT
    rw [← hU]; exact q
  obtain ⟨v, ⟨U', ls, cc, sl⟩, Y₁, ⟨L, hq, hl, hc', hs2⟩, hsteps⟩ := (backOf (len := 3) (W := 0) M hZs wc wz (Nat.le_refl _) (by show 0 + (maxL + 11) + rm.locals ≤ (maxL + 11) + rm.locals; omega)) ⟨cK, 1⟩ methk ck ⟨U, [], 0, 0⟩ { method := ⟨cK, 1⟩, pc := 5, locals := #[.val (.ref a), .val o], stack := [], locked := none } (.invokevirtual idx) t #[.ref b, o] Y₀ rfl (by rw [hml]; rfl)
    (by rw [hbytes]; exact hd5) (Nat.le_refl _) hnamedU ⟨rfl, hheapU, by show 0 + rm.cells ≤ rm.cells; omega, by show 0 + rm.slots ≤ rm.slots; omega⟩
  dsimp only [Pt.U, Pt.locs, Pt.cells, Pt.slots] at Y₁ hq hl hc' hs2 hsteps
  subst hl; subst hc'; subst hs2
  obtain ⟨w, hv, hnw⟩ := hout _ _ _ hq
  have hro : Jvm.LamKit.RetOK (some .boolean) .ireturn v := Or.inl ⟨.boolean, w, rfl, Or.inr (Or.inl rfl), hnw, rfl, hv⟩
  obtain ⟨fs, hleave, -, hended, hWe, hsame⟩ := Y₁.leave (v := v) (fun h => by rw [hretk] at h; cases h) hlk
  subst hs'
  obtain ⟨T', X', -, -, ht⟩ := X.outOf hg hdg hended hWe hsame
  have hheap' : T'.heap = U'.heap := by
    have q : (U'.setFrames fs).heap = (T'.setTop { g with pc := g.pc + len, stack := v.toList ++ g.stack }).heap := congrArg State.heap ht
    exact q.symm
  refine ⟨v, T', _, by simpa using X', by rw [hheap']; exact hq, fun acts => ?_⟩
  rw [hin acts, ← ht]
  refine Steps.weaken (mid := [.java g]) ?_
  have hsU : U.topJava?.isSome := Y₀.here.top
  refine Jvm.Free.XS.aloadN Y₀.here hx rfl (k := 0) (v := .ref a) (by rw [hbytes]; exact hd0) rfl rfl ?_
  have hg1 : decode ck.code 1 = .ok (.getfield fi, 3) := by rw [hbytes]; exact hd1
  jvm_step Y₀.here [hx, hg1, getfield.wp_ready (e := e) (s := U) (f := { method := ⟨cK, 1⟩, pc := 1, locals := #[.val (.ref a), .val o], stack := [.ref a], locked := none }) (c := cK) (field := fd) (a := a) (rest := []) (cell := cell) (v := .ref b) hsU (by rw [hvmU]; exact hfld') hfs rfl (by rw [hheapU]; exact hcell) (by rw [hvm]; decide) (by rw [hsl]; exact hslot)]
  refine Jvm.Free.XS.aloadN Y₀.here hx rfl (k := 1) (v := o) (by rw [hbytes]; exact hd4) rfl ho ?_
  obtain ⟨cq, cq1, cq2⟩ := E.cell
  have hsel : selectMethod e.platform U.vm cq.cls t = .method t := selectMethod_private (by rw [hvmU]; exact hmT') (Cond.privateMethod_at wp _ _ hmT hmethT)
  have hd5' : decode ck.code 5 = .ok (.invokevirtual idx, 3) := by rw [hbytes]; exact hd5
  jvm_step Y₀.here [hx, hd5', invokevirtual.wp_ready (e := e) (s := U) (r := t) (m := t) (k := tk') (mk := tk') (rmeth := methT) (meth := methT) (a := b) (args := [o]) (rest := []) (cell := cq)
    (f := { method := ⟨cK, 1⟩, pc := 5, locals := #[.val (.ref a), .val o], stack := [o, .ref b], locked := none }) hsU (by rw [← hU]; exact hnc) (by rw [hvmU]; exact hready') (by rw [hvmU]; exact htk') (by rw [hvmU]; exact hmT') (hsp _) hstT (lenOf hpd (by rw [hps]; rfl) _ hsigT) rfl
    (by rw [hheapU]; exact cq1) cq2 hsel (by rw [hvmU]; exact hmT') habT (by rw [hvmU]; exact htk') hni]
  intro acts'
  rw [doInvoke_state]
  refine hsteps.trans ?_
  have hfin := Jvm.LamKit.retOut Y₁ hx (pc := 5 + 3) (Ls := #[.val (.ref a), .val o]) hretk hro (by rw [hbytes]; exact hd8) hleave
  simpa using hfin
/-- a call of the function object's method -/
theorem Owes.callL (X : Stand p l e R s m args below meth c T locs cells slots) (hx : p.tables.exec = Jvm.exec) (hZ : Z.Warmed39 s.vm) {own host CB : String} {index count : Nat} {xi y : MethodName} {σ : Lambda.Shape} {bytes : ByteArray} {maxL kk : Nat} {ret : Option FieldType} {rm : Room} {Q' : Option Value → Heap → List Loc → Prop}
    (hown : s.vm.findClass own = some m.cls) (w1 : (Cond.methodLink own index xi).before a0 Z = true) (w2 : (Cond.declares xi).before a0 Z = true) (wf : (Cond.interfaceMethod xi.cls xi.cls xi.name xi.desc).before a0 Z = true) (hxi : xi.cls = σ.iface ∧ xi.name = σ.name ∧ xi.desc = σ.sam.toString) (hxp : xi.cls ≠ "java/lang/invoke/MethodHandle" ∧ xi.cls ≠ "java/lang/invoke/VarHandle")
    (wc : (Cond.code y bytes maxL ret).before a0 Z = true) (wz : (Cond.initialized y.cls).before a0 Z = true) (wm : (Cond.instanceMethod y).before a0 Z = true) (wp : (Cond.privateMethod y).before a0 Z = true) (wi : (Cond.instantiable y.cls kk).before a0 Z = true)
    (hy : y.cls = σ.implClass ∧ y.name = σ.implName ∧ y.desc = σ.implDesc.toString) (hpoly : y.cls ≠ "java/lang/invoke/MethodHandle" ∧ y.cls ≠ "java/lang/invoke/VarHandle") {ps : List FieldType} {rt : Option FieldType} (hpd : parseMethodDescriptor y.desc = some ⟨ps, rt⟩) (hps : ps.length = 1) {ps2 : List FieldType} {rt2 : Option FieldType} (hpd2 : parseMethodDescriptor xi.desc = some ⟨ps2, rt2⟩) (hps2 : ps2.length = 1)
    {cK : ClassId} (hmd : Jvm.LamKit.Made Z host σ cK) {fcode : ByteArray} {idx ci fi : Nat} (hok : Jvm.LamKit.fwdOK σ host fcode 2 (some .boolean) idx ci = true) (hcap : Jvm.LamKit.capOK σ host fi 0 = true) (hO : (Cond.instantiable "java/lang/Object" 0).before a0 Z = true)
    (hd0 : decode fcode 0 = .ok (.aload_n 0, 1)) (hd1 : decode fcode 1 = .ok (.getfield fi, 3)) (hd4 : decode fcode 4 = .ok (.aload_n 1, 1)) (hd5 : decode fcode 5 = .ok (.invokevirtual idx, 3)) (hd8 : decode fcode 8 = .ok (.ireturn, 1))
    {pc : Nat} {Ls : Array Slot} (hsize : Ls.size = c.maxLocals) (hd : decode c.code pc = .ok (.invokeinterface index count, 5)) {a b : Addr} {o : Value} (ho : o.isRef = true) {cell : Cell} (hcell : T.heap[a]? = some cell) (hcls : cell.cls = cK) (hvm : cell.vm = .none) (hslot : cell.slots[0]? = some (.ref b)) (E : Exa Z T.heap b CB) {rest : List Value}
    (M : OMet l y bytes maxL ret [] rm #[.ref b, o] Z T.heap Q') (hout : ∀ v h L, Q' v h L → ∃ w, v = some (.int w) ∧ narrow .boolean (.int w) = .int w)
    (hfr : rm.frames + 2 ≤ R.frames) (hlo : (rest.map fun v => v.category).sum + (2 + 11) + ((maxL + 11) + rm.locals) ≤ R.locals) (hcells : cells + rm.cells ≤ R.cells) (hslots : slots + rm.slots ≤ R.slots)
    (k : ∀ (T' : State) (v : Option Value) (L : List Loc), Stand p l e R s m args below meth c T' (locs ++ L) (cells + rm.cells) (slots + rm.slots) → Q' v T'.heap L → Owes p e below F (T'.setTop (mkF m (pc + 5) Ls (v.toList ++ rest)))) :
    Owes p e below F (T.setTop (mkF m pc Ls (o :: .ref a :: rest))) := by
  subst hcls
  have hA := hZ.alike
  obtain ⟨kK, methk, hkK, hmk, hpub, habs, hsel⟩ := Jvm.LamKit.madeSelects hmd hok wf hxi
  obtain ⟨r0, r, hn, hrm, hstR, hsigR⟩ := Cond.declares_spec w2
  obtain ⟨cL, kL, r1, hcL, hkL, hiL, -, -⟩ := Cond.interfaceMethod_spec wf
  have hr0cls : r0.cls = cL := Option.some.inj ((findClass_of_methodNamed hn).symm.trans hcL)
  obtain ⟨hasg, hsel', hway⟩ := hsel r0 r hn hrm
  have hn' : s.methodNamed? xi = some r0 := by
    have q : (Z.setVm s.vm).methodNamed? xi = some r0 := by rw [State.methodNamed?_setVm hA]; exact hn
    exact q
  obtain ⟨kK', hkK', -⟩ := hA.2.2 _ _ hkK
  obtain ⟨kL', hkL', heL⟩ := hA.2.2 _ _ hkL
  obtain ⟨vm₁, X₁, hstep₁⟩ := X.invokeinterface hx hown (mvT (args := args) hZ w1) hn' (by rw [hA.method?]; exact hrm) hstR (by rw [hr0cls]; exact hkL') (by rw [heL]; exact hiL) hxp (a := a) (cell := cell) (kcell := kK') hcell (fun z h => by rw [hvm] at h; cases h) hkK' (by rw [hA.assignable]; exact hasg)
    (m' := ⟨cell.cls, 1⟩) (meth' := methk) (by rw [Launch.admits_selectMethod X.admits, hA.selectMethod]; exact hsel') (by rw [hA.method?]; exact hmk) (by rw [hA.superclasses]; simp only [hA.declaredIn]; exact hway) hpub habs (g := mkF m pc Ls (o :: .ref a :: rest)) rfl (argsL := [o]) (rest := rest) (lenOf hpd2 (by rw [hps2]; rfl) _ hsigR) rfl hd
  obtain ⟨v, T', L, X', hq, hsteps⟩ := fwdV X₁ hx hZ wc wz wm wp wi hy hpoly hpd hps hmd hok hcap hO hd0 hd1 hd4 hd5 hd8 (g := mkF m pc Ls rest) rfl hsize hd (a := a) (b := b) (o := o) ho (cell := cell) hcell hvm hslot E M hout hfr (by show 2 * 0 + (rest.map fun v => v.category).sum + _ + _ ≤ _; omega) hcells hslots
  exact (k T' v L X' hq).tr (hstep₁ _ fun acts => hsteps acts)
end Rfx4

section Rfx5
variable {p : Program} {l : Launch} {e : Env} {R : Room} {s : State} {m : MethodId} {args : Array Value} {below : List Frame} {meth : Method} {c : Code} {T : State} {locs : List Loc} {cells slots : Nat} {Z : State} {a0 : Array Value} {h h' : Heap}
variable {F : Outcome → State → Prop} {ρ : Nat → Nat} {ι : Nat → Int32} {np n0 : Nat}
abbrev hyC (y : MethodName) : Prop := y.cls ≠ "java/lang/invoke/MethodHandle" ∧ y.cls ≠ "java/lang/invoke/VarHandle"
abbrev BOK (Z : State) (a0 : Array Value) (j : Nat) : Prop := (Cond.code (MN j) (MB j) (ML j) (MR j)).before a0 Z = true ∧ (Cond.initialized (MN j).cls).before a0 Z = true ∧ hyC (MN j) ∧ plainFor (MN j) = true ∧ (MN j).cls = CN (MO j) ∧ (MI j = true → (MN j).name = "<init>") ∧ j < NM
abbrev PD (y : MethodName) (na : Nat) : Prop := ∃ ps rt, parseMethodDescriptor y.desc = some ⟨ps, rt⟩ ∧ na = ps.length
abbrev SOK (Z : State) (a0 : Array Value) (q : Nat × Nat × Nat × Nat) : Prop := (Cond.methodLink (CN q.1) q.2.1 (MN q.2.2.1)).before a0 Z = true ∧ (Cond.static (MN q.2.2.1)).before a0 Z = true ∧ BOK Z a0 q.2.2.1 ∧ PD (MN q.2.2.1) q.2.2.2
abbrev KOK (Z : State) (a0 : Array Value) (q : Nat × Nat × Nat × Nat) : Prop := (MN q.2.2.1).name = "<init>" ∧ (Cond.methodLink (CN q.1) q.2.1 (MN q.2.2.1)).before a0 Z = true ∧ (Cond.instanceMethod (MN q.2.2.1)).before a0 Z = true ∧ BOK Z a0 q.2.2.1 ∧ MR q.2.2.1 = none ∧ PD (MN q.2.2.1) q.2.2.2
abbrev VSOK (Z : State) (a0 : Array Value) (q : Nat × Nat × Nat) : Prop := BOK Z a0 q.2.2 ∧ (Cond.instanceMethod (MN q.2.2)).before a0 Z = true ∧
  (((Cond.declares (VN q.1)).before a0 Z = true ∧ (∃ C, (Cond.selects C (VN q.1) (VN q.1)).before a0 Z = true) ∧ (Cond.selects (CN q.2.1) (VN q.1) (MN q.2.2)).before a0 Z = true) ∨
   (VN q.1 = MN q.2.2 ∧ (Cond.privateMethod (MN q.2.2)).before a0 Z = true ∧ ∃ n, (Cond.instantiable (MN q.2.2).cls n).before a0 Z = true))
abbrev VOK (Z : State) (a0 : Array Value) (q : Nat × Nat × Nat × Nat) : Prop := PD (VN q.2.2.1) q.2.2.2 ∧ hyC (VN q.2.2.1) ∧ ((Cond.methodLink (CN q.1) q.2.1 (VN q.2.2.1)).before a0 Z = true ∨
  ((∃ host, (Cond.methodLinkNest (CN q.1) q.2.1 (VN q.2.2.1) host).before a0 Z = true) ∧ ∀ k j, vsel q.2.2.1 k = some j → VN q.2.2.1 = MN j ∧ (Cond.privateMethod (MN j)).before a0 Z = true ∧ ∃ n, (Cond.instantiable (MN j).cls n).before a0 Z = true))
abbrev ISOK (Z : State) (a0 : Array Value) (q : Nat × Nat × Nat) : Prop := BOK Z a0 q.2.2 ∧ (Cond.selects (CN q.2.1) (IN q.1) (MN q.2.2)).before a0 Z = true ∧ (Cond.instanceMethod (MN q.2.2)).before a0 Z = true ∧ (Cond.publicMethod (MN q.2.2)).before a0 Z = true ∧ (Cond.unhidden (CN q.2.1) (IN q.1).name (IN q.1).desc).before a0 Z = true ∧ (Cond.castable (CN q.2.1) (IN q.1).cls).before a0 Z = true
abbrev FWOK (Z : State) (a0 : Array Value) (q : Nat × Nat × Nat) : Prop := BOK Z a0 q.2.2 ∧ (Cond.instanceMethod (MN q.2.2)).before a0 Z = true ∧ (Cond.privateMethod (MN q.2.2)).before a0 Z = true ∧ (∃ n, (Cond.instantiable (MN q.2.2).cls n).before a0 Z = true) ∧ PD (MN q.2.2) 1 ∧ PD (IN q.1) 1 ∧
  ((IN q.1).cls = (LSh q.2.1).iface ∧ (IN q.1).name = (LSh q.2.1).name ∧ (IN q.1).desc = (LSh q.2.1).sam.toString) ∧ ((MN q.2.2).cls = (LSh q.2.1).implClass ∧ (MN q.2.2).name = (LSh q.2.1).implName ∧ (MN q.2.2).desc = (LSh q.2.1).implDesc.toString) ∧ Jvm.LamKit.fwdOK (LSh q.2.1) (LH q.2.1) fcode 2 (some .boolean) 22 19 = true ∧ Jvm.LamKit.capOK (LSh q.2.1) (LH q.2.1) 15 0 = true
abbrev IOK (Z : State) (a0 : Array Value) (q : Nat × Nat × Nat × Nat) : Prop := PD (IN q.2.2.1) q.2.2.2 ∧ hyC (IN q.2.2.1) ∧ (Cond.methodLink (CN q.1) q.2.1 (IN q.2.2.1)).before a0 Z = true ∧ (Cond.declares (IN q.2.2.1)).before a0 Z = true ∧ (Cond.interfaceMethod (IN q.2.2.1).cls (IN q.2.2.1).cls (IN q.2.2.1).name (IN q.2.2.1).desc).before a0 Z = true
abbrev CallOK (Z : State) (a0 : Array Value) : Prop := (∀ q ∈ mresST, SOK Z a0 q) ∧ (∀ q ∈ mresCT, KOK Z a0 q) ∧ (∀ q ∈ mresVT, VOK Z a0 q) ∧ (∀ q ∈ mresIT, IOK Z a0 q) ∧ (∀ q ∈ vselT, VSOK Z a0 q) ∧ (∀ q ∈ iselT, ISOK Z a0 q) ∧ ∀ q ∈ fwdT, FWOK Z a0 q
theorem sel3_mem : ∀ {t : List (Nat × Nat × Nat)} {x k j : Nat}, sel3 t x k = some j → (x, k, j) ∈ t
  | [], _, _, _, h => by simp [sel3] at h
  | q :: t, x, k, j, h => by
    unfold sel3 at h
    cases hb : (Nat.beq q.1 x && Nat.beq q.2.1 k) with
    | true =>
      simp [hb] at h
      rw [Bool.and_eq_true] at hb
      exact List.mem_cons.mpr (Or.inl (by rw [← h, ← Nat.eq_of_beq_eq_true hb.1, ← Nat.eq_of_beq_eq_true hb.2]))
    | false => simp [hb] at h; exact List.mem_cons.mpr (Or.inr (sel3_mem h))
def resC (mi x y : Nat) (i : Instr) : Bool := match i with
  | .invokestatic idx => mresST.any fun q => Nat.beq q.1 (MO mi) && Nat.beq q.2.1 idx && Nat.beq q.2.2.1 x && Nat.beq q.2.2.2 y
  | .invokespecial idx => mresCT.any fun q => Nat.beq q.1 (MO mi) && Nat.beq q.2.1 idx && Nat.beq q.2.2.1 x && Nat.beq q.2.2.2 y
  | .invokevirtual idx => mresVT.any fun q => Nat.beq q.1 (MO mi) && Nat.beq q.2.1 idx && Nat.beq q.2.2.1 x && Nat.beq q.2.2.2 y
  | .invokeinterface idx _ => mresIT.any fun q => Nat.beq q.1 (MO mi) && Nat.beq q.2.1 idx && Nat.beq q.2.2.1 x && Nat.beq q.2.2.2 y
  | _ => false
theorem takeR_ok : ∀ {n : Nat} {S acc as' rest : List Value}, takeR n S acc = some (as', rest) → ∃ b, as' = b ++ acc ∧ S = b.reverse ++ rest ∧ b.length = n
  | 0, S, acc, as', rest, h => by simp [takeR] at h; exact ⟨[], by simp [h.1], by simp [h.2], rfl⟩
  | n + 1, [], acc, as', rest, h => by simp [takeR] at h
  | n + 1, v :: S, acc, as', rest, h => by
    simp only [takeR] at h
    obtain ⟨b, h1, h2, h3⟩ := takeR_ok h
    exact ⟨b ++ [v], by simp [h1], by simp [h2], by simp [h3]⟩
theorem takeR_den {n : Nat} {S as' rest : List Value} (h : takeR n S [] = some (as', rest)) : denK ρ ι S = (denK ρ ι as').reverse ++ denK ρ ι rest ∧ (denK ρ ι as').length = n := by
  obtain ⟨b, h1, h2, h3⟩ := takeR_ok h
  subst h2
  simp only [List.append_nil] at h1
  subst h1
  exact ⟨by simp [denK], by simp [denK, h3]⟩
theorem cst_ok (CF : CallOK Z a0) (SF : SiteOK Z a0) (X : Stand p l e R s m args below meth c T locs cells slots) (hx : p.tables.exec = Jvm.exec) (hZ : Z.Warmed39 s.vm) {mi : Nat} (hown : s.vm.findClass (CN (MO mi)) = some m.cls)
    {L : List Slot} {S as' rest : List Value} {H : AH} {x y pc n mj ef el : Nat} {i : Instr} (hsz : L.length = c.maxLocals) (G : SH ρ ι np n0 Z H T.heap) (hd : decode c.code pc = .ok (i, n)) (hr : resC mi x y i = true) (hh : cst x y i n S H = some (mj, as', rest, ef, el))
    {rm : Room} {Q' : Option Value → Heap → List Loc → Prop} (M : BOK Z a0 mj → OMet l (MN mj) (MB mj) (ML mj) (MR mj) [] rm (denK ρ ι as').toArray Z T.heap Q') (hout : ¬ ef = 0 → ∀ v h L, Q' v h L → ∃ w, v = some (.int w) ∧ narrow .boolean (.int w) = .int w)
    (hf : rm.frames + 1 + ef ≤ R.frames) (hl : catS rest + el + (ML mj + 11) + rm.locals ≤ R.locals) (hcl : cells + rm.cells ≤ R.cells) (hsl : slots + rm.slots ≤ R.slots)
    (k : ∀ (T' : State) (v : Option Value) (Lc : List Loc), Stand p l e R s m args below meth c T' (locs ++ Lc) (cells + rm.cells) (slots + rm.slots) → Q' v T'.heap Lc → Owes p e below F (T'.setTop (mkF m (pc + n) (denL ρ ι L) (v.toList ++ denK ρ ι rest)))) : Owes p e below F (T.setTop (mkF m pc (denL ρ ι L) (denK ρ ι S))) := by
  have hs0 : (denL ρ ι L).size = c.maxLocals := by rw [denL_size]; exact hsz
  rw [← catS_ok (ρ := ρ) (ι := ι)] at hl
  unfold cst at hh
  split at hh
  · split at hh
    · rename_i a1 r1 ht
      cases hh
      obtain ⟨w1, w2, hB, ps, rt, hpd, hps⟩ := CF.1 _ (any4 hr)
      dsimp only at w1 w2 hB hpd hps
      obtain ⟨t1, t2⟩ := takeR_den (ρ := ρ) (ι := ι) ht
      exact Owes.callS X hx hZ hown w1 w2 hB.2.1 hB.1 hB.2.2.1 (M hB) rfl hs0 hpd (t2.trans hps) t1 hd (by omega) (by omega) hcl hsl k
    · cases hh
  · split at hh
    · rename_i a1 j r1 ht
      cases hh
      obtain ⟨w0, w1, w2, hB, hmr, ps, rt, hpd, hps⟩ := CF.2.1 _ (any4 hr)
      dsimp only at w0 w1 w2 hB hmr hpd hps
      obtain ⟨t1, t2⟩ := takeR_den (ρ := ρ) (ι := ι) ht
      have hM := M hB
      have hc := hB.1
      rw [hmr] at hM hc
      exact Owes.callC X hx hZ w0 hown w1 w2 hB.2.1 hc hB.2.2.1 (a := ρ j) (argsL := denK ρ ι a1) (rest := denK ρ ι rest) hM rfl hs0 hpd (t2.trans hps) t1 hd (by omega) (by omega) hcl hsl k
    · cases hh
  · split at hh
    · rename_i a1 j r1 ht
      split at hh
      · rename_i c0 fs hj
        cases hb : Nat.beq (kd c0) 0 with
        | false => simp [hb] at hh
        | true =>
          simp only [hb, cond_true] at hh
          split at hh
          · rename_i mj' hv
            cases hh
            obtain ⟨⟨ps, rt, hpd, hps⟩, hyx, hLk⟩ := CF.2.2.1 _ (any4 hr)
            dsimp only at hpd hps hyx hLk
            obtain ⟨hB, wi, hV⟩ := CF.2.2.2.2.1 _ (sel3_mem hv)
            dsimp only at hB wi hV
            obtain ⟨t1, t2⟩ := takeR_den (ρ := ρ) (ι := ι) ht
            rcases G.2.2.1 _ _ hj with ⟨-, hE, -⟩ | ⟨h0, -⟩
            · have priv : VN x = MN mj → (Cond.privateMethod (MN mj)).before a0 Z = true → (∃ n, (Cond.instantiable (MN mj).cls n).before a0 Z = true) → Owes p e below F (T.setTop (mkF m pc (denL ρ ι L) (denK ρ ι S))) := fun e1 w6 w8 => by
                obtain ⟨kn, w8⟩ := w8
                rw [e1] at hpd hLk
                have w5 := privSel w8 wi w6 hB.2.2.1
                rcases hLk with w1 | ⟨⟨host, w1⟩, -⟩
                · exact Owes.callP X hx hZ hown w1 wi w5 w6 hB.2.1 hB.1 hB.2.2.1 (a := ρ j) (argsL := denK ρ ι a1) (rest := denK ρ ι rest) (M hB) rfl hE hs0 hpd (t2.trans hps) t1 hd (by omega) (by omega) hcl hsl k
                · exact Owes.callPN X hx hZ hown w1 wi w5 w6 hB.2.1 hB.1 hB.2.2.1 (a := ρ j) (argsL := denK ρ ι a1) (rest := denK ρ ι rest) (M hB) rfl hE hs0 hpd (t2.trans hps) t1 hd (by omega) (by omega) hcl hsl k
              rcases hV with ⟨w2, ⟨C, w7⟩, w5⟩ | ⟨e1, w6, w8⟩
              · rcases hLk with w1 | ⟨-, hn⟩
                · exact Owes.callV X hx hZ hown w1 w2 (notFace_of_selects (args := #[]) (mvT hZ w7)) w5 wi hB.2.1 hB.1 hyx (a := ρ j) (argsL := denK ρ ι a1) (rest := denK ρ ι rest) (M hB) rfl hE hs0 hpd (t2.trans hps) t1 hd (by omega) (by omega) hcl hsl k
                · obtain ⟨e1, w6, w8⟩ := hn _ _ hv
                  exact priv e1 w6 w8
              · exact priv e1 w6 w8
            · rw [kd0 hb] at h0; cases h0
          · cases hh
      · cases hh
    · cases hh
  · split at hh
    · rename_i a1 j r1 ht
      split at hh
      · rename_i c0 fs hj
        obtain ⟨⟨ps, rt, hpd, hps⟩, hyx, w1, w2, wf⟩ := CF.2.2.2.1 _ (any4 hr)
        dsimp only at hpd hps hyx w1 w2 wf
        obtain ⟨t1, t2⟩ := takeR_den (ρ := ρ) (ι := ι) ht
        cases hb : Nat.beq (kd c0) 0 with
        | true =>
          simp only [hb, cond_true] at hh
          split at hh
          · rename_i mj' hv
            cases hh
            obtain ⟨hB, w5, w6, wp, wu, wk⟩ := CF.2.2.2.2.2.1 _ (sel3_mem hv)
            dsimp only at hB w5 w6 wp wu wk
            rcases G.2.2.1 _ _ hj with ⟨-, hE, -⟩ | ⟨h0, -⟩
            · exact Owes.callI X hx hZ hown w1 w2 wf w5 w6 wp wu wk hB.2.1 hB.1 hyx (a := ρ j) (argsL := denK ρ ι a1) (rest := denK ρ ι rest) (M hB) rfl hE hs0 hpd (t2.trans hps) t1 hd (by omega) (by omega) hcl hsl k
            · rw [kd0 hb] at h0; cases h0
          · cases hh
        | false =>
          simp only [hb, cond_false] at hh
          split at hh
          · rename_i mj' b hv ha
            split at hh
            · rename_i cb fb hjb
              cases hb2 : (Nat.beq (kd cb) 0 && a1.all isR) with
              | false => simp [hb2] at hh
              | true =>
                simp only [hb2, cond_true] at hh
                cases hh
                rw [Bool.and_eq_true] at hb2
                obtain ⟨hB, wm, wp, ⟨kn, wi⟩, ⟨ps2, rt2, hpd2, hps2⟩, ⟨ps3, rt3, hpd3, hps3⟩, hxi, hyi, hok, hcap⟩ := CF.2.2.2.2.2.2 _ (sel3_mem hv)
                dsimp only at hB wm wp wi hpd2 hps2 hpd3 hps3 hxi hyi hok hcap
                have h1 : y = 1 := by
                  rw [hpd] at hpd3
                  cases hpd3
                  omega
                rcases G.2.2.1 _ _ hj with ⟨h0, -⟩ | ⟨-, cK, cell, hmd, hcell, hcls, hvm, hfs⟩
                · rw [h0] at hb; cases hb
                · rcases G.2.2.1 _ _ hjb with ⟨-, hE, -⟩ | ⟨h0, -⟩
                  · have ha1 : a1.length = 1 := by have := t2; simp only [denK, List.length_map] at this; omega
                    obtain ⟨o, rfl⟩ : ∃ o, a1 = [o] := by
                      match a1, ha1 with
                      | [o], _ => exact ⟨o, rfl⟩
                    have ho : isR o = true := by simpa using hb2.2
                    have hst : denK ρ ι S = den ρ ι o :: .ref (ρ j) :: denK ρ ι rest := t1
                    rw [hst]
                    exact Owes.callL X hx hZ hown w1 w2 wf hxi hyx hB.1 hB.2.1 wm wp wi hyi hB.2.2.1 hpd2 hps2.symm hpd (by rw [← hps]; exact h1) hmd hok hcap SF.2 fd0 fd1 fd4 fd5 fd8 hs0 hd (den_isR ho) hcell hcls hvm (hfs _ (alk_mem ha)) hE (M hB) (hout (by decide)) (by omega) (by omega) hcl hsl k
                  · rw [kd0 hb2.1] at h0; cases h0
            · cases hh
          · cases hh
      · cases hh
    · cases hh
  · cases hh
theorem rst_ok {Q : Option Value → Heap → List Loc → Prop} {C N : Nat} (X : Stand p l e R s m args below meth c T locs cells slots) (hx : p.tables.exec = Jvm.exec) (hlk : meth.locks = false) {mi : Nat} (hret : meth.sig.returnType = MR mi) {S : List Value} {pc n : Nat} {i : Instr} {Ls : Array Slot} {rv : Option Value}
    (hd : decode c.code pc = .ok (i, n)) (hh : rst mi i n S = some rv) (hc : cells ≤ C) (hs : slots ≤ N) (hq : Q (rv.map (den ρ ι)) T.heap locs) : Owes p e below (EndN s Q C N) (T.setTop (mkF m pc Ls (denK ρ ι S))) := by
  unfold rst at hh
  split at hh
  · split at hh
    · rename_i hm
      split at hh
      · cases hh; exact Owes.retV X hx hlk (hret.trans hm) hd hc hs hq
      · cases hh
    · cases hh
  · split at hh
    · rename_i C0 v S1 hm
      cases hv : isR v with
      | false => simp [hv] at hh
      | true =>
        simp [hv] at hh; subst hh
        exact Owes.retA X hx hlk (hret.trans hm) rfl (by cases v <;> simp [isR] at hv <;> rfl) (den_isR hv) hd hc hs hq
    · rename_i C0 v S1 hm
      cases hv : isR v with
      | false => simp [hv] at hh
      | true =>
        simp [hv] at hh; subst hh
        exact Owes.retA X hx hlk (hret.trans hm) rfl (by cases v <;> simp [isR] at hv <;> rfl) (den_isR hv) hd hc hs hq
    · cases hh
  · split at hh
    · rename_i v S1 hm
      cases hv : isI v with
      | false => simp [hv] at hh
      | true =>
        simp [hv] at hh; subst hh
        obtain ⟨z, ez⟩ := den_isI (ρ := ρ) (ι := ι) hv
        show Owes _ _ _ _ (T.setTop (mkF m pc Ls (den ρ ι v :: denK ρ ι S1)))
        simp only [Option.map_some, ez] at hq
        rw [ez]
        exact Owes.retI X hx hlk (hret.trans hm) hd hc hs hq
    · rename_i z S1 hm
      cases hv : (z == 0 || z == 1) with
      | false => simp [hv] at hh
      | true =>
        simp [hv] at hh; subst hh
        have hz : nar .boolean z = z := by
          simp at hv
          rcases hv with rfl | rfl <;> decide
        refine Owes.retN X hx hlk (hret.trans hm) (Or.inl rfl) hd hc hs ?_
        rw [hz]; exact hq
    · cases hh
  · cases hh
theorem entry_ok {as' : List Value} (hc : as'.all c1 = true) (ml : Nat) (m : MethodId) : entryFrame m (denK ρ ι as').toArray ml = mkF m 0 (denL ρ ι (entry ml as')) [] := by
  have key : ∀ vs : List Value, vs.all c1 = true → Jvm.Sym.laidSlots (denK ρ ι vs) = (vs.map fun v => Slot.val (den ρ ι v)) := by
    intro vs
    induction vs with
    | nil => intro _; rfl
    | cons v vs ih =>
      intro hv
      simp only [List.all_cons, Bool.and_eq_true] at hv
      show Jvm.Sym.laidSlots (den ρ ι v :: denK ρ ι vs) = _
      have h1 := den_c1 (ρ := ρ) (ι := ι) hv.1
      have h2 := ih hv.2
      simp only [Jvm.Sym.laidSlots, h1, h2]
      rfl
  have h1 : argsToLocals (denK ρ ι as').toArray ml = denL ρ ι (entry ml as') := by
    apply Array.ext'
    rw [Jvm.Sym.argsToLocals_toList]
    simp only [key as' hc, denL, entry, List.map_append, List.map_map, List.map_replicate, List.length_map]
    rfl
  unfold entryFrame
  rw [h1]
theorem entry_len {as' : List Value} {ml : Nat} (h : as'.length ≤ ml) : (entry ml as').length = ml := by simp [entry]; omega
def rowChk (mi pc g x y : Nat) (i : Instr) : Bool := bif Nat.ble g 1 then true else bif Nat.beq g 2 then (match jmpOf i pc with | some z => Nat.beq z x | none => false) else bif Nat.beq g 3 then resH mi x pc i else bif Nat.beq g 4 then true else resC mi x y i
def rowOK (mi : Nat) (r : Row) : Bool := decide (decode (MB mi) r.1 = .ok (r.2.2.2.2.1, r.2.2.2.2.2)) && rowChk mi r.1 r.2.1 r.2.2.1 r.2.2.2.1 r.2.2.2.2.1
end Rfx5

theorem rows_all : ((List.range NM).all fun mi => (tabOf mi).all fun ch => ch.all (rowOK mi)) = true := by decide +kernel
section Rfx6
variable {l : Launch} {Z : State} {a0 : Array Value} {ρ : Nat → Nat} {ι : Nat → Int32} {np n0 : Nat}
theorem row_ok {mi pc g x y n : Nat} {i : Instr} (hm : mi < NM) (h : insAt (tabOf mi) pc = some (g, x, y, i, n)) : decode (MB mi) pc = .ok (i, n) ∧ rowChk mi pc g x y i = true := by
  have H := rows_all
  rw [List.all_eq_true] at H
  have H1 := H mi (List.mem_range.mpr hm)
  unfold insAt at h
  split at h
  · rename_i ch hch
    have h2 := List.all_eq_true.mp (List.all_eq_true.mp H1 ch (nth_mem hch)) _ (alk_mem h)
    unfold rowOK at h2
    rw [Bool.and_eq_true] at h2
    exact ⟨of_decide_eq_true h2.1, h2.2⟩
  · cases h
/-- what a run of a body comes to -/
def Qr (ρ : Nat → Nat) (ι : Nat → Int32) (np n0 : Nat) (Z : State) (rv : Option Value) (H : AH) : Option Value → Heap → List Loc → Prop := fun v h L => v = rv.map (den ρ ι) ∧ SH ρ ι np n0 Z H h ∧ ∀ y ∈ L, n0 ≤ y.base
theorem addH_ok {dc ds fr lc : Nat} {r : Option Res} {rv : Option Value} {H : AH} {dc' ds' fr' lc' : Nat} (h : addH dc ds fr lc r = some (rv, H, dc', ds', fr', lc')) : ∃ dc2 ds2 fr2 lc2, r = some (rv, H, dc2, ds2, fr2, lc2) ∧ dc' = dc + dc2 ∧ ds' = ds + ds2 ∧ fr ≤ fr' ∧ fr2 ≤ fr' ∧ lc ≤ lc' ∧ lc2 ≤ lc' := by
  unfold addH at h
  split at h
  · rename_i rv2 H2 dc2 ds2 fr2 lc2
    cases h
    exact ⟨dc2, ds2, fr2, lc2, rfl, rfl, rfl, Nat.le_max_left _ _, Nat.le_max_right _ _, Nat.le_max_left _ _, Nat.le_max_right _ _⟩
  · cases h
theorem sound {orc : Orc} {orb : Orb} (ho : OrcOK ρ ι orc) (hb : OrbOK ρ ι orb) (HR : RhoOK ρ np n0) (TF : TabOK Z a0) (SF : SiteOK Z a0) (CF : CallOK Z a0) :
    ∀ (n mi pc : Nat) (L : List Slot) (S : List Value) (H : AH) (rv : Option Value) (H' : AH) (dc ds fr lc : Nat), exec orc orb np n mi (tabOf mi) pc L S H = some (rv, H', dc, ds, fr, lc) → mi < NM →
    ∀ {p : Program} {e : Env} {R : Room} {s : State} {m : MethodId} {args : Array Value} {below : List Frame} {meth : Method} {c : Code} {T : State} {locs : List Loc} {cells slots C N : Nat}, Stand p l e R s m args below meth c T locs cells slots → p.tables.exec = Jvm.exec → Z.Warmed39 s.vm →
      c.code = MB mi → c.maxLocals = ML mi → s.vm.findClass (CN (MO mi)) = some m.cls → (MI mi = true → meth.name = "<init>") → s.methodNamed? (MN mi) = some m → meth.sig.returnType = MR mi → meth.locks = false → L.length = ML mi → SH ρ ι np n0 Z H T.heap → (∀ y ∈ locs, n0 ≤ y.base) →
      cells + dc ≤ R.cells → slots + ds ≤ R.slots → fr ≤ R.frames → lc ≤ R.locals → cells + dc ≤ C → slots + ds ≤ N → Owes p e below (EndN s (Qr ρ ι np n0 Z rv H') C N) (T.setTop (mkF m pc (denL ρ ι L) (denK ρ ι S))) := by
  intro n
  induction n with
  | zero => intro mi pc L S H rv H' dc ds fr lc h; cases h
  | succ n ih =>
    intro mi pc L S H rv H' dc ds fr lc h hm p e R s m args below meth c T locs cells slots C N X hx hZ hcode hml hown hnm hnamed hret hlk hL G hN r1 r2 r3 r4 r5 r6
    have h0 : sX orc orb np (exec orc orb np n) mi (tabOf mi) pc L S H (insAt (tabOf mi) pc) = some (rv, H', dc, ds, fr, lc) := h
    unfold sX at h0
    split at h0
    · rename_i g x y i len hi
      obtain ⟨hdec, hres⟩ := row_ok hm hi
      have hd : decode c.code pc = .ok (i, len) := by rw [hcode]; exact hdec
      unfold rowChk at hres
      cases hg : Nat.ble g 2 with
      | true =>
        simp only [hg, cond_true] at h0
        unfold sA at h0
        split at h0
        · rename_i nx L' S' hs
          have fin : (L'.length = L.length ∧ (Owes p e below (EndN s (Qr ρ ι np n0 Z rv H') C N) (T.setTop (mkF m nx (denL ρ ι L') (denK ρ ι S'))) → Owes p e below (EndN s (Qr ρ ι np n0 Z rv H') C N) (T.setTop (mkF m pc (denL ρ ι L) (denK ρ ι S))))) → Owes p e below (EndN s (Qr ρ ι np n0 Z rv H') C N) (T.setTop (mkF m pc (denL ρ ι L) (denK ρ ι S))) := fun q =>
            q.2 (ih mi nx L' S' H rv H' dc ds fr lc h0 hm X hx hZ hcode hml hown hnm hnamed hret hlk (q.1.trans hL) G hN r1 r2 r3 r4 r5 r6)
          unfold stp at hs
          cases g0 : Nat.beq g 0 with
          | true => simp only [g0, cond_true] at hs; exact fin (stpA_ok X hx hd hs)
          | false =>
            simp only [g0, cond_false] at hs
            cases g1 : Nat.beq g 1 with
            | true => simp only [g1, cond_true] at hs; exact fin (stpB_ok ho X hx hd hs)
            | false =>
              simp only [g1, cond_false] at hs
              have hg2 : g = 2 := by
                have := Nat.le_of_ble_eq_true hg
                have := Nat.ne_of_beq_eq_false g0
                have := Nat.ne_of_beq_eq_false g1
                omega
              subst hg2
              have hj : jmpOf i pc = some x := by
                have hres' : (match jmpOf i pc with | some z => Nat.beq z x | none => false) = true := hres
                split at hres'
                · rename_i z hz; rw [hz, Nat.eq_of_beq_eq_true hres']
                · cases hres'
              exact fin (stpC_ok hb HR X hx hd hj hs)
        · cases h0
      | false =>
        simp only [hg, cond_false] at h0
        have hg1 : Nat.ble g 1 = false := by
          cases q : Nat.ble g 1 with
          | false => rfl
          | true => have := Nat.le_of_ble_eq_true q; have q2 : Nat.ble g 2 = true := Nat.ble_eq_true_of_le (by omega); rw [q2] at hg; cases hg
        have hg2 : Nat.beq g 2 = false := by
          cases q : Nat.beq g 2 with
          | false => rfl
          | true => rw [Nat.eq_of_beq_eq_true q] at hg; cases hg
        simp only [hg1, hg2, cond_false] at hres
        cases g3 : Nat.beq g 3 with
        | true =>
          simp only [g3, cond_true] at h0 hres
          unfold sH at h0
          split at h0
          · rename_i S' H2 dc1 ds1 fr1 lc1 hs
            obtain ⟨dc2, ds2, fr2, lc2, h2, rfl, rfl, q1, q2, q3, q4⟩ := addH_ok h0
            refine hst_ok HR TF SF X hx hZ hown hnm hnamed (hL.trans hml.symm) G hN hd hres hs (by omega) (by omega) (by omega) (by omega) ?_
            intro T' locs' A
            exact ih mi (pc + len) L S' H2 rv H' dc2 ds2 fr2 lc2 h2 hm A.1 hx hZ hcode hml hown hnm hnamed hret hlk hL A.2.1 A.2.2 (by omega) (by omega) (by omega) (by omega) (by omega) (by omega)
          · cases h0
        | false =>
          simp only [g3, cond_false] at h0 hres
          cases g4 : Nat.beq g 4 with
          | true =>
            simp only [g4, cond_true] at h0
            unfold sR at h0
            split at h0
            · rename_i rv1 hs
              cases h0
              exact rst_ok X hx hlk hret hd hs (by omega) (by omega) ⟨rfl, G, hN⟩
            · cases h0
          | false =>
            simp only [g4, cond_false] at h0 hres
            unfold sC at h0
            split at h0
            · rename_i mj as' rest ef el hs
              cases hq : (as'.all c1 && Nat.ble as'.length (ML mj)) with
              | false => simp [hq] at h0
              | true =>
                simp only [hq, cond_true] at h0
                rw [Bool.and_eq_true] at hq
                unfold sC2 at h0
                split at h0
                · rename_i rv1 H1 dc1 ds1 fr1 lc1 hs1
                  cases ho1 : okRv ef rv1 with
                  | false => simp [ho1] at h0
                  | true =>
                    simp only [ho1, cond_true] at h0
                    obtain ⟨dc2, ds2, fr2, lc2, h2, rfl, rfl, q1, q2, q3, q4⟩ := addH_ok h0
                    refine cst_ok CF SF X hx hZ hown (hL.trans hml.symm) G hd hres hs (rm := { frames := fr1, cells := dc1, slots := ds1, locals := lc1 }) (Q' := Qr ρ ι np n0 Z rv1 H1) (fun hB => ?_) (fun hne v h Lc hQ => ?_) (by show fr1 + 1 + ef ≤ _; omega) (by show catS rest + el + (ML mj + 11) + lc1 ≤ _; omega) (by show cells + dc1 ≤ _; omega) (by show slots + ds1 ≤ _; omega) ?_
                    · refine OMet.of2 hB.2.2.2.1 (fun m => entry_ok hq.1 (ML mj) m) ?_
                      intro p e s m below meth c s₁ hx hc hml hnd hname hret hlk hZ X0 e0
                      refine ih mj 0 (entry (ML mj) as') [] H rv1 H1 dc1 ds1 fr1 lc1 hs1 hB.2.2.2.2.2.2 X0 hx hZ hc hml ?_ (fun q => hname.trans (hB.2.2.2.2.2.1 q)) hnd hret hlk (entry_len (Nat.le_of_ble_eq_true hq.2)) (by rw [e0]; exact G) (fun y hy => absurd hy List.not_mem_nil) (by show 0 + dc1 ≤ dc1; omega) (by show 0 + ds1 ≤ ds1; omega) (Nat.le_refl _) (Nat.le_refl _) (by show 0 + dc1 ≤ dc1; omega) (by show 0 + ds1 ≤ ds1; omega)
                      rw [← hB.2.2.2.2.1]
                      exact findClass_of_methodNamed hnd
                    · obtain ⟨rfl, -, -⟩ := hQ
                      unfold okRv at ho1
                      have hne' : Nat.beq ef 0 = false := by
                        cases q : Nat.beq ef 0 with
                        | false => rfl
                        | true => exact absurd (Nat.eq_of_beq_eq_true q) hne
                      rw [hne', Bool.false_or] at ho1
                      split at ho1
                      · rename_i w
                        refine ⟨w, rfl, ?_⟩
                        simp at ho1
                        rcases ho1 with rfl | rfl <;> decide
                      · cases ho1
                    · intro T' v Lc X' hQ
                      obtain ⟨rfl, G', hN'⟩ := hQ
                      have kk := ih mi (pc + len) L (rv1.toList ++ rest) H1 rv H' dc2 ds2 fr2 lc2 h2 hm (C := C) (N := N) X' hx hZ hcode hml hown hnm hnamed hret hlk hL G' (fun y hy => (List.mem_append.mp hy).elim (hN y) (hN' y)) (by show cells + dc1 + dc2 ≤ _; omega) (by show slots + ds1 + ds2 ≤ _; omega) (by omega) (by omega) (by show cells + dc1 + dc2 ≤ _; omega) (by show slots + ds1 + ds2 ≤ _; omega)
                      have ek : denK ρ ι (rv1.toList ++ rest) = (rv1.map (den ρ ι)).toList ++ denK ρ ι rest := by cases rv1 <;> simp [denK]
                      rw [ek] at kk
                      exact kk
                · cases h0
            · cases h0
    · cases h0
end Rfx6

theorem t_f_0 {Z : State} {a0 : Array Value} (hw : ∀ d ∈ tables_1, d.before a0 Z = true) : FOK Z a0 (0, 22, 5) := ⟨"com/example/keyedge/keyedge/AdjacencyListGraph$ListLink", "", Or.inl (hw _ (List.mem_of_getElem? (i := 312) rfl)), Via.refl⟩
theorem t_f_1 {Z : State} {a0 : Array Value} (hw : ∀ d ∈ tables_1, d.before a0 Z = true) : FOK Z a0 (0, 28, 7) := ⟨"com/example/keyedge/keyedge/AdjacencyListGraph$ListLink", "", Or.inl (hw _ (List.mem_of_getElem? (i := 313) rfl)), Via.refl⟩
theorem t_f_2 {Z : State} {a0 : Array Value} (hw : ∀ d ∈ tables_1, d.before a0 Z = true) : FOK Z a0 (0, 31, 6) := ⟨"com/example/keyedge/keyedge/AdjacencyListGraph$ListLink", "", Or.inl (hw _ (List.mem_of_getElem? (i := 314) rfl)), Via.refl⟩
theorem t_f_3 {Z : State} {a0 : Array Value} (hw : ∀ d ∈ tables_1, d.before a0 Z = true) : FOK Z a0 (0, 34, 8) := ⟨"com/example/keyedge/keyedge/AdjacencyListGraph$ListLink", "", Or.inl (hw _ (List.mem_of_getElem? (i := 315) rfl)), Via.refl⟩
theorem t_f_4 {Z : State} {a0 : Array Value} (hw : ∀ d ∈ tables_1, d.before a0 Z = true) : FOK Z a0 (0, 37, 21) := ⟨"com/example/keyedge/keyedge/AdjacencyListGraph$ListNode", "", Or.inl (hw _ (List.mem_of_getElem? (i := 316) rfl)), Via.refl⟩
theorem t_f_5 {Z : State} {a0 : Array Value} (hw : ∀ d ∈ tables_1, d.before a0 Z = true) : FOK Z a0 (0, 49, 20) := ⟨"com/example/keyedge/keyedge/AdjacencyListGraph$ListNode", "", Or.inl (hw _ (List.mem_of_getElem? (i := 318) rfl)), Via.refl⟩
theorem t_f_6 {Z : State} {a0 : Array Value} (hw : ∀ d ∈ tables_1, d.before a0 Z = true) : FOK Z a0 (1, 12, 15) := ⟨"com/example/keyedge/keyedge/AdjacencyListGraph", "", Or.inl (hw _ (List.mem_of_getElem? (i := 49) rfl)), Via.refl⟩
theorem t_f_7 {Z : State} {a0 : Array Value} (hw : ∀ d ∈ tables_1, d.before a0 Z = true) : FOK Z a0 (1, 21, 16) := ⟨"com/example/keyedge/keyedge/AdjacencyListGraph", "", Or.inl (hw _ (List.mem_of_getElem? (i := 58) rfl)), Via.refl⟩
theorem t_f_8 {Z : State} {a0 : Array Value} (hw : ∀ d ∈ tables_1, d.before a0 Z = true) : FOK Z a0 (1, 29, 20) := ⟨"com/example/keyedge/keyedge/AdjacencyListGraph$ListNode", "", Or.inl (hw _ (List.mem_of_getElem? (i := 118) rfl)), Via.refl⟩
theorem t_f_9 {Z : State} {a0 : Array Value} (hw : ∀ d ∈ tables_1, d.before a0 Z = true) : FOK Z a0 (1, 33, 21) := ⟨"com/example/keyedge/keyedge/AdjacencyListGraph$ListNode", "", Or.inl (hw _ (List.mem_of_getElem? (i := 110) rfl)), Via.refl⟩
theorem t_f_10 {Z : State} {a0 : Array Value} (hw : ∀ d ∈ tables_1, d.before a0 Z = true) : FOK Z a0 (1, 58, 25) := ⟨"com/example/keyedge/keyedge/AdjacencyListGraph$ListLink", "", Or.inl (hw _ (List.mem_of_getElem? (i := 278) rfl)), (Via.of (hw _ (List.mem_of_getElem? (i := 279) rfl)))⟩
theorem t_f_11 {Z : State} {a0 : Array Value} (hw : ∀ d ∈ tables_1, d.before a0 Z = true) : FOK Z a0 (1, 62, 24) := ⟨"com/example/keyedge/keyedge/AdjacencyListGraph$ListLink", "", Or.inl (hw _ (List.mem_of_getElem? (i := 218) rfl)), (Via.of (hw _ (List.mem_of_getElem? (i := 219) rfl)))⟩
theorem t_f_12 {Z : State} {a0 : Array Value} (hw : ∀ d ∈ tables_1, d.before a0 Z = true) : FOK Z a0 (2, 17, 13) := ⟨"com/example/keyedge/keyedge/AbstractGraph", "", Or.inl (hw _ (List.mem_of_getElem? (i := 37) rfl)), Via.refl⟩
theorem t_f_13 {Z : State} {a0 : Array Value} (hw : ∀ d ∈ tables_1, d.before a0 Z = true) : FOK Z a0 (2, 24, 14) := ⟨"com/example/keyedge/keyedge/AbstractGraph", "", Or.inl (hw _ (List.mem_of_getElem? (i := 40) rfl)), Via.refl⟩
theorem t_f_14 {Z : State} {a0 : Array Value} (hw : ∀ d ∈ tables_1, d.before a0 Z = true) : FOK Z a0 (4, 7, 11) := ⟨"com/example/keyedge/keyedge/Chain", "", Or.inl (hw _ (List.mem_of_getElem? (i := 33) rfl)), Via.refl⟩
theorem t_f_15 {Z : State} {a0 : Array Value} (hw : ∀ d ∈ tables_1, d.before a0 Z = true) : FOK Z a0 (4, 13, 12) := ⟨"com/example/keyedge/keyedge/Chain", "", Or.inl (hw _ (List.mem_of_getElem? (i := 35) rfl)), Via.refl⟩
theorem t_f_16 {Z : State} {a0 : Array Value} (hw : ∀ d ∈ tables_1, d.before a0 Z = true) : FOK Z a0 (4, 20, 4) := ⟨"com/example/keyedge/keyedge/Chain", "", Or.inl (hw _ (List.mem_of_getElem? (i := 173) rfl)), Via.refl⟩
theorem t_f_17 {Z : State} {a0 : Array Value} (hw : ∀ d ∈ tables_1, d.before a0 Z = true) : FOK Z a0 (4, 28, 2) := ⟨"com/example/keyedge/keyedge/Chain", "", Or.inl (hw _ (List.mem_of_getElem? (i := 197) rfl)), Via.refl⟩
theorem t_f_18 {Z : State} {a0 : Array Value} (hw : ∀ d ∈ tables_1, d.before a0 Z = true) : FOK Z a0 (4, 34, 0) := ⟨"com/example/keyedge/keyedge/Chain", "", Or.inl (hw _ (List.mem_of_getElem? (i := 116) rfl)), Via.refl⟩
theorem t_f_19 {Z : State} {a0 : Array Value} (hw : ∀ d ∈ tables_1, d.before a0 Z = true) : FOK Z a0 (4, 38, 1) := ⟨"com/example/keyedge/keyedge/Chain", "", Or.inl (hw _ (List.mem_of_getElem? (i := 198) rfl)), Via.refl⟩
theorem t_f_20 {Z : State} {a0 : Array Value} (hw : ∀ d ∈ tables_1, d.before a0 Z = true) : FOK Z a0 (4, 55, 9) := ⟨"com/example/keyedge/keyedge/Chain$Linked", "", Or.inl (hw _ (List.mem_of_getElem? (i := 357) rfl)), Via.refl⟩
theorem t_f_21 {Z : State} {a0 : Array Value} (hw : ∀ d ∈ tables_1, d.before a0 Z = true) : FOK Z a0 (4, 93, 10) := ⟨"com/example/keyedge/keyedge/Chain$Linked", "", Or.inl (hw _ (List.mem_of_getElem? (i := 360) rfl)), Via.refl⟩
theorem t_f_22 {Z : State} {a0 : Array Value} (hw : ∀ d ∈ tables_1, d.before a0 Z = true) : FOK Z a0 (6, 7, 5) := ⟨"com/example/keyedge/keyedge/AdjacencyListGraph$ListLink", "", Or.inl (hw _ (List.mem_of_getElem? (i := 195) rfl)), Via.refl⟩
theorem t_f_23 {Z : State} {a0 : Array Value} (hw : ∀ d ∈ tables_1, d.before a0 Z = true) : FOK Z a0 (6, 13, 7) := ⟨"com/example/keyedge/keyedge/AdjacencyListGraph$ListLink", "", Or.inl (hw _ (List.mem_of_getElem? (i := 259) rfl)), Via.refl⟩
theorem t_f_24 {Z : State} {a0 : Array Value} (hw : ∀ d ∈ tables_1, d.before a0 Z = true) : FOK Z a0 (7, 7, 6) := ⟨"com/example/keyedge/keyedge/AdjacencyListGraph$ListLink", "", Or.inl (hw _ (List.mem_of_getElem? (i := 211) rfl)), Via.refl⟩
theorem t_f_25 {Z : State} {a0 : Array Value} (hw : ∀ d ∈ tables_1, d.before a0 Z = true) : FOK Z a0 (7, 13, 8) := ⟨"com/example/keyedge/keyedge/AdjacencyListGraph$ListLink", "", Or.inl (hw _ (List.mem_of_getElem? (i := 300) rfl)), Via.refl⟩
theorem t_f_26 {Z : State} {a0 : Array Value} (hw : ∀ d ∈ tables_1, d.before a0 Z = true) : FOK Z a0 (8, 7, 16) := ⟨"com/example/keyedge/keyedge/AdjacencyListGraph", "com/example/keyedge/keyedge/AdjacencyListGraph", Or.inr (hw _ (List.mem_of_getElem? (i := 88) rfl)), Via.refl⟩
theorem t_f_27 {Z : State} {a0 : Array Value} (hw : ∀ d ∈ tables_1, d.before a0 Z = true) : FOK Z a0 (8, 23, 20) := ⟨"com/example/keyedge/keyedge/AdjacencyListGraph$ListNode", "", Or.inl (hw _ (List.mem_of_getElem? (i := 94) rfl)), Via.refl⟩
theorem t_f_28 {Z : State} {a0 : Array Value} (hw : ∀ d ∈ tables_1, d.before a0 Z = true) : FOK Z a0 (8, 29, 15) := ⟨"com/example/keyedge/keyedge/AdjacencyListGraph", "com/example/keyedge/keyedge/AdjacencyListGraph", Or.inr (hw _ (List.mem_of_getElem? (i := 96) rfl)), Via.refl⟩
theorem t_f_29 {Z : State} {a0 : Array Value} (hw : ∀ d ∈ tables_1, d.before a0 Z = true) : FOK Z a0 (8, 33, 21) := ⟨"com/example/keyedge/keyedge/AdjacencyListGraph$ListNode", "", Or.inl (hw _ (List.mem_of_getElem? (i := 98) rfl)), Via.refl⟩
theorem t_f_30 {Z : State} {a0 : Array Value} (hw : ∀ d ∈ tables_1, d.before a0 Z = true) : FOK Z a0 (8, 38, 24) := ⟨"com/example/keyedge/keyedge/AdjacencyListGraph$ListLink", "", Or.inl (hw _ (List.mem_of_getElem? (i := 331) rfl)), (Via.of (hw _ (List.mem_of_getElem? (i := 219) rfl)))⟩
theorem t_f_31 {Z : State} {a0 : Array Value} (hw : ∀ d ∈ tables_1, d.before a0 Z = true) : FOK Z a0 (8, 42, 25) := ⟨"com/example/keyedge/keyedge/AdjacencyListGraph$ListLink", "", Or.inl (hw _ (List.mem_of_getElem? (i := 342) rfl)), (Via.of (hw _ (List.mem_of_getElem? (i := 279) rfl)))⟩
theorem t_f_32 {Z : State} {a0 : Array Value} (hw : ∀ d ∈ tables_1, d.before a0 Z = true) : FOK Z a0 (9, 7, 17) := ⟨"com/example/keyedge/keyedge/AbstractGraph$Node", "", Or.inl (hw _ (List.mem_of_getElem? (i := 82) rfl)), Via.refl⟩
theorem t_f_33 {Z : State} {a0 : Array Value} (hw : ∀ d ∈ tables_1, d.before a0 Z = true) : FOK Z a0 (9, 13, 18) := ⟨"com/example/keyedge/keyedge/AbstractGraph$Node", "", Or.inl (hw _ (List.mem_of_getElem? (i := 84) rfl)), Via.refl⟩
theorem t_f_34 {Z : State} {a0 : Array Value} (hw : ∀ d ∈ tables_1, d.before a0 Z = true) : FOK Z a0 (9, 17, 19) := ⟨"com/example/keyedge/keyedge/AbstractGraph$Node", "", Or.inl (hw _ (List.mem_of_getElem? (i := 86) rfl)), Via.refl⟩
theorem t_f_35 {Z : State} {a0 : Array Value} (hw : ∀ d ∈ tables_1, d.before a0 Z = true) : FOK Z a0 (11, 1, 22) := ⟨"com/example/keyedge/keyedge/Chain$1", "", Or.inl (hw _ (List.mem_of_getElem? (i := 130) rfl)), Via.refl⟩
theorem t_f_36 {Z : State} {a0 : Array Value} (hw : ∀ d ∈ tables_1, d.before a0 Z = true) : FOK Z a0 (11, 13, 1) := ⟨"com/example/keyedge/keyedge/Chain", "com/example/keyedge/keyedge/Chain", Or.inr (hw _ (List.mem_of_getElem? (i := 133) rfl)), Via.refl⟩
theorem t_f_37 {Z : State} {a0 : Array Value} (hw : ∀ d ∈ tables_1, d.before a0 Z = true) : FOK Z a0 (11, 19, 23) := ⟨"com/example/keyedge/keyedge/Chain$1", "", Or.inl (hw _ (List.mem_of_getElem? (i := 135) rfl)), Via.refl⟩
theorem t_f_38 {Z : State} {a0 : Array Value} (hw : ∀ d ∈ tables_1, d.before a0 Z = true) : FOK Z a0 (11, 20, 2) := ⟨"com/example/keyedge/keyedge/Chain", "com/example/keyedge/keyedge/Chain", Or.inr (hw _ (List.mem_of_getElem? (i := 137) rfl)), Via.refl⟩
theorem t_f_39 {Z : State} {a0 : Array Value} (hw : ∀ d ∈ tables_1, d.before a0 Z = true) : FOK Z a0 (11, 24, 3) := ⟨"com/example/keyedge/keyedge/Chain$1", "", Or.inl (hw _ (List.mem_of_getElem? (i := 139) rfl)), Via.refl⟩
theorem t_f_40 {Z : State} {a0 : Array Value} (hw : ∀ d ∈ tables_1, d.before a0 Z = true) : FOK Z a0 (13, 7, 24) := ⟨"com/example/keyedge/keyedge/AbstractGraph$Link", "", Or.inl (hw _ (List.mem_of_getElem? (i := 162) rfl)), Via.refl⟩
theorem t_f_41 {Z : State} {a0 : Array Value} (hw : ∀ d ∈ tables_1, d.before a0 Z = true) : FOK Z a0 (13, 13, 25) := ⟨"com/example/keyedge/keyedge/AbstractGraph$Link", "", Or.inl (hw _ (List.mem_of_getElem? (i := 164) rfl)), Via.refl⟩
theorem t_f_42 {Z : State} {a0 : Array Value} (hw : ∀ d ∈ tables_1, d.before a0 Z = true) : FOK Z a0 (13, 16, 26) := ⟨"com/example/keyedge/keyedge/AbstractGraph$Link", "", Or.inl (hw _ (List.mem_of_getElem? (i := 166) rfl)), Via.refl⟩
theorem t_f {Z : State} {a0 : Array Value} (hw : ∀ d ∈ tables_1, d.before a0 Z = true) : ∀ q ∈ fresT, FOK Z a0 q := (fa_cons (t_f_0 hw) (fa_cons (t_f_1 hw) (fa_cons (t_f_2 hw) (fa_cons (t_f_3 hw) (fa_cons (t_f_4 hw) (fa_cons (t_f_5 hw) (fa_cons (t_f_6 hw) (fa_cons (t_f_7 hw) (fa_cons (t_f_8 hw) (fa_cons (t_f_9 hw) (fa_cons (t_f_10 hw) (fa_cons (t_f_11 hw) (fa_cons (t_f_12 hw) (fa_cons (t_f_13 hw) (fa_cons (t_f_14 hw) (fa_cons (t_f_15 hw) (fa_cons (t_f_16 hw) (fa_cons (t_f_17 hw) (fa_cons (t_f_18 hw) (fa_cons (t_f_19 hw) (fa_cons (t_f_20 hw) (fa_cons (t_f_21 hw) (fa_cons (t_f_22 hw) (fa_cons (t_f_23 hw) (fa_cons (t_f_24 hw) (fa_cons (t_f_25 hw) (fa_cons (t_f_26 hw) (fa_cons (t_f_27 hw) (fa_cons (t_f_28 hw) (fa_cons (t_f_29 hw) (fa_cons (t_f_30 hw) (fa_cons (t_f_31 hw) (fa_cons (t_f_32 hw) (fa_cons (t_f_33 hw) (fa_cons (t_f_34 hw) (fa_cons (t_f_35 hw) (fa_cons (t_f_36 hw) (fa_cons (t_f_37 hw) (fa_cons (t_f_38 hw) (fa_cons (t_f_39 hw) (fa_cons (t_f_40 hw) (fa_cons (t_f_41 hw) (fa_cons (t_f_42 hw) fa_nil)))))))))))))))))))))))))))))))))))))))))))
theorem pf_0 : parseFieldDescriptor "I" = some .int := by decide +kernel
theorem pf_1 : parseFieldDescriptor "I" = some .int := by decide +kernel
theorem pf_2 : parseFieldDescriptor "Lcom/example/keyedge/keyedge/Chain$Linked;" = some (.object "com/example/keyedge/keyedge/Chain$Linked") := by decide +kernel
theorem pf_3 : parseFieldDescriptor "Lcom/example/keyedge/keyedge/Chain$Linked;" = some (.object "com/example/keyedge/keyedge/Chain$Linked") := by decide +kernel
theorem pf_4 : parseFieldDescriptor "Lcom/example/keyedge/keyedge/Chain$Linked;" = some (.object "com/example/keyedge/keyedge/Chain$Linked") := by decide +kernel
theorem pf_5 : parseFieldDescriptor "Lcom/example/keyedge/keyedge/AdjacencyListGraph$ListLink;" = some (.object "com/example/keyedge/keyedge/AdjacencyListGraph$ListLink") := by decide +kernel
theorem pf_6 : parseFieldDescriptor "Lcom/example/keyedge/keyedge/AdjacencyListGraph$ListLink;" = some (.object "com/example/keyedge/keyedge/AdjacencyListGraph$ListLink") := by decide +kernel
theorem pf_7 : parseFieldDescriptor "Lcom/example/keyedge/keyedge/AdjacencyListGraph$ListLink;" = some (.object "com/example/keyedge/keyedge/AdjacencyListGraph$ListLink") := by decide +kernel
theorem pf_8 : parseFieldDescriptor "Lcom/example/keyedge/keyedge/AdjacencyListGraph$ListLink;" = some (.object "com/example/keyedge/keyedge/AdjacencyListGraph$ListLink") := by decide +kernel
theorem pf_9 : parseFieldDescriptor "Lcom/example/keyedge/keyedge/Chain$Linked;" = some (.object "com/example/keyedge/keyedge/Chain$Linked") := by decide +kernel
theorem pf_10 : parseFieldDescriptor "Lcom/example/keyedge/keyedge/Chain$Linked;" = some (.object "com/example/keyedge/keyedge/Chain$Linked") := by decide +kernel
theorem pf_11 : parseFieldDescriptor "Lcom/example/keyedge/keyedge/Chain$Strand;" = some (.object "com/example/keyedge/keyedge/Chain$Strand") := by decide +kernel
theorem pf_12 : parseFieldDescriptor "Ljava/util/function/Predicate;" = some (.object "java/util/function/Predicate") := by decide +kernel
theorem pf_13 : parseFieldDescriptor "Lcom/example/keyedge/keyedge/Chain;" = some (.object "com/example/keyedge/keyedge/Chain") := by decide +kernel
theorem pf_14 : parseFieldDescriptor "Lcom/example/keyedge/keyedge/Chain;" = some (.object "com/example/keyedge/keyedge/Chain") := by decide +kernel
theorem pf_15 : parseFieldDescriptor "Lcom/example/keyedge/keyedge/Chain$Strand;" = some (.object "com/example/keyedge/keyedge/Chain$Strand") := by decide +kernel
theorem pf_16 : parseFieldDescriptor "Lcom/example/keyedge/keyedge/Chain$Strand;" = some (.object "com/example/keyedge/keyedge/Chain$Strand") := by decide +kernel
theorem pf_17 : parseFieldDescriptor "Lcom/example/keyedge/keyedge/AbstractGraph;" = some (.object "com/example/keyedge/keyedge/AbstractGraph") := by decide +kernel
theorem pf_18 : parseFieldDescriptor "Ljava/lang/Object;" = some (.object "java/lang/Object") := by decide +kernel
theorem pf_19 : parseFieldDescriptor "I" = some .int := by decide +kernel
theorem pf_20 : parseFieldDescriptor "Lcom/example/keyedge/keyedge/Chain;" = some (.object "com/example/keyedge/keyedge/Chain") := by decide +kernel
theorem pf_21 : parseFieldDescriptor "Lcom/example/keyedge/keyedge/Chain;" = some (.object "com/example/keyedge/keyedge/Chain") := by decide +kernel
theorem pf_22 : parseFieldDescriptor "Lcom/example/keyedge/keyedge/Chain;" = some (.object "com/example/keyedge/keyedge/Chain") := by decide +kernel
theorem pf_23 : parseFieldDescriptor "I" = some .int := by decide +kernel
theorem pf_24 : parseFieldDescriptor "Lcom/example/keyedge/keyedge/AbstractGraph$Node;" = some (.object "com/example/keyedge/keyedge/AbstractGraph$Node") := by decide +kernel
theorem pf_25 : parseFieldDescriptor "Lcom/example/keyedge/keyedge/AbstractGraph$Node;" = some (.object "com/example/keyedge/keyedge/AbstractGraph$Node") := by decide +kernel
theorem pf_26 : parseFieldDescriptor "Ljava/lang/Object;" = some (.object "java/lang/Object") := by decide +kernel
theorem t_l_1_13 {Z : State} {a0 : Array Value} (hw : ∀ d ∈ tables_1, d.before a0 Z = true) : LOK Z a0 1 13 := ⟨Or.inr ⟨rfl, (hw _ (List.mem_of_getElem? (i := 38) rfl))⟩, pf_13, rfl, (hw _ (List.mem_of_getElem? (i := 1) rfl))⟩
theorem t_l_1_14 {Z : State} {a0 : Array Value} (hw : ∀ d ∈ tables_1, d.before a0 Z = true) : LOK Z a0 1 14 := ⟨Or.inr ⟨rfl, (hw _ (List.mem_of_getElem? (i := 41) rfl))⟩, pf_14, rfl, (hw _ (List.mem_of_getElem? (i := 1) rfl))⟩
theorem t_l_1_15 {Z : State} {a0 : Array Value} (hw : ∀ d ∈ tables_1, d.before a0 Z = true) : LOK Z a0 1 15 := ⟨Or.inr ⟨rfl, (hw _ (List.mem_of_getElem? (i := 50) rfl))⟩, pf_15, rfl, (hw _ (List.mem_of_getElem? (i := 1) rfl))⟩
theorem t_l_1_16 {Z : State} {a0 : Array Value} (hw : ∀ d ∈ tables_1, d.before a0 Z = true) : LOK Z a0 1 16 := ⟨Or.inr ⟨rfl, (hw _ (List.mem_of_getElem? (i := 59) rfl))⟩, pf_16, rfl, (hw _ (List.mem_of_getElem? (i := 1) rfl))⟩
theorem t_l_1 {Z : State} {a0 : Array Value} (hw : ∀ d ∈ tables_1, d.before a0 Z = true) : ∀ f ∈ ([13, 14, 15, 16] : List Nat), LOK Z a0 1 f := (fa_cons (t_l_1_13 hw) (fa_cons (t_l_1_14 hw) (fa_cons (t_l_1_15 hw) (fa_cons (t_l_1_16 hw) fa_nil))))
theorem t_l_4_0 {Z : State} {a0 : Array Value} (hw : ∀ d ∈ tables_1, d.before a0 Z = true) : LOK Z a0 4 0 := ⟨Or.inl ⟨rfl, (hw _ (List.mem_of_getElem? (i := 117) rfl))⟩, pf_0, rfl, (hw _ (List.mem_of_getElem? (i := 23) rfl))⟩
theorem t_l_4_1 {Z : State} {a0 : Array Value} (hw : ∀ d ∈ tables_1, d.before a0 Z = true) : LOK Z a0 4 1 := ⟨Or.inl ⟨rfl, (hw _ (List.mem_of_getElem? (i := 134) rfl))⟩, pf_1, rfl, (hw _ (List.mem_of_getElem? (i := 23) rfl))⟩
theorem t_l_4_2 {Z : State} {a0 : Array Value} (hw : ∀ d ∈ tables_1, d.before a0 Z = true) : LOK Z a0 4 2 := ⟨Or.inl ⟨rfl, (hw _ (List.mem_of_getElem? (i := 138) rfl))⟩, pf_2, rfl, (hw _ (List.mem_of_getElem? (i := 23) rfl))⟩
theorem t_l_4_4 {Z : State} {a0 : Array Value} (hw : ∀ d ∈ tables_1, d.before a0 Z = true) : LOK Z a0 4 4 := ⟨Or.inl ⟨rfl, (hw _ (List.mem_of_getElem? (i := 174) rfl))⟩, pf_4, rfl, (hw _ (List.mem_of_getElem? (i := 23) rfl))⟩
theorem t_l_4_11 {Z : State} {a0 : Array Value} (hw : ∀ d ∈ tables_1, d.before a0 Z = true) : LOK Z a0 4 11 := ⟨Or.inr ⟨rfl, (hw _ (List.mem_of_getElem? (i := 34) rfl))⟩, pf_11, rfl, (hw _ (List.mem_of_getElem? (i := 23) rfl))⟩
theorem t_l_4_12 {Z : State} {a0 : Array Value} (hw : ∀ d ∈ tables_1, d.before a0 Z = true) : LOK Z a0 4 12 := ⟨Or.inr ⟨rfl, (hw _ (List.mem_of_getElem? (i := 36) rfl))⟩, pf_12, rfl, (hw _ (List.mem_of_getElem? (i := 23) rfl))⟩
theorem t_l_4 {Z : State} {a0 : Array Value} (hw : ∀ d ∈ tables_1, d.before a0 Z = true) : ∀ f ∈ ([0, 1, 2, 4, 11, 12] : List Nat), LOK Z a0 4 f := (fa_cons (t_l_4_0 hw) (fa_cons (t_l_4_1 hw) (fa_cons (t_l_4_2 hw) (fa_cons (t_l_4_4 hw) (fa_cons (t_l_4_11 hw) (fa_cons (t_l_4_12 hw) fa_nil))))))
theorem t_l_8_9 {Z : State} {a0 : Array Value} (hw : ∀ d ∈ tables_1, d.before a0 Z = true) : LOK Z a0 8 9 := ⟨Or.inl ⟨rfl, (hw _ (List.mem_of_getElem? (i := 358) rfl))⟩, pf_9, rfl, (hw _ (List.mem_of_getElem? (i := 66) rfl))⟩
theorem t_l_8_10 {Z : State} {a0 : Array Value} (hw : ∀ d ∈ tables_1, d.before a0 Z = true) : LOK Z a0 8 10 := ⟨Or.inl ⟨rfl, (hw _ (List.mem_of_getElem? (i := 361) rfl))⟩, pf_10, rfl, (hw _ (List.mem_of_getElem? (i := 66) rfl))⟩
theorem t_l_8_17 {Z : State} {a0 : Array Value} (hw : ∀ d ∈ tables_1, d.before a0 Z = true) : LOK Z a0 8 17 := ⟨Or.inr ⟨rfl, (hw _ (List.mem_of_getElem? (i := 83) rfl))⟩, pf_17, rfl, (hw _ (List.mem_of_getElem? (i := 66) rfl))⟩
theorem t_l_8_18 {Z : State} {a0 : Array Value} (hw : ∀ d ∈ tables_1, d.before a0 Z = true) : LOK Z a0 8 18 := ⟨Or.inr ⟨rfl, (hw _ (List.mem_of_getElem? (i := 85) rfl))⟩, pf_18, rfl, (hw _ (List.mem_of_getElem? (i := 66) rfl))⟩
theorem t_l_8_19 {Z : State} {a0 : Array Value} (hw : ∀ d ∈ tables_1, d.before a0 Z = true) : LOK Z a0 8 19 := ⟨Or.inr ⟨rfl, (hw _ (List.mem_of_getElem? (i := 87) rfl))⟩, pf_19, rfl, (hw _ (List.mem_of_getElem? (i := 66) rfl))⟩
theorem t_l_8_20 {Z : State} {a0 : Array Value} (hw : ∀ d ∈ tables_1, d.before a0 Z = true) : LOK Z a0 8 20 := ⟨Or.inr ⟨rfl, (hw _ (List.mem_of_getElem? (i := 95) rfl))⟩, pf_20, rfl, (hw _ (List.mem_of_getElem? (i := 66) rfl))⟩
theorem t_l_8_21 {Z : State} {a0 : Array Value} (hw : ∀ d ∈ tables_1, d.before a0 Z = true) : LOK Z a0 8 21 := ⟨Or.inr ⟨rfl, (hw _ (List.mem_of_getElem? (i := 99) rfl))⟩, pf_21, rfl, (hw _ (List.mem_of_getElem? (i := 66) rfl))⟩
theorem t_l_8 {Z : State} {a0 : Array Value} (hw : ∀ d ∈ tables_1, d.before a0 Z = true) : ∀ f ∈ ([9, 10, 17, 18, 19, 20, 21] : List Nat), LOK Z a0 8 f := (fa_cons (t_l_8_9 hw) (fa_cons (t_l_8_10 hw) (fa_cons (t_l_8_17 hw) (fa_cons (t_l_8_18 hw) (fa_cons (t_l_8_19 hw) (fa_cons (t_l_8_20 hw) (fa_cons (t_l_8_21 hw) fa_nil)))))))
theorem t_l_11_3 {Z : State} {a0 : Array Value} (hw : ∀ d ∈ tables_1, d.before a0 Z = true) : LOK Z a0 11 3 := ⟨Or.inl ⟨rfl, (hw _ (List.mem_of_getElem? (i := 140) rfl))⟩, pf_3, rfl, (hw _ (List.mem_of_getElem? (i := 125) rfl))⟩
theorem t_l_11_22 {Z : State} {a0 : Array Value} (hw : ∀ d ∈ tables_1, d.before a0 Z = true) : LOK Z a0 11 22 := ⟨Or.inr ⟨rfl, (hw _ (List.mem_of_getElem? (i := 131) rfl))⟩, pf_22, rfl, (hw _ (List.mem_of_getElem? (i := 125) rfl))⟩
theorem t_l_11_23 {Z : State} {a0 : Array Value} (hw : ∀ d ∈ tables_1, d.before a0 Z = true) : LOK Z a0 11 23 := ⟨Or.inr ⟨rfl, (hw _ (List.mem_of_getElem? (i := 136) rfl))⟩, pf_23, rfl, (hw _ (List.mem_of_getElem? (i := 125) rfl))⟩
theorem t_l_11 {Z : State} {a0 : Array Value} (hw : ∀ d ∈ tables_1, d.before a0 Z = true) : ∀ f ∈ ([3, 22, 23] : List Nat), LOK Z a0 11 f := (fa_cons (t_l_11_3 hw) (fa_cons (t_l_11_22 hw) (fa_cons (t_l_11_23 hw) fa_nil)))
theorem t_l_12_5 {Z : State} {a0 : Array Value} (hw : ∀ d ∈ tables_1, d.before a0 Z = true) : LOK Z a0 12 5 := ⟨Or.inl ⟨rfl, (hw _ (List.mem_of_getElem? (i := 196) rfl))⟩, pf_5, rfl, (hw _ (List.mem_of_getElem? (i := 151) rfl))⟩
theorem t_l_12_6 {Z : State} {a0 : Array Value} (hw : ∀ d ∈ tables_1, d.before a0 Z = true) : LOK Z a0 12 6 := ⟨Or.inl ⟨rfl, (hw _ (List.mem_of_getElem? (i := 212) rfl))⟩, pf_6, rfl, (hw _ (List.mem_of_getElem? (i := 151) rfl))⟩
theorem t_l_12_7 {Z : State} {a0 : Array Value} (hw : ∀ d ∈ tables_1, d.before a0 Z = true) : LOK Z a0 12 7 := ⟨Or.inl ⟨rfl, (hw _ (List.mem_of_getElem? (i := 260) rfl))⟩, pf_7, rfl, (hw _ (List.mem_of_getElem? (i := 151) rfl))⟩
theorem t_l_12_8 {Z : State} {a0 : Array Value} (hw : ∀ d ∈ tables_1, d.before a0 Z = true) : LOK Z a0 12 8 := ⟨Or.inl ⟨rfl, (hw _ (List.mem_of_getElem? (i := 301) rfl))⟩, pf_8, rfl, (hw _ (List.mem_of_getElem? (i := 151) rfl))⟩
theorem t_l_12_9 {Z : State} {a0 : Array Value} (hw : ∀ d ∈ tables_1, d.before a0 Z = true) : LOK Z a0 12 9 := ⟨Or.inl ⟨rfl, (hw _ (List.mem_of_getElem? (i := 359) rfl))⟩, pf_9, rfl, (hw _ (List.mem_of_getElem? (i := 151) rfl))⟩
theorem t_l_12_10 {Z : State} {a0 : Array Value} (hw : ∀ d ∈ tables_1, d.before a0 Z = true) : LOK Z a0 12 10 := ⟨Or.inl ⟨rfl, (hw _ (List.mem_of_getElem? (i := 362) rfl))⟩, pf_10, rfl, (hw _ (List.mem_of_getElem? (i := 151) rfl))⟩
theorem t_l_12_24 {Z : State} {a0 : Array Value} (hw : ∀ d ∈ tables_1, d.before a0 Z = true) : LOK Z a0 12 24 := ⟨Or.inr ⟨rfl, (hw _ (List.mem_of_getElem? (i := 163) rfl))⟩, pf_24, rfl, (hw _ (List.mem_of_getElem? (i := 151) rfl))⟩
theorem t_l_12_25 {Z : State} {a0 : Array Value} (hw : ∀ d ∈ tables_1, d.before a0 Z = true) : LOK Z a0 12 25 := ⟨Or.inr ⟨rfl, (hw _ (List.mem_of_getElem? (i := 165) rfl))⟩, pf_25, rfl, (hw _ (List.mem_of_getElem? (i := 151) rfl))⟩
theorem t_l_12_26 {Z : State} {a0 : Array Value} (hw : ∀ d ∈ tables_1, d.before a0 Z = true) : LOK Z a0 12 26 := ⟨Or.inr ⟨rfl, (hw _ (List.mem_of_getElem? (i := 167) rfl))⟩, pf_26, rfl, (hw _ (List.mem_of_getElem? (i := 151) rfl))⟩
theorem t_l_12 {Z : State} {a0 : Array Value} (hw : ∀ d ∈ tables_1, d.before a0 Z = true) : ∀ f ∈ ([5, 6, 7, 8, 9, 10, 24, 25, 26] : List Nat), LOK Z a0 12 f := (fa_cons (t_l_12_5 hw) (fa_cons (t_l_12_6 hw) (fa_cons (t_l_12_7 hw) (fa_cons (t_l_12_8 hw) (fa_cons (t_l_12_9 hw) (fa_cons (t_l_12_10 hw) (fa_cons (t_l_12_24 hw) (fa_cons (t_l_12_25 hw) (fa_cons (t_l_12_26 hw) fa_nil)))))))))
theorem t_l {Z : State} {a0 : Array Value} (hw : ∀ d ∈ tables_1, d.before a0 Z = true) : ∀ r ∈ FCL, ∀ f ∈ r.2, LOK Z a0 r.1 f := (fa_cons (t_l_1 hw) (fa_cons (t_l_4 hw) (fa_cons (t_l_8 hw) (fa_cons (t_l_11 hw) (fa_cons (t_l_12 hw) fa_nil)))))
theorem t_c_0 {Z : State} {a0 : Array Value} (hw : ∀ d ∈ tables_1, d.before a0 Z = true) : (Cond.classLink (CN 0) 7 (CN 1)).before a0 Z = true := (hw _ (List.mem_of_getElem? (i := 0) rfl))
theorem t_c_1 {Z : State} {a0 : Array Value} (hw : ∀ d ∈ tables_1, d.before a0 Z = true) : (Cond.classLink (CN 1) 7 (CN 6)).before a0 Z = true := (hw _ (List.mem_of_getElem? (i := 42) rfl))
theorem t_c_2 {Z : State} {a0 : Array Value} (hw : ∀ d ∈ tables_1, d.before a0 Z = true) : (Cond.classLink (CN 1) 18 (CN 7)).before a0 Z = true := (hw _ (List.mem_of_getElem? (i := 51) rfl))
theorem t_c_3 {Z : State} {a0 : Array Value} (hw : ∀ d ∈ tables_1, d.before a0 Z = true) : (Cond.classLink (CN 1) 24 (CN 8)).before a0 Z = true := (hw _ (List.mem_of_getElem? (i := 65) rfl))
theorem t_c_4 {Z : State} {a0 : Array Value} (hw : ∀ d ∈ tables_1, d.before a0 Z = true) : (Cond.classLink (CN 1) 56 (CN 12)).before a0 Z = true := (hw _ (List.mem_of_getElem? (i := 150) rfl))
theorem t_c_5 {Z : State} {a0 : Array Value} (hw : ∀ d ∈ tables_1, d.before a0 Z = true) : (Cond.classLink (CN 4) 8 (CN 4)).before a0 Z = true := (hw _ (List.mem_of_getElem? (i := 22) rfl))
theorem t_c_6 {Z : State} {a0 : Array Value} (hw : ∀ d ∈ tables_1, d.before a0 Z = true) : (Cond.classLink (CN 4) 56 (CN 10)).before a0 Z = true := (hw _ (List.mem_of_getElem? (i := 332) rfl))
theorem t_c_7 {Z : State} {a0 : Array Value} (hw : ∀ d ∈ tables_1, d.before a0 Z = true) : (Cond.classLink (CN 4) 69 (CN 11)).before a0 Z = true := (hw _ (List.mem_of_getElem? (i := 124) rfl))
theorem t_c_8 {Z : State} {a0 : Array Value} (hw : ∀ d ∈ tables_1, d.before a0 Z = true) : (Cond.classLink (CN 6) 8 (CN 12)).before a0 Z = true := (hw _ (List.mem_of_getElem? (i := 188) rfl))
theorem t_c_9 {Z : State} {a0 : Array Value} (hw : ∀ d ∈ tables_1, d.before a0 Z = true) : (Cond.classLink (CN 7) 8 (CN 12)).before a0 Z = true := (hw _ (List.mem_of_getElem? (i := 205) rfl))
theorem t_c_10 {Z : State} {a0 : Array Value} (hw : ∀ d ∈ tables_1, d.before a0 Z = true) : (Cond.classLink (CN 8) 36 (CN 12)).before a0 Z = true := (hw _ (List.mem_of_getElem? (i := 330) rfl))
theorem t_c {Z : State} {a0 : Array Value} (hw : ∀ d ∈ tables_1, d.before a0 Z = true) : ∀ q ∈ cresT, (Cond.classLink (CN q.1) q.2.1 (CN q.2.2)).before a0 Z = true := (fa_cons (t_c_0 hw) (fa_cons (t_c_1 hw) (fa_cons (t_c_2 hw) (fa_cons (t_c_3 hw) (fa_cons (t_c_4 hw) (fa_cons (t_c_5 hw) (fa_cons (t_c_6 hw) (fa_cons (t_c_7 hw) (fa_cons (t_c_8 hw) (fa_cons (t_c_9 hw) (fa_cons (t_c_10 hw) fa_nil)))))))))))
theorem t_n_0 {Z : State} {a0 : Array Value} (hw : ∀ d ∈ tables_1, d.before a0 Z = true) : (Cond.instantiable (CN 1) (KSZ 1)).before a0 Z = true ∧ (Cond.initialized (CN 1)).before a0 Z = true := ⟨(hw _ (List.mem_of_getElem? (i := 1) rfl)), (hw _ (List.mem_of_getElem? (i := 2) rfl))⟩
theorem t_n_1 {Z : State} {a0 : Array Value} (hw : ∀ d ∈ tables_1, d.before a0 Z = true) : (Cond.instantiable (CN 4) (KSZ 4)).before a0 Z = true ∧ (Cond.initialized (CN 4)).before a0 Z = true := ⟨(hw _ (List.mem_of_getElem? (i := 23) rfl)), (hw _ (List.mem_of_getElem? (i := 20) rfl))⟩
theorem t_n_2 {Z : State} {a0 : Array Value} (hw : ∀ d ∈ tables_1, d.before a0 Z = true) : (Cond.instantiable (CN 6) (KSZ 6)).before a0 Z = true ∧ (Cond.initialized (CN 6)).before a0 Z = true := ⟨(hw _ (List.mem_of_getElem? (i := 43) rfl)), (hw _ (List.mem_of_getElem? (i := 44) rfl))⟩
theorem t_n_3 {Z : State} {a0 : Array Value} (hw : ∀ d ∈ tables_1, d.before a0 Z = true) : (Cond.instantiable (CN 7) (KSZ 7)).before a0 Z = true ∧ (Cond.initialized (CN 7)).before a0 Z = true := ⟨(hw _ (List.mem_of_getElem? (i := 52) rfl)), (hw _ (List.mem_of_getElem? (i := 53) rfl))⟩
theorem t_n_4 {Z : State} {a0 : Array Value} (hw : ∀ d ∈ tables_1, d.before a0 Z = true) : (Cond.instantiable (CN 8) (KSZ 8)).before a0 Z = true ∧ (Cond.initialized (CN 8)).before a0 Z = true := ⟨(hw _ (List.mem_of_getElem? (i := 66) rfl)), (hw _ (List.mem_of_getElem? (i := 67) rfl))⟩
theorem t_n_5 {Z : State} {a0 : Array Value} (hw : ∀ d ∈ tables_1, d.before a0 Z = true) : (Cond.instantiable (CN 11) (KSZ 11)).before a0 Z = true ∧ (Cond.initialized (CN 11)).before a0 Z = true := ⟨(hw _ (List.mem_of_getElem? (i := 125) rfl)), (hw _ (List.mem_of_getElem? (i := 126) rfl))⟩
theorem t_n_6 {Z : State} {a0 : Array Value} (hw : ∀ d ∈ tables_1, d.before a0 Z = true) : (Cond.instantiable (CN 12) (KSZ 12)).before a0 Z = true ∧ (Cond.initialized (CN 12)).before a0 Z = true := ⟨(hw _ (List.mem_of_getElem? (i := 151) rfl)), (hw _ (List.mem_of_getElem? (i := 152) rfl))⟩
theorem t_n {Z : State} {a0 : Array Value} (hw : ∀ d ∈ tables_1, d.before a0 Z = true) : ∀ q ∈ newT, (Cond.instantiable (CN q) (KSZ q)).before a0 Z = true ∧ (Cond.initialized (CN q)).before a0 Z = true := (fa_cons (t_n_0 hw) (fa_cons (t_n_1 hw) (fa_cons (t_n_2 hw) (fa_cons (t_n_3 hw) (fa_cons (t_n_4 hw) (fa_cons (t_n_5 hw) (fa_cons (t_n_6 hw) fa_nil)))))))
theorem t_k_0 {Z : State} {a0 : Array Value} (hw : ∀ d ∈ tables_1, d.before a0 Z = true) : (Cond.castable (CN 6) (CN 16)).before a0 Z = true := (hw _ (List.mem_of_getElem? (i := 186) rfl))
theorem t_k_1 {Z : State} {a0 : Array Value} (hw : ∀ d ∈ tables_1, d.before a0 Z = true) : (Cond.castable (CN 7) (CN 16)).before a0 Z = true := (hw _ (List.mem_of_getElem? (i := 203) rfl))
theorem t_k_2 {Z : State} {a0 : Array Value} (hw : ∀ d ∈ tables_1, d.before a0 Z = true) : (Cond.castable (CN 11) (CN 15)).before a0 Z = true := (hw _ (List.mem_of_getElem? (i := 148) rfl))
theorem t_k_3 {Z : State} {a0 : Array Value} (hw : ∀ d ∈ tables_1, d.before a0 Z = true) : (Cond.castable (CN 12) (CN 10)).before a0 Z = true := (hw _ (List.mem_of_getElem? (i := 333) rfl))
theorem t_k {Z : State} {a0 : Array Value} (hw : ∀ d ∈ tables_1, d.before a0 Z = true) : ∀ q ∈ castP, (Cond.castable (CN q.1) (CN q.2)).before a0 Z = true := (fa_cons (t_k_0 hw) (fa_cons (t_k_1 hw) (fa_cons (t_k_2 hw) (fa_cons (t_k_3 hw) fa_nil))))
theorem t_o_0 {Z : State} {a0 : Array Value} (hw : ∀ d ∈ tables_1, d.before a0 Z = true) : (Cond.methodLink (CN 2) 1 Lib.objectInit).before a0 Z = true := (hw _ (List.mem_of_getElem? (i := 11) rfl))
theorem t_o_1 {Z : State} {a0 : Array Value} (hw : ∀ d ∈ tables_1, d.before a0 Z = true) : (Cond.methodLink (CN 5) 1 Lib.objectInit).before a0 Z = true := (hw _ (List.mem_of_getElem? (i := 32) rfl))
theorem t_o_2 {Z : State} {a0 : Array Value} (hw : ∀ d ∈ tables_1, d.before a0 Z = true) : (Cond.methodLink (CN 6) 1 Lib.objectInit).before a0 Z = true := (hw _ (List.mem_of_getElem? (i := 48) rfl))
theorem t_o_3 {Z : State} {a0 : Array Value} (hw : ∀ d ∈ tables_1, d.before a0 Z = true) : (Cond.methodLink (CN 7) 1 Lib.objectInit).before a0 Z = true := (hw _ (List.mem_of_getElem? (i := 57) rfl))
theorem t_o_4 {Z : State} {a0 : Array Value} (hw : ∀ d ∈ tables_1, d.before a0 Z = true) : (Cond.methodLink (CN 10) 1 Lib.objectInit).before a0 Z = true := (hw _ (List.mem_of_getElem? (i := 81) rfl))
theorem t_o_5 {Z : State} {a0 : Array Value} (hw : ∀ d ∈ tables_1, d.before a0 Z = true) : (Cond.methodLink (CN 11) 7 Lib.objectInit).before a0 Z = true := (hw _ (List.mem_of_getElem? (i := 132) rfl))
theorem t_o {Z : State} {a0 : Array Value} (hw : ∀ d ∈ tables_1, d.before a0 Z = true) : ∀ q ∈ isOIT, (Cond.methodLink (CN q.1) q.2 Lib.objectInit).before a0 Z = true := (fa_cons (t_o_0 hw) (fa_cons (t_o_1 hw) (fa_cons (t_o_2 hw) (fa_cons (t_o_3 hw) (fa_cons (t_o_4 hw) (fa_cons (t_o_5 hw) fa_nil))))))
theorem tabOK {Z : State} {a0 : Array Value} (hw : ∀ d ∈ tables_1, d.before a0 Z = true) : TabOK Z a0 := ⟨t_f hw, t_l hw, t_c hw, t_n hw, t_k hw, t_o hw, (hw _ (List.mem_of_getElem? (i := 12) rfl)), (hw _ (List.mem_of_getElem? (i := 13) rfl))⟩
theorem t_s_0 {Z : State} {a0 : Array Value} (hw : ∀ d ∈ tables_1, d.before a0 Z = true) : (Cond.lambdaSite (MN 2) 6 7 (LSh 17)).before a0 Z = true ∧ LH 17 = (MN 2).cls ∧ (∃ C, (LSh 17).captured = [.object C]) ∧ Jvm.LamKit.capOK (LSh 17) (LH 17) 15 0 = true := ⟨(hw _ (List.mem_of_getElem? (i := 14) rfl)), rfl, ⟨_, rfl⟩, by decide +kernel⟩
theorem t_s_1 {Z : State} {a0 : Array Value} (hw : ∀ d ∈ tables_1, d.before a0 Z = true) : (Cond.lambdaSite (MN 2) 19 23 (LSh 18)).before a0 Z = true ∧ LH 18 = (MN 2).cls ∧ (∃ C, (LSh 18).captured = [.object C]) ∧ Jvm.LamKit.capOK (LSh 18) (LH 18) 15 0 = true := ⟨(hw _ (List.mem_of_getElem? (i := 39) rfl)), rfl, ⟨_, rfl⟩, by decide +kernel⟩
theorem t_s_2 {Z : State} {a0 : Array Value} (hw : ∀ d ∈ tables_1, d.before a0 Z = true) : (Cond.lambdaSite (MN 10) 13 13 (LSh 19)).before a0 Z = true ∧ LH 19 = (MN 10).cls ∧ (∃ C, (LSh 19).captured = [.object C]) ∧ Jvm.LamKit.capOK (LSh 19) (LH 19) 15 0 = true := ⟨(hw _ (List.mem_of_getElem? (i := 89) rfl)), rfl, ⟨_, rfl⟩, by decide +kernel⟩
theorem t_s_3 {Z : State} {a0 : Array Value} (hw : ∀ d ∈ tables_1, d.before a0 Z = true) : (Cond.lambdaSite (MN 10) 30 32 (LSh 20)).before a0 Z = true ∧ LH 20 = (MN 10).cls ∧ (∃ C, (LSh 20).captured = [.object C]) ∧ Jvm.LamKit.capOK (LSh 20) (LH 20) 15 0 = true := ⟨(hw _ (List.mem_of_getElem? (i := 97) rfl)), rfl, ⟨_, rfl⟩, by decide +kernel⟩
theorem t_s {Z : State} {a0 : Array Value} (hw : ∀ d ∈ tables_1, d.before a0 Z = true) : ∀ q ∈ siteT, (Cond.lambdaSite (MN q.1) q.2.1 q.2.2.1 (LSh q.2.2.2)).before a0 Z = true ∧ LH q.2.2.2 = (MN q.1).cls ∧ (∃ C, (LSh q.2.2.2).captured = [.object C]) ∧ Jvm.LamKit.capOK (LSh q.2.2.2) (LH q.2.2.2) 15 0 = true := (fa_cons (t_s_0 hw) (fa_cons (t_s_1 hw) (fa_cons (t_s_2 hw) (fa_cons (t_s_3 hw) fa_nil))))
theorem siteOK {Z : State} {a0 : Array Value} (hw : ∀ d ∈ tables_1, d.before a0 Z = true) : SiteOK Z a0 := ⟨t_s hw, (hw _ (List.mem_of_getElem? (i := 17) rfl))⟩
theorem pn_1 : plainFor (⟨"com/example/keyedge/keyedge/AdjacencyListGraph", "<init>", "()V"⟩ : MethodName) = true := plainFor_of_name (by first | (simp [plainName, overriddenIn]; done) | decide +kernel)
theorem bok_1 {Z : State} {a0 : Array Value} (hw : ∀ d ∈ tables_1, d.before a0 Z = true) : BOK Z a0 1 := ⟨(hw _ (List.mem_of_getElem? (i := 5) rfl)), (hw _ (List.mem_of_getElem? (i := 2) rfl)), ⟨by decide, by decide⟩, pn_1, rfl, (fun _ => rfl), by decide⟩
theorem pn_2 : plainFor (⟨"com/example/keyedge/keyedge/AbstractGraph", "<init>", "()V"⟩ : MethodName) = true := plainFor_of_name (by first | (simp [plainName, overriddenIn]; done) | decide +kernel)
theorem bok_2 {Z : State} {a0 : Array Value} (hw : ∀ d ∈ tables_1, d.before a0 Z = true) : BOK Z a0 2 := ⟨(hw _ (List.mem_of_getElem? (i := 10) rfl)), (hw _ (List.mem_of_getElem? (i := 9) rfl)), ⟨by decide, by decide⟩, pn_2, rfl, (fun _ => rfl), by decide⟩
theorem pn_4 : plainFor (⟨"com/example/keyedge/keyedge/Chain", "of", "(Ljava/util/function/Predicate;)Lcom/example/keyedge/keyedge/Chain;"⟩ : MethodName) = true := plainFor_of_name (by first | (simp [plainName, overriddenIn]; done) | decide +kernel)
theorem bok_4 {Z : State} {a0 : Array Value} (hw : ∀ d ∈ tables_1, d.before a0 Z = true) : BOK Z a0 4 := ⟨(hw _ (List.mem_of_getElem? (i := 21) rfl)), (hw _ (List.mem_of_getElem? (i := 20) rfl)), ⟨by decide, by decide⟩, pn_4, rfl, (fun h => by cases h), by decide⟩
theorem pn_5 : plainFor (⟨"com/example/keyedge/keyedge/Chain", "<init>", "(Lcom/example/keyedge/keyedge/Chain$Strand;Ljava/util/function/Predicate;)V"⟩ : MethodName) = true := plainFor_of_name (by first | (simp [plainName, overriddenIn]; done) | decide +kernel)
theorem bok_5 {Z : State} {a0 : Array Value} (hw : ∀ d ∈ tables_1, d.before a0 Z = true) : BOK Z a0 5 := ⟨(hw _ (List.mem_of_getElem? (i := 26) rfl)), (hw _ (List.mem_of_getElem? (i := 20) rfl)), ⟨by decide, by decide⟩, pn_5, rfl, (fun _ => rfl), by decide⟩
theorem pn_6 : plainFor (⟨"java/util/AbstractCollection", "<init>", "()V"⟩ : MethodName) = true := plainFor_of_name (by first | (simp [plainName, overriddenIn]; done) | decide +kernel)
theorem bok_6 {Z : State} {a0 : Array Value} (hw : ∀ d ∈ tables_1, d.before a0 Z = true) : BOK Z a0 6 := ⟨(hw _ (List.mem_of_getElem? (i := 31) rfl)), (hw _ (List.mem_of_getElem? (i := 30) rfl)), ⟨by decide, by decide⟩, pn_6, rfl, (fun _ => rfl), by decide⟩
theorem pn_7 : plainFor (⟨"com/example/keyedge/keyedge/AdjacencyListGraph$1", "<init>", "(Lcom/example/keyedge/keyedge/AdjacencyListGraph;)V"⟩ : MethodName) = true := plainFor_of_name (by first | (simp [plainName, overriddenIn]; done) | decide +kernel)
theorem bok_7 {Z : State} {a0 : Array Value} (hw : ∀ d ∈ tables_1, d.before a0 Z = true) : BOK Z a0 7 := ⟨(hw _ (List.mem_of_getElem? (i := 47) rfl)), (hw _ (List.mem_of_getElem? (i := 44) rfl)), ⟨by decide, by decide⟩, pn_7, rfl, (fun _ => rfl), by decide⟩
theorem pn_8 : plainFor (⟨"com/example/keyedge/keyedge/AdjacencyListGraph$2", "<init>", "(Lcom/example/keyedge/keyedge/AdjacencyListGraph;)V"⟩ : MethodName) = true := plainFor_of_name (by first | (simp [plainName, overriddenIn]; done) | decide +kernel)
theorem bok_8 {Z : State} {a0 : Array Value} (hw : ∀ d ∈ tables_1, d.before a0 Z = true) : BOK Z a0 8 := ⟨(hw _ (List.mem_of_getElem? (i := 56) rfl)), (hw _ (List.mem_of_getElem? (i := 53) rfl)), ⟨by decide, by decide⟩, pn_8, rfl, (fun _ => rfl), by decide⟩
theorem pn_9 : plainFor (⟨"com/example/keyedge/keyedge/AdjacencyListGraph", "newNode", "(Ljava/lang/Object;I)Lcom/example/keyedge/keyedge/AdjacencyListGraph$ListNode;"⟩ : MethodName) = true := plainFor_of_name (by first | (simp [plainName, overriddenIn]; done) | decide +kernel)
theorem bok_9 {Z : State} {a0 : Array Value} (hw : ∀ d ∈ tables_1, d.before a0 Z = true) : BOK Z a0 9 := ⟨(hw _ (List.mem_of_getElem? (i := 64) rfl)), (hw _ (List.mem_of_getElem? (i := 2) rfl)), ⟨by decide, by decide⟩, pn_9, rfl, (fun h => by cases h), by decide⟩
theorem pn_10 : plainFor (⟨"com/example/keyedge/keyedge/AdjacencyListGraph$ListNode", "<init>", "(Lcom/example/keyedge/keyedge/AdjacencyListGraph;Ljava/lang/Object;I)V"⟩ : MethodName) = true := plainFor_of_name (by first | (simp [plainName, overriddenIn]; done) | decide +kernel)
theorem bok_10 {Z : State} {a0 : Array Value} (hw : ∀ d ∈ tables_1, d.before a0 Z = true) : BOK Z a0 10 := ⟨(hw _ (List.mem_of_getElem? (i := 70) rfl)), (hw _ (List.mem_of_getElem? (i := 67) rfl)), ⟨by decide, by decide⟩, pn_10, rfl, (fun _ => rfl), by decide⟩
theorem pn_11 : plainFor (⟨"com/example/keyedge/keyedge/AbstractGraph$Node", "<init>", "(Lcom/example/keyedge/keyedge/AbstractGraph;Ljava/lang/Object;I)V"⟩ : MethodName) = true := plainFor_of_name (by first | (simp [plainName, overriddenIn]; done) | decide +kernel)
theorem bok_11 {Z : State} {a0 : Array Value} (hw : ∀ d ∈ tables_1, d.before a0 Z = true) : BOK Z a0 11 := ⟨(hw _ (List.mem_of_getElem? (i := 75) rfl)), (hw _ (List.mem_of_getElem? (i := 74) rfl)), ⟨by decide, by decide⟩, pn_11, rfl, (fun _ => rfl), by decide⟩
theorem pn_12 : plainFor (⟨"com/example/keyedge/keyedge/Chain$Linked", "<init>", "()V"⟩ : MethodName) = true := plainFor_of_name (by first | (simp [plainName, overriddenIn]; done) | decide +kernel)
theorem bok_12 {Z : State} {a0 : Array Value} (hw : ∀ d ∈ tables_1, d.before a0 Z = true) : BOK Z a0 12 := ⟨(hw _ (List.mem_of_getElem? (i := 80) rfl)), (hw _ (List.mem_of_getElem? (i := 79) rfl)), ⟨by decide, by decide⟩, pn_12, rfl, (fun _ => rfl), by decide⟩
theorem pn_13 : plainFor (⟨"com/example/keyedge/keyedge/Chain", "of", "(Lcom/example/keyedge/keyedge/Chain$Strand;Ljava/util/function/Predicate;)Lcom/example/keyedge/keyedge/Chain;"⟩ : MethodName) = true := plainFor_of_name (by first | (simp [plainName, overriddenIn]; done) | decide +kernel)
theorem bok_13 {Z : State} {a0 : Array Value} (hw : ∀ d ∈ tables_1, d.before a0 Z = true) : BOK Z a0 13 := ⟨(hw _ (List.mem_of_getElem? (i := 93) rfl)), (hw _ (List.mem_of_getElem? (i := 20) rfl)), ⟨by decide, by decide⟩, pn_13, rfl, (fun h => by cases h), by decide⟩
theorem pn_14 : plainFor (⟨"com/example/keyedge/keyedge/AdjacencyListGraph", "attach", "(Lcom/example/keyedge/keyedge/AdjacencyListGraph$ListNode;Lcom/example/keyedge/keyedge/AdjacencyListGraph$ListNode;Ljava/lang/Object;)Lcom/example/keyedge/keyedge/AdjacencyListGraph$ListLink;"⟩ : MethodName) = true := plainFor_of_name (by first | (simp [plainName, overriddenIn]; done) | decide +kernel)
theorem bok_14 {Z : State} {a0 : Array Value} (hw : ∀ d ∈ tables_1, d.before a0 Z = true) : BOK Z a0 14 := ⟨(hw _ (List.mem_of_getElem? (i := 104) rfl)), (hw _ (List.mem_of_getElem? (i := 2) rfl)), ⟨by decide, by decide⟩, pn_14, rfl, (fun h => by cases h), by decide⟩
theorem pn_15 : plainFor (⟨"com/example/keyedge/keyedge/AdjacencyListGraph", "edge", "(Lcom/example/keyedge/keyedge/AdjacencyListGraph$ListNode;Lcom/example/keyedge/keyedge/AdjacencyListGraph$ListNode;)Lcom/example/keyedge/keyedge/AdjacencyListGraph$ListLink;"⟩ : MethodName) = true := plainFor_of_name (by first | (simp [plainName, overriddenIn]; done) | decide +kernel)
theorem bok_15 {Z : State} {a0 : Array Value} (hw : ∀ d ∈ tables_1, d.before a0 Z = true) : BOK Z a0 15 := ⟨(hw _ (List.mem_of_getElem? (i := 109) rfl)), (hw _ (List.mem_of_getElem? (i := 2) rfl)), ⟨by decide, by decide⟩, pn_15, rfl, (fun h => by cases h), by decide⟩
theorem pn_16 : plainFor (⟨"com/example/keyedge/keyedge/Chain", "size", "()I"⟩ : MethodName) = true := plainFor_of_name (by first | (simp [plainName, overriddenIn]; done) | decide +kernel)
theorem bok_16 {Z : State} {a0 : Array Value} (hw : ∀ d ∈ tables_1, d.before a0 Z = true) : BOK Z a0 16 := ⟨(hw _ (List.mem_of_getElem? (i := 115) rfl)), (hw _ (List.mem_of_getElem? (i := 20) rfl)), ⟨by decide, by decide⟩, pn_16, rfl, (fun h => by cases h), by decide⟩
theorem pn_17 : plainFor (⟨"com/example/keyedge/keyedge/Chain", "iterator", "()Ljava/util/Iterator;"⟩ : MethodName) = true := plainFor_of_name (by first | (simp [plainName, overriddenIn]; done) | decide +kernel)
theorem bok_17 {Z : State} {a0 : Array Value} (hw : ∀ d ∈ tables_1, d.before a0 Z = true) : BOK Z a0 17 := ⟨(hw _ (List.mem_of_getElem? (i := 123) rfl)), (hw _ (List.mem_of_getElem? (i := 20) rfl)), ⟨by decide, by decide⟩, pn_17, rfl, (fun h => by cases h), by decide⟩
theorem pn_18 : plainFor (⟨"com/example/keyedge/keyedge/Chain$1", "<init>", "(Lcom/example/keyedge/keyedge/Chain;)V"⟩ : MethodName) = true := plainFor_of_name (by first | (simp [plainName, overriddenIn]; done) | decide +kernel)
theorem bok_18 {Z : State} {a0 : Array Value} (hw : ∀ d ∈ tables_1, d.before a0 Z = true) : BOK Z a0 18 := ⟨(hw _ (List.mem_of_getElem? (i := 129) rfl)), (hw _ (List.mem_of_getElem? (i := 126) rfl)), ⟨by decide, by decide⟩, pn_18, rfl, (fun _ => rfl), by decide⟩
theorem pn_19 : plainFor (⟨"com/example/keyedge/keyedge/Chain$1", "hasNext", "()Z"⟩ : MethodName) = true := plainFor_of_name (by first | (simp [plainName, overriddenIn]; done) | decide +kernel)
theorem bok_19 {Z : State} {a0 : Array Value} (hw : ∀ d ∈ tables_1, d.before a0 Z = true) : BOK Z a0 19 := ⟨(hw _ (List.mem_of_getElem? (i := 149) rfl)), (hw _ (List.mem_of_getElem? (i := 126) rfl)), ⟨by decide, by decide⟩, pn_19, rfl, (fun h => by cases h), by decide⟩
theorem pn_20 : plainFor (⟨"com/example/keyedge/keyedge/AdjacencyListGraph$ListLink", "<init>", "(Lcom/example/keyedge/keyedge/AdjacencyListGraph$ListNode;Lcom/example/keyedge/keyedge/AdjacencyListGraph$ListNode;Ljava/lang/Object;)V"⟩ : MethodName) = true := plainFor_of_name (by first | (simp [plainName, overriddenIn]; done) | decide +kernel)
theorem bok_20 {Z : State} {a0 : Array Value} (hw : ∀ d ∈ tables_1, d.before a0 Z = true) : BOK Z a0 20 := ⟨(hw _ (List.mem_of_getElem? (i := 155) rfl)), (hw _ (List.mem_of_getElem? (i := 152) rfl)), ⟨by decide, by decide⟩, pn_20, rfl, (fun _ => rfl), by decide⟩
theorem pn_21 : plainFor (⟨"com/example/keyedge/keyedge/AbstractGraph$Link", "<init>", "(Lcom/example/keyedge/keyedge/AbstractGraph$Node;Lcom/example/keyedge/keyedge/AbstractGraph$Node;Ljava/lang/Object;)V"⟩ : MethodName) = true := plainFor_of_name (by first | (simp [plainName, overriddenIn]; done) | decide +kernel)
theorem bok_21 {Z : State} {a0 : Array Value} (hw : ∀ d ∈ tables_1, d.before a0 Z = true) : BOK Z a0 21 := ⟨(hw _ (List.mem_of_getElem? (i := 160) rfl)), (hw _ (List.mem_of_getElem? (i := 159) rfl)), ⟨by decide, by decide⟩, pn_21, rfl, (fun _ => rfl), by decide⟩
theorem pn_22 : plainFor (⟨"com/example/keyedge/keyedge/Chain", "append", "(Lcom/example/keyedge/keyedge/Chain$Linked;)V"⟩ : MethodName) = true := plainFor_of_name (by first | (simp [plainName, overriddenIn]; done) | decide +kernel)
theorem bok_22 {Z : State} {a0 : Array Value} (hw : ∀ d ∈ tables_1, d.before a0 Z = true) : BOK Z a0 22 := ⟨(hw _ (List.mem_of_getElem? (i := 172) rfl)), (hw _ (List.mem_of_getElem? (i := 20) rfl)), ⟨by decide, by decide⟩, pn_22, rfl, (fun h => by cases h), by decide⟩
theorem pn_23 : plainFor (⟨"com/example/keyedge/keyedge/Chain", "setPrevious", "(Lcom/example/keyedge/keyedge/Chain$Linked;Lcom/example/keyedge/keyedge/Chain$Linked;)V"⟩ : MethodName) = true := plainFor_of_name (by first | (simp [plainName, overriddenIn]; done) | decide +kernel)
theorem bok_23 {Z : State} {a0 : Array Value} (hw : ∀ d ∈ tables_1, d.before a0 Z = true) : BOK Z a0 23 := ⟨(hw _ (List.mem_of_getElem? (i := 178) rfl)), (hw _ (List.mem_of_getElem? (i := 20) rfl)), ⟨by decide, by decide⟩, pn_23, rfl, (fun h => by cases h), by decide⟩
theorem pn_24 : plainFor (⟨"com/example/keyedge/keyedge/AdjacencyListGraph$1", "setPrevious", "(Ljava/lang/Object;Ljava/lang/Object;)V"⟩ : MethodName) = true := plainFor_of_name (by first | (simp [plainName, overriddenIn]; done) | decide +kernel)
theorem bok_24 {Z : State} {a0 : Array Value} (hw : ∀ d ∈ tables_1, d.before a0 Z = true) : BOK Z a0 24 := ⟨(hw _ (List.mem_of_getElem? (i := 187) rfl)), (hw _ (List.mem_of_getElem? (i := 44) rfl)), ⟨by decide, by decide⟩, pn_24, rfl, (fun h => by cases h), by decide⟩
theorem pn_25 : plainFor (⟨"com/example/keyedge/keyedge/AdjacencyListGraph$1", "setPrevious", "(Lcom/example/keyedge/keyedge/AdjacencyListGraph$ListLink;Lcom/example/keyedge/keyedge/AdjacencyListGraph$ListLink;)V"⟩ : MethodName) = true := plainFor_of_name (by first | (simp [plainName, overriddenIn]; done) | decide +kernel)
theorem bok_25 {Z : State} {a0 : Array Value} (hw : ∀ d ∈ tables_1, d.before a0 Z = true) : BOK Z a0 25 := ⟨(hw _ (List.mem_of_getElem? (i := 194) rfl)), (hw _ (List.mem_of_getElem? (i := 44) rfl)), ⟨by decide, by decide⟩, pn_25, rfl, (fun h => by cases h), by decide⟩
theorem pn_26 : plainFor (⟨"com/example/keyedge/keyedge/AdjacencyListGraph$2", "setPrevious", "(Ljava/lang/Object;Ljava/lang/Object;)V"⟩ : MethodName) = true := plainFor_of_name (by first | (simp [plainName, overriddenIn]; done) | decide +kernel)
theorem bok_26 {Z : State} {a0 : Array Value} (hw : ∀ d ∈ tables_1, d.before a0 Z = true) : BOK Z a0 26 := ⟨(hw _ (List.mem_of_getElem? (i := 204) rfl)), (hw _ (List.mem_of_getElem? (i := 53) rfl)), ⟨by decide, by decide⟩, pn_26, rfl, (fun h => by cases h), by decide⟩
theorem pn_27 : plainFor (⟨"com/example/keyedge/keyedge/AdjacencyListGraph$2", "setPrevious", "(Lcom/example/keyedge/keyedge/AdjacencyListGraph$ListLink;Lcom/example/keyedge/keyedge/AdjacencyListGraph$ListLink;)V"⟩ : MethodName) = true := plainFor_of_name (by first | (simp [plainName, overriddenIn]; done) | decide +kernel)
theorem bok_27 {Z : State} {a0 : Array Value} (hw : ∀ d ∈ tables_1, d.before a0 Z = true) : BOK Z a0 27 := ⟨(hw _ (List.mem_of_getElem? (i := 210) rfl)), (hw _ (List.mem_of_getElem? (i := 53) rfl)), ⟨by decide, by decide⟩, pn_27, rfl, (fun h => by cases h), by decide⟩
theorem pn_28 : plainFor (⟨"com/example/keyedge/keyedge/AdjacencyListGraph", "detach", "(Lcom/example/keyedge/keyedge/AdjacencyListGraph$ListLink;)V"⟩ : MethodName) = true := plainFor_of_name (by first | (simp [plainName, overriddenIn]; done) | decide +kernel)
theorem bok_28 {Z : State} {a0 : Array Value} (hw : ∀ d ∈ tables_1, d.before a0 Z = true) : BOK Z a0 28 := ⟨(hw _ (List.mem_of_getElem? (i := 217) rfl)), (hw _ (List.mem_of_getElem? (i := 2) rfl)), ⟨by decide, by decide⟩, pn_28, rfl, (fun h => by cases h), by decide⟩
theorem pn_29 : plainFor (⟨"com/example/keyedge/keyedge/Chain", "unlink", "(Lcom/example/keyedge/keyedge/Chain$Linked;)V"⟩ : MethodName) = true := plainFor_of_name (by first | (simp [plainName, overriddenIn]; done) | decide +kernel)
theorem bok_29 {Z : State} {a0 : Array Value} (hw : ∀ d ∈ tables_1, d.before a0 Z = true) : BOK Z a0 29 := ⟨(hw _ (List.mem_of_getElem? (i := 224) rfl)), (hw _ (List.mem_of_getElem? (i := 20) rfl)), ⟨by decide, by decide⟩, pn_29, rfl, (fun h => by cases h), by decide⟩
theorem pn_30 : plainFor (⟨"com/example/keyedge/keyedge/Chain", "previous", "(Lcom/example/keyedge/keyedge/Chain$Linked;)Lcom/example/keyedge/keyedge/Chain$Linked;"⟩ : MethodName) = true := plainFor_of_name (by first | (simp [plainName, overriddenIn]; done) | decide +kernel)
theorem bok_30 {Z : State} {a0 : Array Value} (hw : ∀ d ∈ tables_1, d.before a0 Z = true) : BOK Z a0 30 := ⟨(hw _ (List.mem_of_getElem? (i := 228) rfl)), (hw _ (List.mem_of_getElem? (i := 20) rfl)), ⟨by decide, by decide⟩, pn_30, rfl, (fun h => by cases h), by decide⟩
theorem pn_31 : plainFor (⟨"com/example/keyedge/keyedge/AdjacencyListGraph$1", "previous", "(Ljava/lang/Object;)Ljava/lang/Object;"⟩ : MethodName) = true := plainFor_of_name (by first | (simp [plainName, overriddenIn]; done) | decide +kernel)
theorem bok_31 {Z : State} {a0 : Array Value} (hw : ∀ d ∈ tables_1, d.before a0 Z = true) : BOK Z a0 31 := ⟨(hw _ (List.mem_of_getElem? (i := 236) rfl)), (hw _ (List.mem_of_getElem? (i := 44) rfl)), ⟨by decide, by decide⟩, pn_31, rfl, (fun h => by cases h), by decide⟩
theorem pn_32 : plainFor (⟨"com/example/keyedge/keyedge/AdjacencyListGraph$1", "previous", "(Lcom/example/keyedge/keyedge/AdjacencyListGraph$ListLink;)Lcom/example/keyedge/keyedge/AdjacencyListGraph$ListLink;"⟩ : MethodName) = true := plainFor_of_name (by first | (simp [plainName, overriddenIn]; done) | decide +kernel)
theorem bok_32 {Z : State} {a0 : Array Value} (hw : ∀ d ∈ tables_1, d.before a0 Z = true) : BOK Z a0 32 := ⟨(hw _ (List.mem_of_getElem? (i := 241) rfl)), (hw _ (List.mem_of_getElem? (i := 44) rfl)), ⟨by decide, by decide⟩, pn_32, rfl, (fun h => by cases h), by decide⟩
theorem pn_33 : plainFor (⟨"com/example/keyedge/keyedge/Chain", "next", "(Lcom/example/keyedge/keyedge/Chain$Linked;)Lcom/example/keyedge/keyedge/Chain$Linked;"⟩ : MethodName) = true := plainFor_of_name (by first | (simp [plainName, overriddenIn]; done) | decide +kernel)
theorem bok_33 {Z : State} {a0 : Array Value} (hw : ∀ d ∈ tables_1, d.before a0 Z = true) : BOK Z a0 33 := ⟨(hw _ (List.mem_of_getElem? (i := 245) rfl)), (hw _ (List.mem_of_getElem? (i := 20) rfl)), ⟨by decide, by decide⟩, pn_33, rfl, (fun h => by cases h), by decide⟩
theorem pn_34 : plainFor (⟨"com/example/keyedge/keyedge/AdjacencyListGraph$1", "next", "(Ljava/lang/Object;)Ljava/lang/Object;"⟩ : MethodName) = true := plainFor_of_name (by first | (simp [plainName, overriddenIn]; done) | decide +kernel)
theorem bok_34 {Z : State} {a0 : Array Value} (hw : ∀ d ∈ tables_1, d.before a0 Z = true) : BOK Z a0 34 := ⟨(hw _ (List.mem_of_getElem? (i := 253) rfl)), (hw _ (List.mem_of_getElem? (i := 44) rfl)), ⟨by decide, by decide⟩, pn_34, rfl, (fun h => by cases h), by decide⟩
theorem pn_35 : plainFor (⟨"com/example/keyedge/keyedge/AdjacencyListGraph$1", "next", "(Lcom/example/keyedge/keyedge/AdjacencyListGraph$ListLink;)Lcom/example/keyedge/keyedge/AdjacencyListGraph$ListLink;"⟩ : MethodName) = true := plainFor_of_name (by first | (simp [plainName, overriddenIn]; done) | decide +kernel)
theorem bok_35 {Z : State} {a0 : Array Value} (hw : ∀ d ∈ tables_1, d.before a0 Z = true) : BOK Z a0 35 := ⟨(hw _ (List.mem_of_getElem? (i := 258) rfl)), (hw _ (List.mem_of_getElem? (i := 44) rfl)), ⟨by decide, by decide⟩, pn_35, rfl, (fun h => by cases h), by decide⟩
theorem pn_36 : plainFor (⟨"com/example/keyedge/keyedge/Chain", "setNext", "(Lcom/example/keyedge/keyedge/Chain$Linked;Lcom/example/keyedge/keyedge/Chain$Linked;)V"⟩ : MethodName) = true := plainFor_of_name (by first | (simp [plainName, overriddenIn]; done) | decide +kernel)
theorem bok_36 {Z : State} {a0 : Array Value} (hw : ∀ d ∈ tables_1, d.before a0 Z = true) : BOK Z a0 36 := ⟨(hw _ (List.mem_of_getElem? (i := 264) rfl)), (hw _ (List.mem_of_getElem? (i := 20) rfl)), ⟨by decide, by decide⟩, pn_36, rfl, (fun h => by cases h), by decide⟩
theorem pn_37 : plainFor (⟨"com/example/keyedge/keyedge/AdjacencyListGraph$1", "setNext", "(Ljava/lang/Object;Ljava/lang/Object;)V"⟩ : MethodName) = true := plainFor_of_name (by first | (simp [plainName, overriddenIn]; done) | decide +kernel)
theorem bok_37 {Z : State} {a0 : Array Value} (hw : ∀ d ∈ tables_1, d.before a0 Z = true) : BOK Z a0 37 := ⟨(hw _ (List.mem_of_getElem? (i := 272) rfl)), (hw _ (List.mem_of_getElem? (i := 44) rfl)), ⟨by decide, by decide⟩, pn_37, rfl, (fun h => by cases h), by decide⟩
theorem pn_38 : plainFor (⟨"com/example/keyedge/keyedge/AdjacencyListGraph$1", "setNext", "(Lcom/example/keyedge/keyedge/AdjacencyListGraph$ListLink;Lcom/example/keyedge/keyedge/AdjacencyListGraph$ListLink;)V"⟩ : MethodName) = true := plainFor_of_name (by first | (simp [plainName, overriddenIn]; done) | decide +kernel)
theorem bok_38 {Z : State} {a0 : Array Value} (hw : ∀ d ∈ tables_1, d.before a0 Z = true) : BOK Z a0 38 := ⟨(hw _ (List.mem_of_getElem? (i := 277) rfl)), (hw _ (List.mem_of_getElem? (i := 44) rfl)), ⟨by decide, by decide⟩, pn_38, rfl, (fun h => by cases h), by decide⟩
theorem pn_39 : plainFor (⟨"com/example/keyedge/keyedge/AdjacencyListGraph$2", "previous", "(Ljava/lang/Object;)Ljava/lang/Object;"⟩ : MethodName) = true := plainFor_of_name (by first | (simp [plainName, overriddenIn]; done) | decide +kernel)
theorem bok_39 {Z : State} {a0 : Array Value} (hw : ∀ d ∈ tables_1, d.before a0 Z = true) : BOK Z a0 39 := ⟨(hw _ (List.mem_of_getElem? (i := 284) rfl)), (hw _ (List.mem_of_getElem? (i := 53) rfl)), ⟨by decide, by decide⟩, pn_39, rfl, (fun h => by cases h), by decide⟩
theorem pn_40 : plainFor (⟨"com/example/keyedge/keyedge/AdjacencyListGraph$2", "previous", "(Lcom/example/keyedge/keyedge/AdjacencyListGraph$ListLink;)Lcom/example/keyedge/keyedge/AdjacencyListGraph$ListLink;"⟩ : MethodName) = true := plainFor_of_name (by first | (simp [plainName, overriddenIn]; done) | decide +kernel)
theorem bok_40 {Z : State} {a0 : Array Value} (hw : ∀ d ∈ tables_1, d.before a0 Z = true) : BOK Z a0 40 := ⟨(hw _ (List.mem_of_getElem? (i := 289) rfl)), (hw _ (List.mem_of_getElem? (i := 53) rfl)), ⟨by decide, by decide⟩, pn_40, rfl, (fun h => by cases h), by decide⟩
theorem pn_41 : plainFor (⟨"com/example/keyedge/keyedge/AdjacencyListGraph$2", "next", "(Ljava/lang/Object;)Ljava/lang/Object;"⟩ : MethodName) = true := plainFor_of_name (by first | (simp [plainName, overriddenIn]; done) | decide +kernel)
theorem bok_41 {Z : State} {a0 : Array Value} (hw : ∀ d ∈ tables_1, d.before a0 Z = true) : BOK Z a0 41 := ⟨(hw _ (List.mem_of_getElem? (i := 294) rfl)), (hw _ (List.mem_of_getElem? (i := 53) rfl)), ⟨by decide, by decide⟩, pn_41, rfl, (fun h => by cases h), by decide⟩
theorem pn_42 : plainFor (⟨"com/example/keyedge/keyedge/AdjacencyListGraph$2", "next", "(Lcom/example/keyedge/keyedge/AdjacencyListGraph$ListLink;)Lcom/example/keyedge/keyedge/AdjacencyListGraph$ListLink;"⟩ : MethodName) = true := plainFor_of_name (by first | (simp [plainName, overriddenIn]; done) | decide +kernel)
theorem bok_42 {Z : State} {a0 : Array Value} (hw : ∀ d ∈ tables_1, d.before a0 Z = true) : BOK Z a0 42 := ⟨(hw _ (List.mem_of_getElem? (i := 299) rfl)), (hw _ (List.mem_of_getElem? (i := 53) rfl)), ⟨by decide, by decide⟩, pn_42, rfl, (fun h => by cases h), by decide⟩
theorem pn_43 : plainFor (⟨"com/example/keyedge/keyedge/AdjacencyListGraph$2", "setNext", "(Ljava/lang/Object;Ljava/lang/Object;)V"⟩ : MethodName) = true := plainFor_of_name (by first | (simp [plainName, overriddenIn]; done) | decide +kernel)
theorem bok_43 {Z : State} {a0 : Array Value} (hw : ∀ d ∈ tables_1, d.before a0 Z = true) : BOK Z a0 43 := ⟨(hw _ (List.mem_of_getElem? (i := 306) rfl)), (hw _ (List.mem_of_getElem? (i := 53) rfl)), ⟨by decide, by decide⟩, pn_43, rfl, (fun h => by cases h), by decide⟩
theorem pn_44 : plainFor (⟨"com/example/keyedge/keyedge/AdjacencyListGraph$2", "setNext", "(Lcom/example/keyedge/keyedge/AdjacencyListGraph$ListLink;Lcom/example/keyedge/keyedge/AdjacencyListGraph$ListLink;)V"⟩ : MethodName) = true := plainFor_of_name (by first | (simp [plainName, overriddenIn]; done) | decide +kernel)
theorem bok_44 {Z : State} {a0 : Array Value} (hw : ∀ d ∈ tables_1, d.before a0 Z = true) : BOK Z a0 44 := ⟨(hw _ (List.mem_of_getElem? (i := 311) rfl)), (hw _ (List.mem_of_getElem? (i := 53) rfl)), ⟨by decide, by decide⟩, pn_44, rfl, (fun h => by cases h), by decide⟩
theorem pn_45 : plainFor (⟨"com/example/keyedge/keyedge/Chain", "contains", "(Ljava/lang/Object;)Z"⟩ : MethodName) = true := plainFor_of_name (by first | (simp [plainName, overriddenIn]; done) | decide +kernel)
theorem bok_45 {Z : State} {a0 : Array Value} (hw : ∀ d ∈ tables_1, d.before a0 Z = true) : BOK Z a0 45 := ⟨(hw _ (List.mem_of_getElem? (i := 323) rfl)), (hw _ (List.mem_of_getElem? (i := 20) rfl)), ⟨by decide, by decide⟩, pn_45, rfl, (fun h => by cases h), by decide⟩
theorem pn_46 : plainFor (⟨"com/example/keyedge/keyedge/AdjacencyListGraph$ListNode", "lambda$new$1", "(Ljava/lang/Object;)Z"⟩ : MethodName) = true := plainFor_of_name (by first | (simp [plainName, overriddenIn]; done) | decide +kernel)
theorem bok_46 {Z : State} {a0 : Array Value} (hw : ∀ d ∈ tables_1, d.before a0 Z = true) : BOK Z a0 46 := ⟨(hw _ (List.mem_of_getElem? (i := 329) rfl)), (hw _ (List.mem_of_getElem? (i := 67) rfl)), ⟨by decide, by decide⟩, pn_46, rfl, (fun h => by cases h), by decide⟩
theorem pn_47 : plainFor (⟨"com/example/keyedge/keyedge/Chain", "linked", "(Lcom/example/keyedge/keyedge/Chain$Linked;)Z"⟩ : MethodName) = true := plainFor_of_name (by first | (simp [plainName, overriddenIn]; done) | decide +kernel)
theorem bok_47 {Z : State} {a0 : Array Value} (hw : ∀ d ∈ tables_1, d.before a0 Z = true) : BOK Z a0 47 := ⟨(hw _ (List.mem_of_getElem? (i := 338) rfl)), (hw _ (List.mem_of_getElem? (i := 20) rfl)), ⟨by decide, by decide⟩, pn_47, rfl, (fun h => by cases h), by decide⟩
theorem pn_48 : plainFor (⟨"com/example/keyedge/keyedge/AdjacencyListGraph$ListNode", "lambda$new$0", "(Ljava/lang/Object;)Z"⟩ : MethodName) = true := plainFor_of_name (by first | (simp [plainName, overriddenIn]; done) | decide +kernel)
theorem bok_48 {Z : State} {a0 : Array Value} (hw : ∀ d ∈ tables_1, d.before a0 Z = true) : BOK Z a0 48 := ⟨(hw _ (List.mem_of_getElem? (i := 341) rfl)), (hw _ (List.mem_of_getElem? (i := 67) rfl)), ⟨by decide, by decide⟩, pn_48, rfl, (fun h => by cases h), by decide⟩
theorem pn_49 : plainFor (⟨"com/example/keyedge/keyedge/Chain$1", "next", "()Ljava/lang/Object;"⟩ : MethodName) = true := plainFor_of_name (by first | (simp [plainName, overriddenIn]; done) | decide +kernel)
theorem bok_49 {Z : State} {a0 : Array Value} (hw : ∀ d ∈ tables_1, d.before a0 Z = true) : BOK Z a0 49 := ⟨(hw _ (List.mem_of_getElem? (i := 350) rfl)), (hw _ (List.mem_of_getElem? (i := 126) rfl)), ⟨by decide, by decide⟩, pn_49, rfl, (fun h => by cases h), by decide⟩
theorem pn_50 : plainFor (⟨"com/example/keyedge/keyedge/Chain$1", "next", "()Lcom/example/keyedge/keyedge/Chain$Linked;"⟩ : MethodName) = true := plainFor_of_name (by first | (simp [plainName, overriddenIn]; done) | decide +kernel)
theorem bok_50 {Z : State} {a0 : Array Value} (hw : ∀ d ∈ tables_1, d.before a0 Z = true) : BOK Z a0 50 := ⟨(hw _ (List.mem_of_getElem? (i := 355) rfl)), (hw _ (List.mem_of_getElem? (i := 126) rfl)), ⟨by decide, by decide⟩, pn_50, rfl, (fun h => by cases h), by decide⟩
theorem pd_0 : parseMethodDescriptor "(Ljava/util/function/Predicate;)Lcom/example/keyedge/keyedge/Chain;" = some ⟨[(.object "java/util/function/Predicate")], some (.object "com/example/keyedge/keyedge/Chain")⟩ := by decide +kernel
theorem pd_1 : parseMethodDescriptor "(Lcom/example/keyedge/keyedge/Chain$Strand;Ljava/util/function/Predicate;)Lcom/example/keyedge/keyedge/Chain;" = some ⟨[(.object "com/example/keyedge/keyedge/Chain$Strand"), (.object "java/util/function/Predicate")], some (.object "com/example/keyedge/keyedge/Chain")⟩ := by decide +kernel
theorem t_cs_0 {Z : State} {a0 : Array Value} (hw : ∀ d ∈ tables_1, d.before a0 Z = true) : SOK Z a0 (2, 11, 4, 1) := ⟨(hw _ (List.mem_of_getElem? (i := 18) rfl)), (hw _ (List.mem_of_getElem? (i := 19) rfl)), bok_4 hw, ⟨_, _, pd_0, rfl⟩⟩
theorem t_cs_1 {Z : State} {a0 : Array Value} (hw : ∀ d ∈ tables_1, d.before a0 Z = true) : SOK Z a0 (8, 17, 13, 2) := ⟨(hw _ (List.mem_of_getElem? (i := 91) rfl)), (hw _ (List.mem_of_getElem? (i := 92) rfl)), bok_13 hw, ⟨_, _, pd_1, rfl⟩⟩
theorem t_cs {Z : State} {a0 : Array Value} (hw : ∀ d ∈ tables_1, d.before a0 Z = true) : ∀ q ∈ mresST, SOK Z a0 q := (fa_cons (t_cs_0 hw) (fa_cons (t_cs_1 hw) fa_nil))
theorem pd_2 : parseMethodDescriptor "()V" = some ⟨[], none⟩ := by decide +kernel
theorem pd_3 : parseMethodDescriptor "(Lcom/example/keyedge/keyedge/AdjacencyListGraph;)V" = some ⟨[(.object "com/example/keyedge/keyedge/AdjacencyListGraph")], none⟩ := by decide +kernel
theorem pd_4 : parseMethodDescriptor "(Lcom/example/keyedge/keyedge/AdjacencyListGraph;Ljava/lang/Object;I)V" = some ⟨[(.object "com/example/keyedge/keyedge/AdjacencyListGraph"), (.object "java/lang/Object"), .int], none⟩ := by decide +kernel
theorem pd_5 : parseMethodDescriptor "(Lcom/example/keyedge/keyedge/AdjacencyListGraph$ListNode;Lcom/example/keyedge/keyedge/AdjacencyListGraph$ListNode;Ljava/lang/Object;)V" = some ⟨[(.object "com/example/keyedge/keyedge/AdjacencyListGraph$ListNode"), (.object "com/example/keyedge/keyedge/AdjacencyListGraph$ListNode"), (.object "java/lang/Object")], none⟩ := by decide +kernel
theorem pd_6 : parseMethodDescriptor "(Lcom/example/keyedge/keyedge/Chain$Strand;Ljava/util/function/Predicate;)V" = some ⟨[(.object "com/example/keyedge/keyedge/Chain$Strand"), (.object "java/util/function/Predicate")], none⟩ := by decide +kernel
theorem pd_7 : parseMethodDescriptor "(Lcom/example/keyedge/keyedge/Chain;)V" = some ⟨[(.object "com/example/keyedge/keyedge/Chain")], none⟩ := by decide +kernel
theorem pd_8 : parseMethodDescriptor "(Lcom/example/keyedge/keyedge/AbstractGraph;Ljava/lang/Object;I)V" = some ⟨[(.object "com/example/keyedge/keyedge/AbstractGraph"), (.object "java/lang/Object"), .int], none⟩ := by decide +kernel
theorem pd_9 : parseMethodDescriptor "(Lcom/example/keyedge/keyedge/AbstractGraph$Node;Lcom/example/keyedge/keyedge/AbstractGraph$Node;Ljava/lang/Object;)V" = some ⟨[(.object "com/example/keyedge/keyedge/AbstractGraph$Node"), (.object "com/example/keyedge/keyedge/AbstractGraph$Node"), (.object "java/lang/Object")], none⟩ := by decide +kernel
theorem t_cc_0 {Z : State} {a0 : Array Value} (hw : ∀ d ∈ tables_1, d.before a0 Z = true) : KOK Z a0 (0, 9, 1, 0) := ⟨rfl, (hw _ (List.mem_of_getElem? (i := 3) rfl)), (hw _ (List.mem_of_getElem? (i := 4) rfl)), bok_1 hw, rfl, ⟨_, _, pd_2, rfl⟩⟩
theorem t_cc_1 {Z : State} {a0 : Array Value} (hw : ∀ d ∈ tables_1, d.before a0 Z = true) : KOK Z a0 (1, 1, 2, 0) := ⟨rfl, (hw _ (List.mem_of_getElem? (i := 6) rfl)), (hw _ (List.mem_of_getElem? (i := 7) rfl)), bok_2 hw, rfl, ⟨_, _, pd_2, rfl⟩⟩
theorem t_cc_2 {Z : State} {a0 : Array Value} (hw : ∀ d ∈ tables_1, d.before a0 Z = true) : KOK Z a0 (1, 9, 7, 1) := ⟨rfl, (hw _ (List.mem_of_getElem? (i := 45) rfl)), (hw _ (List.mem_of_getElem? (i := 46) rfl)), bok_7 hw, rfl, ⟨_, _, pd_3, rfl⟩⟩
theorem t_cc_3 {Z : State} {a0 : Array Value} (hw : ∀ d ∈ tables_1, d.before a0 Z = true) : KOK Z a0 (1, 20, 8, 1) := ⟨rfl, (hw _ (List.mem_of_getElem? (i := 54) rfl)), (hw _ (List.mem_of_getElem? (i := 55) rfl)), bok_8 hw, rfl, ⟨_, _, pd_3, rfl⟩⟩
theorem t_cc_4 {Z : State} {a0 : Array Value} (hw : ∀ d ∈ tables_1, d.before a0 Z = true) : KOK Z a0 (1, 26, 10, 3) := ⟨rfl, (hw _ (List.mem_of_getElem? (i := 68) rfl)), (hw _ (List.mem_of_getElem? (i := 69) rfl)), bok_10 hw, rfl, ⟨_, _, pd_4, rfl⟩⟩
theorem t_cc_5 {Z : State} {a0 : Array Value} (hw : ∀ d ∈ tables_1, d.before a0 Z = true) : KOK Z a0 (1, 69, 20, 3) := ⟨rfl, (hw _ (List.mem_of_getElem? (i := 153) rfl)), (hw _ (List.mem_of_getElem? (i := 154) rfl)), bok_20 hw, rfl, ⟨_, _, pd_5, rfl⟩⟩
theorem t_cc_6 {Z : State} {a0 : Array Value} (hw : ∀ d ∈ tables_1, d.before a0 Z = true) : KOK Z a0 (4, 1, 6, 0) := ⟨rfl, (hw _ (List.mem_of_getElem? (i := 27) rfl)), (hw _ (List.mem_of_getElem? (i := 28) rfl)), bok_6 hw, rfl, ⟨_, _, pd_2, rfl⟩⟩
theorem t_cc_7 {Z : State} {a0 : Array Value} (hw : ∀ d ∈ tables_1, d.before a0 Z = true) : KOK Z a0 (4, 17, 5, 2) := ⟨rfl, (hw _ (List.mem_of_getElem? (i := 24) rfl)), (hw _ (List.mem_of_getElem? (i := 25) rfl)), bok_5 hw, rfl, ⟨_, _, pd_6, rfl⟩⟩
theorem t_cc_8 {Z : State} {a0 : Array Value} (hw : ∀ d ∈ tables_1, d.before a0 Z = true) : KOK Z a0 (4, 71, 18, 1) := ⟨rfl, (hw _ (List.mem_of_getElem? (i := 127) rfl)), (hw _ (List.mem_of_getElem? (i := 128) rfl)), bok_18 hw, rfl, ⟨_, _, pd_7, rfl⟩⟩
theorem t_cc_9 {Z : State} {a0 : Array Value} (hw : ∀ d ∈ tables_1, d.before a0 Z = true) : KOK Z a0 (8, 1, 11, 3) := ⟨rfl, (hw _ (List.mem_of_getElem? (i := 71) rfl)), (hw _ (List.mem_of_getElem? (i := 72) rfl)), bok_11 hw, rfl, ⟨_, _, pd_8, rfl⟩⟩
theorem t_cc_10 {Z : State} {a0 : Array Value} (hw : ∀ d ∈ tables_1, d.before a0 Z = true) : KOK Z a0 (9, 1, 12, 0) := ⟨rfl, (hw _ (List.mem_of_getElem? (i := 76) rfl)), (hw _ (List.mem_of_getElem? (i := 77) rfl)), bok_12 hw, rfl, ⟨_, _, pd_2, rfl⟩⟩
theorem t_cc_11 {Z : State} {a0 : Array Value} (hw : ∀ d ∈ tables_1, d.before a0 Z = true) : KOK Z a0 (12, 1, 21, 3) := ⟨rfl, (hw _ (List.mem_of_getElem? (i := 156) rfl)), (hw _ (List.mem_of_getElem? (i := 157) rfl)), bok_21 hw, rfl, ⟨_, _, pd_9, rfl⟩⟩
theorem t_cc_12 {Z : State} {a0 : Array Value} (hw : ∀ d ∈ tables_1, d.before a0 Z = true) : KOK Z a0 (13, 1, 12, 0) := ⟨rfl, (hw _ (List.mem_of_getElem? (i := 161) rfl)), (hw _ (List.mem_of_getElem? (i := 77) rfl)), bok_12 hw, rfl, ⟨_, _, pd_2, rfl⟩⟩
theorem t_cc {Z : State} {a0 : Array Value} (hw : ∀ d ∈ tables_1, d.before a0 Z = true) : ∀ q ∈ mresCT, KOK Z a0 q := (fa_cons (t_cc_0 hw) (fa_cons (t_cc_1 hw) (fa_cons (t_cc_2 hw) (fa_cons (t_cc_3 hw) (fa_cons (t_cc_4 hw) (fa_cons (t_cc_5 hw) (fa_cons (t_cc_6 hw) (fa_cons (t_cc_7 hw) (fa_cons (t_cc_8 hw) (fa_cons (t_cc_9 hw) (fa_cons (t_cc_10 hw) (fa_cons (t_cc_11 hw) (fa_cons (t_cc_12 hw) fa_nil)))))))))))))
theorem pd_10 : parseMethodDescriptor "(Ljava/lang/Object;I)Lcom/example/keyedge/keyedge/AdjacencyListGraph$ListNode;" = some ⟨[(.object "java/lang/Object"), .int], some (.object "com/example/keyedge/keyedge/AdjacencyListGraph$ListNode")⟩ := by decide +kernel
theorem pd_11 : parseMethodDescriptor "(Lcom/example/keyedge/keyedge/AdjacencyListGraph$ListNode;Lcom/example/keyedge/keyedge/AdjacencyListGraph$ListNode;Ljava/lang/Object;)Lcom/example/keyedge/keyedge/AdjacencyListGraph$ListLink;" = some ⟨[(.object "com/example/keyedge/keyedge/AdjacencyListGraph$ListNode"), (.object "com/example/keyedge/keyedge/AdjacencyListGraph$ListNode"), (.object "java/lang/Object")], some (.object "com/example/keyedge/keyedge/AdjacencyListGraph$ListLink")⟩ := by decide +kernel
theorem pd_12 : parseMethodDescriptor "(Lcom/example/keyedge/keyedge/AdjacencyListGraph$ListLink;)V" = some ⟨[(.object "com/example/keyedge/keyedge/AdjacencyListGraph$ListLink")], none⟩ := by decide +kernel
theorem pd_13 : parseMethodDescriptor "()I" = some ⟨[], some .int⟩ := by decide +kernel
theorem pd_14 : parseMethodDescriptor "(Ljava/lang/Object;)Z" = some ⟨[(.object "java/lang/Object")], some .boolean⟩ := by decide +kernel
theorem pd_15 : parseMethodDescriptor "()Ljava/util/Iterator;" = some ⟨[], some (.object "java/util/Iterator")⟩ := by decide +kernel
theorem pd_16 : parseMethodDescriptor "(Lcom/example/keyedge/keyedge/AdjacencyListGraph$ListNode;Lcom/example/keyedge/keyedge/AdjacencyListGraph$ListNode;)Lcom/example/keyedge/keyedge/AdjacencyListGraph$ListLink;" = some ⟨[(.object "com/example/keyedge/keyedge/AdjacencyListGraph$ListNode"), (.object "com/example/keyedge/keyedge/AdjacencyListGraph$ListNode")], some (.object "com/example/keyedge/keyedge/AdjacencyListGraph$ListLink")⟩ := by decide +kernel
theorem pd_17 : parseMethodDescriptor "(Lcom/example/keyedge/keyedge/Chain$Linked;)V" = some ⟨[(.object "com/example/keyedge/keyedge/Chain$Linked")], none⟩ := by decide +kernel
theorem pd_18 : parseMethodDescriptor "(Lcom/example/keyedge/keyedge/Chain$Linked;Lcom/example/keyedge/keyedge/Chain$Linked;)V" = some ⟨[(.object "com/example/keyedge/keyedge/Chain$Linked"), (.object "com/example/keyedge/keyedge/Chain$Linked")], none⟩ := by decide +kernel
theorem pd_19 : parseMethodDescriptor "(Lcom/example/keyedge/keyedge/Chain$Linked;)Lcom/example/keyedge/keyedge/Chain$Linked;" = some ⟨[(.object "com/example/keyedge/keyedge/Chain$Linked")], some (.object "com/example/keyedge/keyedge/Chain$Linked")⟩ := by decide +kernel
theorem pd_20 : parseMethodDescriptor "(Lcom/example/keyedge/keyedge/Chain$Linked;)Z" = some ⟨[(.object "com/example/keyedge/keyedge/Chain$Linked")], some .boolean⟩ := by decide +kernel
theorem pd_21 : parseMethodDescriptor "(Lcom/example/keyedge/keyedge/AdjacencyListGraph$ListLink;Lcom/example/keyedge/keyedge/AdjacencyListGraph$ListLink;)V" = some ⟨[(.object "com/example/keyedge/keyedge/AdjacencyListGraph$ListLink"), (.object "com/example/keyedge/keyedge/AdjacencyListGraph$ListLink")], none⟩ := by decide +kernel
theorem pd_22 : parseMethodDescriptor "(Lcom/example/keyedge/keyedge/AdjacencyListGraph$ListLink;)Lcom/example/keyedge/keyedge/AdjacencyListGraph$ListLink;" = some ⟨[(.object "com/example/keyedge/keyedge/AdjacencyListGraph$ListLink")], some (.object "com/example/keyedge/keyedge/AdjacencyListGraph$ListLink")⟩ := by decide +kernel
theorem pd_23 : parseMethodDescriptor "()Lcom/example/keyedge/keyedge/Chain$Linked;" = some ⟨[], some (.object "com/example/keyedge/keyedge/Chain$Linked")⟩ := by decide +kernel
theorem t_cv_0 {Z : State} {a0 : Array Value} (hw : ∀ d ∈ tables_1, d.before a0 Z = true) : VOK Z a0 (0, 10, 0, 2) := ⟨⟨_, _, pd_10, rfl⟩, ⟨by decide, by decide⟩, Or.inl (hw _ (List.mem_of_getElem? (i := 60) rfl))⟩
theorem t_cv_1 {Z : State} {a0 : Array Value} (hw : ∀ d ∈ tables_1, d.before a0 Z = true) : VOK Z a0 (0, 14, 1, 3) := ⟨⟨_, _, pd_11, rfl⟩, ⟨by decide, by decide⟩, Or.inl (hw _ (List.mem_of_getElem? (i := 100) rfl))⟩
theorem t_cv_2 {Z : State} {a0 : Array Value} (hw : ∀ d ∈ tables_1, d.before a0 Z = true) : VOK Z a0 (0, 18, 2, 1) := ⟨⟨_, _, pd_12, rfl⟩, ⟨by decide, by decide⟩, Or.inl (hw _ (List.mem_of_getElem? (i := 213) rfl))⟩
theorem t_cv_3 {Z : State} {a0 : Array Value} (hw : ∀ d ∈ tables_1, d.before a0 Z = true) : VOK Z a0 (0, 43, 3, 0) := ⟨⟨_, _, pd_13, rfl⟩, ⟨by decide, by decide⟩, Or.inl (hw _ (List.mem_of_getElem? (i := 317) rfl))⟩
theorem t_cv_4 {Z : State} {a0 : Array Value} (hw : ∀ d ∈ tables_1, d.before a0 Z = true) : VOK Z a0 (0, 52, 4, 1) := ⟨⟨_, _, pd_14, rfl⟩, ⟨by decide, by decide⟩, Or.inl (hw _ (List.mem_of_getElem? (i := 319) rfl))⟩
theorem t_cv_5 {Z : State} {a0 : Array Value} (hw : ∀ d ∈ tables_1, d.before a0 Z = true) : VOK Z a0 (1, 36, 3, 0) := ⟨⟨_, _, pd_13, rfl⟩, ⟨by decide, by decide⟩, Or.inl (hw _ (List.mem_of_getElem? (i := 111) rfl))⟩
theorem t_cv_6 {Z : State} {a0 : Array Value} (hw : ∀ d ∈ tables_1, d.before a0 Z = true) : VOK Z a0 (1, 42, 5, 0) := ⟨⟨_, _, pd_15, rfl⟩, ⟨by decide, by decide⟩, Or.inl (hw _ (List.mem_of_getElem? (i := 119) rfl))⟩
theorem t_cv_7 {Z : State} {a0 : Array Value} (hw : ∀ d ∈ tables_1, d.before a0 Z = true) : VOK Z a0 (1, 65, 6, 2) := ⟨⟨_, _, pd_16, rfl⟩, ⟨by decide, by decide⟩, Or.inl (hw _ (List.mem_of_getElem? (i := 105) rfl))⟩
theorem t_cv_8 {Z : State} {a0 : Array Value} (hw : ∀ d ∈ tables_1, d.before a0 Z = true) : VOK Z a0 (1, 72, 7, 1) := ⟨⟨_, _, pd_17, rfl⟩, ⟨by decide, by decide⟩, Or.inl (hw _ (List.mem_of_getElem? (i := 168) rfl))⟩
theorem t_cv_9 {Z : State} {a0 : Array Value} (hw : ∀ d ∈ tables_1, d.before a0 Z = true) : VOK Z a0 (1, 76, 8, 1) := ⟨⟨_, _, pd_17, rfl⟩, ⟨by decide, by decide⟩, Or.inl (hw _ (List.mem_of_getElem? (i := 220) rfl))⟩
theorem t_cv_10 {Z : State} {a0 : Array Value} (hw : ∀ d ∈ tables_1, d.before a0 Z = true) : VOK Z a0 (4, 24, 9, 2) := ⟨⟨_, _, pd_18, rfl⟩, ⟨by decide, by decide⟩, Or.inl (hw _ (List.mem_of_getElem? (i := 175) rfl))⟩
theorem t_cv_11 {Z : State} {a0 : Array Value} (hw : ∀ d ∈ tables_1, d.before a0 Z = true) : VOK Z a0 (4, 31, 10, 2) := ⟨⟨_, _, pd_18, rfl⟩, ⟨by decide, by decide⟩, Or.inl (hw _ (List.mem_of_getElem? (i := 261) rfl))⟩
theorem t_cv_12 {Z : State} {a0 : Array Value} (hw : ∀ d ∈ tables_1, d.before a0 Z = true) : VOK Z a0 (4, 41, 11, 1) := ⟨⟨_, _, pd_19, rfl⟩, ⟨by decide, by decide⟩, Or.inl (hw _ (List.mem_of_getElem? (i := 225) rfl))⟩
theorem t_cv_13 {Z : State} {a0 : Array Value} (hw : ∀ d ∈ tables_1, d.before a0 Z = true) : VOK Z a0 (4, 45, 12, 1) := ⟨⟨_, _, pd_19, rfl⟩, ⟨by decide, by decide⟩, Or.inl (hw _ (List.mem_of_getElem? (i := 242) rfl))⟩
theorem t_cv_14 {Z : State} {a0 : Array Value} (hw : ∀ d ∈ tables_1, d.before a0 Z = true) : VOK Z a0 (4, 65, 13, 1) := ⟨⟨_, _, pd_20, rfl⟩, ⟨by decide, by decide⟩, Or.inl (hw _ (List.mem_of_getElem? (i := 334) rfl))⟩
theorem t_cv_15 {Z : State} {a0 : Array Value} (hw : ∀ d ∈ tables_1, d.before a0 Z = true) : VOK Z a0 (6, 16, 14, 2) := ⟨⟨_, _, pd_21, rfl⟩, ⟨by decide, by decide⟩, Or.inl (hw _ (List.mem_of_getElem? (i := 273) rfl))⟩
theorem t_cv_16 {Z : State} {a0 : Array Value} (hw : ∀ d ∈ tables_1, d.before a0 Z = true) : VOK Z a0 (6, 22, 15, 2) := ⟨⟨_, _, pd_21, rfl⟩, ⟨by decide, by decide⟩, Or.inl (hw _ (List.mem_of_getElem? (i := 190) rfl))⟩
theorem t_cv_17 {Z : State} {a0 : Array Value} (hw : ∀ d ∈ tables_1, d.before a0 Z = true) : VOK Z a0 (6, 25, 16, 1) := ⟨⟨_, _, pd_22, rfl⟩, ⟨by decide, by decide⟩, Or.inl (hw _ (List.mem_of_getElem? (i := 254) rfl))⟩
theorem t_cv_18 {Z : State} {a0 : Array Value} (hw : ∀ d ∈ tables_1, d.before a0 Z = true) : VOK Z a0 (6, 29, 17, 1) := ⟨⟨_, _, pd_22, rfl⟩, ⟨by decide, by decide⟩, Or.inl (hw _ (List.mem_of_getElem? (i := 237) rfl))⟩
theorem t_cv_19 {Z : State} {a0 : Array Value} (hw : ∀ d ∈ tables_1, d.before a0 Z = true) : VOK Z a0 (7, 16, 18, 2) := ⟨⟨_, _, pd_21, rfl⟩, ⟨by decide, by decide⟩, Or.inl (hw _ (List.mem_of_getElem? (i := 307) rfl))⟩
theorem t_cv_20 {Z : State} {a0 : Array Value} (hw : ∀ d ∈ tables_1, d.before a0 Z = true) : VOK Z a0 (7, 22, 19, 2) := ⟨⟨_, _, pd_21, rfl⟩, ⟨by decide, by decide⟩, Or.inl (hw _ (List.mem_of_getElem? (i := 206) rfl))⟩
theorem t_cv_21 {Z : State} {a0 : Array Value} (hw : ∀ d ∈ tables_1, d.before a0 Z = true) : VOK Z a0 (7, 25, 20, 1) := ⟨⟨_, _, pd_22, rfl⟩, ⟨by decide, by decide⟩, Or.inl (hw _ (List.mem_of_getElem? (i := 295) rfl))⟩
theorem t_cv_22 {Z : State} {a0 : Array Value} (hw : ∀ d ∈ tables_1, d.before a0 Z = true) : VOK Z a0 (7, 29, 21, 1) := ⟨⟨_, _, pd_22, rfl⟩, ⟨by decide, by decide⟩, Or.inl (hw _ (List.mem_of_getElem? (i := 285) rfl))⟩
theorem t_cv_23 {Z : State} {a0 : Array Value} (hw : ∀ d ∈ tables_1, d.before a0 Z = true) : VOK Z a0 (11, 33, 12, 1) := ⟨⟨_, _, pd_19, rfl⟩, ⟨by decide, by decide⟩, Or.inr ⟨⟨_, (hw _ (List.mem_of_getElem? (i := 356) rfl))⟩, fun k j h => by
  have h2 : (12, k, j) ∈ vselT := sel3_mem h
  have h3 : j = 33 := by
    have h4 : (vselT.all fun q => !Nat.beq q.1 12 || Nat.beq q.2.2 33) = true := by decide +kernel
    have h5 := List.all_eq_true.mp h4 _ h2
    exact Nat.eq_of_beq_eq_true (by simpa using h5)
  subst h3
  exact ⟨rfl, (hw _ (List.mem_of_getElem? (i := 244) rfl)), ⟨_, (hw _ (List.mem_of_getElem? (i := 23) rfl))⟩⟩⟩⟩
theorem t_cv_24 {Z : State} {a0 : Array Value} (hw : ∀ d ∈ tables_1, d.before a0 Z = true) : VOK Z a0 (11, 36, 22, 0) := ⟨⟨_, _, pd_23, rfl⟩, ⟨by decide, by decide⟩, Or.inl (hw _ (List.mem_of_getElem? (i := 351) rfl))⟩
theorem t_cv {Z : State} {a0 : Array Value} (hw : ∀ d ∈ tables_1, d.before a0 Z = true) : ∀ q ∈ mresVT, VOK Z a0 q := (fa_cons (t_cv_0 hw) (fa_cons (t_cv_1 hw) (fa_cons (t_cv_2 hw) (fa_cons (t_cv_3 hw) (fa_cons (t_cv_4 hw) (fa_cons (t_cv_5 hw) (fa_cons (t_cv_6 hw) (fa_cons (t_cv_7 hw) (fa_cons (t_cv_8 hw) (fa_cons (t_cv_9 hw) (fa_cons (t_cv_10 hw) (fa_cons (t_cv_11 hw) (fa_cons (t_cv_12 hw) (fa_cons (t_cv_13 hw) (fa_cons (t_cv_14 hw) (fa_cons (t_cv_15 hw) (fa_cons (t_cv_16 hw) (fa_cons (t_cv_17 hw) (fa_cons (t_cv_18 hw) (fa_cons (t_cv_19 hw) (fa_cons (t_cv_20 hw) (fa_cons (t_cv_21 hw) (fa_cons (t_cv_22 hw) (fa_cons (t_cv_23 hw) (fa_cons (t_cv_24 hw) fa_nil)))))))))))))))))))))))))
theorem t_vs_0 {Z : State} {a0 : Array Value} (hw : ∀ d ∈ tables_1, d.before a0 Z = true) : VSOK Z a0 (0, 1, 9) := ⟨bok_9 hw, (hw _ (List.mem_of_getElem? (i := 62) rfl)), Or.inl ⟨(hw _ (List.mem_of_getElem? (i := 61) rfl)), ⟨"com/example/keyedge/keyedge/AdjacencyListGraph", (hw _ (List.mem_of_getElem? (i := 63) rfl))⟩, (hw _ (List.mem_of_getElem? (i := 63) rfl))⟩⟩
theorem t_vs_1 {Z : State} {a0 : Array Value} (hw : ∀ d ∈ tables_1, d.before a0 Z = true) : VSOK Z a0 (1, 1, 14) := ⟨bok_14 hw, (hw _ (List.mem_of_getElem? (i := 102) rfl)), Or.inl ⟨(hw _ (List.mem_of_getElem? (i := 101) rfl)), ⟨"com/example/keyedge/keyedge/AdjacencyListGraph", (hw _ (List.mem_of_getElem? (i := 103) rfl))⟩, (hw _ (List.mem_of_getElem? (i := 103) rfl))⟩⟩
theorem t_vs_2 {Z : State} {a0 : Array Value} (hw : ∀ d ∈ tables_1, d.before a0 Z = true) : VSOK Z a0 (2, 1, 28) := ⟨bok_28 hw, (hw _ (List.mem_of_getElem? (i := 215) rfl)), Or.inl ⟨(hw _ (List.mem_of_getElem? (i := 214) rfl)), ⟨"com/example/keyedge/keyedge/AdjacencyListGraph", (hw _ (List.mem_of_getElem? (i := 216) rfl))⟩, (hw _ (List.mem_of_getElem? (i := 216) rfl))⟩⟩
theorem t_vs_3 {Z : State} {a0 : Array Value} (hw : ∀ d ∈ tables_1, d.before a0 Z = true) : VSOK Z a0 (3, 4, 16) := ⟨bok_16 hw, (hw _ (List.mem_of_getElem? (i := 113) rfl)), Or.inl ⟨(hw _ (List.mem_of_getElem? (i := 112) rfl)), ⟨"com/example/keyedge/keyedge/Chain", (hw _ (List.mem_of_getElem? (i := 114) rfl))⟩, (hw _ (List.mem_of_getElem? (i := 114) rfl))⟩⟩
theorem t_vs_4 {Z : State} {a0 : Array Value} (hw : ∀ d ∈ tables_1, d.before a0 Z = true) : VSOK Z a0 (4, 4, 45) := ⟨bok_45 hw, (hw _ (List.mem_of_getElem? (i := 321) rfl)), Or.inl ⟨(hw _ (List.mem_of_getElem? (i := 320) rfl)), ⟨"com/example/keyedge/keyedge/Chain", (hw _ (List.mem_of_getElem? (i := 322) rfl))⟩, (hw _ (List.mem_of_getElem? (i := 322) rfl))⟩⟩
theorem t_vs_5 {Z : State} {a0 : Array Value} (hw : ∀ d ∈ tables_1, d.before a0 Z = true) : VSOK Z a0 (5, 4, 17) := ⟨bok_17 hw, (hw _ (List.mem_of_getElem? (i := 121) rfl)), Or.inl ⟨(hw _ (List.mem_of_getElem? (i := 120) rfl)), ⟨"com/example/keyedge/keyedge/Chain", (hw _ (List.mem_of_getElem? (i := 122) rfl))⟩, (hw _ (List.mem_of_getElem? (i := 122) rfl))⟩⟩
theorem t_vs_6 {Z : State} {a0 : Array Value} (hw : ∀ d ∈ tables_1, d.before a0 Z = true) : VSOK Z a0 (6, 1, 15) := ⟨bok_15 hw, (hw _ (List.mem_of_getElem? (i := 107) rfl)), Or.inl ⟨(hw _ (List.mem_of_getElem? (i := 106) rfl)), ⟨"com/example/keyedge/keyedge/AdjacencyListGraph", (hw _ (List.mem_of_getElem? (i := 108) rfl))⟩, (hw _ (List.mem_of_getElem? (i := 108) rfl))⟩⟩
theorem t_vs_7 {Z : State} {a0 : Array Value} (hw : ∀ d ∈ tables_1, d.before a0 Z = true) : VSOK Z a0 (7, 4, 22) := ⟨bok_22 hw, (hw _ (List.mem_of_getElem? (i := 170) rfl)), Or.inl ⟨(hw _ (List.mem_of_getElem? (i := 169) rfl)), ⟨"com/example/keyedge/keyedge/Chain", (hw _ (List.mem_of_getElem? (i := 171) rfl))⟩, (hw _ (List.mem_of_getElem? (i := 171) rfl))⟩⟩
theorem t_vs_8 {Z : State} {a0 : Array Value} (hw : ∀ d ∈ tables_1, d.before a0 Z = true) : VSOK Z a0 (8, 4, 29) := ⟨bok_29 hw, (hw _ (List.mem_of_getElem? (i := 222) rfl)), Or.inl ⟨(hw _ (List.mem_of_getElem? (i := 221) rfl)), ⟨"com/example/keyedge/keyedge/Chain", (hw _ (List.mem_of_getElem? (i := 223) rfl))⟩, (hw _ (List.mem_of_getElem? (i := 223) rfl))⟩⟩
theorem t_vs_9 {Z : State} {a0 : Array Value} (hw : ∀ d ∈ tables_1, d.before a0 Z = true) : VSOK Z a0 (9, 4, 23) := ⟨bok_23 hw, (hw _ (List.mem_of_getElem? (i := 176) rfl)), Or.inr ⟨rfl, (hw _ (List.mem_of_getElem? (i := 177) rfl)), ⟨_, (hw _ (List.mem_of_getElem? (i := 23) rfl))⟩⟩⟩
theorem t_vs_10 {Z : State} {a0 : Array Value} (hw : ∀ d ∈ tables_1, d.before a0 Z = true) : VSOK Z a0 (10, 4, 36) := ⟨bok_36 hw, (hw _ (List.mem_of_getElem? (i := 262) rfl)), Or.inr ⟨rfl, (hw _ (List.mem_of_getElem? (i := 263) rfl)), ⟨_, (hw _ (List.mem_of_getElem? (i := 23) rfl))⟩⟩⟩
theorem t_vs_11 {Z : State} {a0 : Array Value} (hw : ∀ d ∈ tables_1, d.before a0 Z = true) : VSOK Z a0 (11, 4, 30) := ⟨bok_30 hw, (hw _ (List.mem_of_getElem? (i := 226) rfl)), Or.inr ⟨rfl, (hw _ (List.mem_of_getElem? (i := 227) rfl)), ⟨_, (hw _ (List.mem_of_getElem? (i := 23) rfl))⟩⟩⟩
theorem t_vs_12 {Z : State} {a0 : Array Value} (hw : ∀ d ∈ tables_1, d.before a0 Z = true) : VSOK Z a0 (12, 4, 33) := ⟨bok_33 hw, (hw _ (List.mem_of_getElem? (i := 243) rfl)), Or.inr ⟨rfl, (hw _ (List.mem_of_getElem? (i := 244) rfl)), ⟨_, (hw _ (List.mem_of_getElem? (i := 23) rfl))⟩⟩⟩
theorem t_vs_13 {Z : State} {a0 : Array Value} (hw : ∀ d ∈ tables_1, d.before a0 Z = true) : VSOK Z a0 (13, 4, 47) := ⟨bok_47 hw, (hw _ (List.mem_of_getElem? (i := 336) rfl)), Or.inl ⟨(hw _ (List.mem_of_getElem? (i := 335) rfl)), ⟨"com/example/keyedge/keyedge/Chain", (hw _ (List.mem_of_getElem? (i := 337) rfl))⟩, (hw _ (List.mem_of_getElem? (i := 337) rfl))⟩⟩
theorem t_vs_14 {Z : State} {a0 : Array Value} (hw : ∀ d ∈ tables_1, d.before a0 Z = true) : VSOK Z a0 (14, 6, 38) := ⟨bok_38 hw, (hw _ (List.mem_of_getElem? (i := 275) rfl)), Or.inl ⟨(hw _ (List.mem_of_getElem? (i := 274) rfl)), ⟨"com/example/keyedge/keyedge/AdjacencyListGraph$1", (hw _ (List.mem_of_getElem? (i := 276) rfl))⟩, (hw _ (List.mem_of_getElem? (i := 276) rfl))⟩⟩
theorem t_vs_15 {Z : State} {a0 : Array Value} (hw : ∀ d ∈ tables_1, d.before a0 Z = true) : VSOK Z a0 (15, 6, 25) := ⟨bok_25 hw, (hw _ (List.mem_of_getElem? (i := 192) rfl)), Or.inl ⟨(hw _ (List.mem_of_getElem? (i := 191) rfl)), ⟨"com/example/keyedge/keyedge/AdjacencyListGraph$1", (hw _ (List.mem_of_getElem? (i := 193) rfl))⟩, (hw _ (List.mem_of_getElem? (i := 193) rfl))⟩⟩
theorem t_vs_16 {Z : State} {a0 : Array Value} (hw : ∀ d ∈ tables_1, d.before a0 Z = true) : VSOK Z a0 (16, 6, 35) := ⟨bok_35 hw, (hw _ (List.mem_of_getElem? (i := 256) rfl)), Or.inl ⟨(hw _ (List.mem_of_getElem? (i := 255) rfl)), ⟨"com/example/keyedge/keyedge/AdjacencyListGraph$1", (hw _ (List.mem_of_getElem? (i := 257) rfl))⟩, (hw _ (List.mem_of_getElem? (i := 257) rfl))⟩⟩
theorem t_vs_17 {Z : State} {a0 : Array Value} (hw : ∀ d ∈ tables_1, d.before a0 Z = true) : VSOK Z a0 (17, 6, 32) := ⟨bok_32 hw, (hw _ (List.mem_of_getElem? (i := 239) rfl)), Or.inl ⟨(hw _ (List.mem_of_getElem? (i := 238) rfl)), ⟨"com/example/keyedge/keyedge/AdjacencyListGraph$1", (hw _ (List.mem_of_getElem? (i := 240) rfl))⟩, (hw _ (List.mem_of_getElem? (i := 240) rfl))⟩⟩
theorem t_vs_18 {Z : State} {a0 : Array Value} (hw : ∀ d ∈ tables_1, d.before a0 Z = true) : VSOK Z a0 (18, 7, 44) := ⟨bok_44 hw, (hw _ (List.mem_of_getElem? (i := 309) rfl)), Or.inl ⟨(hw _ (List.mem_of_getElem? (i := 308) rfl)), ⟨"com/example/keyedge/keyedge/AdjacencyListGraph$2", (hw _ (List.mem_of_getElem? (i := 310) rfl))⟩, (hw _ (List.mem_of_getElem? (i := 310) rfl))⟩⟩
theorem t_vs_19 {Z : State} {a0 : Array Value} (hw : ∀ d ∈ tables_1, d.before a0 Z = true) : VSOK Z a0 (19, 7, 27) := ⟨bok_27 hw, (hw _ (List.mem_of_getElem? (i := 208) rfl)), Or.inl ⟨(hw _ (List.mem_of_getElem? (i := 207) rfl)), ⟨"com/example/keyedge/keyedge/AdjacencyListGraph$2", (hw _ (List.mem_of_getElem? (i := 209) rfl))⟩, (hw _ (List.mem_of_getElem? (i := 209) rfl))⟩⟩
theorem t_vs_20 {Z : State} {a0 : Array Value} (hw : ∀ d ∈ tables_1, d.before a0 Z = true) : VSOK Z a0 (20, 7, 42) := ⟨bok_42 hw, (hw _ (List.mem_of_getElem? (i := 297) rfl)), Or.inl ⟨(hw _ (List.mem_of_getElem? (i := 296) rfl)), ⟨"com/example/keyedge/keyedge/AdjacencyListGraph$2", (hw _ (List.mem_of_getElem? (i := 298) rfl))⟩, (hw _ (List.mem_of_getElem? (i := 298) rfl))⟩⟩
theorem t_vs_21 {Z : State} {a0 : Array Value} (hw : ∀ d ∈ tables_1, d.before a0 Z = true) : VSOK Z a0 (21, 7, 40) := ⟨bok_40 hw, (hw _ (List.mem_of_getElem? (i := 287) rfl)), Or.inl ⟨(hw _ (List.mem_of_getElem? (i := 286) rfl)), ⟨"com/example/keyedge/keyedge/AdjacencyListGraph$2", (hw _ (List.mem_of_getElem? (i := 288) rfl))⟩, (hw _ (List.mem_of_getElem? (i := 288) rfl))⟩⟩
theorem t_vs_22 {Z : State} {a0 : Array Value} (hw : ∀ d ∈ tables_1, d.before a0 Z = true) : VSOK Z a0 (22, 11, 50) := ⟨bok_50 hw, (hw _ (List.mem_of_getElem? (i := 353) rfl)), Or.inl ⟨(hw _ (List.mem_of_getElem? (i := 352) rfl)), ⟨"com/example/keyedge/keyedge/Chain$1", (hw _ (List.mem_of_getElem? (i := 354) rfl))⟩, (hw _ (List.mem_of_getElem? (i := 354) rfl))⟩⟩
theorem t_vs {Z : State} {a0 : Array Value} (hw : ∀ d ∈ tables_1, d.before a0 Z = true) : ∀ q ∈ vselT, VSOK Z a0 q := (fa_cons (t_vs_0 hw) (fa_cons (t_vs_1 hw) (fa_cons (t_vs_2 hw) (fa_cons (t_vs_3 hw) (fa_cons (t_vs_4 hw) (fa_cons (t_vs_5 hw) (fa_cons (t_vs_6 hw) (fa_cons (t_vs_7 hw) (fa_cons (t_vs_8 hw) (fa_cons (t_vs_9 hw) (fa_cons (t_vs_10 hw) (fa_cons (t_vs_11 hw) (fa_cons (t_vs_12 hw) (fa_cons (t_vs_13 hw) (fa_cons (t_vs_14 hw) (fa_cons (t_vs_15 hw) (fa_cons (t_vs_16 hw) (fa_cons (t_vs_17 hw) (fa_cons (t_vs_18 hw) (fa_cons (t_vs_19 hw) (fa_cons (t_vs_20 hw) (fa_cons (t_vs_21 hw) (fa_cons (t_vs_22 hw) fa_nil)))))))))))))))))))))))
theorem pd_24 : parseMethodDescriptor "()Z" = some ⟨[], some .boolean⟩ := by decide +kernel
theorem pd_25 : parseMethodDescriptor "()Ljava/lang/Object;" = some ⟨[], some (.object "java/lang/Object")⟩ := by decide +kernel
theorem pd_26 : parseMethodDescriptor "(Ljava/lang/Object;)Ljava/lang/Object;" = some ⟨[(.object "java/lang/Object")], some (.object "java/lang/Object")⟩ := by decide +kernel
theorem pd_27 : parseMethodDescriptor "(Ljava/lang/Object;Ljava/lang/Object;)V" = some ⟨[(.object "java/lang/Object"), (.object "java/lang/Object")], none⟩ := by decide +kernel
theorem t_ci_0 {Z : State} {a0 : Array Value} (hw : ∀ d ∈ tables_1, d.before a0 Z = true) : IOK Z a0 (1, 46, 0, 0) := ⟨⟨_, _, pd_24, rfl⟩, ⟨by decide, by decide⟩, (hw _ (List.mem_of_getElem? (i := 141) rfl)), (hw _ (List.mem_of_getElem? (i := 142) rfl)), (hw _ (List.mem_of_getElem? (i := 143) rfl))⟩
theorem t_ci_1 {Z : State} {a0 : Array Value} (hw : ∀ d ∈ tables_1, d.before a0 Z = true) : IOK Z a0 (1, 52, 1, 0) := ⟨⟨_, _, pd_25, rfl⟩, ⟨by decide, by decide⟩, (hw _ (List.mem_of_getElem? (i := 343) rfl)), (hw _ (List.mem_of_getElem? (i := 344) rfl)), (hw _ (List.mem_of_getElem? (i := 345) rfl))⟩
theorem t_ci_2 {Z : State} {a0 : Array Value} (hw : ∀ d ∈ tables_1, d.before a0 Z = true) : IOK Z a0 (4, 59, 2, 1) := ⟨⟨_, _, pd_14, rfl⟩, ⟨by decide, by decide⟩, (hw _ (List.mem_of_getElem? (i := 324) rfl)), (hw _ (List.mem_of_getElem? (i := 325) rfl)), (hw _ (List.mem_of_getElem? (i := 326) rfl))⟩
theorem t_ci_3 {Z : State} {a0 : Array Value} (hw : ∀ d ∈ tables_1, d.before a0 Z = true) : IOK Z a0 (4, 89, 3, 1) := ⟨⟨_, _, pd_26, rfl⟩, ⟨by decide, by decide⟩, (hw _ (List.mem_of_getElem? (i := 229) rfl)), (hw _ (List.mem_of_getElem? (i := 230) rfl)), (hw _ (List.mem_of_getElem? (i := 231) rfl))⟩
theorem t_ci_4 {Z : State} {a0 : Array Value} (hw : ∀ d ∈ tables_1, d.before a0 Z = true) : IOK Z a0 (4, 95, 4, 1) := ⟨⟨_, _, pd_26, rfl⟩, ⟨by decide, by decide⟩, (hw _ (List.mem_of_getElem? (i := 246) rfl)), (hw _ (List.mem_of_getElem? (i := 247) rfl)), (hw _ (List.mem_of_getElem? (i := 248) rfl))⟩
theorem t_ci_5 {Z : State} {a0 : Array Value} (hw : ∀ d ∈ tables_1, d.before a0 Z = true) : IOK Z a0 (4, 97, 5, 2) := ⟨⟨_, _, pd_27, rfl⟩, ⟨by decide, by decide⟩, (hw _ (List.mem_of_getElem? (i := 179) rfl)), (hw _ (List.mem_of_getElem? (i := 180) rfl)), (hw _ (List.mem_of_getElem? (i := 181) rfl))⟩
theorem t_ci_6 {Z : State} {a0 : Array Value} (hw : ∀ d ∈ tables_1, d.before a0 Z = true) : IOK Z a0 (4, 100, 6, 2) := ⟨⟨_, _, pd_27, rfl⟩, ⟨by decide, by decide⟩, (hw _ (List.mem_of_getElem? (i := 265) rfl)), (hw _ (List.mem_of_getElem? (i := 266) rfl)), (hw _ (List.mem_of_getElem? (i := 267) rfl))⟩
theorem t_ci {Z : State} {a0 : Array Value} (hw : ∀ d ∈ tables_1, d.before a0 Z = true) : ∀ q ∈ mresIT, IOK Z a0 q := (fa_cons (t_ci_0 hw) (fa_cons (t_ci_1 hw) (fa_cons (t_ci_2 hw) (fa_cons (t_ci_3 hw) (fa_cons (t_ci_4 hw) (fa_cons (t_ci_5 hw) (fa_cons (t_ci_6 hw) fa_nil)))))))
theorem t_is_0 {Z : State} {a0 : Array Value} (hw : ∀ d ∈ tables_1, d.before a0 Z = true) : ISOK Z a0 (0, 11, 19) := ⟨bok_19 hw, (hw _ (List.mem_of_getElem? (i := 144) rfl)), (hw _ (List.mem_of_getElem? (i := 145) rfl)), (hw _ (List.mem_of_getElem? (i := 146) rfl)), (hw _ (List.mem_of_getElem? (i := 147) rfl)), (hw _ (List.mem_of_getElem? (i := 148) rfl))⟩
theorem t_is_1 {Z : State} {a0 : Array Value} (hw : ∀ d ∈ tables_1, d.before a0 Z = true) : ISOK Z a0 (1, 11, 49) := ⟨bok_49 hw, (hw _ (List.mem_of_getElem? (i := 346) rfl)), (hw _ (List.mem_of_getElem? (i := 347) rfl)), (hw _ (List.mem_of_getElem? (i := 348) rfl)), (hw _ (List.mem_of_getElem? (i := 349) rfl)), (hw _ (List.mem_of_getElem? (i := 148) rfl))⟩
theorem t_is_2 {Z : State} {a0 : Array Value} (hw : ∀ d ∈ tables_1, d.before a0 Z = true) : ISOK Z a0 (3, 6, 31) := ⟨bok_31 hw, (hw _ (List.mem_of_getElem? (i := 232) rfl)), (hw _ (List.mem_of_getElem? (i := 233) rfl)), (hw _ (List.mem_of_getElem? (i := 234) rfl)), (hw _ (List.mem_of_getElem? (i := 235) rfl)), (hw _ (List.mem_of_getElem? (i := 186) rfl))⟩
theorem t_is_3 {Z : State} {a0 : Array Value} (hw : ∀ d ∈ tables_1, d.before a0 Z = true) : ISOK Z a0 (3, 7, 39) := ⟨bok_39 hw, (hw _ (List.mem_of_getElem? (i := 280) rfl)), (hw _ (List.mem_of_getElem? (i := 281) rfl)), (hw _ (List.mem_of_getElem? (i := 282) rfl)), (hw _ (List.mem_of_getElem? (i := 283) rfl)), (hw _ (List.mem_of_getElem? (i := 203) rfl))⟩
theorem t_is_4 {Z : State} {a0 : Array Value} (hw : ∀ d ∈ tables_1, d.before a0 Z = true) : ISOK Z a0 (4, 6, 34) := ⟨bok_34 hw, (hw _ (List.mem_of_getElem? (i := 249) rfl)), (hw _ (List.mem_of_getElem? (i := 250) rfl)), (hw _ (List.mem_of_getElem? (i := 251) rfl)), (hw _ (List.mem_of_getElem? (i := 252) rfl)), (hw _ (List.mem_of_getElem? (i := 186) rfl))⟩
theorem t_is_5 {Z : State} {a0 : Array Value} (hw : ∀ d ∈ tables_1, d.before a0 Z = true) : ISOK Z a0 (4, 7, 41) := ⟨bok_41 hw, (hw _ (List.mem_of_getElem? (i := 290) rfl)), (hw _ (List.mem_of_getElem? (i := 291) rfl)), (hw _ (List.mem_of_getElem? (i := 292) rfl)), (hw _ (List.mem_of_getElem? (i := 293) rfl)), (hw _ (List.mem_of_getElem? (i := 203) rfl))⟩
theorem t_is_6 {Z : State} {a0 : Array Value} (hw : ∀ d ∈ tables_1, d.before a0 Z = true) : ISOK Z a0 (5, 6, 24) := ⟨bok_24 hw, (hw _ (List.mem_of_getElem? (i := 182) rfl)), (hw _ (List.mem_of_getElem? (i := 183) rfl)), (hw _ (List.mem_of_getElem? (i := 184) rfl)), (hw _ (List.mem_of_getElem? (i := 185) rfl)), (hw _ (List.mem_of_getElem? (i := 186) rfl))⟩
theorem t_is_7 {Z : State} {a0 : Array Value} (hw : ∀ d ∈ tables_1, d.before a0 Z = true) : ISOK Z a0 (5, 7, 26) := ⟨bok_26 hw, (hw _ (List.mem_of_getElem? (i := 199) rfl)), (hw _ (List.mem_of_getElem? (i := 200) rfl)), (hw _ (List.mem_of_getElem? (i := 201) rfl)), (hw _ (List.mem_of_getElem? (i := 202) rfl)), (hw _ (List.mem_of_getElem? (i := 203) rfl))⟩
theorem t_is_8 {Z : State} {a0 : Array Value} (hw : ∀ d ∈ tables_1, d.before a0 Z = true) : ISOK Z a0 (6, 6, 37) := ⟨bok_37 hw, (hw _ (List.mem_of_getElem? (i := 268) rfl)), (hw _ (List.mem_of_getElem? (i := 269) rfl)), (hw _ (List.mem_of_getElem? (i := 270) rfl)), (hw _ (List.mem_of_getElem? (i := 271) rfl)), (hw _ (List.mem_of_getElem? (i := 186) rfl))⟩
theorem t_is_9 {Z : State} {a0 : Array Value} (hw : ∀ d ∈ tables_1, d.before a0 Z = true) : ISOK Z a0 (6, 7, 43) := ⟨bok_43 hw, (hw _ (List.mem_of_getElem? (i := 302) rfl)), (hw _ (List.mem_of_getElem? (i := 303) rfl)), (hw _ (List.mem_of_getElem? (i := 304) rfl)), (hw _ (List.mem_of_getElem? (i := 305) rfl)), (hw _ (List.mem_of_getElem? (i := 203) rfl))⟩
theorem t_is {Z : State} {a0 : Array Value} (hw : ∀ d ∈ tables_1, d.before a0 Z = true) : ∀ q ∈ iselT, ISOK Z a0 q := (fa_cons (t_is_0 hw) (fa_cons (t_is_1 hw) (fa_cons (t_is_2 hw) (fa_cons (t_is_3 hw) (fa_cons (t_is_4 hw) (fa_cons (t_is_5 hw) (fa_cons (t_is_6 hw) (fa_cons (t_is_7 hw) (fa_cons (t_is_8 hw) (fa_cons (t_is_9 hw) fa_nil))))))))))
theorem t_fw_0 {Z : State} {a0 : Array Value} (hw : ∀ d ∈ tables_1, d.before a0 Z = true) : FWOK Z a0 (2, 19, 48) := ⟨bok_48 hw, (hw _ (List.mem_of_getElem? (i := 339) rfl)), (hw _ (List.mem_of_getElem? (i := 340) rfl)), ⟨_, (hw _ (List.mem_of_getElem? (i := 66) rfl))⟩, ⟨_, _, pd_14, rfl⟩, ⟨_, _, pd_14, rfl⟩, ⟨rfl, rfl, by decide +kernel⟩, ⟨rfl, rfl, by decide +kernel⟩, by decide +kernel, by decide +kernel⟩
theorem t_fw_1 {Z : State} {a0 : Array Value} (hw : ∀ d ∈ tables_1, d.before a0 Z = true) : FWOK Z a0 (2, 20, 46) := ⟨bok_46 hw, (hw _ (List.mem_of_getElem? (i := 327) rfl)), (hw _ (List.mem_of_getElem? (i := 328) rfl)), ⟨_, (hw _ (List.mem_of_getElem? (i := 66) rfl))⟩, ⟨_, _, pd_14, rfl⟩, ⟨_, _, pd_14, rfl⟩, ⟨rfl, rfl, by decide +kernel⟩, ⟨rfl, rfl, by decide +kernel⟩, by decide +kernel, by decide +kernel⟩
theorem t_fw {Z : State} {a0 : Array Value} (hw : ∀ d ∈ tables_1, d.before a0 Z = true) : ∀ q ∈ fwdT, FWOK Z a0 q := (fa_cons (t_fw_0 hw) (fa_cons (t_fw_1 hw) fa_nil))
theorem callOK {Z : State} {a0 : Array Value} (hw : ∀ d ∈ tables_1, d.before a0 Z = true) : CallOK Z a0 := ⟨t_cs hw, t_cc hw, t_cv hw, t_ci hw, t_vs hw, t_is hw, t_fw hw⟩
def orcB (b0 b1 b2 b3 b4 : Bool) : Orc := fun o x y => match o, x, y with
  | 2, .retAddr 0, .int k => bif k == 1 then some (.int (bif b0 then 1 else 0)) else bif k == 2 then some (.int (bif b1 then 2 else 0)) else bif k == 4 then some (.int (bif b2 then 4 else 0)) else bif k == 8 then some (.int (bif b3 then 8 else 0)) else bif k == 16 then some (.int (bif b4 then 16 else 0)) else none
  | _, _, _ => none
def orb0 : Orb := fun _ _ _ => none
def chk (r : Option Res) : Bool := match r with | some (some (.int x), _, dc, ds, fr, lc) => x == 1 && Nat.ble dc 80 && Nat.ble ds 384 && Nat.ble fr 10 && Nat.ble lc 3280 | _ => false
def run (b0 b1 b2 b3 b4 : Bool) : Option Res := exec (orcB b0 b1 b2 b3 b4) orb0 0 600 0 (tabOf 0) 0 (entry (ML 0) [.retAddr 0]) [] []
theorem run_0 : chk (run false false false false false) = true := by decide +kernel
theorem run_1 : chk (run true false false false false) = true := by decide +kernel
theorem run_2 : chk (run false true false false false) = true := by decide +kernel
theorem run_3 : chk (run true true false false false) = true := by decide +kernel
theorem run_4 : chk (run false false true false false) = true := by decide +kernel
theorem run_5 : chk (run true false true false false) = true := by decide +kernel
theorem run_6 : chk (run false true true false false) = true := by decide +kernel
theorem run_7 : chk (run true true true false false) = true := by decide +kernel
theorem run_8 : chk (run false false false true false) = true := by decide +kernel
theorem run_9 : chk (run true false false true false) = true := by decide +kernel
theorem run_10 : chk (run false true false true false) = true := by decide +kernel
theorem run_11 : chk (run true true false true false) = true := by decide +kernel
theorem run_12 : chk (run false false true true false) = true := by decide +kernel
theorem run_13 : chk (run true false true true false) = true := by decide +kernel
theorem run_14 : chk (run false true true true false) = true := by decide +kernel
theorem run_15 : chk (run true true true true false) = true := by decide +kernel
theorem run_16 : chk (run false false false false true) = true := by decide +kernel
theorem run_17 : chk (run true false false false true) = true := by decide +kernel
theorem run_18 : chk (run false true false false true) = true := by decide +kernel
theorem run_19 : chk (run true true false false true) = true := by decide +kernel
theorem run_20 : chk (run false false true false true) = true := by decide +kernel
theorem run_21 : chk (run true false true false true) = true := by decide +kernel
theorem run_22 : chk (run false true true false true) = true := by decide +kernel
theorem run_23 : chk (run true true true false true) = true := by decide +kernel
theorem run_24 : chk (run false false false true true) = true := by decide +kernel
theorem run_25 : chk (run true false false true true) = true := by decide +kernel
theorem run_26 : chk (run false true false true true) = true := by decide +kernel
theorem run_27 : chk (run true true false true true) = true := by decide +kernel
theorem run_28 : chk (run false false true true true) = true := by decide +kernel
theorem run_29 : chk (run true false true true true) = true := by decide +kernel
theorem run_30 : chk (run false true true true true) = true := by decide +kernel
theorem run_31 : chk (run true true true true true) = true := by decide +kernel
theorem run_ok : ∀ b0 b1 b2 b3 b4 : Bool, chk (run b0 b1 b2 b3 b4) = true
  | false, false, false, false, false => run_0
  | true, false, false, false, false => run_1
  | false, true, false, false, false => run_2
  | true, true, false, false, false => run_3
  | false, false, true, false, false => run_4
  | true, false, true, false, false => run_5
  | false, true, true, false, false => run_6
  | true, true, true, false, false => run_7
  | false, false, false, true, false => run_8
  | true, false, false, true, false => run_9
  | false, true, false, true, false => run_10
  | true, true, false, true, false => run_11
  | false, false, true, true, false => run_12
  | true, false, true, true, false => run_13
  | false, true, true, true, false => run_14
  | true, true, true, true, false => run_15
  | false, false, false, false, true => run_16
  | true, false, false, false, true => run_17
  | false, true, false, false, true => run_18
  | true, true, false, false, true => run_19
  | false, false, true, false, true => run_20
  | true, false, true, false, true => run_21
  | false, true, true, false, true => run_22
  | true, true, true, false, true => run_23
  | false, false, false, true, true => run_24
  | true, false, false, true, true => run_25
  | false, true, false, true, true => run_26
  | true, true, false, true, true => run_27
  | false, false, true, true, true => run_28
  | true, false, true, true, true => run_29
  | false, true, true, true, true => run_30
  | true, true, true, true, true => run_31
theorem and_bit (x k : Int32) (i : Nat) (hk : k.toBitVec = BitVec.twoPow 32 i) : (bif decide (¬ (x &&& k) = 0) then k else 0) = x &&& k := by
  have h : x &&& k = 0 ∨ x &&& k = k := by
    rw [← Int32.toBitVec_inj, ← Int32.toBitVec_inj, Int32.toBitVec_and, hk, BitVec.and_twoPow]
    split
    · exact Or.inr rfl
    · exact Or.inl rfl
  by_cases q : x &&& k = 0
  · simp [q]
  · rw [decide_eq_true q]; exact (h.resolve_left q).symm
theorem orcB_ok (p0 : Int32) (ρ : Nat → Nat) : OrcOK ρ (fun _ => p0) (orcB (decide (¬ (p0 &&& 1) = 0)) (decide (¬ (p0 &&& 2) = 0)) (decide (¬ (p0 &&& 4) = 0)) (decide (¬ (p0 &&& 8) = 0)) (decide (¬ (p0 &&& 16) = 0))) := by
  intro o x y z h
  unfold orcB at h
  split at h
  · rename_i k
    refine ⟨p0, k, rfl, rfl, (fun q => absurd q (by decide)), ?_⟩
    cases h0 : (k == 1) with
    | true =>
      simp only [h0, cond_true, cond_false] at h
      cases h
      obtain rfl : k = 1 := eq_of_beq h0
      exact congrArg Value.int (and_bit p0 1 0 (by decide))
    | false =>
      cases h1 : (k == 2) with
      | true =>
        simp only [h0, h1, cond_true, cond_false] at h
        cases h
        obtain rfl : k = 2 := eq_of_beq h1
        exact congrArg Value.int (and_bit p0 2 1 (by decide))
      | false =>
        cases h2 : (k == 4) with
        | true =>
          simp only [h0, h1, h2, cond_true, cond_false] at h
          cases h
          obtain rfl : k = 4 := eq_of_beq h2
          exact congrArg Value.int (and_bit p0 4 2 (by decide))
        | false =>
          cases h3 : (k == 8) with
          | true =>
            simp only [h0, h1, h2, h3, cond_true, cond_false] at h
            cases h
            obtain rfl : k = 8 := eq_of_beq h3
            exact congrArg Value.int (and_bit p0 8 3 (by decide))
          | false =>
            cases h4 : (k == 16) with
            | true =>
              simp only [h0, h1, h2, h3, h4, cond_true, cond_false] at h
              cases h
              obtain rfl : k = 16 := eq_of_beq h4
              exact congrArg Value.int (and_bit p0 16 4 (by decide))
            | false =>
              simp only [h0, h1, h2, h3, h4, cond_false] at h
              cases h
  · cases h
theorem orb0_ok (ρ : Nat → Nat) (ι : Nat → Int32) : OrbOK ρ ι orb0 := fun _ _ _ _ h => by cases h
def QL (n0 : Nat) (v : Option Value) (h : Heap) (L : List Loc) : Prop := v = some (.int 1) ∧ Fr n0 L
theorem pn_0 : plainFor (⟨"com/example/keyedge/keyedge/AdjacencyListGraphDetachPinLaw", "law", "(I)Z"⟩ : MethodName) = true := plainFor_of_name (by first | (simp [plainName, overriddenIn]; done) | decide +kernel)
theorem rm0 (l : Launch) (Z : State) (a0 : Array Value) (hw : ∀ d ∈ tables_1, d.before a0 Z = true) (ws : List Jvm.Cond) (p0 : Int32) (h0 : Heap) (n0 : Nat) (Z0 : n0 ≤ h0.size) (hz : h0 = Z.heap) (hn : n0 = h0.size) :
    OMet l x code maxLocals ret ws room_1 #[.int p0] Z h0 (QL n0) := by
  have HR : RhoOK (fun k => n0 + k) 0 n0 := ⟨fun k hk => absurd hk (Nat.not_lt_zero k), fun k _ => rfl⟩
  have hc := run_ok (decide (¬ (p0 &&& 1) = 0)) (decide (¬ (p0 &&& 2) = 0)) (decide (¬ (p0 &&& 4) = 0)) (decide (¬ (p0 &&& 8) = 0)) (decide (¬ (p0 &&& 16) = 0))
  unfold chk at hc
  split at hc
  · rename_i z H' dc ds fr lc hr
    simp only [Bool.and_eq_true] at hc
    obtain ⟨⟨⟨⟨c1', c2⟩, c3⟩, c4⟩, c5⟩ := hc
    have c2 := Nat.le_of_ble_eq_true c2
    have c3 := Nat.le_of_ble_eq_true c3
    have c4 := Nat.le_of_ble_eq_true c4
    have c5 := Nat.le_of_ble_eq_true c5
    refine OMet.of2 pn_0 (fun m => entry_ok (ρ := fun k => n0 + k) (ι := fun _ => p0) (as' := [.retAddr 0]) rfl 25 m) ?_
    intro p e s m below meth c s₁ hx hby hml hnd hname hret hlk hZ X0 e0
    have G : SH (fun k => n0 + k) (fun _ => p0) 0 n0 Z [] s₁.heap := by
      refine ⟨by rw [e0]; exact hn, Nat.le_refl _, fun k q hq => by simp [nth] at hq, fun a c ha hc => by rw [e0, hz]; exact hc⟩
    have kk := sound (l := l) (orcB_ok p0 _) (orb0_ok _ _) HR (tabOK hw) (siteOK hw) (callOK hw) 600 0 0 (entry (ML 0) [.retAddr 0]) [] [] _ H' dc ds fr lc hr (by decide) (C := room_1.cells) (N := room_1.slots) X0 hx hZ hby hml (findClass_of_methodNamed hnd) (fun h => by cases h) hnd hret hlk rfl G (fun y hy => absurd hy List.not_mem_nil) (by show 0 + dc ≤ 80; omega) (by show 0 + ds ≤ 384; omega) c4 c5 (by show 0 + dc ≤ 80; omega) (by show 0 + ds ≤ 384; omega)
    exact kk.mono fun v h L q => ⟨by rw [q.1, eq_of_beq c1']; rfl, q.2.2⟩
  · cases hc
set_option maxRecDepth 65536 in
set_option maxHeartbeats 40000000 in
theorem comes_1 {Post : Tables → Env → Array Value → State → Outcome → State → Prop} (hpost : ∀ tb e args s v u, (limb_1_1.after args s (.returned v) u = true ∧ limb_1_2.after args s (.returned v) u = true ∧ True) → ReturnedEndW s (.returned v) u (Jvm.fieldLocs frame_1_writes args s ++ Jvm.arrayLocs frame_1_arrays args s ++ Jvm.staticLocs frame_1_statics s) 80 384 → Post tb e args s (.returned v) u) :
    ArmFor flags0 classFile x code maxLocals ret World_1 tables_1 room_1 Calls_1 rest_1 Pre_1 Post := by
  intro l hfl _ _ p e ha hc hk s m args below hf hA hF happ hP
  obtain ⟨hcalls, hrest, hpre⟩ := hP
  obtain ⟨-, -, -, hnamed, -, -, -, hat⟩ := (Spec.applies_iff hf).mp happ
  obtain ⟨hg, hn⟩ := and_e (Cond.before_iff.mp (show (Jvm.Cond.and given_1 narrow_1).before args s = true from hpre))
  obtain ⟨g1, g2⟩ := and_e hg
  obtain ⟨w0, rfl⟩ : ∃ w0 : Value, args = #[w0] := by
    have hs : args.size = 1 := by simpa [Cond.value, given_1] using g1
    obtain ⟨L⟩ := args
    match L, hs with
    | [w0], _ => exact ⟨w0, rfl⟩
  have hw := fun d (hd : d ∈ tables_1) => atoms_spec (ws := Jvm.Cond.code x code maxLocals ret :: tables_1) hat d (List.mem_cons_of_mem _ hd)
  have hfit : Fit s := fun {y c} hc i hi => by
    obtain ⟨ha, rfl⟩ := Array.getElem?_eq_some_iff.mp hc
    have q := List.all_eq_true.mp ((Array.all_eq_true_iff_forall_mem.mp hF) _ (Array.getElem_mem ha)) i (List.mem_range.mpr hi)
    simpa [Array.getElem?_eq_getElem hi] using q
  obtain ⟨i0, ei0⟩ := is_v g2
  obtain rfl : w0 = (.int i0) := Option.some.inj ei0
  obtain ⟨n, o, h1, h2, h3, _, L, rfl, ⟨rfl, N⟩, hq⟩ := rm0 l s _ hw tables_1 i0 s.heap s.heap.size (Nat.le_refl _) rfl rfl p e ha hc hk s m _ below hf ((Spec.applies_iff_loose hf).mp happ).1 ⟨rfl, State.Warmed39.refl s, rfl⟩ trivial
  have hq := Jvm.LamKit.wideOf hq
  refine ⟨n, _, h1, h2, h3, hpost _ _ _ _ _ _ ⟨Cond.after_iff.mpr rfl, Cond.after_iff.mpr (eq_i res_at (Term.int_eval (1)) rfl), trivial⟩ ⟨hq.1, hq.2.1, hq.2.2.1, (hq.2.2.2.sift fun y hy => Or.inr (N y hy)).mono (by decide) (by decide)⟩⟩
theorem main_1_1 : Claimed_1_1 := comes_1 fun _ _ _ _ _ _ h hF => ⟨h.1, hF⟩
theorem main_1_2 : Claimed_1_2 := comes_1 fun _ _ _ _ _ _ h hF => ⟨h.2.1, hF⟩
end Jvm.Pilot.@@N@@
namespace Jvm.Pilot.@@N@@
open Jvm Jvm.ClassFile Sem Op Lib Jvm.Free Jvm.Stand Jvm.Pilot.@@N@@.Jvm.D
/-! MADE BY PROGRAM (witnessworld.py) out of the Statement's table words and the real class files: 30 classes; the members and pool entries that the words name. The judged class is class 1, her method 1. -/
namespace start1
open Jvm.ClassFile
def u (s : String) : CpInfo := .utf8 (stringToUtf16 s)
/-- a pool by its gaps: so many unusable entries, then the entry; so many at the end -/
def gap : Nat → List CpInfo → List CpInfo
  | 0, r => r
  | n + 1, r => .unusable :: gap n r
def poolList (es : List (Nat × CpInfo)) (last : Nat) : List CpInfo := es.foldr (fun e r => gap e.1 (e.2 :: r)) (gap last [])
def pool (es : List (Nat × CpInfo)) (last : Nat) : Array CpInfo := ⟨poolList es last⟩
def fileOf (pool : Array CpInfo) (this : Nat) (attrs : Array Attribute := #[]) (ms : Array MethodInfo := #[]) (fl : Nat := 33) (sup : Nat := 0) (ifs : Array Nat := #[]) (fds : Array FieldInfo := #[]) : ClassFile where
  minorVersion := 0
  majorVersion := 65
  constantPool := pool
  accessFlags := fl
  thisClass := this
  superClass := sup
  interfaces := ifs
  fields := fds
  methods := ms
  attributes := attrs
def plain (name : String) (sup : Option ClassId) : Class where
  name := name
  kind := .ordinary
  loader := none
  accessFlags := 33
  super := sup
  interfaces := #[]
  cf := none
  fields := #[]
  methods := #[]
  instanceTypes := #[]
  staticTypes := #[]
  resolved := #[]
  callSites := []
  init := .initialized
  statics := none
  mirror := none

def pool0 : Array CpInfo := pool [(5, u "<init>"), (0, u "()V"), (1, .class_ 10), (1, u "java/lang/Object")] 113

def k0c0 : Code := { maxStack := 0, maxLocals := 1, code := object_method_1_code, exceptionTable := #[], attributes := #[] }
def k0m0 : Method := { name := "<init>", desc := "()V", sig := { parameters := [], returnType := none }, accessFlags := 1, code := some k0c0 }
/-- java/lang/Object -/
def k0 : Class := { plain "java/lang/Object" none with
  accessFlags := 33
  interfaces := #[]
  cf := some (fileOf pool0 8 #[] #[{ accessFlags := 1, nameIndex := 5, descriptorIndex := 6, attributes := #[] }] 33 0 #[] #[])
  fields := #[]
  methods := #[k0m0]
  instanceTypes := #[]
  staticTypes := #[]
  resolved := Array.replicate 124 none
  statics := none }

def pool1 : Array CpInfo := pool [(2, .class_ 4), (0, .nameAndType 5 6), (0, u "java/lang/Object"), (0, u "<init>"), (0, u "()V"), (0, .class_ 8), (0, u "com/example/keyedge/keyedge/AdjacencyListGraph"), (0, .methodref 7 3), (0, .methodref 7 11), (0, .nameAndType 12 13), (0, u "newNode"), (0, u "(Ljava/lang/Object;I)Lcom/example/keyedge/keyedge/AdjacencyListGraph$ListNode;"), (0, .methodref 7 15), (0, .nameAndType 16 17), (0, u "attach"), (0, u "(Lcom/example/keyedge/keyedge/AdjacencyListGraph$ListNode;Lcom/example/keyedge/keyedge/AdjacencyListGraph$ListNode;Ljava/lang/Object;)Lcom/example/keyedge/keyedge/AdjacencyListGraph$ListLink;"), (0, .methodref 7 19), (0, .nameAndType 20 21), (0, u "detach"), (0, u "(Lcom/example/keyedge/keyedge/AdjacencyListGraph$ListLink;)V"), (0, .fieldref 23 24), (0, .class_ 25), (0, .nameAndType 26 27), (0, u "com/example/keyedge/keyedge/AdjacencyListGraph$ListLink"), (0, u "previousOut"), (0, u "Lcom/example/keyedge/keyedge/AdjacencyListGraph$ListLink;"), (0, .fieldref 23 29), (0, .nameAndType 30 27), (0, u "nextOut"), (0, .fieldref 23 32), (0, .nameAndType 33 27), (0, u "previousIn"), (0, .fieldref 23 35), (0, .nameAndType 36 27), (0, u "nextIn"), (0, .fieldref 38 39), (0, .class_ 40), (0, .nameAndType 41 42), (0, u "com/example/keyedge/keyedge/AdjacencyListGraph$ListNode"), (0, u "out"), (0, u "Lcom/example/keyedge/keyedge/Chain;"), (0, .methodref 44 45), (0, .class_ 46), (0, .nameAndType 47 48), (0, u "com/example/keyedge/keyedge/Chain"), (0, u "size"), (0, u "()I"), (0, .fieldref 38 50), (0, .nameAndType 51 42), (0, u "in"), (0, .methodref 44 53), (0, .nameAndType 54 55), (0, u "contains"), (0, u "(Ljava/lang/Object;)Z"), (0, .class_ 57), (0, u "com/example/keyedge/keyedge/AdjacencyListGraphDetachPinLaw"), (2, u "law"), (0, u "(I)Z")] 6

def k1m0 : Method := { name := "<init>", desc := "()V", sig := { parameters := [], returnType := none }, accessFlags := 2, code := none }
def k1c1 : Code := { maxStack := 4, maxLocals := 25, code := code, exceptionTable := #[], attributes := #[] }
def k1m1 : Method := { name := "law", desc := "(I)Z", sig := { parameters := [.int], returnType := some .boolean }, accessFlags := 9, code := some k1c1 }
/-- com/example/keyedge/keyedge/AdjacencyListGraphDetachPinLaw -/
def k1 : Class := { plain "com/example/keyedge/keyedge/AdjacencyListGraphDetachPinLaw" (some 0) with
  accessFlags := 49
  interfaces := #[]
  cf := some (fileOf pool1 56 #[] #[{ accessFlags := 2, nameIndex := 5, descriptorIndex := 6, attributes := #[] }, { accessFlags := 9, nameIndex := 60, descriptorIndex := 61, attributes := #[] }] 49 2 #[] #[])
  fields := #[]
  methods := #[k1m0, k1m1]
  instanceTypes := #[]
  staticTypes := #[]
  resolved := Array.replicate 68 none
  statics := none }

def pool2 : Array CpInfo := pool [(1, .class_ 2), (0, u "com/example/keyedge/keyedge/Graph"), (0, .class_ 4), (0, u "java/lang/Object")] 32

/-- com/example/keyedge/keyedge/Graph -/
def k2 : Class := { plain "com/example/keyedge/keyedge/Graph" (some 0) with
  accessFlags := 1537
  interfaces := #[]
  cf := some (fileOf pool2 1 #[] #[] 1537 3 #[] #[])
  fields := #[]
  methods := #[]
  instanceTypes := #[]
  staticTypes := #[]
  resolved := Array.replicate 37 none
  statics := none }

def pool3 : Array CpInfo := pool [(1, .methodref 2 3), (0, .class_ 4), (0, .nameAndType 5 6), (0, u "java/lang/Object"), (0, u "<init>"), (0, u "()V"), (0, .invokeDynamic 0 8), (0, .nameAndType 9 10), (0, u "test"), (0, u "(Lcom/example/keyedge/keyedge/AbstractGraph;)Ljava/util/function/Predicate;"), (0, .methodref 12 13), (0, .class_ 14), (0, .nameAndType 15 16), (0, u "com/example/keyedge/keyedge/Chain"), (0, u "of"), (0, u "(Ljava/util/function/Predicate;)Lcom/example/keyedge/keyedge/Chain;"), (0, .fieldref 18 19), (0, .class_ 20), (0, .nameAndType 21 22), (0, u "com/example/keyedge/keyedge/AbstractGraph"), (0, u "vertices"), (0, u "Lcom/example/keyedge/keyedge/Chain;"), (0, .invokeDynamic 1 8), (0, .fieldref 18 25), (0, .nameAndType 26 22), (0, u "edges"), (24, .class_ 53), (1, u "com/example/keyedge/keyedge/AbstractGraph$Link"), (7, u "made"), (0, u "I"), (57, .class_ 121), (0, u "com/example/keyedge/keyedge/AbstractGraph$Node"), (4, .methodref 18 127), (0, .nameAndType 128 129), (0, u "madeVertex"), (0, u "(Ljava/lang/Object;)Z"), (7, .methodref 18 138), (0, .nameAndType 139 129), (0, u "madeEdge"), (1, .class_ 142), (0, u "com/example/keyedge/keyedge/Graph"), (43, .methodType 129), (0, .methodHandle 5 126), (0, .methodHandle 5 137), (6, .methodHandle 6 196), (0, .methodref 197 198), (0, .class_ 199), (0, .nameAndType 200 201), (0, u "java/lang/invoke/LambdaMetafactory"), (0, u "metafactory"), (0, u "(Ljava/lang/invoke/MethodHandles$Lookup;Ljava/lang/String;Ljava/lang/invoke/MethodType;Ljava/lang/invoke/MethodType;Ljava/lang/invoke/MethodHandle;Ljava/lang/invoke/MethodType;)Ljava/lang/invoke/CallSite;")] 17

def k3c0 : Code := { maxStack := 2, maxLocals := 1, code := prog_1_method_1_code, exceptionTable := #[], attributes := #[] }
def k3m0 : Method := { name := "<init>", desc := "()V", sig := { parameters := [], returnType := none }, accessFlags := 0, code := some k3c0 }
def k3c1 : Code := { maxStack := 2, maxLocals := 3, code := ⟨#[0x2b, 0xc1, 0x00, 0x78, 0x99, 0x00, 0x14, 0x2b, 0xc0, 0x00, 0x78, 0x4d, 0x2c, 0xb4, 0x00, 0x7a, 0x2a, 0xa6, 0x00, 0x07, 0x04, 0xa7, 0x00, 0x04, 0x03, 0xac]⟩, exceptionTable := #[], attributes := #[] }
def k3m1 : Method := { name := "madeVertex", desc := "(Ljava/lang/Object;)Z", sig := { parameters := [(.object "java/lang/Object")], returnType := some .boolean }, accessFlags := 2, code := some k3c1 }
def k3c2 : Code := { maxStack := 2, maxLocals := 3, code := ⟨#[0x2b, 0xc1, 0x00, 0x33, 0x99, 0x00, 0x17, 0x2b, 0xc0, 0x00, 0x33, 0x4d, 0x2c, 0xb4, 0x00, 0x32, 0xb4, 0x00, 0x7a, 0x2a, 0xa6, 0x00, 0x07, 0x04, 0xa7, 0x00, 0x04, 0x03, 0xac]⟩, exceptionTable := #[], attributes := #[] }
def k3m2 : Method := { name := "madeEdge", desc := "(Ljava/lang/Object;)Z", sig := { parameters := [(.object "java/lang/Object")], returnType := some .boolean }, accessFlags := 2, code := some k3c2 }
/-- com/example/keyedge/keyedge/AbstractGraph -/
def k3 : Class := { plain "com/example/keyedge/keyedge/AbstractGraph" (some 0) with
  accessFlags := 1056
  interfaces := #[2]
  cf := some (fileOf pool3 18 #[.nestMembers #[51, 120], .bootstrapMethods #[⟨195, #[186, 187, 186]⟩, ⟨195, #[186, 188, 186]⟩, ⟨0, #[]⟩, ⟨0, #[]⟩, ⟨0, #[]⟩]] #[{ accessFlags := 0, nameIndex := 5, descriptorIndex := 6, attributes := #[] }, { accessFlags := 2, nameIndex := 128, descriptorIndex := 129, attributes := #[] }, { accessFlags := 2, nameIndex := 139, descriptorIndex := 129, attributes := #[] }] 1056 2 #[141] #[{ accessFlags := 18, nameIndex := 21, descriptorIndex := 22, attributes := #[] }, { accessFlags := 18, nameIndex := 26, descriptorIndex := 22, attributes := #[] }, { accessFlags := 2, nameIndex := 61, descriptorIndex := 62, attributes := #[] }])
  fields := #[{ name := "vertices", type := (.object "com/example/keyedge/keyedge/Chain"), accessFlags := 18, slot := 0, constantValue := 0 }, { name := "edges", type := (.object "com/example/keyedge/keyedge/Chain"), accessFlags := 18, slot := 1, constantValue := 0 }, { name := "made", type := .int, accessFlags := 2, slot := 2, constantValue := 0 }]
  methods := #[k3m0, k3m1, k3m2]
  instanceTypes := #[(.object "com/example/keyedge/keyedge/Chain"), (.object "com/example/keyedge/keyedge/Chain"), .int]
  staticTypes := #[]
  resolved := Array.replicate 219 none
  callSites := [(0, 6, .makes 26), (0, 19, .makes 27)]
  statics := none }

def pool4 : Array CpInfo := pool [(1, .methodref 2 3), (0, .class_ 4), (0, .nameAndType 5 6), (0, u "com/example/keyedge/keyedge/AbstractGraph"), (0, u "<init>"), (0, u "()V"), (0, .class_ 8), (0, u "com/example/keyedge/keyedge/AdjacencyListGraph$1"), (0, .methodref 7 10), (0, .nameAndType 5 11), (0, u "(Lcom/example/keyedge/keyedge/AdjacencyListGraph;)V"), (0, .fieldref 13 14), (0, .class_ 15), (0, .nameAndType 16 17), (0, u "com/example/keyedge/keyedge/AdjacencyListGraph"), (0, u "outgoing"), (0, u "Lcom/example/keyedge/keyedge/Chain$Strand;"), (0, .class_ 19), (0, u "com/example/keyedge/keyedge/AdjacencyListGraph$2"), (0, .methodref 18 10), (0, .fieldref 13 22), (0, .nameAndType 23 17), (0, u "incoming"), (0, .class_ 25), (0, u "com/example/keyedge/keyedge/AdjacencyListGraph$ListNode"), (0, .methodref 24 27), (0, .nameAndType 5 28), (0, u "(Lcom/example/keyedge/keyedge/AdjacencyListGraph;Ljava/lang/Object;I)V"), (0, .fieldref 24 30), (0, .nameAndType 31 32), (0, u "in"), (0, u "Lcom/example/keyedge/keyedge/Chain;"), (0, .fieldref 24 34), (0, .nameAndType 35 32), (0, u "out"), (0, .methodref 37 38), (0, .class_ 39), (0, .nameAndType 40 41), (0, u "com/example/keyedge/keyedge/Chain"), (0, u "size"), (0, u "()I"), (0, .methodref 37 43), (0, .nameAndType 44 45), (0, u "iterator"), (0, u "()Ljava/util/Iterator;"), (0, .interfaceMethodref 47 48), (0, .class_ 49), (0, .nameAndType 50 51), (0, u "java/util/Iterator"), (0, u "hasNext"), (0, u "()Z"), (0, .interfaceMethodref 47 53), (0, .nameAndType 54 55), (0, u "next"), (0, u "()Ljava/lang/Object;"), (0, .class_ 57), (0, u "com/example/keyedge/keyedge/AdjacencyListGraph$ListLink"), (0, .fieldref 56 59), (0, .nameAndType 60 61), (0, u "target"), (0, u "Lcom/example/keyedge/keyedge/AbstractGraph$Node;"), (0, .fieldref 56 63), (0, .nameAndType 64 61), (0, u "source"), (0, .methodref 13 66), (0, .nameAndType 67 68), (0, u "edge"), (0, u "(Lcom/example/keyedge/keyedge/AdjacencyListGraph$ListNode;Lcom/example/keyedge/keyedge/AdjacencyListGraph$ListNode;)Lcom/example/keyedge/keyedge/AdjacencyListGraph$ListLink;"), (0, .methodref 56 70), (0, .nameAndType 5 71), (0, u "(Lcom/example/keyedge/keyedge/AdjacencyListGraph$ListNode;Lcom/example/keyedge/keyedge/AdjacencyListGraph$ListNode;Ljava/lang/Object;)V"), (0, .methodref 37 73), (0, .nameAndType 74 75), (0, u "append"), (0, u "(Lcom/example/keyedge/keyedge/Chain$Linked;)V"), (0, .methodref 37 77), (0, .nameAndType 78 75), (0, u "unlink"), (2, u "detach"), (0, u "(Lcom/example/keyedge/keyedge/AdjacencyListGraph$ListLink;)V"), (2, u "attach"), (0, u "(Lcom/example/keyedge/keyedge/AdjacencyListGraph$ListNode;Lcom/example/keyedge/keyedge/AdjacencyListGraph$ListNode;Ljava/lang/Object;)Lcom/example/keyedge/keyedge/AdjacencyListGraph$ListLink;"), (7, u "newNode"), (0, u "(Ljava/lang/Object;I)Lcom/example/keyedge/keyedge/AdjacencyListGraph$ListNode;")] 35

def k4c0 : Code := { maxStack := 4, maxLocals := 1, code := prog_4_method_1_code, exceptionTable := #[], attributes := #[] }
def k4m0 : Method := { name := "<init>", desc := "()V", sig := { parameters := [], returnType := none }, accessFlags := 1, code := some k4c0 }
def k4c1 : Code := { maxStack := 5, maxLocals := 3, code := prog_4_method_2_code, exceptionTable := #[], attributes := #[] }
def k4m1 : Method := { name := "newNode", desc := "(Ljava/lang/Object;I)Lcom/example/keyedge/keyedge/AdjacencyListGraph$ListNode;", sig := { parameters := [(.object "java/lang/Object"), .int], returnType := some (.object "com/example/keyedge/keyedge/AdjacencyListGraph$ListNode") }, accessFlags := 0, code := some k4c1 }
def k4c2 : Code := { maxStack := 2, maxLocals := 5, code := prog_4_method_5_code, exceptionTable := #[], attributes := #[] }
def k4m2 : Method := { name := "edge", desc := "(Lcom/example/keyedge/keyedge/AdjacencyListGraph$ListNode;Lcom/example/keyedge/keyedge/AdjacencyListGraph$ListNode;)Lcom/example/keyedge/keyedge/AdjacencyListGraph$ListLink;", sig := { parameters := [(.object "com/example/keyedge/keyedge/AdjacencyListGraph$ListNode"), (.object "com/example/keyedge/keyedge/AdjacencyListGraph$ListNode")], returnType := some (.object "com/example/keyedge/keyedge/AdjacencyListGraph$ListLink") }, accessFlags := 0, code := some k4c2 }
def k4c3 : Code := { maxStack := 5, maxLocals := 5, code := prog_4_method_6_code, exceptionTable := #[], attributes := #[] }
def k4m3 : Method := { name := "attach", desc := "(Lcom/example/keyedge/keyedge/AdjacencyListGraph$ListNode;Lcom/example/keyedge/keyedge/AdjacencyListGraph$ListNode;Ljava/lang/Object;)Lcom/example/keyedge/keyedge/AdjacencyListGraph$ListLink;", sig := { parameters := [(.object "com/example/keyedge/keyedge/AdjacencyListGraph$ListNode"), (.object "com/example/keyedge/keyedge/AdjacencyListGraph$ListNode"), (.object "java/lang/Object")], returnType := some (.object "com/example/keyedge/keyedge/AdjacencyListGraph$ListLink") }, accessFlags := 0, code := some k4c3 }
def k4c4 : Code := { maxStack := 2, maxLocals := 2, code := prog_4_method_7_code, exceptionTable := #[], attributes := #[] }
def k4m4 : Method := { name := "detach", desc := "(Lcom/example/keyedge/keyedge/AdjacencyListGraph$ListLink;)V", sig := { parameters := [(.object "com/example/keyedge/keyedge/AdjacencyListGraph$ListLink")], returnType := none }, accessFlags := 0, code := some k4c4 }
/-- com/example/keyedge/keyedge/AdjacencyListGraph -/
def k4 : Class := { plain "com/example/keyedge/keyedge/AdjacencyListGraph" (some 3) with
  accessFlags := 49
  interfaces := #[]
  cf := some (fileOf pool4 13 #[.nestMembers #[56, 24, 18, 7]] #[{ accessFlags := 1, nameIndex := 5, descriptorIndex := 6, attributes := #[] }, { accessFlags := 0, nameIndex := 94, descriptorIndex := 95, attributes := #[] }, { accessFlags := 0, nameIndex := 67, descriptorIndex := 68, attributes := #[] }, { accessFlags := 0, nameIndex := 85, descriptorIndex := 86, attributes := #[] }, { accessFlags := 0, nameIndex := 81, descriptorIndex := 82, attributes := #[] }] 49 2 #[] #[{ accessFlags := 18, nameIndex := 16, descriptorIndex := 17, attributes := #[] }, { accessFlags := 18, nameIndex := 23, descriptorIndex := 17, attributes := #[] }])
  fields := #[{ name := "outgoing", type := (.object "com/example/keyedge/keyedge/Chain$Strand"), accessFlags := 18, slot := 3, constantValue := 0 }, { name := "incoming", type := (.object "com/example/keyedge/keyedge/Chain$Strand"), accessFlags := 18, slot := 4, constantValue := 0 }]
  methods := #[k4m0, k4m1, k4m2, k4m3, k4m4]
  instanceTypes := #[(.object "com/example/keyedge/keyedge/Chain"), (.object "com/example/keyedge/keyedge/Chain"), .int, (.object "com/example/keyedge/keyedge/Chain$Strand"), (.object "com/example/keyedge/keyedge/Chain$Strand")]
  staticTypes := #[]
  resolved := Array.replicate 131 none
  statics := none }

def pool5 : Array CpInfo := pool [(9, u "test"), (12, .class_ 24), (1, u "java/util/function/Predicate"), (2, .class_ 29), (1, u "java/lang/Object"), (1, u "(Ljava/lang/Object;)Z")] 69

def k5m0 : Method := { name := "test", desc := "(Ljava/lang/Object;)Z", sig := { parameters := [(.object "java/lang/Object")], returnType := some .boolean }, accessFlags := 1025, code := none }
/-- java/util/function/Predicate -/
def k5 : Class := { plain "java/util/function/Predicate" (some 0) with
  accessFlags := 1537
  interfaces := #[]
  cf := some (fileOf pool5 22 #[] #[{ accessFlags := 1025, nameIndex := 9, descriptorIndex := 31, attributes := #[] }] 1537 27 #[] #[])
  fields := #[]
  methods := #[k5m0]
  instanceTypes := #[]
  staticTypes := #[]
  resolved := Array.replicate 101 none
  statics := none }

def pool6 : Array CpInfo := pool [(8, .class_ 10), (1, u "java/lang/Iterable"), (24, .class_ 36), (0, u "java/lang/Object")] 25

/-- java/lang/Iterable -/
def k6 : Class := { plain "java/lang/Iterable" (some 0) with
  accessFlags := 1537
  interfaces := #[]
  cf := some (fileOf pool6 8 #[] #[] 1537 35 #[] #[])
  fields := #[]
  methods := #[]
  instanceTypes := #[]
  staticTypes := #[]
  resolved := Array.replicate 62 none
  statics := none }

def pool7 : Array CpInfo := pool [(10, .class_ 12), (1, u "java/util/Collection"), (47, .class_ 61), (0, u "java/lang/Object"), (0, .class_ 63), (0, u "java/lang/Iterable")] 51

/-- java/util/Collection -/
def k7 : Class := { plain "java/util/Collection" (some 0) with
  accessFlags := 1537
  interfaces := #[6]
  cf := some (fileOf pool7 10 #[] #[] 1537 60 #[62] #[])
  fields := #[]
  methods := #[]
  instanceTypes := #[]
  staticTypes := #[]
  resolved := Array.replicate 115 none
  statics := none }

def pool8 : Array CpInfo := pool [(1, .methodref 2 3), (0, .class_ 4), (0, .nameAndType 5 6), (0, u "java/lang/Object"), (0, u "<init>"), (0, u "()V"), (1, .class_ 10), (1, u "java/util/AbstractCollection"), (66, .class_ 78), (0, u "java/util/Collection")] 81

def k8c0 : Code := { maxStack := 1, maxLocals := 1, code := jdk_22_method_1_code, exceptionTable := #[], attributes := #[] }
def k8m0 : Method := { name := "<init>", desc := "()V", sig := { parameters := [], returnType := none }, accessFlags := 4, code := some k8c0 }
/-- java/util/AbstractCollection -/
def k8 : Class := { plain "java/util/AbstractCollection" (some 0) with
  accessFlags := 1057
  interfaces := #[7]
  cf := some (fileOf pool8 8 #[] #[{ accessFlags := 4, nameIndex := 5, descriptorIndex := 6, attributes := #[] }] 1057 2 #[77] #[])
  fields := #[]
  methods := #[k8m0]
  instanceTypes := #[]
  staticTypes := #[]
  resolved := Array.replicate 160 none
  statics := none }

def pool9 : Array CpInfo := pool [(1, .methodref 2 3), (0, .class_ 4), (0, .nameAndType 5 6), (0, u "java/util/AbstractCollection"), (0, u "<init>"), (0, u "()V"), (0, .fieldref 8 9), (0, .class_ 10), (0, .nameAndType 11 12), (0, u "com/example/keyedge/keyedge/Chain"), (0, u "strand"), (0, u "Lcom/example/keyedge/keyedge/Chain$Strand;"), (0, .fieldref 8 14), (0, .nameAndType 15 16), (0, u "made"), (0, u "Ljava/util/function/Predicate;"), (0, .methodref 8 18), (0, .nameAndType 5 19), (0, u "(Lcom/example/keyedge/keyedge/Chain$Strand;Ljava/util/function/Predicate;)V"), (0, .fieldref 8 21), (0, .nameAndType 22 23), (0, u "last"), (0, u "Lcom/example/keyedge/keyedge/Chain$Linked;"), (0, .methodref 8 25), (0, .nameAndType 26 27), (0, u "setPrevious"), (0, u "(Lcom/example/keyedge/keyedge/Chain$Linked;Lcom/example/keyedge/keyedge/Chain$Linked;)V"), (0, .fieldref 8 29), (0, .nameAndType 30 23), (0, u "first"), (0, .methodref 8 32), (0, .nameAndType 33 27), (0, u "setNext"), (0, .fieldref 8 35), (0, .nameAndType 36 37), (0, u "size"), (0, u "I"), (0, .fieldref 8 39), (0, .nameAndType 40 37), (0, u "changes"), (0, .methodref 8 42), (0, .nameAndType 43 44), (0, u "previous"), (0, u "(Lcom/example/keyedge/keyedge/Chain$Linked;)Lcom/example/keyedge/keyedge/Chain$Linked;"), (0, .methodref 8 46), (0, .nameAndType 47 44), (0, u "next"), (2, u "$assertionsDisabled"), (0, u "Z"), (3, .fieldref 56 57), (0, .class_ 58), (0, .nameAndType 43 23), (0, u "com/example/keyedge/keyedge/Chain$Linked"), (0, .interfaceMethodref 60 61), (0, .class_ 62), (0, .nameAndType 63 64), (0, u "java/util/function/Predicate"), (0, u "test"), (0, u "(Ljava/lang/Object;)Z"), (0, .methodref 8 66), (0, .nameAndType 67 68), (0, u "linked"), (0, u "(Lcom/example/keyedge/keyedge/Chain$Linked;)Z"), (0, .class_ 70), (0, u "com/example/keyedge/keyedge/Chain$1"), (0, .methodref 69 72), (0, .nameAndType 5 73), (0, u "(Lcom/example/keyedge/keyedge/Chain;)V"), (5, u "(Ljava/lang/Object;)Ljava/lang/Object;"), (9, .interfaceMethodref 90 91), (0, .class_ 92), (0, .nameAndType 43 79), (0, u "com/example/keyedge/keyedge/Chain$Strand"), (0, .fieldref 56 94), (0, .nameAndType 47 23), (0, .interfaceMethodref 90 96), (0, .nameAndType 47 79), (0, .interfaceMethodref 90 98), (0, .nameAndType 26 99), (0, u "(Ljava/lang/Object;Ljava/lang/Object;)V"), (0, .interfaceMethodref 90 101), (0, .nameAndType 33 99), (13, u "of"), (0, u "(Ljava/util/function/Predicate;)Lcom/example/keyedge/keyedge/Chain;"), (1, u "(Lcom/example/keyedge/keyedge/Chain$Strand;Ljava/util/function/Predicate;)Lcom/example/keyedge/keyedge/Chain;"), (1, u "append"), (0, u "(Lcom/example/keyedge/keyedge/Chain$Linked;)V"), (2, u "unlink"), (2, u "()I"), (0, u "contains"), (0, u "iterator"), (0, u "()Ljava/util/Iterator;")] 14

def k9c0 : Code := { maxStack := 2, maxLocals := 3, code := prog_13_method_1_code, exceptionTable := #[], attributes := #[] }
def k9m0 : Method := { name := "<init>", desc := "(Lcom/example/keyedge/keyedge/Chain$Strand;Ljava/util/function/Predicate;)V", sig := { parameters := [(.object "com/example/keyedge/keyedge/Chain$Strand"), (.object "java/util/function/Predicate")], returnType := none }, accessFlags := 2, code := some k9c0 }
def k9c1 : Code := { maxStack := 4, maxLocals := 1, code := prog_13_method_2_code, exceptionTable := #[], attributes := #[] }
def k9m1 : Method := { name := "of", desc := "(Ljava/util/function/Predicate;)Lcom/example/keyedge/keyedge/Chain;", sig := { parameters := [(.object "java/util/function/Predicate")], returnType := some (.object "com/example/keyedge/keyedge/Chain") }, accessFlags := 8, code := some k9c1 }
def k9c2 : Code := { maxStack := 4, maxLocals := 2, code := prog_13_method_3_code, exceptionTable := #[], attributes := #[] }
def k9m2 : Method := { name := "of", desc := "(Lcom/example/keyedge/keyedge/Chain$Strand;Ljava/util/function/Predicate;)Lcom/example/keyedge/keyedge/Chain;", sig := { parameters := [(.object "com/example/keyedge/keyedge/Chain$Strand"), (.object "java/util/function/Predicate")], returnType := some (.object "com/example/keyedge/keyedge/Chain") }, accessFlags := 8, code := some k9c2 }
def k9c3 : Code := { maxStack := 3, maxLocals := 2, code := prog_13_method_4_code, exceptionTable := #[], attributes := #[] }
def k9m3 : Method := { name := "append", desc := "(Lcom/example/keyedge/keyedge/Chain$Linked;)V", sig := { parameters := [(.object "com/example/keyedge/keyedge/Chain$Linked")], returnType := none }, accessFlags := 0, code := some k9c3 }
def k9c4 : Code := { maxStack := 3, maxLocals := 4, code := prog_13_method_5_code, exceptionTable := #[], attributes := #[] }
def k9m4 : Method := { name := "unlink", desc := "(Lcom/example/keyedge/keyedge/Chain$Linked;)V", sig := { parameters := [(.object "com/example/keyedge/keyedge/Chain$Linked")], returnType := none }, accessFlags := 0, code := some k9c4 }
def k9c5 : Code := { maxStack := 2, maxLocals := 2, code := prog_13_method_6_code, exceptionTable := #[], attributes := #[] }
def k9m5 : Method := { name := "linked", desc := "(Lcom/example/keyedge/keyedge/Chain$Linked;)Z", sig := { parameters := [(.object "com/example/keyedge/keyedge/Chain$Linked")], returnType := some .boolean }, accessFlags := 0, code := some k9c5 }
def k9c6 : Code := { maxStack := 1, maxLocals := 1, code := prog_13_method_8_code, exceptionTable := #[], attributes := #[] }
def k9m6 : Method := { name := "size", desc := "()I", sig := { parameters := [], returnType := some .int }, accessFlags := 1, code := some k9c6 }
def k9c7 : Code := { maxStack := 2, maxLocals := 2, code := prog_13_method_9_code, exceptionTable := #[], attributes := #[] }
def k9m7 : Method := { name := "contains", desc := "(Ljava/lang/Object;)Z", sig := { parameters := [(.object "java/lang/Object")], returnType := some .boolean }, accessFlags := 1, code := some k9c7 }
def k9c8 : Code := { maxStack := 3, maxLocals := 1, code := prog_13_method_10_code, exceptionTable := #[], attributes := #[] }
def k9m8 : Method := { name := "iterator", desc := "()Ljava/util/Iterator;", sig := { parameters := [], returnType := some (.object "java/util/Iterator") }, accessFlags := 1, code := some k9c8 }
def k9c9 : Code := { maxStack := 2, maxLocals := 2, code := prog_13_method_12_code, exceptionTable := #[], attributes := #[] }
def k9m9 : Method := { name := "previous", desc := "(Lcom/example/keyedge/keyedge/Chain$Linked;)Lcom/example/keyedge/keyedge/Chain$Linked;", sig := { parameters := [(.object "com/example/keyedge/keyedge/Chain$Linked")], returnType := some (.object "com/example/keyedge/keyedge/Chain$Linked") }, accessFlags := 2, code := some k9c9 }
def k9c10 : Code := { maxStack := 2, maxLocals := 2, code := prog_13_method_13_code, exceptionTable := #[], attributes := #[] }
def k9m10 : Method := { name := "next", desc := "(Lcom/example/keyedge/keyedge/Chain$Linked;)Lcom/example/keyedge/keyedge/Chain$Linked;", sig := { parameters := [(.object "com/example/keyedge/keyedge/Chain$Linked")], returnType := some (.object "com/example/keyedge/keyedge/Chain$Linked") }, accessFlags := 2, code := some k9c10 }
def k9c11 : Code := { maxStack := 3, maxLocals := 3, code := prog_13_method_14_code, exceptionTable := #[], attributes := #[] }
def k9m11 : Method := { name := "setPrevious", desc := "(Lcom/example/keyedge/keyedge/Chain$Linked;Lcom/example/keyedge/keyedge/Chain$Linked;)V", sig := { parameters := [(.object "com/example/keyedge/keyedge/Chain$Linked"), (.object "com/example/keyedge/keyedge/Chain$Linked")], returnType := none }, accessFlags := 2, code := some k9c11 }
def k9c12 : Code := { maxStack := 3, maxLocals := 3, code := prog_13_method_15_code, exceptionTable := #[], attributes := #[] }
def k9m12 : Method := { name := "setNext", desc := "(Lcom/example/keyedge/keyedge/Chain$Linked;Lcom/example/keyedge/keyedge/Chain$Linked;)V", sig := { parameters := [(.object "com/example/keyedge/keyedge/Chain$Linked"), (.object "com/example/keyedge/keyedge/Chain$Linked")], returnType := none }, accessFlags := 2, code := some k9c12 }
/-- com/example/keyedge/keyedge/Chain -/
def k9 : Class := { plain "com/example/keyedge/keyedge/Chain" (some 8) with
  accessFlags := 48
  interfaces := #[]
  cf := some (fileOf pool9 8 #[.nestMembers #[56, 90, 69]] #[{ accessFlags := 2, nameIndex := 5, descriptorIndex := 19, attributes := #[] }, { accessFlags := 8, nameIndex := 115, descriptorIndex := 116, attributes := #[] }, { accessFlags := 8, nameIndex := 115, descriptorIndex := 118, attributes := #[] }, { accessFlags := 0, nameIndex := 120, descriptorIndex := 121, attributes := #[] }, { accessFlags := 0, nameIndex := 124, descriptorIndex := 121, attributes := #[] }, { accessFlags := 0, nameIndex := 67, descriptorIndex := 68, attributes := #[] }, { accessFlags := 1, nameIndex := 36, descriptorIndex := 127, attributes := #[] }, { accessFlags := 1, nameIndex := 128, descriptorIndex := 64, attributes := #[] }, { accessFlags := 1, nameIndex := 129, descriptorIndex := 130, attributes := #[] }, { accessFlags := 2, nameIndex := 43, descriptorIndex := 44, attributes := #[] }, { accessFlags := 2, nameIndex := 47, descriptorIndex := 44, attributes := #[] }, { accessFlags := 2, nameIndex := 26, descriptorIndex := 27, attributes := #[] }, { accessFlags := 2, nameIndex := 33, descriptorIndex := 27, attributes := #[] }] 48 2 #[] #[{ accessFlags := 18, nameIndex := 11, descriptorIndex := 12, attributes := #[] }, { accessFlags := 18, nameIndex := 15, descriptorIndex := 16, attributes := #[] }, { accessFlags := 2, nameIndex := 30, descriptorIndex := 23, attributes := #[] }, { accessFlags := 2, nameIndex := 22, descriptorIndex := 23, attributes := #[] }, { accessFlags := 2, nameIndex := 36, descriptorIndex := 37, attributes := #[] }, { accessFlags := 2, nameIndex := 40, descriptorIndex := 37, attributes := #[] }, { accessFlags := 4120, nameIndex := 50, descriptorIndex := 51, attributes := #[] }])
  fields := #[{ name := "strand", type := (.object "com/example/keyedge/keyedge/Chain$Strand"), accessFlags := 18, slot := 0, constantValue := 0 }, { name := "made", type := (.object "java/util/function/Predicate"), accessFlags := 18, slot := 1, constantValue := 0 }, { name := "first", type := (.object "com/example/keyedge/keyedge/Chain$Linked"), accessFlags := 2, slot := 2, constantValue := 0 }, { name := "last", type := (.object "com/example/keyedge/keyedge/Chain$Linked"), accessFlags := 2, slot := 3, constantValue := 0 }, { name := "size", type := .int, accessFlags := 2, slot := 4, constantValue := 0 }, { name := "changes", type := .int, accessFlags := 2, slot := 5, constantValue := 0 }, { name := "$assertionsDisabled", type := .boolean, accessFlags := 4120, slot := 0, constantValue := 0 }]
  methods := #[k9m0, k9m1, k9m2, k9m3, k9m4, k9m5, k9m6, k9m7, k9m8, k9m9, k9m10, k9m11, k9m12]
  instanceTypes := #[(.object "com/example/keyedge/keyedge/Chain$Strand"), (.object "java/util/function/Predicate"), (.object "com/example/keyedge/keyedge/Chain$Linked"), (.object "com/example/keyedge/keyedge/Chain$Linked"), .int, .int]
  staticTypes := #[.boolean]
  resolved := Array.replicate 145 none
  statics := none }

def pool10 : Array CpInfo := pool [(1, .class_ 2), (0, u "com/example/keyedge/keyedge/Chain$Strand"), (0, .class_ 4), (0, u "java/lang/Object"), (0, u "previous"), (0, u "(Ljava/lang/Object;)Ljava/lang/Object;"), (2, u "next"), (0, u "setPrevious"), (0, u "(Ljava/lang/Object;Ljava/lang/Object;)V"), (1, u "setNext"), (4, .class_ 19), (0, u "com/example/keyedge/keyedge/Chain")] 2

def k10m0 : Method := { name := "previous", desc := "(Ljava/lang/Object;)Ljava/lang/Object;", sig := { parameters := [(.object "java/lang/Object")], returnType := some (.object "java/lang/Object") }, accessFlags := 1025, code := none }
def k10m1 : Method := { name := "next", desc := "(Ljava/lang/Object;)Ljava/lang/Object;", sig := { parameters := [(.object "java/lang/Object")], returnType := some (.object "java/lang/Object") }, accessFlags := 1025, code := none }
def k10m2 : Method := { name := "setPrevious", desc := "(Ljava/lang/Object;Ljava/lang/Object;)V", sig := { parameters := [(.object "java/lang/Object"), (.object "java/lang/Object")], returnType := none }, accessFlags := 1025, code := none }
def k10m3 : Method := { name := "setNext", desc := "(Ljava/lang/Object;Ljava/lang/Object;)V", sig := { parameters := [(.object "java/lang/Object"), (.object "java/lang/Object")], returnType := none }, accessFlags := 1025, code := none }
/-- com/example/keyedge/keyedge/Chain$Strand -/
def k10 : Class := { plain "com/example/keyedge/keyedge/Chain$Strand" (some 0) with
  accessFlags := 1536
  interfaces := #[]
  cf := some (fileOf pool10 1 #[.nestHost 18] #[{ accessFlags := 1025, nameIndex := 5, descriptorIndex := 6, attributes := #[] }, { accessFlags := 1025, nameIndex := 9, descriptorIndex := 6, attributes := #[] }, { accessFlags := 1025, nameIndex := 10, descriptorIndex := 11, attributes := #[] }, { accessFlags := 1025, nameIndex := 13, descriptorIndex := 11, attributes := #[] }] 1536 3 #[] #[])
  fields := #[]
  methods := #[k10m0, k10m1, k10m2, k10m3]
  instanceTypes := #[]
  staticTypes := #[]
  resolved := Array.replicate 22 none
  statics := none }

def pool11 : Array CpInfo := pool [(1, .methodref 2 3), (0, .class_ 4), (0, .nameAndType 5 6), (0, u "java/lang/Object"), (0, u "<init>"), (0, u "()V"), (0, .fieldref 8 9), (0, .class_ 10), (0, .nameAndType 11 12), (0, u "com/example/keyedge/keyedge/AdjacencyListGraph$ListLink"), (0, u "previousOut"), (0, u "Lcom/example/keyedge/keyedge/AdjacencyListGraph$ListLink;"), (0, .fieldref 8 14), (0, .nameAndType 15 12), (0, u "nextOut"), (0, .methodref 17 18), (0, .class_ 19), (0, .nameAndType 20 21), (0, u "com/example/keyedge/keyedge/AdjacencyListGraph$1"), (0, u "setNext"), (0, u "(Lcom/example/keyedge/keyedge/AdjacencyListGraph$ListLink;Lcom/example/keyedge/keyedge/AdjacencyListGraph$ListLink;)V"), (0, .methodref 17 23), (0, .nameAndType 24 21), (0, u "setPrevious"), (0, .methodref 17 26), (0, .nameAndType 27 28), (0, u "next"), (0, u "(Lcom/example/keyedge/keyedge/AdjacencyListGraph$ListLink;)Lcom/example/keyedge/keyedge/AdjacencyListGraph$ListLink;"), (0, .methodref 17 30), (0, .nameAndType 31 28), (0, u "previous"), (0, .class_ 33), (0, u "com/example/keyedge/keyedge/Chain$Strand"), (0, u "(Lcom/example/keyedge/keyedge/AdjacencyListGraph;)V"), (6, u "(Ljava/lang/Object;Ljava/lang/Object;)V"), (0, u "(Ljava/lang/Object;)Ljava/lang/Object;"), (4, .class_ 48), (0, u "com/example/keyedge/keyedge/AdjacencyListGraph")] 6

def k11c0 : Code := { maxStack := 1, maxLocals := 2, code := prog_5_method_1_code, exceptionTable := #[], attributes := #[] }
def k11m0 : Method := { name := "<init>", desc := "(Lcom/example/keyedge/keyedge/AdjacencyListGraph;)V", sig := { parameters := [(.object "com/example/keyedge/keyedge/AdjacencyListGraph")], returnType := none }, accessFlags := 0, code := some k11c0 }
def k11c1 : Code := { maxStack := 1, maxLocals := 2, code := prog_5_method_2_code, exceptionTable := #[], attributes := #[] }
def k11m1 : Method := { name := "previous", desc := "(Lcom/example/keyedge/keyedge/AdjacencyListGraph$ListLink;)Lcom/example/keyedge/keyedge/AdjacencyListGraph$ListLink;", sig := { parameters := [(.object "com/example/keyedge/keyedge/AdjacencyListGraph$ListLink")], returnType := some (.object "com/example/keyedge/keyedge/AdjacencyListGraph$ListLink") }, accessFlags := 1, code := some k11c1 }
def k11c2 : Code := { maxStack := 1, maxLocals := 2, code := prog_5_method_3_code, exceptionTable := #[], attributes := #[] }
def k11m2 : Method := { name := "next", desc := "(Lcom/example/keyedge/keyedge/AdjacencyListGraph$ListLink;)Lcom/example/keyedge/keyedge/AdjacencyListGraph$ListLink;", sig := { parameters := [(.object "com/example/keyedge/keyedge/AdjacencyListGraph$ListLink")], returnType := some (.object "com/example/keyedge/keyedge/AdjacencyListGraph$ListLink") }, accessFlags := 1, code := some k11c2 }
def k11c3 : Code := { maxStack := 2, maxLocals := 3, code := prog_5_method_4_code, exceptionTable := #[], attributes := #[] }
def k11m3 : Method := { name := "setPrevious", desc := "(Lcom/example/keyedge/keyedge/AdjacencyListGraph$ListLink;Lcom/example/keyedge/keyedge/AdjacencyListGraph$ListLink;)V", sig := { parameters := [(.object "com/example/keyedge/keyedge/AdjacencyListGraph$ListLink"), (.object "com/example/keyedge/keyedge/AdjacencyListGraph$ListLink")], returnType := none }, accessFlags := 1, code := some k11c3 }
def k11c4 : Code := { maxStack := 2, maxLocals := 3, code := prog_5_method_5_code, exceptionTable := #[], attributes := #[] }
def k11m4 : Method := { name := "setNext", desc := "(Lcom/example/keyedge/keyedge/AdjacencyListGraph$ListLink;Lcom/example/keyedge/keyedge/AdjacencyListGraph$ListLink;)V", sig := { parameters := [(.object "com/example/keyedge/keyedge/AdjacencyListGraph$ListLink"), (.object "com/example/keyedge/keyedge/AdjacencyListGraph$ListLink")], returnType := none }, accessFlags := 1, code := some k11c4 }
def k11c5 : Code := { maxStack := 3, maxLocals := 3, code := prog_5_method_6_code, exceptionTable := #[], attributes := #[] }
def k11m5 : Method := { name := "setNext", desc := "(Ljava/lang/Object;Ljava/lang/Object;)V", sig := { parameters := [(.object "java/lang/Object"), (.object "java/lang/Object")], returnType := none }, accessFlags := 4161, code := some k11c5 }
def k11c6 : Code := { maxStack := 3, maxLocals := 3, code := prog_5_method_7_code, exceptionTable := #[], attributes := #[] }
def k11m6 : Method := { name := "setPrevious", desc := "(Ljava/lang/Object;Ljava/lang/Object;)V", sig := { parameters := [(.object "java/lang/Object"), (.object "java/lang/Object")], returnType := none }, accessFlags := 4161, code := some k11c6 }
def k11c7 : Code := { maxStack := 2, maxLocals := 2, code := prog_5_method_8_code, exceptionTable := #[], attributes := #[] }
def k11m7 : Method := { name := "next", desc := "(Ljava/lang/Object;)Ljava/lang/Object;", sig := { parameters := [(.object "java/lang/Object")], returnType := some (.object "java/lang/Object") }, accessFlags := 4161, code := some k11c7 }
def k11c8 : Code := { maxStack := 2, maxLocals := 2, code := prog_5_method_9_code, exceptionTable := #[], attributes := #[] }
def k11m8 : Method := { name := "previous", desc := "(Ljava/lang/Object;)Ljava/lang/Object;", sig := { parameters := [(.object "java/lang/Object")], returnType := some (.object "java/lang/Object") }, accessFlags := 4161, code := some k11c8 }
/-- com/example/keyedge/keyedge/AdjacencyListGraph$1 -/
def k11 : Class := { plain "com/example/keyedge/keyedge/AdjacencyListGraph$1" (some 0) with
  accessFlags := 32
  interfaces := #[10]
  cf := some (fileOf pool11 17 #[.nestHost 47] #[{ accessFlags := 0, nameIndex := 5, descriptorIndex := 34, attributes := #[] }, { accessFlags := 1, nameIndex := 31, descriptorIndex := 28, attributes := #[] }, { accessFlags := 1, nameIndex := 27, descriptorIndex := 28, attributes := #[] }, { accessFlags := 1, nameIndex := 24, descriptorIndex := 21, attributes := #[] }, { accessFlags := 1, nameIndex := 20, descriptorIndex := 21, attributes := #[] }, { accessFlags := 4161, nameIndex := 20, descriptorIndex := 41, attributes := #[] }, { accessFlags := 4161, nameIndex := 24, descriptorIndex := 41, attributes := #[] }, { accessFlags := 4161, nameIndex := 27, descriptorIndex := 42, attributes := #[] }, { accessFlags := 4161, nameIndex := 31, descriptorIndex := 42, attributes := #[] }] 32 2 #[32] #[])
  fields := #[]
  methods := #[k11m0, k11m1, k11m2, k11m3, k11m4, k11m5, k11m6, k11m7, k11m8]
  instanceTypes := #[]
  staticTypes := #[]
  resolved := Array.replicate 55 none
  statics := none }

def pool12 : Array CpInfo := pool [(1, .methodref 2 3), (0, .class_ 4), (0, .nameAndType 5 6), (0, u "java/lang/Object"), (0, u "<init>"), (0, u "()V"), (0, .fieldref 8 9), (0, .class_ 10), (0, .nameAndType 11 12), (0, u "com/example/keyedge/keyedge/AdjacencyListGraph$ListLink"), (0, u "previousIn"), (0, u "Lcom/example/keyedge/keyedge/AdjacencyListGraph$ListLink;"), (0, .fieldref 8 14), (0, .nameAndType 15 12), (0, u "nextIn"), (0, .methodref 17 18), (0, .class_ 19), (0, .nameAndType 20 21), (0, u "com/example/keyedge/keyedge/AdjacencyListGraph$2"), (0, u "setNext"), (0, u "(Lcom/example/keyedge/keyedge/AdjacencyListGraph$ListLink;Lcom/example/keyedge/keyedge/AdjacencyListGraph$ListLink;)V"), (0, .methodref 17 23), (0, .nameAndType 24 21), (0, u "setPrevious"), (0, .methodref 17 26), (0, .nameAndType 27 28), (0, u "next"), (0, u "(Lcom/example/keyedge/keyedge/AdjacencyListGraph$ListLink;)Lcom/example/keyedge/keyedge/AdjacencyListGraph$ListLink;"), (0, .methodref 17 30), (0, .nameAndType 31 28), (0, u "previous"), (0, .class_ 33), (0, u "com/example/keyedge/keyedge/Chain$Strand"), (0, u "(Lcom/example/keyedge/keyedge/AdjacencyListGraph;)V"), (6, u "(Ljava/lang/Object;Ljava/lang/Object;)V"), (0, u "(Ljava/lang/Object;)Ljava/lang/Object;"), (4, .class_ 48), (0, u "com/example/keyedge/keyedge/AdjacencyListGraph")] 6

def k12c0 : Code := { maxStack := 1, maxLocals := 2, code := prog_6_method_1_code, exceptionTable := #[], attributes := #[] }
def k12m0 : Method := { name := "<init>", desc := "(Lcom/example/keyedge/keyedge/AdjacencyListGraph;)V", sig := { parameters := [(.object "com/example/keyedge/keyedge/AdjacencyListGraph")], returnType := none }, accessFlags := 0, code := some k12c0 }
def k12c1 : Code := { maxStack := 1, maxLocals := 2, code := prog_6_method_2_code, exceptionTable := #[], attributes := #[] }
def k12m1 : Method := { name := "previous", desc := "(Lcom/example/keyedge/keyedge/AdjacencyListGraph$ListLink;)Lcom/example/keyedge/keyedge/AdjacencyListGraph$ListLink;", sig := { parameters := [(.object "com/example/keyedge/keyedge/AdjacencyListGraph$ListLink")], returnType := some (.object "com/example/keyedge/keyedge/AdjacencyListGraph$ListLink") }, accessFlags := 1, code := some k12c1 }
def k12c2 : Code := { maxStack := 1, maxLocals := 2, code := prog_6_method_3_code, exceptionTable := #[], attributes := #[] }
def k12m2 : Method := { name := "next", desc := "(Lcom/example/keyedge/keyedge/AdjacencyListGraph$ListLink;)Lcom/example/keyedge/keyedge/AdjacencyListGraph$ListLink;", sig := { parameters := [(.object "com/example/keyedge/keyedge/AdjacencyListGraph$ListLink")], returnType := some (.object "com/example/keyedge/keyedge/AdjacencyListGraph$ListLink") }, accessFlags := 1, code := some k12c2 }
def k12c3 : Code := { maxStack := 2, maxLocals := 3, code := prog_6_method_4_code, exceptionTable := #[], attributes := #[] }
def k12m3 : Method := { name := "setPrevious", desc := "(Lcom/example/keyedge/keyedge/AdjacencyListGraph$ListLink;Lcom/example/keyedge/keyedge/AdjacencyListGraph$ListLink;)V", sig := { parameters := [(.object "com/example/keyedge/keyedge/AdjacencyListGraph$ListLink"), (.object "com/example/keyedge/keyedge/AdjacencyListGraph$ListLink")], returnType := none }, accessFlags := 1, code := some k12c3 }
def k12c4 : Code := { maxStack := 2, maxLocals := 3, code := prog_6_method_5_code, exceptionTable := #[], attributes := #[] }
def k12m4 : Method := { name := "setNext", desc := "(Lcom/example/keyedge/keyedge/AdjacencyListGraph$ListLink;Lcom/example/keyedge/keyedge/AdjacencyListGraph$ListLink;)V", sig := { parameters := [(.object "com/example/keyedge/keyedge/AdjacencyListGraph$ListLink"), (.object "com/example/keyedge/keyedge/AdjacencyListGraph$ListLink")], returnType := none }, accessFlags := 1, code := some k12c4 }
def k12c5 : Code := { maxStack := 3, maxLocals := 3, code := prog_6_method_6_code, exceptionTable := #[], attributes := #[] }
def k12m5 : Method := { name := "setNext", desc := "(Ljava/lang/Object;Ljava/lang/Object;)V", sig := { parameters := [(.object "java/lang/Object"), (.object "java/lang/Object")], returnType := none }, accessFlags := 4161, code := some k12c5 }
def k12c6 : Code := { maxStack := 3, maxLocals := 3, code := prog_6_method_7_code, exceptionTable := #[], attributes := #[] }
def k12m6 : Method := { name := "setPrevious", desc := "(Ljava/lang/Object;Ljava/lang/Object;)V", sig := { parameters := [(.object "java/lang/Object"), (.object "java/lang/Object")], returnType := none }, accessFlags := 4161, code := some k12c6 }
def k12c7 : Code := { maxStack := 2, maxLocals := 2, code := prog_6_method_8_code, exceptionTable := #[], attributes := #[] }
def k12m7 : Method := { name := "next", desc := "(Ljava/lang/Object;)Ljava/lang/Object;", sig := { parameters := [(.object "java/lang/Object")], returnType := some (.object "java/lang/Object") }, accessFlags := 4161, code := some k12c7 }
def k12c8 : Code := { maxStack := 2, maxLocals := 2, code := prog_6_method_9_code, exceptionTable := #[], attributes := #[] }
def k12m8 : Method := { name := "previous", desc := "(Ljava/lang/Object;)Ljava/lang/Object;", sig := { parameters := [(.object "java/lang/Object")], returnType := some (.object "java/lang/Object") }, accessFlags := 4161, code := some k12c8 }
/-- com/example/keyedge/keyedge/AdjacencyListGraph$2 -/
def k12 : Class := { plain "com/example/keyedge/keyedge/AdjacencyListGraph$2" (some 0) with
  accessFlags := 32
  interfaces := #[10]
  cf := some (fileOf pool12 17 #[.nestHost 47] #[{ accessFlags := 0, nameIndex := 5, descriptorIndex := 34, attributes := #[] }, { accessFlags := 1, nameIndex := 31, descriptorIndex := 28, attributes := #[] }, { accessFlags := 1, nameIndex := 27, descriptorIndex := 28, attributes := #[] }, { accessFlags := 1, nameIndex := 24, descriptorIndex := 21, attributes := #[] }, { accessFlags := 1, nameIndex := 20, descriptorIndex := 21, attributes := #[] }, { accessFlags := 4161, nameIndex := 20, descriptorIndex := 41, attributes := #[] }, { accessFlags := 4161, nameIndex := 24, descriptorIndex := 41, attributes := #[] }, { accessFlags := 4161, nameIndex := 27, descriptorIndex := 42, attributes := #[] }, { accessFlags := 4161, nameIndex := 31, descriptorIndex := 42, attributes := #[] }] 32 2 #[32] #[])
  fields := #[]
  methods := #[k12m0, k12m1, k12m2, k12m3, k12m4, k12m5, k12m6, k12m7, k12m8]
  instanceTypes := #[]
  staticTypes := #[]
  resolved := Array.replicate 55 none
  statics := none }

def pool13 : Array CpInfo := pool [(1, .methodref 2 3), (0, .class_ 4), (0, .nameAndType 5 6), (0, u "java/lang/Object"), (0, u "<init>"), (0, u "()V"), (0, .class_ 8), (0, u "com/example/keyedge/keyedge/Chain$Linked"), (0, u "previous"), (0, u "Lcom/example/keyedge/keyedge/Chain$Linked;"), (2, u "next"), (6, .class_ 21), (0, u "com/example/keyedge/keyedge/Chain")] 2

def k13c0 : Code := { maxStack := 1, maxLocals := 1, code := prog_15_method_1_code, exceptionTable := #[], attributes := #[] }
def k13m0 : Method := { name := "<init>", desc := "()V", sig := { parameters := [], returnType := none }, accessFlags := 0, code := some k13c0 }
/-- com/example/keyedge/keyedge/Chain$Linked -/
def k13 : Class := { plain "com/example/keyedge/keyedge/Chain$Linked" (some 0) with
  accessFlags := 1056
  interfaces := #[]
  cf := some (fileOf pool13 7 #[.nestHost 20] #[{ accessFlags := 0, nameIndex := 5, descriptorIndex := 6, attributes := #[] }] 1056 2 #[] #[{ accessFlags := 0, nameIndex := 9, descriptorIndex := 10, attributes := #[] }, { accessFlags := 0, nameIndex := 13, descriptorIndex := 10, attributes := #[] }])
  fields := #[{ name := "previous", type := (.object "com/example/keyedge/keyedge/Chain$Linked"), accessFlags := 0, slot := 0, constantValue := 0 }, { name := "next", type := (.object "com/example/keyedge/keyedge/Chain$Linked"), accessFlags := 0, slot := 1, constantValue := 0 }]
  methods := #[k13m0]
  instanceTypes := #[(.object "com/example/keyedge/keyedge/Chain$Linked"), (.object "com/example/keyedge/keyedge/Chain$Linked")]
  staticTypes := #[]
  resolved := Array.replicate 24 none
  statics := none }

def pool14 : Array CpInfo := pool [(1, .class_ 2), (0, u "com/example/keyedge/keyedge/Vertex"), (0, .class_ 4), (0, u "java/lang/Object")] 7

/-- com/example/keyedge/keyedge/Vertex -/
def k14 : Class := { plain "com/example/keyedge/keyedge/Vertex" (some 0) with
  accessFlags := 1537
  interfaces := #[]
  cf := some (fileOf pool14 1 #[] #[] 1537 3 #[] #[])
  fields := #[]
  methods := #[]
  instanceTypes := #[]
  staticTypes := #[]
  resolved := Array.replicate 12 none
  statics := none }

def pool15 : Array CpInfo := pool [(1, .methodref 2 3), (0, .class_ 4), (0, .nameAndType 5 6), (0, u "com/example/keyedge/keyedge/Chain$Linked"), (0, u "<init>"), (0, u "()V"), (0, .fieldref 8 9), (0, .class_ 10), (0, .nameAndType 11 12), (0, u "com/example/keyedge/keyedge/AbstractGraph$Node"), (0, u "graph"), (0, u "Lcom/example/keyedge/keyedge/AbstractGraph;"), (0, .fieldref 8 14), (0, .nameAndType 15 16), (0, u "label"), (0, u "Ljava/lang/Object;"), (0, .fieldref 8 18), (0, .nameAndType 19 20), (0, u "number"), (0, u "I"), (6, .class_ 28), (0, u "com/example/keyedge/keyedge/Vertex"), (3, u "(Lcom/example/keyedge/keyedge/AbstractGraph;Ljava/lang/Object;I)V"), (16, .class_ 50), (0, u "com/example/keyedge/keyedge/AbstractGraph")] 5

def k15c0 : Code := { maxStack := 2, maxLocals := 4, code := prog_3_method_1_code, exceptionTable := #[], attributes := #[] }
def k15m0 : Method := { name := "<init>", desc := "(Lcom/example/keyedge/keyedge/AbstractGraph;Ljava/lang/Object;I)V", sig := { parameters := [(.object "com/example/keyedge/keyedge/AbstractGraph"), (.object "java/lang/Object"), .int], returnType := none }, accessFlags := 0, code := some k15c0 }
/-- com/example/keyedge/keyedge/AbstractGraph$Node -/
def k15 : Class := { plain "com/example/keyedge/keyedge/AbstractGraph$Node" (some 13) with
  accessFlags := 1056
  interfaces := #[14]
  cf := some (fileOf pool15 8 #[.nestHost 49] #[{ accessFlags := 0, nameIndex := 5, descriptorIndex := 32, attributes := #[] }] 1056 2 #[27] #[{ accessFlags := 16, nameIndex := 11, descriptorIndex := 12, attributes := #[] }, { accessFlags := 16, nameIndex := 15, descriptorIndex := 16, attributes := #[] }, { accessFlags := 16, nameIndex := 19, descriptorIndex := 20, attributes := #[] }])
  fields := #[{ name := "graph", type := (.object "com/example/keyedge/keyedge/AbstractGraph"), accessFlags := 16, slot := 2, constantValue := 0 }, { name := "label", type := (.object "java/lang/Object"), accessFlags := 16, slot := 3, constantValue := 0 }, { name := "number", type := .int, accessFlags := 16, slot := 4, constantValue := 0 }]
  methods := #[k15m0]
  instanceTypes := #[(.object "com/example/keyedge/keyedge/Chain$Linked"), (.object "com/example/keyedge/keyedge/Chain$Linked"), (.object "com/example/keyedge/keyedge/AbstractGraph"), (.object "java/lang/Object"), .int]
  staticTypes := #[]
  resolved := Array.replicate 56 none
  statics := none }

def pool16 : Array CpInfo := pool [(1, .methodref 2 3), (0, .class_ 4), (0, .nameAndType 5 6), (0, u "com/example/keyedge/keyedge/AbstractGraph$Node"), (0, u "<init>"), (0, u "(Lcom/example/keyedge/keyedge/AbstractGraph;Ljava/lang/Object;I)V"), (0, .fieldref 8 9), (0, .class_ 10), (0, .nameAndType 11 12), (0, u "com/example/keyedge/keyedge/AdjacencyListGraph"), (0, u "incoming"), (0, u "Lcom/example/keyedge/keyedge/Chain$Strand;"), (0, .invokeDynamic 0 14), (0, .nameAndType 15 16), (0, u "test"), (0, u "(Lcom/example/keyedge/keyedge/AdjacencyListGraph$ListNode;)Ljava/util/function/Predicate;"), (0, .methodref 18 19), (0, .class_ 20), (0, .nameAndType 21 22), (0, u "com/example/keyedge/keyedge/Chain"), (0, u "of"), (0, u "(Lcom/example/keyedge/keyedge/Chain$Strand;Ljava/util/function/Predicate;)Lcom/example/keyedge/keyedge/Chain;"), (0, .fieldref 24 25), (0, .class_ 26), (0, .nameAndType 27 28), (0, u "com/example/keyedge/keyedge/AdjacencyListGraph$ListNode"), (0, u "in"), (0, u "Lcom/example/keyedge/keyedge/Chain;"), (0, .fieldref 8 30), (0, .nameAndType 31 12), (0, u "outgoing"), (0, .invokeDynamic 1 14), (0, .fieldref 24 34), (0, .nameAndType 35 28), (0, u "out"), (0, .class_ 37), (0, u "com/example/keyedge/keyedge/AdjacencyListGraph$ListLink"), (0, .fieldref 36 39), (0, .nameAndType 40 41), (0, u "source"), (0, u "Lcom/example/keyedge/keyedge/AbstractGraph$Node;"), (0, .fieldref 36 43), (0, .nameAndType 44 41), (0, u "target"), (2, u "(Lcom/example/keyedge/keyedge/AdjacencyListGraph;Ljava/lang/Object;I)V"), (3, u "lambda$new$1"), (0, u "(Ljava/lang/Object;)Z"), (1, u "lambda$new$0"), (5, .methodType 52), (0, .methodHandle 5 62), (0, .methodref 24 63), (0, .nameAndType 54 52), (0, .methodHandle 5 65), (0, .methodref 24 66), (0, .nameAndType 51 52), (0, .methodHandle 6 68), (0, .methodref 69 70), (0, .class_ 71), (0, .nameAndType 72 73), (0, u "java/lang/invoke/LambdaMetafactory"), (0, u "metafactory"), (0, u "(Ljava/lang/invoke/MethodHandles$Lookup;Ljava/lang/String;Ljava/lang/invoke/MethodType;Ljava/lang/invoke/MethodType;Ljava/lang/invoke/MethodHandle;Ljava/lang/invoke/MethodType;)Ljava/lang/invoke/CallSite;")] 14

def k16c0 : Code := { maxStack := 4, maxLocals := 4, code := prog_8_method_1_code, exceptionTable := #[], attributes := #[] }
def k16m0 : Method := { name := "<init>", desc := "(Lcom/example/keyedge/keyedge/AdjacencyListGraph;Ljava/lang/Object;I)V", sig := { parameters := [(.object "com/example/keyedge/keyedge/AdjacencyListGraph"), (.object "java/lang/Object"), .int], returnType := none }, accessFlags := 0, code := some k16c0 }
def k16c1 : Code := { maxStack := 2, maxLocals := 3, code := prog_8_method_2_code, exceptionTable := #[], attributes := #[] }
def k16m1 : Method := { name := "lambda$new$1", desc := "(Ljava/lang/Object;)Z", sig := { parameters := [(.object "java/lang/Object")], returnType := some .boolean }, accessFlags := 4098, code := some k16c1 }
def k16c2 : Code := { maxStack := 2, maxLocals := 3, code := prog_8_method_3_code, exceptionTable := #[], attributes := #[] }
def k16m2 : Method := { name := "lambda$new$0", desc := "(Ljava/lang/Object;)Z", sig := { parameters := [(.object "java/lang/Object")], returnType := some .boolean }, accessFlags := 4098, code := some k16c2 }
/-- com/example/keyedge/keyedge/AdjacencyListGraph$ListNode -/
def k16 : Class := { plain "com/example/keyedge/keyedge/AdjacencyListGraph$ListNode" (some 15) with
  accessFlags := 48
  interfaces := #[]
  cf := some (fileOf pool16 24 #[.nestHost 8, .bootstrapMethods #[⟨67, #[60, 61, 60]⟩, ⟨67, #[60, 64, 60]⟩]] #[{ accessFlags := 0, nameIndex := 5, descriptorIndex := 47, attributes := #[] }, { accessFlags := 4098, nameIndex := 51, descriptorIndex := 52, attributes := #[] }, { accessFlags := 4098, nameIndex := 54, descriptorIndex := 52, attributes := #[] }] 48 2 #[] #[{ accessFlags := 16, nameIndex := 27, descriptorIndex := 28, attributes := #[] }, { accessFlags := 16, nameIndex := 35, descriptorIndex := 28, attributes := #[] }])
  fields := #[{ name := "in", type := (.object "com/example/keyedge/keyedge/Chain"), accessFlags := 16, slot := 5, constantValue := 0 }, { name := "out", type := (.object "com/example/keyedge/keyedge/Chain"), accessFlags := 16, slot := 6, constantValue := 0 }]
  methods := #[k16m0, k16m1, k16m2]
  instanceTypes := #[(.object "com/example/keyedge/keyedge/Chain$Linked"), (.object "com/example/keyedge/keyedge/Chain$Linked"), (.object "com/example/keyedge/keyedge/AbstractGraph"), (.object "java/lang/Object"), .int, (.object "com/example/keyedge/keyedge/Chain"), (.object "com/example/keyedge/keyedge/Chain")]
  staticTypes := #[]
  resolved := Array.replicate 88 none
  callSites := [(0, 13, .makes 28), (0, 30, .makes 29)]
  statics := none }

def pool17 : Array CpInfo := pool [(16, .class_ 18), (1, u "java/util/Iterator"), (0, u "hasNext"), (0, u "()Z"), (2, u "next"), (0, u "()Ljava/lang/Object;"), (6, .class_ 32), (0, u "java/lang/Object")] 20

def k17m0 : Method := { name := "hasNext", desc := "()Z", sig := { parameters := [], returnType := some .boolean }, accessFlags := 1025, code := none }
def k17m1 : Method := { name := "next", desc := "()Ljava/lang/Object;", sig := { parameters := [], returnType := some (.object "java/lang/Object") }, accessFlags := 1025, code := none }
/-- java/util/Iterator -/
def k17 : Class := { plain "java/util/Iterator" (some 0) with
  accessFlags := 1537
  interfaces := #[]
  cf := some (fileOf pool17 16 #[] #[{ accessFlags := 1025, nameIndex := 19, descriptorIndex := 20, attributes := #[] }, { accessFlags := 1025, nameIndex := 23, descriptorIndex := 24, attributes := #[] }] 1537 31 #[] #[])
  fields := #[]
  methods := #[k17m0, k17m1]
  instanceTypes := #[]
  staticTypes := #[]
  resolved := Array.replicate 53 none
  statics := none }

def pool18 : Array CpInfo := pool [(1, .fieldref 2 3), (0, .class_ 4), (0, .nameAndType 5 6), (0, u "com/example/keyedge/keyedge/Chain$1"), (0, u "this$0"), (0, u "Lcom/example/keyedge/keyedge/Chain;"), (0, .methodref 8 9), (0, .class_ 10), (0, .nameAndType 11 12), (0, u "java/lang/Object"), (0, u "<init>"), (0, u "()V"), (0, .fieldref 14 15), (0, .class_ 16), (0, .nameAndType 17 18), (0, u "com/example/keyedge/keyedge/Chain"), (0, u "changes"), (0, u "I"), (0, .fieldref 2 15), (0, .fieldref 14 21), (0, .nameAndType 22 23), (0, u "first"), (0, u "Lcom/example/keyedge/keyedge/Chain$Linked;"), (0, .fieldref 2 25), (0, .nameAndType 26 23), (0, u "next"), (6, .methodref 14 34), (0, .nameAndType 26 35), (0, u "(Lcom/example/keyedge/keyedge/Chain$Linked;)Lcom/example/keyedge/keyedge/Chain$Linked;"), (0, .methodref 2 37), (0, .nameAndType 26 38), (0, u "()Lcom/example/keyedge/keyedge/Chain$Linked;"), (0, .class_ 40), (0, u "java/util/Iterator"), (2, u "(Lcom/example/keyedge/keyedge/Chain;)V"), (3, u "hasNext"), (0, u "()Z"), (4, u "()Ljava/lang/Object;")] 10

def k18c0 : Code := { maxStack := 2, maxLocals := 2, code := prog_14_method_1_code, exceptionTable := #[], attributes := #[] }
def k18m0 : Method := { name := "<init>", desc := "(Lcom/example/keyedge/keyedge/Chain;)V", sig := { parameters := [(.object "com/example/keyedge/keyedge/Chain")], returnType := none }, accessFlags := 0, code := some k18c0 }
def k18c1 : Code := { maxStack := 1, maxLocals := 1, code := prog_14_method_2_code, exceptionTable := #[], attributes := #[] }
def k18m1 : Method := { name := "hasNext", desc := "()Z", sig := { parameters := [], returnType := some .boolean }, accessFlags := 1, code := some k18c1 }
def k18c2 : Code := { maxStack := 3, maxLocals := 2, code := prog_14_method_3_code, exceptionTable := #[], attributes := #[] }
def k18m2 : Method := { name := "next", desc := "()Lcom/example/keyedge/keyedge/Chain$Linked;", sig := { parameters := [], returnType := some (.object "com/example/keyedge/keyedge/Chain$Linked") }, accessFlags := 1, code := some k18c2 }
def k18c3 : Code := { maxStack := 1, maxLocals := 1, code := prog_14_method_4_code, exceptionTable := #[], attributes := #[] }
def k18m3 : Method := { name := "next", desc := "()Ljava/lang/Object;", sig := { parameters := [], returnType := some (.object "java/lang/Object") }, accessFlags := 4161, code := some k18c3 }
/-- com/example/keyedge/keyedge/Chain$1 -/
def k18 : Class := { plain "com/example/keyedge/keyedge/Chain$1" (some 0) with
  accessFlags := 32
  interfaces := #[17]
  cf := some (fileOf pool18 2 #[.nestHost 14] #[{ accessFlags := 0, nameIndex := 11, descriptorIndex := 43, attributes := #[] }, { accessFlags := 1, nameIndex := 47, descriptorIndex := 48, attributes := #[] }, { accessFlags := 1, nameIndex := 26, descriptorIndex := 38, attributes := #[] }, { accessFlags := 4161, nameIndex := 26, descriptorIndex := 53, attributes := #[] }] 32 8 #[39] #[{ accessFlags := 18, nameIndex := 17, descriptorIndex := 18, attributes := #[] }, { accessFlags := 2, nameIndex := 26, descriptorIndex := 23, attributes := #[] }, { accessFlags := 4112, nameIndex := 5, descriptorIndex := 6, attributes := #[] }])
  fields := #[{ name := "changes", type := .int, accessFlags := 18, slot := 0, constantValue := 0 }, { name := "next", type := (.object "com/example/keyedge/keyedge/Chain$Linked"), accessFlags := 2, slot := 1, constantValue := 0 }, { name := "this$0", type := (.object "com/example/keyedge/keyedge/Chain"), accessFlags := 4112, slot := 2, constantValue := 0 }]
  methods := #[k18m0, k18m1, k18m2, k18m3]
  instanceTypes := #[.int, (.object "com/example/keyedge/keyedge/Chain$Linked"), (.object "com/example/keyedge/keyedge/Chain")]
  staticTypes := #[]
  resolved := Array.replicate 64 none
  statics := none }

def pool19 : Array CpInfo := pool [(1, .class_ 2), (0, u "com/example/keyedge/keyedge/Edge"), (0, .class_ 4), (0, u "java/lang/Object")] 7

/-- com/example/keyedge/keyedge/Edge -/
def k19 : Class := { plain "com/example/keyedge/keyedge/Edge" (some 0) with
  accessFlags := 1537
  interfaces := #[]
  cf := some (fileOf pool19 1 #[] #[] 1537 3 #[] #[])
  fields := #[]
  methods := #[]
  instanceTypes := #[]
  staticTypes := #[]
  resolved := Array.replicate 12 none
  statics := none }

def pool20 : Array CpInfo := pool [(1, .methodref 2 3), (0, .class_ 4), (0, .nameAndType 5 6), (0, u "com/example/keyedge/keyedge/Chain$Linked"), (0, u "<init>"), (0, u "()V"), (0, .fieldref 8 9), (0, .class_ 10), (0, .nameAndType 11 12), (0, u "com/example/keyedge/keyedge/AbstractGraph$Link"), (0, u "source"), (0, u "Lcom/example/keyedge/keyedge/AbstractGraph$Node;"), (0, .fieldref 8 14), (0, .nameAndType 15 12), (0, u "target"), (0, .fieldref 8 17), (0, .nameAndType 18 19), (0, u "label"), (0, u "Ljava/lang/Object;"), (10, .class_ 31), (0, u "com/example/keyedge/keyedge/Edge"), (3, u "(Lcom/example/keyedge/keyedge/AbstractGraph$Node;Lcom/example/keyedge/keyedge/AbstractGraph$Node;Ljava/lang/Object;)V"), (11, .class_ 48), (0, u "com/example/keyedge/keyedge/AbstractGraph")] 22

def k20c0 : Code := { maxStack := 2, maxLocals := 4, code := prog_2_method_1_code, exceptionTable := #[], attributes := #[] }
def k20m0 : Method := { name := "<init>", desc := "(Lcom/example/keyedge/keyedge/AbstractGraph$Node;Lcom/example/keyedge/keyedge/AbstractGraph$Node;Ljava/lang/Object;)V", sig := { parameters := [(.object "com/example/keyedge/keyedge/AbstractGraph$Node"), (.object "com/example/keyedge/keyedge/AbstractGraph$Node"), (.object "java/lang/Object")], returnType := none }, accessFlags := 0, code := some k20c0 }
/-- com/example/keyedge/keyedge/AbstractGraph$Link -/
def k20 : Class := { plain "com/example/keyedge/keyedge/AbstractGraph$Link" (some 13) with
  accessFlags := 1056
  interfaces := #[19]
  cf := some (fileOf pool20 8 #[.nestHost 47] #[{ accessFlags := 0, nameIndex := 5, descriptorIndex := 35, attributes := #[] }] 1056 2 #[30] #[{ accessFlags := 16, nameIndex := 11, descriptorIndex := 12, attributes := #[] }, { accessFlags := 16, nameIndex := 15, descriptorIndex := 12, attributes := #[] }, { accessFlags := 16, nameIndex := 18, descriptorIndex := 19, attributes := #[] }])
  fields := #[{ name := "source", type := (.object "com/example/keyedge/keyedge/AbstractGraph$Node"), accessFlags := 16, slot := 2, constantValue := 0 }, { name := "target", type := (.object "com/example/keyedge/keyedge/AbstractGraph$Node"), accessFlags := 16, slot := 3, constantValue := 0 }, { name := "label", type := (.object "java/lang/Object"), accessFlags := 16, slot := 4, constantValue := 0 }]
  methods := #[k20m0]
  instanceTypes := #[(.object "com/example/keyedge/keyedge/Chain$Linked"), (.object "com/example/keyedge/keyedge/Chain$Linked"), (.object "com/example/keyedge/keyedge/AbstractGraph$Node"), (.object "com/example/keyedge/keyedge/AbstractGraph$Node"), (.object "java/lang/Object")]
  staticTypes := #[]
  resolved := Array.replicate 71 none
  statics := none }

def pool21 : Array CpInfo := pool [(1, .methodref 2 3), (0, .class_ 4), (0, .nameAndType 5 6), (0, u "com/example/keyedge/keyedge/AbstractGraph$Link"), (0, u "<init>"), (0, u "(Lcom/example/keyedge/keyedge/AbstractGraph$Node;Lcom/example/keyedge/keyedge/AbstractGraph$Node;Ljava/lang/Object;)V"), (0, .class_ 8), (0, u "com/example/keyedge/keyedge/AdjacencyListGraph$ListLink"), (0, u "previousOut"), (0, u "Lcom/example/keyedge/keyedge/AdjacencyListGraph$ListLink;"), (2, u "nextOut"), (0, u "previousIn"), (0, u "nextIn"), (0, u "(Lcom/example/keyedge/keyedge/AdjacencyListGraph$ListNode;Lcom/example/keyedge/keyedge/AdjacencyListGraph$ListNode;Ljava/lang/Object;)V"), (7, .class_ 25), (0, u "com/example/keyedge/keyedge/AdjacencyListGraph")] 11

def k21c0 : Code := { maxStack := 4, maxLocals := 4, code := prog_7_method_1_code, exceptionTable := #[], attributes := #[] }
def k21m0 : Method := { name := "<init>", desc := "(Lcom/example/keyedge/keyedge/AdjacencyListGraph$ListNode;Lcom/example/keyedge/keyedge/AdjacencyListGraph$ListNode;Ljava/lang/Object;)V", sig := { parameters := [(.object "com/example/keyedge/keyedge/AdjacencyListGraph$ListNode"), (.object "com/example/keyedge/keyedge/AdjacencyListGraph$ListNode"), (.object "java/lang/Object")], returnType := none }, accessFlags := 0, code := some k21c0 }
/-- com/example/keyedge/keyedge/AdjacencyListGraph$ListLink -/
def k21 : Class := { plain "com/example/keyedge/keyedge/AdjacencyListGraph$ListLink" (some 20) with
  accessFlags := 48
  interfaces := #[]
  cf := some (fileOf pool21 7 #[.nestHost 24] #[{ accessFlags := 0, nameIndex := 5, descriptorIndex := 16, attributes := #[] }] 48 2 #[] #[{ accessFlags := 0, nameIndex := 9, descriptorIndex := 10, attributes := #[] }, { accessFlags := 0, nameIndex := 13, descriptorIndex := 10, attributes := #[] }, { accessFlags := 0, nameIndex := 14, descriptorIndex := 10, attributes := #[] }, { accessFlags := 0, nameIndex := 15, descriptorIndex := 10, attributes := #[] }])
  fields := #[{ name := "previousOut", type := (.object "com/example/keyedge/keyedge/AdjacencyListGraph$ListLink"), accessFlags := 0, slot := 5, constantValue := 0 }, { name := "nextOut", type := (.object "com/example/keyedge/keyedge/AdjacencyListGraph$ListLink"), accessFlags := 0, slot := 6, constantValue := 0 }, { name := "previousIn", type := (.object "com/example/keyedge/keyedge/AdjacencyListGraph$ListLink"), accessFlags := 0, slot := 7, constantValue := 0 }, { name := "nextIn", type := (.object "com/example/keyedge/keyedge/AdjacencyListGraph$ListLink"), accessFlags := 0, slot := 8, constantValue := 0 }]
  methods := #[k21m0]
  instanceTypes := #[(.object "com/example/keyedge/keyedge/Chain$Linked"), (.object "com/example/keyedge/keyedge/Chain$Linked"), (.object "com/example/keyedge/keyedge/AbstractGraph$Node"), (.object "com/example/keyedge/keyedge/AbstractGraph$Node"), (.object "java/lang/Object"), (.object "com/example/keyedge/keyedge/AdjacencyListGraph$ListLink"), (.object "com/example/keyedge/keyedge/AdjacencyListGraph$ListLink"), (.object "com/example/keyedge/keyedge/AdjacencyListGraph$ListLink"), (.object "com/example/keyedge/keyedge/AdjacencyListGraph$ListLink")]
  staticTypes := #[]
  resolved := Array.replicate 37 none
  statics := none }

def pool22 : Array CpInfo := pool [(1, u "java/lang/Cloneable"), (0, .class_ 1), (0, u "java/lang/Object"), (0, .class_ 3)] 3

/-- java/lang/Cloneable -/
def k22 : Class := { plain "java/lang/Cloneable" (some 0) with
  accessFlags := 1537
  interfaces := #[]
  cf := some (fileOf pool22 2 #[] #[] 1537 4 #[] #[])
  fields := #[]
  methods := #[]
  instanceTypes := #[]
  staticTypes := #[]
  resolved := Array.replicate 8 none
  statics := none }

def pool23 : Array CpInfo := pool [(1, u "java/io/Serializable"), (0, .class_ 1), (0, u "java/lang/Object"), (0, .class_ 3)] 3

/-- java/io/Serializable -/
def k23 : Class := { plain "java/io/Serializable" (some 0) with
  accessFlags := 1537
  interfaces := #[]
  cf := some (fileOf pool23 2 #[] #[] 1537 4 #[] #[])
  fields := #[]
  methods := #[]
  instanceTypes := #[]
  staticTypes := #[]
  resolved := Array.replicate 8 none
  statics := none }

/-- the primitive byte -/
def k24 : Class := { plain "byte" none with kind := .primitive 'B', accessFlags := 0x411 }
/-- [B -/
def k25 : Class := { plain "[B" (some 0) with kind := .array 24 .byte, interfaces := #[22, 23], accessFlags := 1041 }

def classes0 : Array Class := #[k0, k1, k2, k3, k4, k5, k6, k7, k8, k9, k10, k11, k12, k13, k14, k15, k16, k17, k18, k19, k20, k21, k22, k23, k24, k25]
/-- the class that the rule has made for the site at 6 of com/example/keyedge/keyedge/AbstractGraph.<init> -/
def k26 : Class := Jvm.LamKit.madeRec { classes := classes0 } "com/example/keyedge/keyedge/AbstractGraph" (Jvm.Lambda.Shape.mk "java/util/function/Predicate" "test" (Jvm.ClassFile.MethodDescriptor.mk ([(Jvm.ClassFile.FieldType.object "java/lang/Object")] : List Jvm.ClassFile.FieldType) (Option.some Jvm.ClassFile.FieldType.boolean)) ([(Jvm.ClassFile.FieldType.object "com/example/keyedge/keyedge/AbstractGraph")] : List Jvm.ClassFile.FieldType) (5 : Nat) "com/example/keyedge/keyedge/AbstractGraph" "madeVertex" (Jvm.ClassFile.MethodDescriptor.mk ([(Jvm.ClassFile.FieldType.object "java/lang/Object")] : List Jvm.ClassFile.FieldType) (Option.some Jvm.ClassFile.FieldType.boolean)) false (Jvm.ClassFile.MethodDescriptor.mk ([(Jvm.ClassFile.FieldType.object "java/lang/Object")] : List Jvm.ClassFile.FieldType) (Option.some Jvm.ClassFile.FieldType.boolean))) 26

/-- the class that the rule has made for the site at 19 of com/example/keyedge/keyedge/AbstractGraph.<init> -/
def k27 : Class := Jvm.LamKit.madeRec { classes := classes0 } "com/example/keyedge/keyedge/AbstractGraph" (Jvm.Lambda.Shape.mk "java/util/function/Predicate" "test" (Jvm.ClassFile.MethodDescriptor.mk ([(Jvm.ClassFile.FieldType.object "java/lang/Object")] : List Jvm.ClassFile.FieldType) (Option.some Jvm.ClassFile.FieldType.boolean)) ([(Jvm.ClassFile.FieldType.object "com/example/keyedge/keyedge/AbstractGraph")] : List Jvm.ClassFile.FieldType) (5 : Nat) "com/example/keyedge/keyedge/AbstractGraph" "madeEdge" (Jvm.ClassFile.MethodDescriptor.mk ([(Jvm.ClassFile.FieldType.object "java/lang/Object")] : List Jvm.ClassFile.FieldType) (Option.some Jvm.ClassFile.FieldType.boolean)) false (Jvm.ClassFile.MethodDescriptor.mk ([(Jvm.ClassFile.FieldType.object "java/lang/Object")] : List Jvm.ClassFile.FieldType) (Option.some Jvm.ClassFile.FieldType.boolean))) 27

/-- the class that the rule has made for the site at 13 of com/example/keyedge/keyedge/AdjacencyListGraph$ListNode.<init> -/
def k28 : Class := Jvm.LamKit.madeRec { classes := classes0 } "com/example/keyedge/keyedge/AdjacencyListGraph$ListNode" (Jvm.Lambda.Shape.mk "java/util/function/Predicate" "test" (Jvm.ClassFile.MethodDescriptor.mk ([(Jvm.ClassFile.FieldType.object "java/lang/Object")] : List Jvm.ClassFile.FieldType) (Option.some Jvm.ClassFile.FieldType.boolean)) ([(Jvm.ClassFile.FieldType.object "com/example/keyedge/keyedge/AdjacencyListGraph$ListNode")] : List Jvm.ClassFile.FieldType) (5 : Nat) "com/example/keyedge/keyedge/AdjacencyListGraph$ListNode" "lambda$new$0" (Jvm.ClassFile.MethodDescriptor.mk ([(Jvm.ClassFile.FieldType.object "java/lang/Object")] : List Jvm.ClassFile.FieldType) (Option.some Jvm.ClassFile.FieldType.boolean)) false (Jvm.ClassFile.MethodDescriptor.mk ([(Jvm.ClassFile.FieldType.object "java/lang/Object")] : List Jvm.ClassFile.FieldType) (Option.some Jvm.ClassFile.FieldType.boolean))) 28

/-- the class that the rule has made for the site at 30 of com/example/keyedge/keyedge/AdjacencyListGraph$ListNode.<init> -/
def k29 : Class := Jvm.LamKit.madeRec { classes := classes0 } "com/example/keyedge/keyedge/AdjacencyListGraph$ListNode" (Jvm.Lambda.Shape.mk "java/util/function/Predicate" "test" (Jvm.ClassFile.MethodDescriptor.mk ([(Jvm.ClassFile.FieldType.object "java/lang/Object")] : List Jvm.ClassFile.FieldType) (Option.some Jvm.ClassFile.FieldType.boolean)) ([(Jvm.ClassFile.FieldType.object "com/example/keyedge/keyedge/AdjacencyListGraph$ListNode")] : List Jvm.ClassFile.FieldType) (5 : Nat) "com/example/keyedge/keyedge/AdjacencyListGraph$ListNode" "lambda$new$1" (Jvm.ClassFile.MethodDescriptor.mk ([(Jvm.ClassFile.FieldType.object "java/lang/Object")] : List Jvm.ClassFile.FieldType) (Option.some Jvm.ClassFile.FieldType.boolean)) false (Jvm.ClassFile.MethodDescriptor.mk ([(Jvm.ClassFile.FieldType.object "java/lang/Object")] : List Jvm.ClassFile.FieldType) (Option.some Jvm.ClassFile.FieldType.boolean))) 29

def heap : Heap := #[]
def classes : Array Class := #[k0, k1, k2, k3, k4, k5, k6, k7, k8, k9, k10, k11, k12, k13, k14, k15, k16, k17, k18, k19, k20, k21, k22, k23, k24, k25, k26, k27, k28, k29]
def interned : List (Array UInt16 × Addr) := []
def slotsUsed : Nat := 0
def theMethod : MethodId := ⟨1, 1⟩
def args0 : Array Value := #[.int 5]
def aboutOver (below : List Frame) : State where
  vm := { classes := classes, interned := interned.toArray }
  heap := heap
  slotsUsed := slotsUsed
  threads := #[{ frames := .invoking theMethod args0 :: below }]
def below0 : List Frame := [.native { method := ⟨0, 0⟩, args := #[] }]
def about1 : State := aboutOver below0
def p0 : Program := .bare "" "" ""
def e0 : Env := launch0.env 0 0 0
theorem w_frames : about1.frames = Frame.invoking theMethod args0 :: below0 := rfl
set_option maxRecDepth 65536 in
theorem w_args : argsFit about1.vm theMethod args0 = true := by decide +kernel
set_option maxRecDepth 65536 in
theorem w_heap : heapFits about1 = true := by decide +kernel
set_option maxRecDepth 65536 in
theorem w_runnable : about1.curStatus? = some .runnable := by decide +kernel
set_option maxRecDepth 65536 in
theorem w_alone : about1.alone = true := by decide +kernel
set_option maxRecDepth 65536 in
theorem w_named : about1.methodNamed? x = some theMethod := by decide +kernel
set_option maxRecDepth 65536 in
theorem w_hears : about1.hears theMethod below0 = true := by decide +kernel
set_option maxRecDepth 65536 in
theorem w_ripe : about1.ripe theMethod args0 below0 = true := by decide +kernel
theorem w_running : about1.status = .running := rfl
set_option maxRecDepth 65536 in
theorem w_room : about1.hasRoom e0.platform room_1 = true :=
  launch0.hasRoom_least _ room_1 (by decide +kernel) (by decide +kernel) (by decide +kernel) (by decide +kernel) (by decide +kernel) (by decide +kernel)
theorem allAtoms_all (ts : List Jvm.Cond) (a : Array Jvm.Value) (st : Jvm.State) : (allAtoms ts).before a st = ts.all (fun c => c.before a st) := by
  induction ts with
  | nil => rfl
  | cons c t ih =>
    show (Jvm.Cond.and c (allAtoms t)).before a st = _
    rw [Jvm.Cond.before_and, ih, List.all_cons]
def words1 : List Jvm.Cond := Jvm.Cond.code x code maxLocals ret :: tables_1
/-- a 'code' word, met by the world's own term for the bytes: nothing is compared byte by byte -/
theorem code_word {y : MethodName} {bytes : ByteArray} {mx : Nat} {rt : Option FieldType} {a : Array Value} {s : State} {m : MethodId} {meth : Method} {c : Code} (h1 : s.methodNamed? y = some m) (h2 : s.vm.method? m = some meth) (h3 : meth.code = some c) (h4 : c.code = bytes)
    (h5 : (c.maxLocals == mx && c.exceptionTable.isEmpty && decide (c.maxStack ≤ mostOperands) && decide (meth.sig.returnType = rt) && !meth.locks && decide (parseMethodDescriptor y.desc = some meth.sig)) = true) : (Jvm.Cond.code y bytes mx rt).before a s = true := by
  simp only [Bool.and_eq_true, beq_iff_eq, Bool.not_eq_true', decide_eq_true_eq] at h5
  obtain ⟨⟨⟨⟨⟨g1, g2⟩, g3⟩, g4⟩, g5⟩, g6⟩ := h5
  simp [Cond.before, Cond.holds, Cond.value, h1, h2, h3, h4, g1, g2, g3, g4, g5, g6]
def isCode : Jvm.Cond → Bool
  | .code _ _ _ _ => true
  | _ => false
theorem all_split {L : List Jvm.Cond} {P : Jvm.Cond → Bool} (h1 : L.all (fun c => isCode c || P c) = true) (h2 : ∀ c ∈ L.filter isCode, P c = true) : L.all P = true := by
  refine List.all_eq_true.mpr fun c hc => ?_
  have h := List.all_eq_true.mp h1 c hc
  rcases Bool.eq_false_or_eq_true (isCode c) with hi | hi
  · exact h2 c (List.mem_filter.mpr ⟨hc, hi⟩)
  · simpa [hi] using h
set_option maxRecDepth 65536 in
theorem w_c0 : (Jvm.Cond.code x code maxLocals ret).before args0 about1 = true := code_word (m := ⟨1, 1⟩) (meth := k1m1) (c := k1c1) (by decide +kernel) rfl rfl rfl (by decide +kernel)
set_option maxRecDepth 65536 in
theorem w_c1 : (Jvm.Cond.code ({ cls := "com/example/keyedge/keyedge/AdjacencyListGraph", name := "<init>", desc := "()V" } : Jvm.MethodName) prog_4_method_1_code (1 : Nat) (Option.none : Option Jvm.ClassFile.FieldType)).before args0 about1 = true := code_word (m := ⟨4, 0⟩) (meth := k4m0) (c := k4c0) (by decide +kernel) rfl rfl rfl (by decide +kernel)
set_option maxRecDepth 65536 in
theorem w_c2 : (Jvm.Cond.code ({ cls := "com/example/keyedge/keyedge/AbstractGraph", name := "<init>", desc := "()V" } : Jvm.MethodName) prog_1_method_1_code (1 : Nat) (Option.none : Option Jvm.ClassFile.FieldType)).before args0 about1 = true := code_word (m := ⟨3, 0⟩) (meth := k3m0) (c := k3c0) (by decide +kernel) rfl rfl rfl (by decide +kernel)
set_option maxRecDepth 65536 in
theorem w_c3 : (Jvm.Cond.code ({ cls := "java/lang/Object", name := "<init>", desc := "()V" } : Jvm.MethodName) object_method_1_code (1 : Nat) (Option.none : Option Jvm.ClassFile.FieldType)).before args0 about1 = true := code_word (m := ⟨0, 0⟩) (meth := k0m0) (c := k0c0) (by decide +kernel) rfl rfl rfl (by decide +kernel)
set_option maxRecDepth 65536 in
theorem w_c4 : (Jvm.Cond.code ({ cls := "com/example/keyedge/keyedge/Chain", name := "of", desc := "(Ljava/util/function/Predicate;)Lcom/example/keyedge/keyedge/Chain;" } : Jvm.MethodName) prog_13_method_2_code (1 : Nat) (Option.some (Jvm.ClassFile.FieldType.object "com/example/keyedge/keyedge/Chain"))).before args0 about1 = true := code_word (m := ⟨9, 1⟩) (meth := k9m1) (c := k9c1) (by decide +kernel) rfl rfl rfl (by decide +kernel)
set_option maxRecDepth 65536 in
theorem w_c5 : (Jvm.Cond.code ({ cls := "com/example/keyedge/keyedge/Chain", name := "<init>", desc := "(Lcom/example/keyedge/keyedge/Chain$Strand;Ljava/util/function/Predicate;)V" } : Jvm.MethodName) prog_13_method_1_code (3 : Nat) (Option.none : Option Jvm.ClassFile.FieldType)).before args0 about1 = true := code_word (m := ⟨9, 0⟩) (meth := k9m0) (c := k9c0) (by decide +kernel) rfl rfl rfl (by decide +kernel)
set_option maxRecDepth 65536 in
theorem w_c6 : (Jvm.Cond.code ({ cls := "java/util/AbstractCollection", name := "<init>", desc := "()V" } : Jvm.MethodName) jdk_22_method_1_code (1 : Nat) (Option.none : Option Jvm.ClassFile.FieldType)).before args0 about1 = true := code_word (m := ⟨8, 0⟩) (meth := k8m0) (c := k8c0) (by decide +kernel) rfl rfl rfl (by decide +kernel)
set_option maxRecDepth 65536 in
theorem w_c7 : (Jvm.Cond.code ({ cls := "com/example/keyedge/keyedge/AdjacencyListGraph$1", name := "<init>", desc := "(Lcom/example/keyedge/keyedge/AdjacencyListGraph;)V" } : Jvm.MethodName) prog_5_method_1_code (2 : Nat) (Option.none : Option Jvm.ClassFile.FieldType)).before args0 about1 = true := code_word (m := ⟨11, 0⟩) (meth := k11m0) (c := k11c0) (by decide +kernel) rfl rfl rfl (by decide +kernel)
set_option maxRecDepth 65536 in
theorem w_c8 : (Jvm.Cond.code ({ cls := "com/example/keyedge/keyedge/AdjacencyListGraph$2", name := "<init>", desc := "(Lcom/example/keyedge/keyedge/AdjacencyListGraph;)V" } : Jvm.MethodName) prog_6_method_1_code (2 : Nat) (Option.none : Option Jvm.ClassFile.FieldType)).before args0 about1 = true := code_word (m := ⟨12, 0⟩) (meth := k12m0) (c := k12c0) (by decide +kernel) rfl rfl rfl (by decide +kernel)
set_option maxRecDepth 65536 in
theorem w_c9 : (Jvm.Cond.code ({ cls := "com/example/keyedge/keyedge/AdjacencyListGraph", name := "newNode", desc := "(Ljava/lang/Object;I)Lcom/example/keyedge/keyedge/AdjacencyListGraph$ListNode;" } : Jvm.MethodName) prog_4_method_2_code (3 : Nat) (Option.some (Jvm.ClassFile.FieldType.object "com/example/keyedge/keyedge/AdjacencyListGraph$ListNode"))).before args0 about1 = true := code_word (m := ⟨4, 1⟩) (meth := k4m1) (c := k4c1) (by decide +kernel) rfl rfl rfl (by decide +kernel)
set_option maxRecDepth 65536 in
theorem w_c10 : (Jvm.Cond.code ({ cls := "com/example/keyedge/keyedge/AdjacencyListGraph$ListNode", name := "<init>", desc := "(Lcom/example/keyedge/keyedge/AdjacencyListGraph;Ljava/lang/Object;I)V" } : Jvm.MethodName) prog_8_method_1_code (4 : Nat) (Option.none : Option Jvm.ClassFile.FieldType)).before args0 about1 = true := code_word (m := ⟨16, 0⟩) (meth := k16m0) (c := k16c0) (by decide +kernel) rfl rfl rfl (by decide +kernel)
set_option maxRecDepth 65536 in
theorem w_c11 : (Jvm.Cond.code ({ cls := "com/example/keyedge/keyedge/AbstractGraph$Node", name := "<init>", desc := "(Lcom/example/keyedge/keyedge/AbstractGraph;Ljava/lang/Object;I)V" } : Jvm.MethodName) prog_3_method_1_code (4 : Nat) (Option.none : Option Jvm.ClassFile.FieldType)).before args0 about1 = true := code_word (m := ⟨15, 0⟩) (meth := k15m0) (c := k15c0) (by decide +kernel) rfl rfl rfl (by decide +kernel)
set_option maxRecDepth 65536 in
theorem w_c12 : (Jvm.Cond.code ({ cls := "com/example/keyedge/keyedge/Chain$Linked", name := "<init>", desc := "()V" } : Jvm.MethodName) prog_15_method_1_code (1 : Nat) (Option.none : Option Jvm.ClassFile.FieldType)).before args0 about1 = true := code_word (m := ⟨13, 0⟩) (meth := k13m0) (c := k13c0) (by decide +kernel) rfl rfl rfl (by decide +kernel)
set_option maxRecDepth 65536 in
theorem w_c13 : (Jvm.Cond.code ({ cls := "com/example/keyedge/keyedge/Chain", name := "of", desc := "(Lcom/example/keyedge/keyedge/Chain$Strand;Ljava/util/function/Predicate;)Lcom/example/keyedge/keyedge/Chain;" } : Jvm.MethodName) prog_13_method_3_code (2 : Nat) (Option.some (Jvm.ClassFile.FieldType.object "com/example/keyedge/keyedge/Chain"))).before args0 about1 = true := code_word (m := ⟨9, 2⟩) (meth := k9m2) (c := k9c2) (by decide +kernel) rfl rfl rfl (by decide +kernel)
set_option maxRecDepth 65536 in
theorem w_c14 : (Jvm.Cond.code ({ cls := "com/example/keyedge/keyedge/AdjacencyListGraph", name := "attach", desc := "(Lcom/example/keyedge/keyedge/AdjacencyListGraph$ListNode;Lcom/example/keyedge/keyedge/AdjacencyListGraph$ListNode;Ljava/lang/Object;)Lcom/example/keyedge/keyedge/AdjacencyListGraph$ListLink;" } : Jvm.MethodName) prog_4_method_6_code (5 : Nat) (Option.some (Jvm.ClassFile.FieldType.object "com/example/keyedge/keyedge/AdjacencyListGraph$ListLink"))).before args0 about1 = true := code_word (m := ⟨4, 3⟩) (meth := k4m3) (c := k4c3) (by decide +kernel) rfl rfl rfl (by decide +kernel)
set_option maxRecDepth 65536 in
theorem w_c15 : (Jvm.Cond.code ({ cls := "com/example/keyedge/keyedge/AdjacencyListGraph", name := "edge", desc := "(Lcom/example/keyedge/keyedge/AdjacencyListGraph$ListNode;Lcom/example/keyedge/keyedge/AdjacencyListGraph$ListNode;)Lcom/example/keyedge/keyedge/AdjacencyListGraph$ListLink;" } : Jvm.MethodName) prog_4_method_5_code (5 : Nat) (Option.some (Jvm.ClassFile.FieldType.object "com/example/keyedge/keyedge/AdjacencyListGraph$ListLink"))).before args0 about1 = true := code_word (m := ⟨4, 2⟩) (meth := k4m2) (c := k4c2) (by decide +kernel) rfl rfl rfl (by decide +kernel)
set_option maxRecDepth 65536 in
theorem w_c16 : (Jvm.Cond.code ({ cls := "com/example/keyedge/keyedge/Chain", name := "size", desc := "()I" } : Jvm.MethodName) prog_13_method_8_code (1 : Nat) (Option.some Jvm.ClassFile.FieldType.int)).before args0 about1 = true := code_word (m := ⟨9, 6⟩) (meth := k9m6) (c := k9c6) (by decide +kernel) rfl rfl rfl (by decide +kernel)
set_option maxRecDepth 65536 in
theorem w_c17 : (Jvm.Cond.code ({ cls := "com/example/keyedge/keyedge/Chain", name := "iterator", desc := "()Ljava/util/Iterator;" } : Jvm.MethodName) prog_13_method_10_code (1 : Nat) (Option.some (Jvm.ClassFile.FieldType.object "java/util/Iterator"))).before args0 about1 = true := code_word (m := ⟨9, 8⟩) (meth := k9m8) (c := k9c8) (by decide +kernel) rfl rfl rfl (by decide +kernel)
set_option maxRecDepth 65536 in
theorem w_c18 : (Jvm.Cond.code ({ cls := "com/example/keyedge/keyedge/Chain$1", name := "<init>", desc := "(Lcom/example/keyedge/keyedge/Chain;)V" } : Jvm.MethodName) prog_14_method_1_code (2 : Nat) (Option.none : Option Jvm.ClassFile.FieldType)).before args0 about1 = true := code_word (m := ⟨18, 0⟩) (meth := k18m0) (c := k18c0) (by decide +kernel) rfl rfl rfl (by decide +kernel)
set_option maxRecDepth 65536 in
theorem w_c19 : (Jvm.Cond.code ({ cls := "com/example/keyedge/keyedge/Chain$1", name := "hasNext", desc := "()Z" } : Jvm.MethodName) prog_14_method_2_code (1 : Nat) (Option.some Jvm.ClassFile.FieldType.boolean)).before args0 about1 = true := code_word (m := ⟨18, 1⟩) (meth := k18m1) (c := k18c1) (by decide +kernel) rfl rfl rfl (by decide +kernel)
set_option maxRecDepth 65536 in
theorem w_c20 : (Jvm.Cond.code ({ cls := "com/example/keyedge/keyedge/AdjacencyListGraph$ListLink", name := "<init>", desc := "(Lcom/example/keyedge/keyedge/AdjacencyListGraph$ListNode;Lcom/example/keyedge/keyedge/AdjacencyListGraph$ListNode;Ljava/lang/Object;)V" } : Jvm.MethodName) prog_7_method_1_code (4 : Nat) (Option.none : Option Jvm.ClassFile.FieldType)).before args0 about1 = true := code_word (m := ⟨21, 0⟩) (meth := k21m0) (c := k21c0) (by decide +kernel) rfl rfl rfl (by decide +kernel)
set_option maxRecDepth 65536 in
theorem w_c21 : (Jvm.Cond.code ({ cls := "com/example/keyedge/keyedge/AbstractGraph$Link", name := "<init>", desc := "(Lcom/example/keyedge/keyedge/AbstractGraph$Node;Lcom/example/keyedge/keyedge/AbstractGraph$Node;Ljava/lang/Object;)V" } : Jvm.MethodName) prog_2_method_1_code (4 : Nat) (Option.none : Option Jvm.ClassFile.FieldType)).before args0 about1 = true := code_word (m := ⟨20, 0⟩) (meth := k20m0) (c := k20c0) (by decide +kernel) rfl rfl rfl (by decide +kernel)
set_option maxRecDepth 65536 in
theorem w_c22 : (Jvm.Cond.code ({ cls := "com/example/keyedge/keyedge/Chain", name := "append", desc := "(Lcom/example/keyedge/keyedge/Chain$Linked;)V" } : Jvm.MethodName) prog_13_method_4_code (2 : Nat) (Option.none : Option Jvm.ClassFile.FieldType)).before args0 about1 = true := code_word (m := ⟨9, 3⟩) (meth := k9m3) (c := k9c3) (by decide +kernel) rfl rfl rfl (by decide +kernel)
set_option maxRecDepth 65536 in
theorem w_c23 : (Jvm.Cond.code ({ cls := "com/example/keyedge/keyedge/Chain", name := "setPrevious", desc := "(Lcom/example/keyedge/keyedge/Chain$Linked;Lcom/example/keyedge/keyedge/Chain$Linked;)V" } : Jvm.MethodName) prog_13_method_14_code (3 : Nat) (Option.none : Option Jvm.ClassFile.FieldType)).before args0 about1 = true := code_word (m := ⟨9, 11⟩) (meth := k9m11) (c := k9c11) (by decide +kernel) rfl rfl rfl (by decide +kernel)
set_option maxRecDepth 65536 in
theorem w_c24 : (Jvm.Cond.code ({ cls := "com/example/keyedge/keyedge/AdjacencyListGraph$1", name := "setPrevious", desc := "(Ljava/lang/Object;Ljava/lang/Object;)V" } : Jvm.MethodName) prog_5_method_7_code (3 : Nat) (Option.none : Option Jvm.ClassFile.FieldType)).before args0 about1 = true := code_word (m := ⟨11, 6⟩) (meth := k11m6) (c := k11c6) (by decide +kernel) rfl rfl rfl (by decide +kernel)
set_option maxRecDepth 65536 in
theorem w_c25 : (Jvm.Cond.code ({ cls := "com/example/keyedge/keyedge/AdjacencyListGraph$1", name := "setPrevious", desc := "(Lcom/example/keyedge/keyedge/AdjacencyListGraph$ListLink;Lcom/example/keyedge/keyedge/AdjacencyListGraph$ListLink;)V" } : Jvm.MethodName) prog_5_method_4_code (3 : Nat) (Option.none : Option Jvm.ClassFile.FieldType)).before args0 about1 = true := code_word (m := ⟨11, 3⟩) (meth := k11m3) (c := k11c3) (by decide +kernel) rfl rfl rfl (by decide +kernel)
set_option maxRecDepth 65536 in
theorem w_c26 : (Jvm.Cond.code ({ cls := "com/example/keyedge/keyedge/AdjacencyListGraph$2", name := "setPrevious", desc := "(Ljava/lang/Object;Ljava/lang/Object;)V" } : Jvm.MethodName) prog_6_method_7_code (3 : Nat) (Option.none : Option Jvm.ClassFile.FieldType)).before args0 about1 = true := code_word (m := ⟨12, 6⟩) (meth := k12m6) (c := k12c6) (by decide +kernel) rfl rfl rfl (by decide +kernel)
set_option maxRecDepth 65536 in
theorem w_c27 : (Jvm.Cond.code ({ cls := "com/example/keyedge/keyedge/AdjacencyListGraph$2", name := "setPrevious", desc := "(Lcom/example/keyedge/keyedge/AdjacencyListGraph$ListLink;Lcom/example/keyedge/keyedge/AdjacencyListGraph$ListLink;)V" } : Jvm.MethodName) prog_6_method_4_code (3 : Nat) (Option.none : Option Jvm.ClassFile.FieldType)).before args0 about1 = true := code_word (m := ⟨12, 3⟩) (meth := k12m3) (c := k12c3) (by decide +kernel) rfl rfl rfl (by decide +kernel)
set_option maxRecDepth 65536 in
theorem w_c28 : (Jvm.Cond.code ({ cls := "com/example/keyedge/keyedge/AdjacencyListGraph", name := "detach", desc := "(Lcom/example/keyedge/keyedge/AdjacencyListGraph$ListLink;)V" } : Jvm.MethodName) prog_4_method_7_code (2 : Nat) (Option.none : Option Jvm.ClassFile.FieldType)).before args0 about1 = true := code_word (m := ⟨4, 4⟩) (meth := k4m4) (c := k4c4) (by decide +kernel) rfl rfl rfl (by decide +kernel)
set_option maxRecDepth 65536 in
theorem w_c29 : (Jvm.Cond.code ({ cls := "com/example/keyedge/keyedge/Chain", name := "unlink", desc := "(Lcom/example/keyedge/keyedge/Chain$Linked;)V" } : Jvm.MethodName) prog_13_method_5_code (4 : Nat) (Option.none : Option Jvm.ClassFile.FieldType)).before args0 about1 = true := code_word (m := ⟨9, 4⟩) (meth := k9m4) (c := k9c4) (by decide +kernel) rfl rfl rfl (by decide +kernel)
set_option maxRecDepth 65536 in
theorem w_c30 : (Jvm.Cond.code ({ cls := "com/example/keyedge/keyedge/Chain", name := "previous", desc := "(Lcom/example/keyedge/keyedge/Chain$Linked;)Lcom/example/keyedge/keyedge/Chain$Linked;" } : Jvm.MethodName) prog_13_method_12_code (2 : Nat) (Option.some (Jvm.ClassFile.FieldType.object "com/example/keyedge/keyedge/Chain$Linked"))).before args0 about1 = true := code_word (m := ⟨9, 9⟩) (meth := k9m9) (c := k9c9) (by decide +kernel) rfl rfl rfl (by decide +kernel)
set_option maxRecDepth 65536 in
theorem w_c31 : (Jvm.Cond.code ({ cls := "com/example/keyedge/keyedge/AdjacencyListGraph$1", name := "previous", desc := "(Ljava/lang/Object;)Ljava/lang/Object;" } : Jvm.MethodName) prog_5_method_9_code (2 : Nat) (Option.some (Jvm.ClassFile.FieldType.object "java/lang/Object"))).before args0 about1 = true := code_word (m := ⟨11, 8⟩) (meth := k11m8) (c := k11c8) (by decide +kernel) rfl rfl rfl (by decide +kernel)
set_option maxRecDepth 65536 in
theorem w_c32 : (Jvm.Cond.code ({ cls := "com/example/keyedge/keyedge/AdjacencyListGraph$1", name := "previous", desc := "(Lcom/example/keyedge/keyedge/AdjacencyListGraph$ListLink;)Lcom/example/keyedge/keyedge/AdjacencyListGraph$ListLink;" } : Jvm.MethodName) prog_5_method_2_code (2 : Nat) (Option.some (Jvm.ClassFile.FieldType.object "com/example/keyedge/keyedge/AdjacencyListGraph$ListLink"))).before args0 about1 = true := code_word (m := ⟨11, 1⟩) (meth := k11m1) (c := k11c1) (by decide +kernel) rfl rfl rfl (by decide +kernel)
set_option maxRecDepth 65536 in
theorem w_c33 : (Jvm.Cond.code ({ cls := "com/example/keyedge/keyedge/Chain", name := "next", desc := "(Lcom/example/keyedge/keyedge/Chain$Linked;)Lcom/example/keyedge/keyedge/Chain$Linked;" } : Jvm.MethodName) prog_13_method_13_code (2 : Nat) (Option.some (Jvm.ClassFile.FieldType.object "com/example/keyedge/keyedge/Chain$Linked"))).before args0 about1 = true := code_word (m := ⟨9, 10⟩) (meth := k9m10) (c := k9c10) (by decide +kernel) rfl rfl rfl (by decide +kernel)
set_option maxRecDepth 65536 in
theorem w_c34 : (Jvm.Cond.code ({ cls := "com/example/keyedge/keyedge/AdjacencyListGraph$1", name := "next", desc := "(Ljava/lang/Object;)Ljava/lang/Object;" } : Jvm.MethodName) prog_5_method_8_code (2 : Nat) (Option.some (Jvm.ClassFile.FieldType.object "java/lang/Object"))).before args0 about1 = true := code_word (m := ⟨11, 7⟩) (meth := k11m7) (c := k11c7) (by decide +kernel) rfl rfl rfl (by decide +kernel)
set_option maxRecDepth 65536 in
theorem w_c35 : (Jvm.Cond.code ({ cls := "com/example/keyedge/keyedge/AdjacencyListGraph$1", name := "next", desc := "(Lcom/example/keyedge/keyedge/AdjacencyListGraph$ListLink;)Lcom/example/keyedge/keyedge/AdjacencyListGraph$ListLink;" } : Jvm.MethodName) prog_5_method_3_code (2 : Nat) (Option.some (Jvm.ClassFile.FieldType.object "com/example/keyedge/keyedge/AdjacencyListGraph$ListLink"))).before args0 about1 = true := code_word (m := ⟨11, 2⟩) (meth := k11m2) (c := k11c2) (by decide +kernel) rfl rfl rfl (by decide +kernel)
set_option maxRecDepth 65536 in
theorem w_c36 : (Jvm.Cond.code ({ cls := "com/example/keyedge/keyedge/Chain", name := "setNext", desc := "(Lcom/example/keyedge/keyedge/Chain$Linked;Lcom/example/keyedge/keyedge/Chain$Linked;)V" } : Jvm.MethodName) prog_13_method_15_code (3 : Nat) (Option.none : Option Jvm.ClassFile.FieldType)).before args0 about1 = true := code_word (m := ⟨9, 12⟩) (meth := k9m12) (c := k9c12) (by decide +kernel) rfl rfl rfl (by decide +kernel)
set_option maxRecDepth 65536 in
theorem w_c37 : (Jvm.Cond.code ({ cls := "com/example/keyedge/keyedge/AdjacencyListGraph$1", name := "setNext", desc := "(Ljava/lang/Object;Ljava/lang/Object;)V" } : Jvm.MethodName) prog_5_method_6_code (3 : Nat) (Option.none : Option Jvm.ClassFile.FieldType)).before args0 about1 = true := code_word (m := ⟨11, 5⟩) (meth := k11m5) (c := k11c5) (by decide +kernel) rfl rfl rfl (by decide +kernel)
set_option maxRecDepth 65536 in
theorem w_c38 : (Jvm.Cond.code ({ cls := "com/example/keyedge/keyedge/AdjacencyListGraph$1", name := "setNext", desc := "(Lcom/example/keyedge/keyedge/AdjacencyListGraph$ListLink;Lcom/example/keyedge/keyedge/AdjacencyListGraph$ListLink;)V" } : Jvm.MethodName) prog_5_method_5_code (3 : Nat) (Option.none : Option Jvm.ClassFile.FieldType)).before args0 about1 = true := code_word (m := ⟨11, 4⟩) (meth := k11m4) (c := k11c4) (by decide +kernel) rfl rfl rfl (by decide +kernel)
set_option maxRecDepth 65536 in
theorem w_c39 : (Jvm.Cond.code ({ cls := "com/example/keyedge/keyedge/AdjacencyListGraph$2", name := "previous", desc := "(Ljava/lang/Object;)Ljava/lang/Object;" } : Jvm.MethodName) prog_6_method_9_code (2 : Nat) (Option.some (Jvm.ClassFile.FieldType.object "java/lang/Object"))).before args0 about1 = true := code_word (m := ⟨12, 8⟩) (meth := k12m8) (c := k12c8) (by decide +kernel) rfl rfl rfl (by decide +kernel)
set_option maxRecDepth 65536 in
theorem w_c40 : (Jvm.Cond.code ({ cls := "com/example/keyedge/keyedge/AdjacencyListGraph$2", name := "previous", desc := "(Lcom/example/keyedge/keyedge/AdjacencyListGraph$ListLink;)Lcom/example/keyedge/keyedge/AdjacencyListGraph$ListLink;" } : Jvm.MethodName) prog_6_method_2_code (2 : Nat) (Option.some (Jvm.ClassFile.FieldType.object "com/example/keyedge/keyedge/AdjacencyListGraph$ListLink"))).before args0 about1 = true := code_word (m := ⟨12, 1⟩) (meth := k12m1) (c := k12c1) (by decide +kernel) rfl rfl rfl (by decide +kernel)
set_option maxRecDepth 65536 in
theorem w_c41 : (Jvm.Cond.code ({ cls := "com/example/keyedge/keyedge/AdjacencyListGraph$2", name := "next", desc := "(Ljava/lang/Object;)Ljava/lang/Object;" } : Jvm.MethodName) prog_6_method_8_code (2 : Nat) (Option.some (Jvm.ClassFile.FieldType.object "java/lang/Object"))).before args0 about1 = true := code_word (m := ⟨12, 7⟩) (meth := k12m7) (c := k12c7) (by decide +kernel) rfl rfl rfl (by decide +kernel)
set_option maxRecDepth 65536 in
theorem w_c42 : (Jvm.Cond.code ({ cls := "com/example/keyedge/keyedge/AdjacencyListGraph$2", name := "next", desc := "(Lcom/example/keyedge/keyedge/AdjacencyListGraph$ListLink;)Lcom/example/keyedge/keyedge/AdjacencyListGraph$ListLink;" } : Jvm.MethodName) prog_6_method_3_code (2 : Nat) (Option.some (Jvm.ClassFile.FieldType.object "com/example/keyedge/keyedge/AdjacencyListGraph$ListLink"))).before args0 about1 = true := code_word (m := ⟨12, 2⟩) (meth := k12m2) (c := k12c2) (by decide +kernel) rfl rfl rfl (by decide +kernel)
set_option maxRecDepth 65536 in
theorem w_c43 : (Jvm.Cond.code ({ cls := "com/example/keyedge/keyedge/AdjacencyListGraph$2", name := "setNext", desc := "(Ljava/lang/Object;Ljava/lang/Object;)V" } : Jvm.MethodName) prog_6_method_6_code (3 : Nat) (Option.none : Option Jvm.ClassFile.FieldType)).before args0 about1 = true := code_word (m := ⟨12, 5⟩) (meth := k12m5) (c := k12c5) (by decide +kernel) rfl rfl rfl (by decide +kernel)
set_option maxRecDepth 65536 in
theorem w_c44 : (Jvm.Cond.code ({ cls := "com/example/keyedge/keyedge/AdjacencyListGraph$2", name := "setNext", desc := "(Lcom/example/keyedge/keyedge/AdjacencyListGraph$ListLink;Lcom/example/keyedge/keyedge/AdjacencyListGraph$ListLink;)V" } : Jvm.MethodName) prog_6_method_5_code (3 : Nat) (Option.none : Option Jvm.ClassFile.FieldType)).before args0 about1 = true := code_word (m := ⟨12, 4⟩) (meth := k12m4) (c := k12c4) (by decide +kernel) rfl rfl rfl (by decide +kernel)
set_option maxRecDepth 65536 in
theorem w_c45 : (Jvm.Cond.code ({ cls := "com/example/keyedge/keyedge/Chain", name := "contains", desc := "(Ljava/lang/Object;)Z" } : Jvm.MethodName) prog_13_method_9_code (2 : Nat) (Option.some Jvm.ClassFile.FieldType.boolean)).before args0 about1 = true := code_word (m := ⟨9, 7⟩) (meth := k9m7) (c := k9c7) (by decide +kernel) rfl rfl rfl (by decide +kernel)
set_option maxRecDepth 65536 in
theorem w_c46 : (Jvm.Cond.code ({ cls := "com/example/keyedge/keyedge/AdjacencyListGraph$ListNode", name := "lambda$new$1", desc := "(Ljava/lang/Object;)Z" } : Jvm.MethodName) prog_8_method_2_code (3 : Nat) (Option.some Jvm.ClassFile.FieldType.boolean)).before args0 about1 = true := code_word (m := ⟨16, 1⟩) (meth := k16m1) (c := k16c1) (by decide +kernel) rfl rfl rfl (by decide +kernel)
set_option maxRecDepth 65536 in
theorem w_c47 : (Jvm.Cond.code ({ cls := "com/example/keyedge/keyedge/Chain", name := "linked", desc := "(Lcom/example/keyedge/keyedge/Chain$Linked;)Z" } : Jvm.MethodName) prog_13_method_6_code (2 : Nat) (Option.some Jvm.ClassFile.FieldType.boolean)).before args0 about1 = true := code_word (m := ⟨9, 5⟩) (meth := k9m5) (c := k9c5) (by decide +kernel) rfl rfl rfl (by decide +kernel)
set_option maxRecDepth 65536 in
theorem w_c48 : (Jvm.Cond.code ({ cls := "com/example/keyedge/keyedge/AdjacencyListGraph$ListNode", name := "lambda$new$0", desc := "(Ljava/lang/Object;)Z" } : Jvm.MethodName) prog_8_method_3_code (3 : Nat) (Option.some Jvm.ClassFile.FieldType.boolean)).before args0 about1 = true := code_word (m := ⟨16, 2⟩) (meth := k16m2) (c := k16c2) (by decide +kernel) rfl rfl rfl (by decide +kernel)
set_option maxRecDepth 65536 in
theorem w_c49 : (Jvm.Cond.code ({ cls := "com/example/keyedge/keyedge/Chain$1", name := "next", desc := "()Ljava/lang/Object;" } : Jvm.MethodName) prog_14_method_4_code (1 : Nat) (Option.some (Jvm.ClassFile.FieldType.object "java/lang/Object"))).before args0 about1 = true := code_word (m := ⟨18, 3⟩) (meth := k18m3) (c := k18c3) (by decide +kernel) rfl rfl rfl (by decide +kernel)
set_option maxRecDepth 65536 in
theorem w_c50 : (Jvm.Cond.code ({ cls := "com/example/keyedge/keyedge/Chain$1", name := "next", desc := "()Lcom/example/keyedge/keyedge/Chain$Linked;" } : Jvm.MethodName) prog_14_method_3_code (2 : Nat) (Option.some (Jvm.ClassFile.FieldType.object "com/example/keyedge/keyedge/Chain$Linked"))).before args0 about1 = true := code_word (m := ⟨18, 2⟩) (meth := k18m2) (c := k18c2) (by decide +kernel) rfl rfl rfl (by decide +kernel)
def codes1 : List Jvm.Cond := [Jvm.Cond.code x code maxLocals ret, Jvm.Cond.code ({ cls := "com/example/keyedge/keyedge/AdjacencyListGraph", name := "<init>", desc := "()V" } : Jvm.MethodName) prog_4_method_1_code (1 : Nat) (Option.none : Option Jvm.ClassFile.FieldType), Jvm.Cond.code ({ cls := "com/example/keyedge/keyedge/AbstractGraph", name := "<init>", desc := "()V" } : Jvm.MethodName) prog_1_method_1_code (1 : Nat) (Option.none : Option Jvm.ClassFile.FieldType), Jvm.Cond.code ({ cls := "java/lang/Object", name := "<init>", desc := "()V" } : Jvm.MethodName) object_method_1_code (1 : Nat) (Option.none : Option Jvm.ClassFile.FieldType), Jvm.Cond.code ({ cls := "com/example/keyedge/keyedge/Chain", name := "of", desc := "(Ljava/util/function/Predicate;)Lcom/example/keyedge/keyedge/Chain;" } : Jvm.MethodName) prog_13_method_2_code (1 : Nat) (Option.some (Jvm.ClassFile.FieldType.object "com/example/keyedge/keyedge/Chain")), Jvm.Cond.code ({ cls := "com/example/keyedge/keyedge/Chain", name := "<init>", desc := "(Lcom/example/keyedge/keyedge/Chain$Strand;Ljava/util/function/Predicate;)V" } : Jvm.MethodName) prog_13_method_1_code (3 : Nat) (Option.none : Option Jvm.ClassFile.FieldType), Jvm.Cond.code ({ cls := "java/util/AbstractCollection", name := "<init>", desc := "()V" } : Jvm.MethodName) jdk_22_method_1_code (1 : Nat) (Option.none : Option Jvm.ClassFile.FieldType), Jvm.Cond.code ({ cls := "com/example/keyedge/keyedge/AdjacencyListGraph$1", name := "<init>", desc := "(Lcom/example/keyedge/keyedge/AdjacencyListGraph;)V" } : Jvm.MethodName) prog_5_method_1_code (2 : Nat) (Option.none : Option Jvm.ClassFile.FieldType), Jvm.Cond.code ({ cls := "com/example/keyedge/keyedge/AdjacencyListGraph$2", name := "<init>", desc := "(Lcom/example/keyedge/keyedge/AdjacencyListGraph;)V" } : Jvm.MethodName) prog_6_method_1_code (2 : Nat) (Option.none : Option Jvm.ClassFile.FieldType), Jvm.Cond.code ({ cls := "com/example/keyedge/keyedge/AdjacencyListGraph", name := "newNode", desc := "(Ljava/lang/Object;I)Lcom/example/keyedge/keyedge/AdjacencyListGraph$ListNode;" } : Jvm.MethodName) prog_4_method_2_code (3 : Nat) (Option.some (Jvm.ClassFile.FieldType.object "com/example/keyedge/keyedge/AdjacencyListGraph$ListNode")), Jvm.Cond.code ({ cls := "com/example/keyedge/keyedge/AdjacencyListGraph$ListNode", name := "<init>", desc := "(Lcom/example/keyedge/keyedge/AdjacencyListGraph;Ljava/lang/Object;I)V" } : Jvm.MethodName) prog_8_method_1_code (4 : Nat) (Option.none : Option Jvm.ClassFile.FieldType), Jvm.Cond.code ({ cls := "com/example/keyedge/keyedge/AbstractGraph$Node", name := "<init>", desc := "(Lcom/example/keyedge/keyedge/AbstractGraph;Ljava/lang/Object;I)V" } : Jvm.MethodName) prog_3_method_1_code (4 : Nat) (Option.none : Option Jvm.ClassFile.FieldType), Jvm.Cond.code ({ cls := "com/example/keyedge/keyedge/Chain$Linked", name := "<init>", desc := "()V" } : Jvm.MethodName) prog_15_method_1_code (1 : Nat) (Option.none : Option Jvm.ClassFile.FieldType), Jvm.Cond.code ({ cls := "com/example/keyedge/keyedge/Chain", name := "of", desc := "(Lcom/example/keyedge/keyedge/Chain$Strand;Ljava/util/function/Predicate;)Lcom/example/keyedge/keyedge/Chain;" } : Jvm.MethodName) prog_13_method_3_code (2 : Nat) (Option.some (Jvm.ClassFile.FieldType.object "com/example/keyedge/keyedge/Chain")), Jvm.Cond.code ({ cls := "com/example/keyedge/keyedge/AdjacencyListGraph", name := "attach", desc := "(Lcom/example/keyedge/keyedge/AdjacencyListGraph$ListNode;Lcom/example/keyedge/keyedge/AdjacencyListGraph$ListNode;Ljava/lang/Object;)Lcom/example/keyedge/keyedge/AdjacencyListGraph$ListLink;" } : Jvm.MethodName) prog_4_method_6_code (5 : Nat) (Option.some (Jvm.ClassFile.FieldType.object "com/example/keyedge/keyedge/AdjacencyListGraph$ListLink")), Jvm.Cond.code ({ cls := "com/example/keyedge/keyedge/AdjacencyListGraph", name := "edge", desc := "(Lcom/example/keyedge/keyedge/AdjacencyListGraph$ListNode;Lcom/example/keyedge/keyedge/AdjacencyListGraph$ListNode;)Lcom/example/keyedge/keyedge/AdjacencyListGraph$ListLink;" } : Jvm.MethodName) prog_4_method_5_code (5 : Nat) (Option.some (Jvm.ClassFile.FieldType.object "com/example/keyedge/keyedge/AdjacencyListGraph$ListLink")), Jvm.Cond.code ({ cls := "com/example/keyedge/keyedge/Chain", name := "size", desc := "()I" } : Jvm.MethodName) prog_13_method_8_code (1 : Nat) (Option.some Jvm.ClassFile.FieldType.int), Jvm.Cond.code ({ cls := "com/example/keyedge/keyedge/Chain", name := "iterator", desc := "()Ljava/util/Iterator;" } : Jvm.MethodName) prog_13_method_10_code (1 : Nat) (Option.some (Jvm.ClassFile.FieldType.object "java/util/Iterator")), Jvm.Cond.code ({ cls := "com/example/keyedge/keyedge/Chain$1", name := "<init>", desc := "(Lcom/example/keyedge/keyedge/Chain;)V" } : Jvm.MethodName) prog_14_method_1_code (2 : Nat) (Option.none : Option Jvm.ClassFile.FieldType), Jvm.Cond.code ({ cls := "com/example/keyedge/keyedge/Chain$1", name := "hasNext", desc := "()Z" } : Jvm.MethodName) prog_14_method_2_code (1 : Nat) (Option.some Jvm.ClassFile.FieldType.boolean), Jvm.Cond.code ({ cls := "com/example/keyedge/keyedge/AdjacencyListGraph$ListLink", name := "<init>", desc := "(Lcom/example/keyedge/keyedge/AdjacencyListGraph$ListNode;Lcom/example/keyedge/keyedge/AdjacencyListGraph$ListNode;Ljava/lang/Object;)V" } : Jvm.MethodName) prog_7_method_1_code (4 : Nat) (Option.none : Option Jvm.ClassFile.FieldType), Jvm.Cond.code ({ cls := "com/example/keyedge/keyedge/AbstractGraph$Link", name := "<init>", desc := "(Lcom/example/keyedge/keyedge/AbstractGraph$Node;Lcom/example/keyedge/keyedge/AbstractGraph$Node;Ljava/lang/Object;)V" } : Jvm.MethodName) prog_2_method_1_code (4 : Nat) (Option.none : Option Jvm.ClassFile.FieldType), Jvm.Cond.code ({ cls := "com/example/keyedge/keyedge/Chain", name := "append", desc := "(Lcom/example/keyedge/keyedge/Chain$Linked;)V" } : Jvm.MethodName) prog_13_method_4_code (2 : Nat) (Option.none : Option Jvm.ClassFile.FieldType), Jvm.Cond.code ({ cls := "com/example/keyedge/keyedge/Chain", name := "setPrevious", desc := "(Lcom/example/keyedge/keyedge/Chain$Linked;Lcom/example/keyedge/keyedge/Chain$Linked;)V" } : Jvm.MethodName) prog_13_method_14_code (3 : Nat) (Option.none : Option Jvm.ClassFile.FieldType), Jvm.Cond.code ({ cls := "com/example/keyedge/keyedge/AdjacencyListGraph$1", name := "setPrevious", desc := "(Ljava/lang/Object;Ljava/lang/Object;)V" } : Jvm.MethodName) prog_5_method_7_code (3 : Nat) (Option.none : Option Jvm.ClassFile.FieldType), Jvm.Cond.code ({ cls := "com/example/keyedge/keyedge/AdjacencyListGraph$1", name := "setPrevious", desc := "(Lcom/example/keyedge/keyedge/AdjacencyListGraph$ListLink;Lcom/example/keyedge/keyedge/AdjacencyListGraph$ListLink;)V" } : Jvm.MethodName) prog_5_method_4_code (3 : Nat) (Option.none : Option Jvm.ClassFile.FieldType), Jvm.Cond.code ({ cls := "com/example/keyedge/keyedge/AdjacencyListGraph$2", name := "setPrevious", desc := "(Ljava/lang/Object;Ljava/lang/Object;)V" } : Jvm.MethodName) prog_6_method_7_code (3 : Nat) (Option.none : Option Jvm.ClassFile.FieldType), Jvm.Cond.code ({ cls := "com/example/keyedge/keyedge/AdjacencyListGraph$2", name := "setPrevious", desc := "(Lcom/example/keyedge/keyedge/AdjacencyListGraph$ListLink;Lcom/example/keyedge/keyedge/AdjacencyListGraph$ListLink;)V" } : Jvm.MethodName) prog_6_method_4_code (3 : Nat) (Option.none : Option Jvm.ClassFile.FieldType), Jvm.Cond.code ({ cls := "com/example/keyedge/keyedge/AdjacencyListGraph", name := "detach", desc := "(Lcom/example/keyedge/keyedge/AdjacencyListGraph$ListLink;)V" } : Jvm.MethodName) prog_4_method_7_code (2 : Nat) (Option.none : Option Jvm.ClassFile.FieldType), Jvm.Cond.code ({ cls := "com/example/keyedge/keyedge/Chain", name := "unlink", desc := "(Lcom/example/keyedge/keyedge/Chain$Linked;)V" } : Jvm.MethodName) prog_13_method_5_code (4 : Nat) (Option.none : Option Jvm.ClassFile.FieldType), Jvm.Cond.code ({ cls := "com/example/keyedge/keyedge/Chain", name := "previous", desc := "(Lcom/example/keyedge/keyedge/Chain$Linked;)Lcom/example/keyedge/keyedge/Chain$Linked;" } : Jvm.MethodName) prog_13_method_12_code (2 : Nat) (Option.some (Jvm.ClassFile.FieldType.object "com/example/keyedge/keyedge/Chain$Linked")), Jvm.Cond.code ({ cls := "com/example/keyedge/keyedge/AdjacencyListGraph$1", name := "previous", desc := "(Ljava/lang/Object;)Ljava/lang/Object;" } : Jvm.MethodName) prog_5_method_9_code (2 : Nat) (Option.some (Jvm.ClassFile.FieldType.object "java/lang/Object")), Jvm.Cond.code ({ cls := "com/example/keyedge/keyedge/AdjacencyListGraph$1", name := "previous", desc := "(Lcom/example/keyedge/keyedge/AdjacencyListGraph$ListLink;)Lcom/example/keyedge/keyedge/AdjacencyListGraph$ListLink;" } : Jvm.MethodName) prog_5_method_2_code (2 : Nat) (Option.some (Jvm.ClassFile.FieldType.object "com/example/keyedge/keyedge/AdjacencyListGraph$ListLink")), Jvm.Cond.code ({ cls := "com/example/keyedge/keyedge/Chain", name := "next", desc := "(Lcom/example/keyedge/keyedge/Chain$Linked;)Lcom/example/keyedge/keyedge/Chain$Linked;" } : Jvm.MethodName) prog_13_method_13_code (2 : Nat) (Option.some (Jvm.ClassFile.FieldType.object "com/example/keyedge/keyedge/Chain$Linked")), Jvm.Cond.code ({ cls := "com/example/keyedge/keyedge/AdjacencyListGraph$1", name := "next", desc := "(Ljava/lang/Object;)Ljava/lang/Object;" } : Jvm.MethodName) prog_5_method_8_code (2 : Nat) (Option.some (Jvm.ClassFile.FieldType.object "java/lang/Object")), Jvm.Cond.code ({ cls := "com/example/keyedge/keyedge/AdjacencyListGraph$1", name := "next", desc := "(Lcom/example/keyedge/keyedge/AdjacencyListGraph$ListLink;)Lcom/example/keyedge/keyedge/AdjacencyListGraph$ListLink;" } : Jvm.MethodName) prog_5_method_3_code (2 : Nat) (Option.some (Jvm.ClassFile.FieldType.object "com/example/keyedge/keyedge/AdjacencyListGraph$ListLink")), Jvm.Cond.code ({ cls := "com/example/keyedge/keyedge/Chain", name := "setNext", desc := "(Lcom/example/keyedge/keyedge/Chain$Linked;Lcom/example/keyedge/keyedge/Chain$Linked;)V" } : Jvm.MethodName) prog_13_method_15_code (3 : Nat) (Option.none : Option Jvm.ClassFile.FieldType), Jvm.Cond.code ({ cls := "com/example/keyedge/keyedge/AdjacencyListGraph$1", name := "setNext", desc := "(Ljava/lang/Object;Ljava/lang/Object;)V" } : Jvm.MethodName) prog_5_method_6_code (3 : Nat) (Option.none : Option Jvm.ClassFile.FieldType), Jvm.Cond.code ({ cls := "com/example/keyedge/keyedge/AdjacencyListGraph$1", name := "setNext", desc := "(Lcom/example/keyedge/keyedge/AdjacencyListGraph$ListLink;Lcom/example/keyedge/keyedge/AdjacencyListGraph$ListLink;)V" } : Jvm.MethodName) prog_5_method_5_code (3 : Nat) (Option.none : Option Jvm.ClassFile.FieldType), Jvm.Cond.code ({ cls := "com/example/keyedge/keyedge/AdjacencyListGraph$2", name := "previous", desc := "(Ljava/lang/Object;)Ljava/lang/Object;" } : Jvm.MethodName) prog_6_method_9_code (2 : Nat) (Option.some (Jvm.ClassFile.FieldType.object "java/lang/Object")), Jvm.Cond.code ({ cls := "com/example/keyedge/keyedge/AdjacencyListGraph$2", name := "previous", desc := "(Lcom/example/keyedge/keyedge/AdjacencyListGraph$ListLink;)Lcom/example/keyedge/keyedge/AdjacencyListGraph$ListLink;" } : Jvm.MethodName) prog_6_method_2_code (2 : Nat) (Option.some (Jvm.ClassFile.FieldType.object "com/example/keyedge/keyedge/AdjacencyListGraph$ListLink")), Jvm.Cond.code ({ cls := "com/example/keyedge/keyedge/AdjacencyListGraph$2", name := "next", desc := "(Ljava/lang/Object;)Ljava/lang/Object;" } : Jvm.MethodName) prog_6_method_8_code (2 : Nat) (Option.some (Jvm.ClassFile.FieldType.object "java/lang/Object")), Jvm.Cond.code ({ cls := "com/example/keyedge/keyedge/AdjacencyListGraph$2", name := "next", desc := "(Lcom/example/keyedge/keyedge/AdjacencyListGraph$ListLink;)Lcom/example/keyedge/keyedge/AdjacencyListGraph$ListLink;" } : Jvm.MethodName) prog_6_method_3_code (2 : Nat) (Option.some (Jvm.ClassFile.FieldType.object "com/example/keyedge/keyedge/AdjacencyListGraph$ListLink")), Jvm.Cond.code ({ cls := "com/example/keyedge/keyedge/AdjacencyListGraph$2", name := "setNext", desc := "(Ljava/lang/Object;Ljava/lang/Object;)V" } : Jvm.MethodName) prog_6_method_6_code (3 : Nat) (Option.none : Option Jvm.ClassFile.FieldType), Jvm.Cond.code ({ cls := "com/example/keyedge/keyedge/AdjacencyListGraph$2", name := "setNext", desc := "(Lcom/example/keyedge/keyedge/AdjacencyListGraph$ListLink;Lcom/example/keyedge/keyedge/AdjacencyListGraph$ListLink;)V" } : Jvm.MethodName) prog_6_method_5_code (3 : Nat) (Option.none : Option Jvm.ClassFile.FieldType), Jvm.Cond.code ({ cls := "com/example/keyedge/keyedge/Chain", name := "contains", desc := "(Ljava/lang/Object;)Z" } : Jvm.MethodName) prog_13_method_9_code (2 : Nat) (Option.some Jvm.ClassFile.FieldType.boolean), Jvm.Cond.code ({ cls := "com/example/keyedge/keyedge/AdjacencyListGraph$ListNode", name := "lambda$new$1", desc := "(Ljava/lang/Object;)Z" } : Jvm.MethodName) prog_8_method_2_code (3 : Nat) (Option.some Jvm.ClassFile.FieldType.boolean), Jvm.Cond.code ({ cls := "com/example/keyedge/keyedge/Chain", name := "linked", desc := "(Lcom/example/keyedge/keyedge/Chain$Linked;)Z" } : Jvm.MethodName) prog_13_method_6_code (2 : Nat) (Option.some Jvm.ClassFile.FieldType.boolean), Jvm.Cond.code ({ cls := "com/example/keyedge/keyedge/AdjacencyListGraph$ListNode", name := "lambda$new$0", desc := "(Ljava/lang/Object;)Z" } : Jvm.MethodName) prog_8_method_3_code (3 : Nat) (Option.some Jvm.ClassFile.FieldType.boolean), Jvm.Cond.code ({ cls := "com/example/keyedge/keyedge/Chain$1", name := "next", desc := "()Ljava/lang/Object;" } : Jvm.MethodName) prog_14_method_4_code (1 : Nat) (Option.some (Jvm.ClassFile.FieldType.object "java/lang/Object")), Jvm.Cond.code ({ cls := "com/example/keyedge/keyedge/Chain$1", name := "next", desc := "()Lcom/example/keyedge/keyedge/Chain$Linked;" } : Jvm.MethodName) prog_14_method_3_code (2 : Nat) (Option.some (Jvm.ClassFile.FieldType.object "com/example/keyedge/keyedge/Chain$Linked"))]
set_option maxRecDepth 65536 in
theorem codes_eq : words1.filter isCode = codes1 := rfl
theorem w_codes : ∀ c ∈ words1.filter isCode, c.before args0 about1 = true := by
  rw [codes_eq]
  intro c hc
  simp only [codes1, List.mem_cons, List.not_mem_nil, or_false] at hc
  rcases hc with rfl | rfl | rfl | rfl | rfl | rfl | rfl | rfl | rfl | rfl | rfl | rfl | rfl | rfl | rfl | rfl | rfl | rfl | rfl | rfl | rfl | rfl | rfl | rfl | rfl | rfl | rfl | rfl | rfl | rfl | rfl | rfl | rfl | rfl | rfl | rfl | rfl | rfl | rfl | rfl | rfl | rfl | rfl | rfl | rfl | rfl | rfl | rfl | rfl | rfl | rfl
  · exact w_c0
  · exact w_c1
  · exact w_c2
  · exact w_c3
  · exact w_c4
  · exact w_c5
  · exact w_c6
  · exact w_c7
  · exact w_c8
  · exact w_c9
  · exact w_c10
  · exact w_c11
  · exact w_c12
  · exact w_c13
  · exact w_c14
  · exact w_c15
  · exact w_c16
  · exact w_c17
  · exact w_c18
  · exact w_c19
  · exact w_c20
  · exact w_c21
  · exact w_c22
  · exact w_c23
  · exact w_c24
  · exact w_c25
  · exact w_c26
  · exact w_c27
  · exact w_c28
  · exact w_c29
  · exact w_c30
  · exact w_c31
  · exact w_c32
  · exact w_c33
  · exact w_c34
  · exact w_c35
  · exact w_c36
  · exact w_c37
  · exact w_c38
  · exact w_c39
  · exact w_c40
  · exact w_c41
  · exact w_c42
  · exact w_c43
  · exact w_c44
  · exact w_c45
  · exact w_c46
  · exact w_c47
  · exact w_c48
  · exact w_c49
  · exact w_c50
set_option maxRecDepth 65536 in
theorem w_t1 : (words1.take 24).all (fun c => isCode c || c.before args0 about1) = true := by decide +kernel
set_option maxRecDepth 65536 in
theorem w_t2 : ((words1.drop 24).take 24).all (fun c => isCode c || c.before args0 about1) = true := by decide +kernel
set_option maxRecDepth 65536 in
theorem w_t3 : (((words1.drop 24).drop 24).take 24).all (fun c => isCode c || c.before args0 about1) = true := by decide +kernel
set_option maxRecDepth 65536 in
theorem w_t4 : ((((words1.drop 24).drop 24).drop 24).take 24).all (fun c => isCode c || c.before args0 about1) = true := by decide +kernel
set_option maxRecDepth 65536 in
theorem w_t5 : (((((words1.drop 24).drop 24).drop 24).drop 24).take 24).all (fun c => isCode c || c.before args0 about1) = true := by decide +kernel
set_option maxRecDepth 65536 in
theorem w_t6 : ((((((words1.drop 24).drop 24).drop 24).drop 24).drop 24).take 24).all (fun c => isCode c || c.before args0 about1) = true := by decide +kernel
set_option maxRecDepth 65536 in
theorem w_t7 : (((((((words1.drop 24).drop 24).drop 24).drop 24).drop 24).drop 24).take 24).all (fun c => isCode c || c.before args0 about1) = true := by decide +kernel
set_option maxRecDepth 65536 in
theorem w_t8 : ((((((((words1.drop 24).drop 24).drop 24).drop 24).drop 24).drop 24).drop 24).take 24).all (fun c => isCode c || c.before args0 about1) = true := by decide +kernel
set_option maxRecDepth 65536 in
theorem w_t9 : (((((((((words1.drop 24).drop 24).drop 24).drop 24).drop 24).drop 24).drop 24).drop 24).take 24).all (fun c => isCode c || c.before args0 about1) = true := by decide +kernel
set_option maxRecDepth 65536 in
theorem w_t10 : ((((((((((words1.drop 24).drop 24).drop 24).drop 24).drop 24).drop 24).drop 24).drop 24).drop 24).take 24).all (fun c => isCode c || c.before args0 about1) = true := by decide +kernel
set_option maxRecDepth 65536 in
theorem w_t11 : (((((((((((words1.drop 24).drop 24).drop 24).drop 24).drop 24).drop 24).drop 24).drop 24).drop 24).drop 24).take 24).all (fun c => isCode c || c.before args0 about1) = true := by decide +kernel
set_option maxRecDepth 65536 in
theorem w_t12 : ((((((((((((words1.drop 24).drop 24).drop 24).drop 24).drop 24).drop 24).drop 24).drop 24).drop 24).drop 24).drop 24).take 24).all (fun c => isCode c || c.before args0 about1) = true := by decide +kernel
set_option maxRecDepth 65536 in
theorem w_t13 : (((((((((((((words1.drop 24).drop 24).drop 24).drop 24).drop 24).drop 24).drop 24).drop 24).drop 24).drop 24).drop 24).drop 24).take 24).all (fun c => isCode c || c.before args0 about1) = true := by decide +kernel
set_option maxRecDepth 65536 in
theorem w_t14 : ((((((((((((((words1.drop 24).drop 24).drop 24).drop 24).drop 24).drop 24).drop 24).drop 24).drop 24).drop 24).drop 24).drop 24).drop 24).take 24).all (fun c => isCode c || c.before args0 about1) = true := by decide +kernel
set_option maxRecDepth 65536 in
theorem w_t15 : (((((((((((((((words1.drop 24).drop 24).drop 24).drop 24).drop 24).drop 24).drop 24).drop 24).drop 24).drop 24).drop 24).drop 24).drop 24).drop 24).take 24).all (fun c => isCode c || c.before args0 about1) = true := by decide +kernel
set_option maxRecDepth 65536 in
theorem w_t16 : (((((((((((((((words1.drop 24).drop 24).drop 24).drop 24).drop 24).drop 24).drop 24).drop 24).drop 24).drop 24).drop 24).drop 24).drop 24).drop 24).drop 24).all (fun c => isCode c || c.before args0 about1) = true := by decide +kernel
theorem w_tables : (allAtoms (Jvm.Cond.code x code maxLocals ret :: tables_1)).before args0 about1 = true := by
  rw [allAtoms_all]
  show words1.all (fun c => c.before args0 about1) = true
  refine all_split ?_ w_codes
  rw [← List.take_append_drop 24 words1, List.all_append, w_t1, ← List.take_append_drop 24 (words1.drop 24), List.all_append, w_t2, ← List.take_append_drop 24 ((words1.drop 24).drop 24), List.all_append, w_t3, ← List.take_append_drop 24 (((words1.drop 24).drop 24).drop 24), List.all_append, w_t4, ← List.take_append_drop 24 ((((words1.drop 24).drop 24).drop 24).drop 24), List.all_append, w_t5, ← List.take_append_drop 24 (((((words1.drop 24).drop 24).drop 24).drop 24).drop 24), List.all_append, w_t6, ← List.take_append_drop 24 ((((((words1.drop 24).drop 24).drop 24).drop 24).drop 24).drop 24), List.all_append, w_t7, ← List.take_append_drop 24 (((((((words1.drop 24).drop 24).drop 24).drop 24).drop 24).drop 24).drop 24), List.all_append, w_t8, ← List.take_append_drop 24 ((((((((words1.drop 24).drop 24).drop 24).drop 24).drop 24).drop 24).drop 24).drop 24), List.all_append, w_t9, ← List.take_append_drop 24 (((((((((words1.drop 24).drop 24).drop 24).drop 24).drop 24).drop 24).drop 24).drop 24).drop 24), List.all_append, w_t10, ← List.take_append_drop 24 ((((((((((words1.drop 24).drop 24).drop 24).drop 24).drop 24).drop 24).drop 24).drop 24).drop 24).drop 24), List.all_append, w_t11, ← List.take_append_drop 24 (((((((((((words1.drop 24).drop 24).drop 24).drop 24).drop 24).drop 24).drop 24).drop 24).drop 24).drop 24).drop 24), List.all_append, w_t12, ← List.take_append_drop 24 ((((((((((((words1.drop 24).drop 24).drop 24).drop 24).drop 24).drop 24).drop 24).drop 24).drop 24).drop 24).drop 24).drop 24), List.all_append, w_t13, ← List.take_append_drop 24 (((((((((((((words1.drop 24).drop 24).drop 24).drop 24).drop 24).drop 24).drop 24).drop 24).drop 24).drop 24).drop 24).drop 24).drop 24), List.all_append, w_t14, ← List.take_append_drop 24 ((((((((((((((words1.drop 24).drop 24).drop 24).drop 24).drop 24).drop 24).drop 24).drop 24).drop 24).drop 24).drop 24).drop 24).drop 24).drop 24), List.all_append, w_t15, w_t16]
  rfl
set_option maxRecDepth 65536 in
theorem w_case : (Jvm.Cond.and given_1 narrow_1).before args0 about1 = true := by decide +kernel
theorem w_applies : (headSpec (Jvm.Cond.code x code maxLocals ret :: tables_1) room_1).applies x e0.platform about1 = true :=
  (Spec.applies_iff w_frames).mpr ⟨w_running, w_runnable, w_alone, w_named, w_hears, w_ripe, w_room, w_tables⟩
theorem atStart : AtStart classFile x code maxLocals ret World_1 tables_1 room_1 Calls_1 rest_1 Pre_1 launch0 p0 e0 about1 theMethod args0 below0 :=
  ⟨lists_1, trivial, launch0.admits_env _ _ _, launch0.least_env, fairChoices_fair.cas, fairChoices_fair.clock, w_frames, w_args, w_heap, w_applies, trivial, trivial, w_case⟩
end start1
theorem witness_1 : WitnessClaimed_1 := ⟨start1.p0, start1.e0, start1.about1, start1.theMethod, start1.args0, start1.below0, start1.atStart⟩
end Jvm.Pilot.@@N@@
