import JvmDerived
import JvmDerived.Pilot.@@N@@Statement
import JvmDerived.Pilot.@@N@@Code
set_option linter.unusedVariables false
set_option linter.unusedSimpArgs false
set_option maxRecDepth 65536
namespace Jvm.Pilot.@@N@@
open Jvm Jvm.ClassFile Sem Op Lib Jvm.Free Jvm.Stand Jvm.LawKit Jvm.RoadKit Bundle Jvm.Pilot.@@N@@.Jvm.D
section Own
variable {p : Program} {l : Launch} {e : Env} {R : Room} {s : State} {m : MethodId} {args : Array Value} {below : List Frame} {meth : Method} {c : Code} {T : State} {locs : List Loc} {cells slots : Nat} {Z : State} {a0 : Array Value} {h : Heap}
variable {Q : Option Value → Heap → List Loc → Prop} {F : Outcome → State → Prop} {C N : Nat} {A B : State}
/-- how a body ends: it returns v, Q holds of what it returned, of the heap and of the places written; nothing else is written (EndW: String constants may have been interned) -/
def EndN (s : State) (Q : Option Value → Heap → List Loc → Prop) (C N : Nat) (o : Outcome) (t : State) : Prop := ∃ v L, o = .returned v ∧ Q v t.heap L ∧ FrameEnd s o t L C N
/-- what a body owes from a point of its walk: it comes to its end, and F holds there -/
def Owes (p : Program) (e : Env) (below : List Frame) (F : Outcome → State → Prop) (A : State) : Prop :=
  ∃ s₂ o, Steps p.tables e below A s₂ ∧ s₂.status = .running ∧ Ended s₂ below o ∧ F o s₂
theorem Owes.go (k : Owes p e below F B) (f : ∀ t, Steps p.tables e below B t → Steps p.tables e below A t) : Owes p e below F A := by
  obtain ⟨s₂, o, h1, r⟩ := k
  exact ⟨s₂, o, f _ h1, r⟩
theorem Owes.tr (k : Owes p e below F B) (st : Steps p.tables e below A B) : Owes p e below F A := by
  obtain ⟨s₂, o, h1, r⟩ := k
  exact ⟨s₂, o, st.trans h1, r⟩
theorem Owes.mono {Q' : Option Value → Heap → List Loc → Prop} (k : Owes p e below (EndN s Q C N) A) (f : ∀ v h L, Q v h L → Q' v h L) : Owes p e below (EndN s Q' C N) A := by
  obtain ⟨s₂, o, h1, h2, h3, v, L, h4, h5, h6⟩ := k
  exact ⟨s₂, o, h1, h2, h3, v, L, h4, f _ _ _ h5, h6⟩
/-- a body's contract at given arguments and a given heap -/
def OMet (l : Launch) (y : MethodName) (bytes : ByteArray) (maxL : Nat) (ret : Option FieldType) (ws : List Jvm.Cond) (rm : Room) (as' : Array Value) (Z : State) (h0 : Heap) (Q : Option Value → Heap → List Loc → Prop) : Prop :=
  MetFree l y (head1 (Jvm.Cond.code y bytes maxL ret :: ws) rm) (fun a U => a = as' ∧ Z.Warmed39 U.vm ∧ U.heap = h0) (fun _ _ _ _ _ => True) (fun _ U o U' => ∃ v L, o = .returned v ∧ Q v U'.heap L ∧ FrameEnd U o U' L rm.cells rm.slots)
theorem OMet.of {y : MethodName} {bytes : ByteArray} {maxL : Nat} {ret : Option FieldType} {ws : List Jvm.Cond} {rm : Room} {as' : Array Value} {h0 : Heap} (hpl : plainFor y = true) {Ls : Array Slot} (ef : ∀ m, entryFrame m as' maxL = mkF m 0 Ls [])
    (body : ∀ (p : Program) (e : Env) (s : State) (m : MethodId) (below : List Frame) (meth : Method) (c : Code) (s₁ : State), p.tables.exec = Jvm.exec → c.code = bytes → c.maxLocals = maxL → s.vm.findClass y.cls = some m.cls → meth.name = y.name → meth.sig.returnType = ret → meth.locks = false → Z.Warmed39 s.vm →
      Stand p l e rm s m as' below meth c s₁ [] 0 0 → s₁.heap = h0 → Owes p e below (EndN s Q rm.cells rm.slots) (s₁.setTop (mkF m 0 Ls []))) : OMet l y bytes maxL ret ws rm as' Z h0 Q := by
  refine MetFree.of_bodySF hpl hisR ?_
  intro p e s m args below meth c s₁ Bd hml0 hP hK
  obtain ⟨rfl, hZ, hh⟩ := hP
  have hlk : meth.locks = false := BodyLoose.notSynchronized Bd
  have X0 : Stand p l e rm s m args below meth c s₁ [] 0 0 := Stand.of_body Bd
  have e0 : s₁.heap = h0 := by rw [← hh, Bd.state]; rfl
  obtain ⟨s₂, o, h1, h2, h3, h4⟩ := body p e s m below meth c s₁ Bd.exec Bd.bytes hml0 (findClass_of_methodNamed Bd.named) (name_of_methodNamed Bd.named Bd.method).1 Bd.returns hlk hZ X0 e0
  exact ⟨s₂, o, castTop (ef m) h1, h2, h3, h4⟩
theorem OMet.mono {y : MethodName} {bytes : ByteArray} {maxL : Nat} {ret : Option FieldType} {ws : List Jvm.Cond} {rm : Room} {as' : Array Value} {h0 : Heap} {Q' : Option Value → Heap → List Loc → Prop} (M : OMet l y bytes maxL ret ws rm as' Z h0 Q) (f : ∀ v h L, Q v h L → Q' v h L) : OMet l y bytes maxL ret ws rm as' Z h0 Q' := by
  intro p e ha hc hk s m args below hf happ hP hK
  obtain ⟨n, o, h1, h2, h3, v, L, h4, h5, h6⟩ := M p e ha hc hk s m args below hf happ hP hK
  exact ⟨n, o, h1, h2, h3, v, L, h4, f _ _ _ h5, h6⟩
theorem own_end (X : Stand p l e R s m args below meth c T locs cells slots) (hlk : meth.locks = false) {v : Option Value} (hv : meth.sig.returnType = none → v = none) (hc : cells ≤ C) (hs : slots ≤ N) (hq : Q v T.heap locs) {A : State}
    (hst : ∀ fs : List Frame, (∀ (f : JFrame) (acts : List Action), f.method = m → f.locked = none → f.entered = [] → (doReturn e (T.setTop f) acts v).1 = T.setFrames fs) → Steps p.tables e below A (T.setFrames fs)) : Owes p e below (EndN s Q C N) A := by
  obtain ⟨fs, hr, hrun, hended, hW, hsame⟩ := X.leave hv hlk
  exact ⟨_, _, hst fs hr, hrun, hended, v, locs, rfl, hq, ⟨_, rfl⟩, hW, hsame.mono hc hs⟩
theorem Owes.retN (X : Stand p l e R s m args below meth c T locs cells slots) (hx : p.tables.exec = Jvm.exec) (hlk : meth.locks = false) {pc : Nat} {Ls : Array Slot} {z : Int32} {t : FieldType} {rest : List Value} (hret : meth.sig.returnType = some t) (ht : t = .boolean ∨ t = .byte ∨ t = .char ∨ t = .short)
    (hd : decode c.code pc = .ok (.ireturn, 1)) (hc : cells ≤ C) (hs : slots ≤ N) (hq : Q (some (.int (nar t z))) T.heap locs) : Owes p e below (EndN s Q C N) (T.setTop (mkF m pc Ls (.int z :: rest))) :=
  own_end X hlk (fun h => by rw [hret] at h; cases h) hc hs hq fun fs hr => Jvm.RoadKit.retN X hx hret ht hd hr
theorem Owes.retI (X : Stand p l e R s m args below meth c T locs cells slots) (hx : p.tables.exec = Jvm.exec) (hlk : meth.locks = false) {pc : Nat} {Ls : Array Slot} {z : Int32} {rest : List Value} (hret : meth.sig.returnType = some .int)
    (hd : decode c.code pc = .ok (.ireturn, 1)) (hc : cells ≤ C) (hs : slots ≤ N) (hq : Q (some (.int z)) T.heap locs) : Owes p e below (EndN s Q C N) (T.setTop (mkF m pc Ls (.int z :: rest))) :=
  own_end X hlk (fun h => by rw [hret] at h; cases h) hc hs hq fun fs hr => Jvm.RoadKit.retOut X hx hret rfl (Or.inl ⟨rfl, Or.inl rfl, _, rfl⟩) hd hr
theorem Owes.retJ (X : Stand p l e R s m args below meth c T locs cells slots) (hx : p.tables.exec = Jvm.exec) (hlk : meth.locks = false) {pc : Nat} {Ls : Array Slot} {z : Int64} {rest : List Value} (hret : meth.sig.returnType = some .long)
    (hd : decode c.code pc = .ok (.lreturn, 1)) (hc : cells ≤ C) (hs : slots ≤ N) (hq : Q (some (.long z)) T.heap locs) : Owes p e below (EndN s Q C N) (T.setTop (mkF m pc Ls (.long z :: rest))) :=
  own_end X hlk (fun h => by rw [hret] at h; cases h) hc hs hq fun fs hr => Jvm.RoadKit.retOut X hx hret rfl (Or.inr (Or.inl ⟨rfl, rfl, _, rfl⟩)) hd hr
theorem Owes.retA (X : Stand p l e R s m args below meth c T locs cells slots) (hx : p.tables.exec = Jvm.exec) (hlk : meth.locks = false) {pc : Nat} {Ls : Array Slot} {w : Value} {t : FieldType} {rest : List Value} (hret : meth.sig.returnType = some t) (ht : t.isReference = true) (hn : narrow t w = w) (hw : w.isRef = true)
    (hd : decode c.code pc = .ok (.areturn, 1)) (hc : cells ≤ C) (hs : slots ≤ N) (hq : Q (some w) T.heap locs) : Owes p e below (EndN s Q C N) (T.setTop (mkF m pc Ls (w :: rest))) :=
  own_end X hlk (fun h => by rw [hret] at h; cases h) hc hs hq fun fs hr => Jvm.RoadKit.retOut X hx hret hn (Or.inr (Or.inr (Or.inr (Or.inr ⟨rfl, ht, hw⟩)))) hd hr
theorem Owes.retV (X : Stand p l e R s m args below meth c T locs cells slots) (hx : p.tables.exec = Jvm.exec) (hlk : meth.locks = false) {pc : Nat} {Ls : Array Slot} (hret : meth.sig.returnType = none)
    (hd : decode c.code pc = .ok (.return_, 1)) (hc : cells ≤ C) (hs : slots ≤ N) (hq : Q none T.heap locs) : Owes p e below (EndN s Q C N) (T.setTop (mkF m pc Ls [])) :=
  own_end X hlk (fun _ => rfl) hc hs hq fun fs hr => X.returnOut hx hret hd hr
/-- a static method by its contract -/
theorem Owes.callS (X : Stand p l e R s m args below meth c T locs cells slots) (hx : p.tables.exec = Jvm.exec) (hZ : Z.Warmed39 s.vm) {own : String} {index : Nat} {y : MethodName} {bytes : ByteArray} {maxL : Nat} {ret : Option FieldType} {rm : Room}
    (hown : s.vm.findClass own = some m.cls) (w1 : (Cond.methodLink own index y).before a0 Z = true) (w2 : (Cond.static y).before a0 Z = true) (w3 : (Cond.initialized y.cls).before a0 Z = true) (w4 : (Cond.code y bytes maxL ret).before a0 Z = true)
    (hy : y.cls ≠ "java/lang/invoke/MethodHandle" ∧ y.cls ≠ "java/lang/invoke/VarHandle") {pc : Nat} {Ls : Array Slot} {argsL rest : List Value} {Q' : Option Value → Heap → List Loc → Prop} (M : OMet l y bytes maxL ret [] rm argsL.toArray Z h Q') (eT : T.heap = h) (hsize : Ls.size = c.maxLocals)
    {ps : List FieldType} {rt : Option FieldType} (hpd : parseMethodDescriptor y.desc = some ⟨ps, rt⟩) (hln : argsL.length = ps.length) {st : List Value} (hst : st = argsL.reverse ++ rest) (hd : decode c.code pc = .ok (.invokestatic index, 3))
    (hf : rm.frames + 1 ≤ R.frames) (hl : (rest.map fun v => v.category).sum + (maxL + 11) + rm.locals ≤ R.locals) (hcl : cells + rm.cells ≤ R.cells) (hsl : slots + rm.slots ≤ R.slots)
    (k : ∀ (T' : State) (v : Option Value) (L : List Loc), Stand p l e R s m args below meth c T' (locs ++ L) (cells + rm.cells) (slots + rm.slots) → Q' v T'.heap L → Owes p e below F (T'.setTop (mkF m (pc + 3) Ls (v.toList ++ rest)))) :
    Owes p e below F (T.setTop (mkF m pc Ls st)) := by
  subst hst
  obtain ⟨v, _, ⟨T3, L3, k3, n3⟩, -, X3, ⟨Lc3, hQ3, l3, y3, z3⟩, st3⟩ := Jvm.LawKit.callS X hx (y := y) hown (mvT hZ w1) (mvT hZ w2) (mvT hZ w3) (mvT hZ w4) hy (backOf (W := (rest.map fun v => v.category).sum) M hZ w4 w3 hf hl) (g := mkF m pc Ls (argsL.reverse ++ rest)) rfl hsize (argsL := argsL) (rest := rest) (lenOf hpd hln) rfl (by show 2 * 0 + _ ≤ _; omega) hd (fun _ _ => ⟨rfl, eT, hcl, hsl⟩)
  dsimp only [Pt.U, Pt.locs, Pt.cells, Pt.slots] at X3 l3 y3 z3 st3 hQ3
  subst l3 y3 z3
  exact (k T3 v Lc3 X3 hQ3).go st3
/-- a constructor by its contract -/
theorem Owes.callC (X : Stand p l e R s m args below meth c T locs cells slots) (hx : p.tables.exec = Jvm.exec) (hZ : Z.Warmed39 s.vm) {own : String} {index : Nat} {y : MethodName} {bytes : ByteArray} {maxL : Nat} {rm : Room} (hy1 : y.name = "<init>")
    (hown : s.vm.findClass own = some m.cls) (w1 : (Cond.methodLink own index y).before a0 Z = true) (w2 : (Cond.instanceMethod y).before a0 Z = true) (w3 : (Cond.initialized y.cls).before a0 Z = true) (w4 : (Cond.code y bytes maxL none).before a0 Z = true)
    (hy : y.cls ≠ "java/lang/invoke/MethodHandle" ∧ y.cls ≠ "java/lang/invoke/VarHandle") {pc : Nat} {Ls : Array Slot} {a : Addr} {argsL rest : List Value} {Q' : Option Value → Heap → List Loc → Prop} (M : OMet l y bytes maxL none [] rm (.ref a :: argsL).toArray Z h Q') (eT : T.heap = h) (hsize : Ls.size = c.maxLocals)
    {ps : List FieldType} {rt : Option FieldType} (hpd : parseMethodDescriptor y.desc = some ⟨ps, rt⟩) (hln : argsL.length = ps.length) {st : List Value} (hst : st = argsL.reverse ++ .ref a :: rest) (hd : decode c.code pc = .ok (.invokespecial index, 3))
    (hf : rm.frames + 1 ≤ R.frames) (hl : (rest.map fun v => v.category).sum + (maxL + 11) + rm.locals ≤ R.locals) (hcl : cells + rm.cells ≤ R.cells) (hsl : slots + rm.slots ≤ R.slots)
    (k : ∀ (T' : State) (v : Option Value) (L : List Loc), Stand p l e R s m args below meth c T' (locs ++ L) (cells + rm.cells) (slots + rm.slots) → Q' v T'.heap L → Owes p e below F (T'.setTop (mkF m (pc + 3) Ls (v.toList ++ rest)))) :
    Owes p e below F (T.setTop (mkF m pc Ls st)) := by
  subst hst
  obtain ⟨v, _, ⟨T3, L3, k3, n3⟩, -, X3, ⟨Lc3, hQ3, l3, y3, z3⟩, st3⟩ := X.specialBack hx (y := y) hy1 hown (mvT hZ w1) (mvT hZ w2) (mvT hZ w4) hy (backOf (W := (rest.map fun v => v.category).sum) M hZ w4 w3 hf hl) (g := mkF m pc Ls (argsL.reverse ++ .ref a :: rest)) rfl hsize (Steps.refl _) (a := a) (argsL := argsL) (rest := rest) (lenOf hpd hln) rfl (by show 2 * 0 + _ ≤ _; omega) hd (fun _ _ => ⟨rfl, eT, hcl, hsl⟩)
  dsimp only [Pt.U, Pt.locs, Pt.cells, Pt.slots] at X3 l3 y3 z3 st3 hQ3
  subst l3 y3 z3
  exact (k T3 v Lc3 X3 hQ3).tr st3
/-- an instance method by the contract of the body that the receiver's class selects -/
theorem Owes.callV (X : Stand p l e R s m args below meth c T locs cells slots) (hx : p.tables.exec = Jvm.exec) (hZ : Z.Warmed39 s.vm) {own CR : String} {index : Nat} {y z : MethodName} {bytes : ByteArray} {maxL : Nat} {ret : Option FieldType} {rm : Room}
    (hown : s.vm.findClass own = some m.cls) (w1 : (Cond.methodLink own index y).before a0 Z = true) (w2 : (Cond.declares y).before a0 Z = true) (hnf : NotFace s y) (w5 : (Cond.selects CR y z).before a0 Z = true) (w6 : (Cond.instanceMethod z).before a0 Z = true) (w3 : (Cond.initialized z.cls).before a0 Z = true) (w4 : (Cond.code z bytes maxL ret).before a0 Z = true)
    (hy : y.cls ≠ "java/lang/invoke/MethodHandle" ∧ y.cls ≠ "java/lang/invoke/VarHandle") {pc : Nat} {Ls : Array Slot} {a : Addr} {argsL rest : List Value} {Q' : Option Value → Heap → List Loc → Prop} (M : OMet l z bytes maxL ret [] rm (.ref a :: argsL).toArray Z h Q') (eT : T.heap = h) (E : Exa Z h a CR) (hsize : Ls.size = c.maxLocals)
    {ps : List FieldType} {rt : Option FieldType} (hpd : parseMethodDescriptor y.desc = some ⟨ps, rt⟩) (hln : argsL.length = ps.length) {st : List Value} (hst : st = argsL.reverse ++ .ref a :: rest) (hd : decode c.code pc = .ok (.invokevirtual index, 3))
    (hf : rm.frames + 1 ≤ R.frames) (hl : (rest.map fun v => v.category).sum + (maxL + 11) + rm.locals ≤ R.locals) (hcl : cells + rm.cells ≤ R.cells) (hsl : slots + rm.slots ≤ R.slots)
    (k : ∀ (T' : State) (v : Option Value) (L : List Loc), Stand p l e R s m args below meth c T' (locs ++ L) (cells + rm.cells) (slots + rm.slots) → Q' v T'.heap L → Owes p e below F (T'.setTop (mkF m (pc + 3) Ls (v.toList ++ rest)))) :
    Owes p e below F (T.setTop (mkF m pc Ls st)) := by
  subst hst
  obtain ⟨cq, kq, qa, qb, qc⟩ := isOf hZ eT E
  obtain ⟨v, _, ⟨T3, L3, k3, n3⟩, -, X3, ⟨Lc3, hQ3, l3, y3, z3⟩, st3⟩ := X.virtualBack hx (y := y) (z := z) hown (mvT hZ w1) (mvT hZ w2) hnf (mvT hZ w5) (mvT hZ w6) hy (backOf (W := (rest.map fun v => v.category).sum) M hZ w4 w3 hf hl) qa qc (g := mkF m pc Ls (argsL.reverse ++ .ref a :: rest)) rfl hsize (Steps.refl _) (argsL := argsL) (rest := rest) (lenOf hpd hln) rfl (by show 2 * 0 + _ ≤ _; omega) hd (fun _ _ => ⟨rfl, eT, hcl, hsl⟩)
  dsimp only [Pt.U, Pt.locs, Pt.cells, Pt.slots] at X3 l3 y3 z3 st3 hQ3
  subst l3 y3 z3
  exact (k T3 v Lc3 X3 hQ3).tr st3
/-- a private method by its contract -/
theorem Owes.callP (X : Stand p l e R s m args below meth c T locs cells slots) (hx : p.tables.exec = Jvm.exec) (hZ : Z.Warmed39 s.vm) {own CR : String} {index : Nat} {y : MethodName} {bytes : ByteArray} {maxL : Nat} {ret : Option FieldType} {rm : Room}
    (hown : s.vm.findClass own = some m.cls) (w1 : (Cond.methodLink own index y).before a0 Z = true) (w2 : (Cond.instanceMethod y).before a0 Z = true) (w5 : (Cond.selects y.cls y y).before a0 Z = true) (w6 : (Cond.privateMethod y).before a0 Z = true) (w3 : (Cond.initialized y.cls).before a0 Z = true) (w4 : (Cond.code y bytes maxL ret).before a0 Z = true)
    (hy : y.cls ≠ "java/lang/invoke/MethodHandle" ∧ y.cls ≠ "java/lang/invoke/VarHandle") {pc : Nat} {Ls : Array Slot} {a : Addr} {argsL rest : List Value} {Q' : Option Value → Heap → List Loc → Prop} (M : OMet l y bytes maxL ret [] rm (.ref a :: argsL).toArray Z h Q') (eT : T.heap = h) (E : Exa Z h a CR) (hsize : Ls.size = c.maxLocals)
    {ps : List FieldType} {rt : Option FieldType} (hpd : parseMethodDescriptor y.desc = some ⟨ps, rt⟩) (hln : argsL.length = ps.length) {st : List Value} (hst : st = argsL.reverse ++ .ref a :: rest) (hd : decode c.code pc = .ok (.invokevirtual index, 3))
    (hf : rm.frames + 1 ≤ R.frames) (hl : (rest.map fun v => v.category).sum + (maxL + 11) + rm.locals ≤ R.locals) (hcl : cells + rm.cells ≤ R.cells) (hsl : slots + rm.slots ≤ R.slots)
    (k : ∀ (T' : State) (v : Option Value) (L : List Loc), Stand p l e R s m args below meth c T' (locs ++ L) (cells + rm.cells) (slots + rm.slots) → Q' v T'.heap L → Owes p e below F (T'.setTop (mkF m (pc + 3) Ls (v.toList ++ rest)))) :
    Owes p e below F (T.setTop (mkF m pc Ls st)) := by
  subst hst
  obtain ⟨cq, q1, q2⟩ := E.cell
  obtain ⟨v, _, ⟨T3, L3, k3, n3⟩, -, X3, ⟨Lc3, hQ3, l3, y3, z3⟩, st3⟩ := X.privateBack hx (y := y) hown (mvT hZ w1) (mvT hZ w2) (mvT hZ w5) (Cond.privateMethod_at (mvP hZ w6 (args := #[]))) (mvT hZ w4) hy (backOf (W := (rest.map fun v => v.category).sum) M hZ w4 w3 hf hl) (g := mkF m pc Ls (argsL.reverse ++ .ref a :: rest)) rfl hsize (Steps.refl _) (a := a) (by rw [eT]; exact q1) q2 (argsL := argsL) (rest := rest) (lenOf hpd hln) rfl (by show 2 * 0 + _ ≤ _; omega) hd (fun _ _ => ⟨rfl, eT, hcl, hsl⟩)
  dsimp only [Pt.U, Pt.locs, Pt.cells, Pt.slots] at X3 l3 y3 z3 st3 hQ3
  subst l3 y3 z3
  exact (k T3 v Lc3 X3 hQ3).tr st3
theorem Owes.alen (X : Stand p l e R s m args below meth c T locs cells slots) (hx : p.tables.exec = Jvm.exec) (hZ : Z.Warmed39 s.vm) (eT : T.heap = h) {a : Addr} {cl : Cell} {ty : FieldType} (A : Arr Z h a cl ty) {z : Int32} (hn : cl.slots.size.toInt32 = z) {pc : Nat} {Ls : Array Slot} {rest : List Value}
    (hd : decode c.code pc = .ok (.arraylength, 1)) (k : Owes p e below F (T.setTop (mkF m (pc + 1) Ls (.int z :: rest)))) : Owes p e below F (T.setTop (mkF m pc Ls (.ref a :: rest))) := by
  subst hn
  exact k.go fun t q => X.arraylength hx (by rw [eT]; exact A.1) (State.isArrayOf_alike hZ.alike A.2.1) (g := mkF m pc Ls (.ref a :: rest)) rfl rfl hd _ q
theorem Owes.aldI (X : Stand p l e R s m args below meth c T locs cells slots) (hx : p.tables.exec = Jvm.exec) (hZ : Z.Warmed39 s.vm) (eT : T.heap = h) {a : Addr} {cl : Cell} (A : Arr Z h a cl .int) {j : Int32} {v : Value} (hin : ¬ (j < 0 ∨ cl.slots.size ≤ j.toNatClampNeg)) (hat : cl.slots[j.toNatClampNeg]? = some v) {pc : Nat} {Ls : Array Slot} {rest : List Value}
    (hd : decode c.code pc = .ok (.iaload, 1)) (k : Owes p e below F (T.setTop (mkF m (pc + 1) Ls (v :: rest)))) : Owes p e below F (T.setTop (mkF m pc Ls (.int j :: .ref a :: rest))) :=
  k.go fun t q => X.iaload hx (by rw [eT]; exact A.1) (State.isArrayOf_alike hZ.alike A.2.1) A.2.2 hin hat (g := mkF m pc Ls (.int j :: .ref a :: rest)) rfl rfl hd _ q
theorem Owes.aldJ (X : Stand p l e R s m args below meth c T locs cells slots) (hx : p.tables.exec = Jvm.exec) (hZ : Z.Warmed39 s.vm) (eT : T.heap = h) {a : Addr} {cl : Cell} (A : Arr Z h a cl .long) {j : Int32} {v : Value} (hin : ¬ (j < 0 ∨ cl.slots.size ≤ j.toNatClampNeg)) (hat : cl.slots[j.toNatClampNeg]? = some v) {pc : Nat} {Ls : Array Slot} {rest : List Value}
    (hd : decode c.code pc = .ok (.laload, 1)) (k : Owes p e below F (T.setTop (mkF m (pc + 1) Ls (v :: rest)))) : Owes p e below F (T.setTop (mkF m pc Ls (.int j :: .ref a :: rest))) :=
  k.go fun t q => X.laload hx (by rw [eT]; exact A.1) (State.isArrayOf_alike hZ.alike A.2.1) A.2.2 hin hat (g := mkF m pc Ls (.int j :: .ref a :: rest)) rfl rfl hd _ q
theorem Owes.aldC (X : Stand p l e R s m args below meth c T locs cells slots) (hx : p.tables.exec = Jvm.exec) (hZ : Z.Warmed39 s.vm) (eT : T.heap = h) {a : Addr} {cl : Cell} (A : Arr Z h a cl .char) {j : Int32} {v : Value} (hin : ¬ (j < 0 ∨ cl.slots.size ≤ j.toNatClampNeg)) (hat : cl.slots[j.toNatClampNeg]? = some v) {pc : Nat} {Ls : Array Slot} {rest : List Value}
    (hd : decode c.code pc = .ok (.caload, 1)) (k : Owes p e below F (T.setTop (mkF m (pc + 1) Ls (v :: rest)))) : Owes p e below F (T.setTop (mkF m pc Ls (.int j :: .ref a :: rest))) :=
  k.go fun t q => X.caload hx (by rw [eT]; exact A.1) (State.isArrayOf_alike hZ.alike A.2.1) A.2.2 hin hat (g := mkF m pc Ls (.int j :: .ref a :: rest)) rfl rfl hd _ q
theorem Owes.aldZ (X : Stand p l e R s m args below meth c T locs cells slots) (hx : p.tables.exec = Jvm.exec) (hZ : Z.Warmed39 s.vm) (eT : T.heap = h) {a : Addr} {cl : Cell} (A : Arr Z h a cl .boolean) {j : Int32} {v : Value} (hin : ¬ (j < 0 ∨ cl.slots.size ≤ j.toNatClampNeg)) (hat : cl.slots[j.toNatClampNeg]? = some v) {pc : Nat} {Ls : Array Slot} {rest : List Value}
    (hd : decode c.code pc = .ok (.baload, 1)) (k : Owes p e below F (T.setTop (mkF m (pc + 1) Ls (v :: rest)))) : Owes p e below F (T.setTop (mkF m pc Ls (.int j :: .ref a :: rest))) :=
  k.go fun t q => X.baloadBooleans hx (by rw [eT]; exact A.1) (State.isArrayOf_alike hZ.alike A.2.1) A.2.2 hin hat (g := mkF m pc Ls (.int j :: .ref a :: rest)) rfl rfl hd _ q
theorem Owes.aldB (X : Stand p l e R s m args below meth c T locs cells slots) (hx : p.tables.exec = Jvm.exec) (hZ : Z.Warmed39 s.vm) (eT : T.heap = h) {a : Addr} {cl : Cell} (A : Arr Z h a cl .byte) {j : Int32} {v : Value} (hin : ¬ (j < 0 ∨ cl.slots.size ≤ j.toNatClampNeg)) (hat : cl.slots[j.toNatClampNeg]? = some v) {pc : Nat} {Ls : Array Slot} {rest : List Value}
    (hd : decode c.code pc = .ok (.baload, 1)) (k : Owes p e below F (T.setTop (mkF m (pc + 1) Ls (v :: rest)))) : Owes p e below F (T.setTop (mkF m pc Ls (.int j :: .ref a :: rest))) :=
  k.go fun t q => X.baloadBytes hx (by rw [eT]; exact A.1) (State.isArrayOf_alike hZ.alike A.2.1) A.2.2 hin hat (g := mkF m pc Ls (.int j :: .ref a :: rest)) rfl rfl hd _ q
theorem Owes.aldR (X : Stand p l e R s m args below meth c T locs cells slots) (hx : p.tables.exec = Jvm.exec) (hZ : Z.Warmed39 s.vm) (eT : T.heap = h) {a : Addr} {cl : Cell} {ty : FieldType} (A : Arr Z h a cl ty) (hty : ty.isReference = true) {j : Int32} {v : Value} (hin : ¬ (j < 0 ∨ cl.slots.size ≤ j.toNatClampNeg)) (hat : cl.slots[j.toNatClampNeg]? = some v) {pc : Nat} {Ls : Array Slot} {rest : List Value}
    (hd : decode c.code pc = .ok (.aaload, 1)) (k : Owes p e below F (T.setTop (mkF m (pc + 1) Ls (v :: rest)))) : Owes p e below F (T.setTop (mkF m pc Ls (.int j :: .ref a :: rest))) :=
  k.go fun t q => X.aaload hx (by rw [eT]; exact A.1) (State.isArrayOf_alike hZ.alike A.2.1) hty A.2.2 hin hat (g := mkF m pc Ls (.int j :: .ref a :: rest)) rfl rfl hd _ q
theorem own_eqI {first : State} {o : Option Outcome} {idx : List Nat} {t : Term} {k : Int32} (q : (Cond.eq t (.int k)).value args first o s idx = some true) : t.eval args first o idx s = some (.int k) := by
  simp only [Cond.value, Term.eval] at q
  cases hv : t.eval args first o idx s with
  | none => simp [hv] at q
  | some v => cases v <;> simp_all
end Own
theorem d1_0 : decode prog_9_method_2_code 0 = .ok (.iload_n 0, 1) := by decide +kernel
theorem d1_1 : decode prog_9_method_2_code 1 = .ok (.ifCond .ge 17, 3) := by decide +kernel
theorem d1_18 : decode prog_9_method_2_code 18 = .ok (.lload_n 1, 1) := by decide +kernel
theorem d1_19 : decode prog_9_method_2_code 19 = .ok (.ldc2_w 18, 3) := by decide +kernel
theorem d1_22 : decode prog_9_method_2_code 22 = .ok (.land, 1) := by decide +kernel
theorem d1_23 : decode prog_9_method_2_code 23 = .ok (.lconst 0, 1) := by decide +kernel
theorem d1_24 : decode prog_9_method_2_code 24 = .ok (.lcmp, 1) := by decide +kernel
theorem d1_25 : decode prog_9_method_2_code 25 = .ok (.ifCond .eq 17, 3) := by decide +kernel
theorem d1_42 : decode prog_9_method_2_code 42 = .ok (.iload_n 0, 1) := by decide +kernel
theorem d1_43 : decode prog_9_method_2_code 43 = .ok (.i2l, 1) := by decide +kernel
theorem d1_44 : decode prog_9_method_2_code 44 = .ok (.bipush 32, 2) := by decide +kernel
theorem d1_46 : decode prog_9_method_2_code 46 = .ok (.lshl, 1) := by decide +kernel
theorem d1_47 : decode prog_9_method_2_code 47 = .ok (.lload_n 1, 1) := by decide +kernel
theorem d1_48 : decode prog_9_method_2_code 48 = .ok (.lor, 1) := by decide +kernel
theorem d1_49 : decode prog_9_method_2_code 49 = .ok (.lreturn, 1) := by decide +kernel
def f_of (p0 : Int32) (q1 : Int64)  : Int64 := (((p0.toInt64) <<< ((32 : Int32) &&& 0x3f).toInt64) ||| q1)
theorem ef_1_f_of (m : MethodId) (p0 : Int32) (q1 : Int64) : entryFrame m #[(.int p0), (.long q1)] 3 = mkF m 0 #[.val (.int p0), .val (.long q1), .second] [] := by first | (simp [entryFrame, mkF, argsToLocals, Value.category]; done) | rfl
theorem pn_1 : plainFor (⟨"com/example/herring/herring/txn/Zxid", "of", "(IJ)J"⟩ : MethodName) = true := plainFor_of_name (by first | (simp [plainName, overriddenIn]; done) | decide +kernel)
set_option maxRecDepth 65536 in
set_option maxHeartbeats 40000000 in
theorem rm_f_of (l : Launch) (Z : State) (a0 : Array Value) (hw : ∀ d ∈ tables_1, d.before a0 Z = true) (ws : List Jvm.Cond) (p0 : Int32) (q1 : Int64) (h0 : Heap) (hp : ¬ (p0 < (0 : Int32))) (hq : (q1 &&& (-4294967296 : Int64)) = (0 : Int64)) :
    OMet l (⟨"com/example/herring/herring/txn/Zxid", "of", "(IJ)J"⟩ : MethodName) prog_9_method_2_code 3 (some .long) ws ({ frames := 0, cells := 0, slots := 0, locals := 0 } : Room) #[(.int p0), (.long q1)] Z h0 (fun v h L => v = some (Value.long (f_of p0 q1)) ∧ L = [] ∧ h = h0) := by
  refine OMet.of pn_1 (fun m => ef_1_f_of m p0 q1) ?_
  intro p e s m below meth c s₁ hx hby hml hown hnm hret hlk hZ X0 e0
  refine Owes.go ?_ fun t k => XS.iloadN X0.here hx rfl (hb hby d1_0) rfl k
  show Owes _ _ _ _ (s₁.setTop (mkF m 1 #[.val (.int p0), .val (.long q1), .second] [(.int p0)]))
  refine Owes.go ?_ fun t k => XS.ifYes X0.here hx rfl (pc0 := 1) (pc' := 18) rfl (hb hby d1_1) rfl ((if0 _ _).trans (flt hp).2.1) (by decide) (by decide) k
  show Owes _ _ _ _ (s₁.setTop (mkF m 18 #[.val (.int p0), .val (.long q1), .second] []))
  refine Owes.go ?_ fun t k => XS.lloadN X0.here hx rfl (hb hby d1_18) rfl k
  show Owes _ _ _ _ (s₁.setTop (mkF m 19 #[.val (.int p0), .val (.long q1), .second] [(.long q1)]))
  refine Owes.go ?_ fun t k => X0.ldc2Long hx hown (mvT hZ (hw _ (List.mem_of_getElem? (i := 6) rfl))) (g := (mkF m 19 #[.val (.int p0), .val (.long q1), .second] [(.long q1)])) rfl (hb hby d1_19) _ k
  show Owes _ _ _ _ (s₁.setTop (mkF m 22 #[.val (.int p0), .val (.long q1), .second] [(.long (-4294967296 : Int64)), (.long q1)]))
  refine Owes.go ?_ fun t k => XS.land X0.here hx rfl (hb hby d1_22) rfl k
  show Owes _ _ _ _ (s₁.setTop (mkF m 23 #[.val (.int p0), .val (.long q1), .second] [(.long (q1 &&& (-4294967296 : Int64)))]))
  refine Owes.go ?_ fun t k => XS.lconst X0.here hx rfl (hb hby d1_23) k
  show Owes _ _ _ _ (s₁.setTop (mkF m 24 #[.val (.int p0), .val (.long q1), .second] [(.long (0 : Int64)), (.long (q1 &&& (-4294967296 : Int64)))]))
  refine Owes.go ?_ fun t k => XS.lcmp X0.here hx rfl (hb hby d1_24) rfl k
  show Owes _ _ _ _ (s₁.setTop (mkF m 25 #[.val (.int p0), .val (.long q1), .second] [(.int (lcmpW (q1 &&& (-4294967296 : Int64)) (0 : Int64)))]))
  refine Owes.go ?_ fun t k => XS.ifYes X0.here hx rfl (pc0 := 25) (pc' := 42) rfl (hb hby d1_25) rfl ((if0 _ _).trans (teq ((lw_eq _ _).mpr hq)).1) (by decide) (by decide) k
  show Owes _ _ _ _ (s₁.setTop (mkF m 42 #[.val (.int p0), .val (.long q1), .second] []))
  refine Owes.go ?_ fun t k => XS.iloadN X0.here hx rfl (hb hby d1_42) rfl k
  show Owes _ _ _ _ (s₁.setTop (mkF m 43 #[.val (.int p0), .val (.long q1), .second] [(.int p0)]))
  refine Owes.go ?_ fun t k => XS.i2l X0.here hx rfl (hb hby d1_43) rfl k
  show Owes _ _ _ _ (s₁.setTop (mkF m 44 #[.val (.int p0), .val (.long q1), .second] [(.long (p0.toInt64))]))
  refine Owes.go ?_ fun t k => XS.bipush X0.here hx rfl (hb hby d1_44) k
  show Owes _ _ _ _ (s₁.setTop (mkF m 46 #[.val (.int p0), .val (.long q1), .second] [(.int (32 : Int32)), (.long (p0.toInt64))]))
  refine Owes.go ?_ fun t k => XS.lshl X0.here hx rfl (hb hby d1_46) rfl k
  show Owes _ _ _ _ (s₁.setTop (mkF m 47 #[.val (.int p0), .val (.long q1), .second] [(.long ((p0.toInt64) <<< ((32 : Int32) &&& 0x3f).toInt64))]))
  refine Owes.go ?_ fun t k => XS.lloadN X0.here hx rfl (hb hby d1_47) rfl k
  show Owes _ _ _ _ (s₁.setTop (mkF m 48 #[.val (.int p0), .val (.long q1), .second] [(.long q1), (.long ((p0.toInt64) <<< ((32 : Int32) &&& 0x3f).toInt64))]))
  refine Owes.go ?_ fun t k => XS.lor X0.here hx rfl (hb hby d1_48) rfl k
  show Owes _ _ _ _ (s₁.setTop (mkF m 49 #[.val (.int p0), .val (.long q1), .second] [(.long (((p0.toInt64) <<< ((32 : Int32) &&& 0x3f).toInt64) ||| q1))]))
  exact Owes.retJ X0 hx hlk hret (hb hby d1_49) (by decide) (by decide) ⟨congrArg (fun z => some (Value.long z)) (by unfold f_of; first | done | rfl), rfl, e0⟩
theorem d2_0 : decode prog_9_method_3_code 0 = .ok (.lload_n 0, 1) := by decide +kernel
theorem d2_1 : decode prog_9_method_3_code 1 = .ok (.bipush 32, 2) := by decide +kernel
theorem d2_3 : decode prog_9_method_3_code 3 = .ok (.lushr, 1) := by decide +kernel
theorem d2_4 : decode prog_9_method_3_code 4 = .ok (.l2i, 1) := by decide +kernel
theorem d2_5 : decode prog_9_method_3_code 5 = .ok (.ireturn, 1) := by decide +kernel
def f_ep (q0 : Int64)  : Int32 := (((q0.toUInt64 >>> ((32 : Int32) &&& 0x3f).toInt64.toUInt64).toInt64).toInt32)
theorem ef_2_f_ep (m : MethodId) (q0 : Int64) : entryFrame m #[(.long q0)] 2 = mkF m 0 #[.val (.long q0), .second] [] := by first | (simp [entryFrame, mkF, argsToLocals, Value.category]; done) | rfl
theorem pn_2 : plainFor (⟨"com/example/herring/herring/txn/Zxid", "epoch", "(J)I"⟩ : MethodName) = true := plainFor_of_name (by first | (simp [plainName, overriddenIn]; done) | decide +kernel)
set_option maxRecDepth 65536 in
set_option maxHeartbeats 40000000 in
theorem rm_f_ep (l : Launch) (Z : State) (a0 : Array Value) (hw : ∀ d ∈ tables_1, d.before a0 Z = true) (ws : List Jvm.Cond) (q0 : Int64) (h0 : Heap)  :
    OMet l (⟨"com/example/herring/herring/txn/Zxid", "epoch", "(J)I"⟩ : MethodName) prog_9_method_3_code 2 (some .int) ws ({ frames := 0, cells := 0, slots := 0, locals := 0 } : Room) #[(.long q0)] Z h0 (fun v h L => v = some (Value.int (f_ep q0)) ∧ L = [] ∧ h = h0) := by
  refine OMet.of pn_2 (fun m => ef_2_f_ep m q0) ?_
  intro p e s m below meth c s₁ hx hby hml hown hnm hret hlk hZ X0 e0
  refine Owes.go ?_ fun t k => XS.lloadN X0.here hx rfl (hb hby d2_0) rfl k
  show Owes _ _ _ _ (s₁.setTop (mkF m 1 #[.val (.long q0), .second] [(.long q0)]))
  refine Owes.go ?_ fun t k => XS.bipush X0.here hx rfl (hb hby d2_1) k
  show Owes _ _ _ _ (s₁.setTop (mkF m 3 #[.val (.long q0), .second] [(.int (32 : Int32)), (.long q0)]))
  refine Owes.go ?_ fun t k => XS.lushr X0.here hx rfl (hb hby d2_3) rfl k
  show Owes _ _ _ _ (s₁.setTop (mkF m 4 #[.val (.long q0), .second] [(.long ((q0.toUInt64 >>> ((32 : Int32) &&& 0x3f).toInt64.toUInt64).toInt64))]))
  refine Owes.go ?_ fun t k => XS.l2i X0.here hx rfl (hb hby d2_4) rfl k
  show Owes _ _ _ _ (s₁.setTop (mkF m 5 #[.val (.long q0), .second] [(.int (((q0.toUInt64 >>> ((32 : Int32) &&& 0x3f).toInt64.toUInt64).toInt64).toInt32))]))
  exact Owes.retI X0 hx hlk hret (hb hby d2_5) (by decide) (by decide) ⟨congrArg (fun z => some (Value.int z)) (by unfold f_ep; first | done | rfl), rfl, e0⟩
theorem d3_0 : decode prog_9_method_4_code 0 = .ok (.lload_n 0, 1) := by decide +kernel
theorem d3_1 : decode prog_9_method_4_code 1 = .ok (.ldc2_w 23, 3) := by decide +kernel
theorem d3_4 : decode prog_9_method_4_code 4 = .ok (.land, 1) := by decide +kernel
theorem d3_5 : decode prog_9_method_4_code 5 = .ok (.lreturn, 1) := by decide +kernel
def f_co (q0 : Int64)  : Int64 := (q0 &&& (4294967295 : Int64))
theorem ef_3_f_co (m : MethodId) (q0 : Int64) : entryFrame m #[(.long q0)] 2 = mkF m 0 #[.val (.long q0), .second] [] := by first | (simp [entryFrame, mkF, argsToLocals, Value.category]; done) | rfl
theorem pn_3 : plainFor (⟨"com/example/herring/herring/txn/Zxid", "counter", "(J)J"⟩ : MethodName) = true := plainFor_of_name (by first | (simp [plainName, overriddenIn]; done) | decide +kernel)
set_option maxRecDepth 65536 in
set_option maxHeartbeats 40000000 in
theorem rm_f_co (l : Launch) (Z : State) (a0 : Array Value) (hw : ∀ d ∈ tables_1, d.before a0 Z = true) (ws : List Jvm.Cond) (q0 : Int64) (h0 : Heap)  :
    OMet l (⟨"com/example/herring/herring/txn/Zxid", "counter", "(J)J"⟩ : MethodName) prog_9_method_4_code 2 (some .long) ws ({ frames := 0, cells := 0, slots := 0, locals := 0 } : Room) #[(.long q0)] Z h0 (fun v h L => v = some (Value.long (f_co q0)) ∧ L = [] ∧ h = h0) := by
  refine OMet.of pn_3 (fun m => ef_3_f_co m q0) ?_
  intro p e s m below meth c s₁ hx hby hml hown hnm hret hlk hZ X0 e0
  refine Owes.go ?_ fun t k => XS.lloadN X0.here hx rfl (hb hby d3_0) rfl k
  show Owes _ _ _ _ (s₁.setTop (mkF m 1 #[.val (.long q0), .second] [(.long q0)]))
  refine Owes.go ?_ fun t k => X0.ldc2Long hx hown (mvT hZ (hw _ (List.mem_of_getElem? (i := 14) rfl))) (g := (mkF m 1 #[.val (.long q0), .second] [(.long q0)])) rfl (hb hby d3_1) _ k
  show Owes _ _ _ _ (s₁.setTop (mkF m 4 #[.val (.long q0), .second] [(.long (4294967295 : Int64)), (.long q0)]))
  refine Owes.go ?_ fun t k => XS.land X0.here hx rfl (hb hby d3_4) rfl k
  show Owes _ _ _ _ (s₁.setTop (mkF m 5 #[.val (.long q0), .second] [(.long (q0 &&& (4294967295 : Int64)))]))
  exact Owes.retJ X0 hx hlk hret (hb hby d3_5) (by decide) (by decide) ⟨congrArg (fun z => some (Value.long z)) (by unfold f_co; first | done | rfl), rfl, e0⟩
theorem own_E (p0 : Int32) : (p0 &&& (2147483647 : Int32)).toInt = p0.toInt % 2147483648 := c_mask p0 2147483647 31 (by decide) (by decide)
theorem own_C (q1 : Int64) : (q1 &&& (4294967295 : Int64)).toInt = q1.toInt % 4294967296 := c_maskL q1 4294967295 32 (by decide) (by decide)
theorem own_1 (p0 : Int32) : ¬ ((p0 &&& (2147483647 : Int32)) < (0 : Int32)) := by
  have := own_E p0
  rw [Int32.lt_iff_toInt_lt, show (0 : Int32).toInt = 0 from rfl]; omega
theorem own_2 (q1 : Int64) : ((q1 &&& (4294967295 : Int64)) &&& (-4294967296 : Int64)) = (0 : Int64) := by
  rw [Int64.and_assoc, show ((4294967295 : Int64) &&& (-4294967296 : Int64)) = 0 from by decide, Int64.and_zero]
theorem own_of (p0 : Int32) (q1 : Int64) : (f_of (p0 &&& (2147483647 : Int32)) (q1 &&& (4294967295 : Int64))).toInt = (p0 &&& (2147483647 : Int32)).toInt * 4294967296 + (q1 &&& (4294967295 : Int64)).toInt := by
  unfold f_of
  have h0 := own_E p0
  have h0' := own_C q1
  generalize (p0 &&& (2147483647 : Int32)) = E at *
  generalize (q1 &&& (4294967295 : Int64)) = C at *
  have h1 := c_lshl E.toInt64 32 32 (by decide)
  have h2 := c_i2l E
  rw [h2] at h1
  generalize (E.toInt64 <<< ((32 : Int32) &&& 0x3f).toInt64) = S at *
  have r1 := rng64 S
  have h3 := c_orL S C 32 (by decide) 4294967296 (by decide) (by omega) (by omega) (by omega)
  have r2 := rng64 (S ||| C)
  omega
theorem own_ar (e : Int32) (c z k : Int64) (hk : k.toInt = 4294967296) (h : z.toInt = e.toInt * 4294967296 + c.toInt) (he : 0 ≤ e.toInt) (hc : 0 ≤ c.toInt ∧ c.toInt < 4294967296) : z = e.toInt64 * k + c := by
  apply Int64.toInt_inj.mp
  have h1 := c_i2l e
  have h2 := c_lmul e.toInt64 k
  have h3 := c_ladd (e.toInt64 * k) c
  rw [h1, hk] at h2
  have r1 := rng64 (e.toInt64 * k)
  have r2 := rng64 (e.toInt64 * k + c)
  have r3 := rng32 e
  generalize (e.toInt64 * k + c).toInt = B at *
  generalize (e.toInt64 * k).toInt = A at *
  generalize e.toInt = E at *
  generalize c.toInt = C at *
  have hA : A = E * 4294967296 := by omega
  omega
theorem own_3 (p0 : Int32) (q1 : Int64) : f_of (p0 &&& (2147483647 : Int32)) (q1 &&& (4294967295 : Int64)) = (p0 &&& (2147483647 : Int32)).toInt64 * (4294967296 : Int64) + (q1 &&& (4294967295 : Int64)) := by
  have h0 := own_E p0
  have h0' := own_C q1
  exact own_ar _ _ _ _ (by decide +kernel) (own_of p0 q1) (by omega) (by omega)
theorem own_4 (p0 : Int32) (q1 : Int64) : ¬ (f_of (p0 &&& (2147483647 : Int32)) (q1 &&& (4294967295 : Int64)) < (0 : Int64)) := by
  have h0 := own_E p0
  have h0' := own_C q1
  have h1 := own_of p0 q1
  rw [Int64.lt_iff_toInt_lt, show (0 : Int64).toInt = 0 from rfl]; omega
theorem own_5 (p0 : Int32) (q1 : Int64) : f_ep (f_of (p0 &&& (2147483647 : Int32)) (q1 &&& (4294967295 : Int64))) = (p0 &&& (2147483647 : Int32)) := by
  apply Int32.toInt_inj.mp
  unfold f_ep
  have h0 := own_E p0
  have h0' := own_C q1
  have h1 := own_of p0 q1
  have h2 := c_lushr (f_of (p0 &&& (2147483647 : Int32)) (q1 &&& (4294967295 : Int64))) 32 32 (by decide) (by decide)
  have h3 := c_l2i ((f_of (p0 &&& (2147483647 : Int32)) (q1 &&& (4294967295 : Int64))).toUInt64 >>> ((32 : Int32) &&& 0x3f).toInt64.toUInt64).toInt64
  have r1 := rng32 ((f_of (p0 &&& (2147483647 : Int32)) (q1 &&& (4294967295 : Int64))).toUInt64 >>> ((32 : Int32) &&& 0x3f).toInt64.toUInt64).toInt64.toInt32
  omega
theorem own_6 (p0 : Int32) (q1 : Int64) : f_co (f_of (p0 &&& (2147483647 : Int32)) (q1 &&& (4294967295 : Int64))) = (q1 &&& (4294967295 : Int64)) := by
  apply Int64.toInt_inj.mp
  unfold f_co
  have h0' := own_C q1
  have h1 := own_of p0 q1
  have h2 := own_C (f_of (p0 &&& (2147483647 : Int32)) (q1 &&& (4294967295 : Int64)))
  omega
theorem pd_0 : parseMethodDescriptor "(IJ)J" = some ⟨[.int, .long], some .long⟩ := by decide +kernel
theorem pd_1 : parseMethodDescriptor "(J)I" = some ⟨[.long], some .int⟩ := by decide +kernel
theorem pd_2 : parseMethodDescriptor "(J)J" = some ⟨[.long], some .long⟩ := by decide +kernel
def QL (n0 : Nat) (v : Option Value) (h : Heap) (L : List Loc) : Prop := v = some (.int 1) ∧ Fr n0 L
theorem ef_0 (m : MethodId) (p0 : Int32) (q1 : Int64) : entryFrame m #[(.int p0), (.long q1)] maxLocals = mkF m 0 #[.val (.int p0), .val (.long q1), .second, .unset, .unset, .unset, .unset, .unset, .unset, .unset] [] := by first | (simp [entryFrame, mkF, argsToLocals, Value.category, maxLocals]; done) | rfl
theorem pn_0 : plainFor (⟨"com/example/herring/herring/txn/ZxidOfPinLaw", "law", "(IJ)Z"⟩ : MethodName) = true := plainFor_of_name (by first | (simp [plainName, overriddenIn]; done) | decide +kernel)
set_option maxRecDepth 65536 in
set_option maxHeartbeats 40000000 in
theorem rm0 (l : Launch) (Z : State) (a0 : Array Value) (hw : ∀ d ∈ tables_1, d.before a0 Z = true) (ws : List Jvm.Cond) (p0 : Int32) (q1 : Int64) (h0 : Heap) (n0 : Nat) (Z0 : n0 ≤ h0.size)  :
    OMet l x code maxLocals ret ws room_1 #[(.int p0), (.long q1)] Z h0 (QL n0) := by
  have N0 := Fr.nil n0
  refine OMet.of pn_0 (fun m => ef_0 m p0 q1) ?_
  intro p e s m below meth c s₁ hx hby hml hown hnm hret hlk hZ X0 e0
  refine Owes.go ?_ fun t k => XS.iloadN X0.here hx rfl (hb hby at_0) rfl k
  show Owes _ _ _ _ (s₁.setTop (mkF m 1 #[.val (.int p0), .val (.long q1), .second, .unset, .unset, .unset, .unset, .unset, .unset, .unset] [(.int p0)]))
  refine Owes.go ?_ fun t k => X0.ldcInt hx hown (mvT hZ (hw _ (List.mem_of_getElem? (i := 0) rfl))) (g := (mkF m 1 #[.val (.int p0), .val (.long q1), .second, .unset, .unset, .unset, .unset, .unset, .unset, .unset] [(.int p0)])) rfl (hb hby at_1) _ k
  show Owes _ _ _ _ (s₁.setTop (mkF m 3 #[.val (.int p0), .val (.long q1), .second, .unset, .unset, .unset, .unset, .unset, .unset, .unset] [(.int (2147483647 : Int32)), (.int p0)]))
  refine Owes.go ?_ fun t k => XS.iand X0.here hx rfl (hb hby at_3) rfl k
  show Owes _ _ _ _ (s₁.setTop (mkF m 4 #[.val (.int p0), .val (.long q1), .second, .unset, .unset, .unset, .unset, .unset, .unset, .unset] [(.int (p0 &&& (2147483647 : Int32)))]))
  refine Owes.go ?_ fun t k => XS.istoreN X0.here hx rfl (hb hby at_4) rfl (l' := #[.val (.int p0), .val (.long q1), .second, .val (.int (p0 &&& (2147483647 : Int32))), .unset, .unset, .unset, .unset, .unset, .unset]) rfl k
  show Owes _ _ _ _ (s₁.setTop (mkF m 5 #[.val (.int p0), .val (.long q1), .second, .val (.int (p0 &&& (2147483647 : Int32))), .unset, .unset, .unset, .unset, .unset, .unset] []))
  refine Owes.go ?_ fun t k => XS.lloadN X0.here hx rfl (hb hby at_5) rfl k
  show Owes _ _ _ _ (s₁.setTop (mkF m 6 #[.val (.int p0), .val (.long q1), .second, .val (.int (p0 &&& (2147483647 : Int32))), .unset, .unset, .unset, .unset, .unset, .unset] [(.long q1)]))
  refine Owes.go ?_ fun t k => X0.ldc2Long hx hown (mvT hZ (hw _ (List.mem_of_getElem? (i := 1) rfl))) (g := (mkF m 6 #[.val (.int p0), .val (.long q1), .second, .val (.int (p0 &&& (2147483647 : Int32))), .unset, .unset, .unset, .unset, .unset, .unset] [(.long q1)])) rfl (hb hby at_6) _ k
  show Owes _ _ _ _ (s₁.setTop (mkF m 9 #[.val (.int p0), .val (.long q1), .second, .val (.int (p0 &&& (2147483647 : Int32))), .unset, .unset, .unset, .unset, .unset, .unset] [(.long (4294967295 : Int64)), (.long q1)]))
  refine Owes.go ?_ fun t k => XS.land X0.here hx rfl (hb hby at_9) rfl k
  show Owes _ _ _ _ (s₁.setTop (mkF m 10 #[.val (.int p0), .val (.long q1), .second, .val (.int (p0 &&& (2147483647 : Int32))), .unset, .unset, .unset, .unset, .unset, .unset] [(.long (q1 &&& (4294967295 : Int64)))]))
  refine Owes.go ?_ fun t k => XS.lstore X0.here hx rfl (hb hby at_10) rfl (l' := #[.val (.int p0), .val (.long q1), .second, .val (.int (p0 &&& (2147483647 : Int32))), .val (.long (q1 &&& (4294967295 : Int64))), .second, .unset, .unset, .unset, .unset]) rfl k
  show Owes _ _ _ _ (s₁.setTop (mkF m 12 #[.val (.int p0), .val (.long q1), .second, .val (.int (p0 &&& (2147483647 : Int32))), .val (.long (q1 &&& (4294967295 : Int64))), .second, .unset, .unset, .unset, .unset] []))
  refine Owes.go ?_ fun t k => XS.iloadN X0.here hx rfl (hb hby at_12) rfl k
  show Owes _ _ _ _ (s₁.setTop (mkF m 13 #[.val (.int p0), .val (.long q1), .second, .val (.int (p0 &&& (2147483647 : Int32))), .val (.long (q1 &&& (4294967295 : Int64))), .second, .unset, .unset, .unset, .unset] [(.int (p0 &&& (2147483647 : Int32)))]))
  refine Owes.go ?_ fun t k => XS.lload X0.here hx rfl (hb hby at_13) rfl k
  show Owes _ _ _ _ (s₁.setTop (mkF m 15 #[.val (.int p0), .val (.long q1), .second, .val (.int (p0 &&& (2147483647 : Int32))), .val (.long (q1 &&& (4294967295 : Int64))), .second, .unset, .unset, .unset, .unset] [(.long (q1 &&& (4294967295 : Int64))), (.int (p0 &&& (2147483647 : Int32)))]))
  refine Owes.callS X0 hx hZ hown (hw _ (List.mem_of_getElem? (i := 2) rfl)) (hw _ (List.mem_of_getElem? (i := 3) rfl)) (hw _ (List.mem_of_getElem? (i := 4) rfl)) (hw _ (List.mem_of_getElem? (i := 5) rfl)) (by decide) (argsL := [(.int (p0 &&& (2147483647 : Int32))), (.long (q1 &&& (4294967295 : Int64)))]) (rest := []) (rm_f_of l Z a0 hw [] (p0 &&& (2147483647 : Int32)) (q1 &&& (4294967295 : Int64)) h0 (own_1 p0) (own_2 q1)) e0 (by rw [hml]; rfl) pd_0 rfl rfl (hb hby at_15) (by decide) (Nat.le_of_ble_eq_true rfl) (by decide) (by decide) ?_
  rintro T1 _ _ X1 ⟨rfl, rfl, e1⟩
  rw [List.append_nil] at X1
  show Owes _ _ _ _ (T1.setTop (mkF m 18 #[.val (.int p0), .val (.long q1), .second, .val (.int (p0 &&& (2147483647 : Int32))), .val (.long (q1 &&& (4294967295 : Int64))), .second, .unset, .unset, .unset, .unset] [(.long (f_of (p0 &&& (2147483647 : Int32)) (q1 &&& (4294967295 : Int64))))]))
  refine Owes.go ?_ fun t k => XS.lstore X1.here hx rfl (hb hby at_18) rfl (l' := #[.val (.int p0), .val (.long q1), .second, .val (.int (p0 &&& (2147483647 : Int32))), .val (.long (q1 &&& (4294967295 : Int64))), .second, .val (.long (f_of (p0 &&& (2147483647 : Int32)) (q1 &&& (4294967295 : Int64)))), .second, .unset, .unset]) rfl k
  show Owes _ _ _ _ (T1.setTop (mkF m 20 #[.val (.int p0), .val (.long q1), .second, .val (.int (p0 &&& (2147483647 : Int32))), .val (.long (q1 &&& (4294967295 : Int64))), .second, .val (.long (f_of (p0 &&& (2147483647 : Int32)) (q1 &&& (4294967295 : Int64)))), .second, .unset, .unset] []))
  refine Owes.go ?_ fun t k => XS.iloadN X1.here hx rfl (hb hby at_20) rfl k
  show Owes _ _ _ _ (T1.setTop (mkF m 21 #[.val (.int p0), .val (.long q1), .second, .val (.int (p0 &&& (2147483647 : Int32))), .val (.long (q1 &&& (4294967295 : Int64))), .second, .val (.long (f_of (p0 &&& (2147483647 : Int32)) (q1 &&& (4294967295 : Int64)))), .second, .unset, .unset] [(.int (p0 &&& (2147483647 : Int32)))]))
  refine Owes.go ?_ fun t k => XS.i2l X1.here hx rfl (hb hby at_21) rfl k
  show Owes _ _ _ _ (T1.setTop (mkF m 22 #[.val (.int p0), .val (.long q1), .second, .val (.int (p0 &&& (2147483647 : Int32))), .val (.long (q1 &&& (4294967295 : Int64))), .second, .val (.long (f_of (p0 &&& (2147483647 : Int32)) (q1 &&& (4294967295 : Int64)))), .second, .unset, .unset] [(.long ((p0 &&& (2147483647 : Int32)).toInt64))]))
  refine Owes.go ?_ fun t k => X1.ldc2Long hx hown (mvT hZ (hw _ (List.mem_of_getElem? (i := 7) rfl))) (g := (mkF m 22 #[.val (.int p0), .val (.long q1), .second, .val (.int (p0 &&& (2147483647 : Int32))), .val (.long (q1 &&& (4294967295 : Int64))), .second, .val (.long (f_of (p0 &&& (2147483647 : Int32)) (q1 &&& (4294967295 : Int64)))), .second, .unset, .unset] [(.long ((p0 &&& (2147483647 : Int32)).toInt64))])) rfl (hb hby at_22) _ k
  show Owes _ _ _ _ (T1.setTop (mkF m 25 #[.val (.int p0), .val (.long q1), .second, .val (.int (p0 &&& (2147483647 : Int32))), .val (.long (q1 &&& (4294967295 : Int64))), .second, .val (.long (f_of (p0 &&& (2147483647 : Int32)) (q1 &&& (4294967295 : Int64)))), .second, .unset, .unset] [(.long (4294967296 : Int64)), (.long ((p0 &&& (2147483647 : Int32)).toInt64))]))
  refine Owes.go ?_ fun t k => XS.lmul X1.here hx rfl (hb hby at_25) rfl k
  show Owes _ _ _ _ (T1.setTop (mkF m 26 #[.val (.int p0), .val (.long q1), .second, .val (.int (p0 &&& (2147483647 : Int32))), .val (.long (q1 &&& (4294967295 : Int64))), .second, .val (.long (f_of (p0 &&& (2147483647 : Int32)) (q1 &&& (4294967295 : Int64)))), .second, .unset, .unset] [(.long (((p0 &&& (2147483647 : Int32)).toInt64) * (4294967296 : Int64)))]))
  refine Owes.go ?_ fun t k => XS.lload X1.here hx rfl (hb hby at_26) rfl k
  show Owes _ _ _ _ (T1.setTop (mkF m 28 #[.val (.int p0), .val (.long q1), .second, .val (.int (p0 &&& (2147483647 : Int32))), .val (.long (q1 &&& (4294967295 : Int64))), .second, .val (.long (f_of (p0 &&& (2147483647 : Int32)) (q1 &&& (4294967295 : Int64)))), .second, .unset, .unset] [(.long (q1 &&& (4294967295 : Int64))), (.long (((p0 &&& (2147483647 : Int32)).toInt64) * (4294967296 : Int64)))]))
  refine Owes.go ?_ fun t k => XS.ladd X1.here hx rfl (hb hby at_28) rfl k
  show Owes _ _ _ _ (T1.setTop (mkF m 29 #[.val (.int p0), .val (.long q1), .second, .val (.int (p0 &&& (2147483647 : Int32))), .val (.long (q1 &&& (4294967295 : Int64))), .second, .val (.long (f_of (p0 &&& (2147483647 : Int32)) (q1 &&& (4294967295 : Int64)))), .second, .unset, .unset] [(.long ((((p0 &&& (2147483647 : Int32)).toInt64) * (4294967296 : Int64)) + (q1 &&& (4294967295 : Int64))))]))
  refine Owes.go ?_ fun t k => XS.lstore X1.here hx rfl (hb hby at_29) rfl (l' := #[.val (.int p0), .val (.long q1), .second, .val (.int (p0 &&& (2147483647 : Int32))), .val (.long (q1 &&& (4294967295 : Int64))), .second, .val (.long (f_of (p0 &&& (2147483647 : Int32)) (q1 &&& (4294967295 : Int64)))), .second, .val (.long ((((p0 &&& (2147483647 : Int32)).toInt64) * (4294967296 : Int64)) + (q1 &&& (4294967295 : Int64)))), .second]) rfl k
  show Owes _ _ _ _ (T1.setTop (mkF m 31 #[.val (.int p0), .val (.long q1), .second, .val (.int (p0 &&& (2147483647 : Int32))), .val (.long (q1 &&& (4294967295 : Int64))), .second, .val (.long (f_of (p0 &&& (2147483647 : Int32)) (q1 &&& (4294967295 : Int64)))), .second, .val (.long ((((p0 &&& (2147483647 : Int32)).toInt64) * (4294967296 : Int64)) + (q1 &&& (4294967295 : Int64)))), .second] []))
  refine Owes.go ?_ fun t k => XS.lload X1.here hx rfl (hb hby at_31) rfl k
  show Owes _ _ _ _ (T1.setTop (mkF m 33 #[.val (.int p0), .val (.long q1), .second, .val (.int (p0 &&& (2147483647 : Int32))), .val (.long (q1 &&& (4294967295 : Int64))), .second, .val (.long (f_of (p0 &&& (2147483647 : Int32)) (q1 &&& (4294967295 : Int64)))), .second, .val (.long ((((p0 &&& (2147483647 : Int32)).toInt64) * (4294967296 : Int64)) + (q1 &&& (4294967295 : Int64)))), .second] [(.long (f_of (p0 &&& (2147483647 : Int32)) (q1 &&& (4294967295 : Int64))))]))
  refine Owes.go ?_ fun t k => XS.lload X1.here hx rfl (hb hby at_33) rfl k
  show Owes _ _ _ _ (T1.setTop (mkF m 35 #[.val (.int p0), .val (.long q1), .second, .val (.int (p0 &&& (2147483647 : Int32))), .val (.long (q1 &&& (4294967295 : Int64))), .second, .val (.long (f_of (p0 &&& (2147483647 : Int32)) (q1 &&& (4294967295 : Int64)))), .second, .val (.long ((((p0 &&& (2147483647 : Int32)).toInt64) * (4294967296 : Int64)) + (q1 &&& (4294967295 : Int64)))), .second] [(.long ((((p0 &&& (2147483647 : Int32)).toInt64) * (4294967296 : Int64)) + (q1 &&& (4294967295 : Int64)))), (.long (f_of (p0 &&& (2147483647 : Int32)) (q1 &&& (4294967295 : Int64))))]))
  refine Owes.go ?_ fun t k => XS.lcmp X1.here hx rfl (hb hby at_35) rfl k
  show Owes _ _ _ _ (T1.setTop (mkF m 36 #[.val (.int p0), .val (.long q1), .second, .val (.int (p0 &&& (2147483647 : Int32))), .val (.long (q1 &&& (4294967295 : Int64))), .second, .val (.long (f_of (p0 &&& (2147483647 : Int32)) (q1 &&& (4294967295 : Int64)))), .second, .val (.long ((((p0 &&& (2147483647 : Int32)).toInt64) * (4294967296 : Int64)) + (q1 &&& (4294967295 : Int64)))), .second] [(.int (lcmpW (f_of (p0 &&& (2147483647 : Int32)) (q1 &&& (4294967295 : Int64))) ((((p0 &&& (2147483647 : Int32)).toInt64) * (4294967296 : Int64)) + (q1 &&& (4294967295 : Int64)))))]))
  refine Owes.go ?_ fun t k => XS.ifNo X1.here hx rfl (hb hby at_36) rfl ((if0 _ _).trans (teq ((lw_eq _ _).mpr (own_3 p0 q1))).2) k
  show Owes _ _ _ _ (T1.setTop (mkF m 39 #[.val (.int p0), .val (.long q1), .second, .val (.int (p0 &&& (2147483647 : Int32))), .val (.long (q1 &&& (4294967295 : Int64))), .second, .val (.long (f_of (p0 &&& (2147483647 : Int32)) (q1 &&& (4294967295 : Int64)))), .second, .val (.long ((((p0 &&& (2147483647 : Int32)).toInt64) * (4294967296 : Int64)) + (q1 &&& (4294967295 : Int64)))), .second] []))
  refine Owes.go ?_ fun t k => XS.lload X1.here hx rfl (hb hby at_39) rfl k
  show Owes _ _ _ _ (T1.setTop (mkF m 41 #[.val (.int p0), .val (.long q1), .second, .val (.int (p0 &&& (2147483647 : Int32))), .val (.long (q1 &&& (4294967295 : Int64))), .second, .val (.long (f_of (p0 &&& (2147483647 : Int32)) (q1 &&& (4294967295 : Int64)))), .second, .val (.long ((((p0 &&& (2147483647 : Int32)).toInt64) * (4294967296 : Int64)) + (q1 &&& (4294967295 : Int64)))), .second] [(.long (f_of (p0 &&& (2147483647 : Int32)) (q1 &&& (4294967295 : Int64))))]))
  refine Owes.go ?_ fun t k => XS.lconst X1.here hx rfl (hb hby at_41) k
  show Owes _ _ _ _ (T1.setTop (mkF m 42 #[.val (.int p0), .val (.long q1), .second, .val (.int (p0 &&& (2147483647 : Int32))), .val (.long (q1 &&& (4294967295 : Int64))), .second, .val (.long (f_of (p0 &&& (2147483647 : Int32)) (q1 &&& (4294967295 : Int64)))), .second, .val (.long ((((p0 &&& (2147483647 : Int32)).toInt64) * (4294967296 : Int64)) + (q1 &&& (4294967295 : Int64)))), .second] [(.long (0 : Int64)), (.long (f_of (p0 &&& (2147483647 : Int32)) (q1 &&& (4294967295 : Int64))))]))
  refine Owes.go ?_ fun t k => XS.lcmp X1.here hx rfl (hb hby at_42) rfl k
  show Owes _ _ _ _ (T1.setTop (mkF m 43 #[.val (.int p0), .val (.long q1), .second, .val (.int (p0 &&& (2147483647 : Int32))), .val (.long (q1 &&& (4294967295 : Int64))), .second, .val (.long (f_of (p0 &&& (2147483647 : Int32)) (q1 &&& (4294967295 : Int64)))), .second, .val (.long ((((p0 &&& (2147483647 : Int32)).toInt64) * (4294967296 : Int64)) + (q1 &&& (4294967295 : Int64)))), .second] [(.int (lcmpW (f_of (p0 &&& (2147483647 : Int32)) (q1 &&& (4294967295 : Int64))) (0 : Int64)))]))
  refine Owes.go ?_ fun t k => XS.ifNo X1.here hx rfl (hb hby at_43) rfl ((if0 _ _).trans (flt (fun q => (own_4 p0 q1) ((lw_lt _ _).mp q))).1) k
  show Owes _ _ _ _ (T1.setTop (mkF m 46 #[.val (.int p0), .val (.long q1), .second, .val (.int (p0 &&& (2147483647 : Int32))), .val (.long (q1 &&& (4294967295 : Int64))), .second, .val (.long (f_of (p0 &&& (2147483647 : Int32)) (q1 &&& (4294967295 : Int64)))), .second, .val (.long ((((p0 &&& (2147483647 : Int32)).toInt64) * (4294967296 : Int64)) + (q1 &&& (4294967295 : Int64)))), .second] []))
  refine Owes.go ?_ fun t k => XS.lload X1.here hx rfl (hb hby at_46) rfl k
  show Owes _ _ _ _ (T1.setTop (mkF m 48 #[.val (.int p0), .val (.long q1), .second, .val (.int (p0 &&& (2147483647 : Int32))), .val (.long (q1 &&& (4294967295 : Int64))), .second, .val (.long (f_of (p0 &&& (2147483647 : Int32)) (q1 &&& (4294967295 : Int64)))), .second, .val (.long ((((p0 &&& (2147483647 : Int32)).toInt64) * (4294967296 : Int64)) + (q1 &&& (4294967295 : Int64)))), .second] [(.long (f_of (p0 &&& (2147483647 : Int32)) (q1 &&& (4294967295 : Int64))))]))
  refine Owes.callS X1 hx hZ hown (hw _ (List.mem_of_getElem? (i := 8) rfl)) (hw _ (List.mem_of_getElem? (i := 9) rfl)) (hw _ (List.mem_of_getElem? (i := 4) rfl)) (hw _ (List.mem_of_getElem? (i := 10) rfl)) (by decide) (argsL := [(.long (f_of (p0 &&& (2147483647 : Int32)) (q1 &&& (4294967295 : Int64))))]) (rest := []) (rm_f_ep l Z a0 hw [] (f_of (p0 &&& (2147483647 : Int32)) (q1 &&& (4294967295 : Int64))) h0 ) e1 (by rw [hml]; rfl) pd_1 rfl rfl (hb hby at_48) (by decide) (Nat.le_of_ble_eq_true rfl) (by decide) (by decide) ?_
  rintro T2 _ _ X2 ⟨rfl, rfl, e2⟩
  rw [List.append_nil] at X2
  show Owes _ _ _ _ (T2.setTop (mkF m 51 #[.val (.int p0), .val (.long q1), .second, .val (.int (p0 &&& (2147483647 : Int32))), .val (.long (q1 &&& (4294967295 : Int64))), .second, .val (.long (f_of (p0 &&& (2147483647 : Int32)) (q1 &&& (4294967295 : Int64)))), .second, .val (.long ((((p0 &&& (2147483647 : Int32)).toInt64) * (4294967296 : Int64)) + (q1 &&& (4294967295 : Int64)))), .second] [(.int (f_ep (f_of (p0 &&& (2147483647 : Int32)) (q1 &&& (4294967295 : Int64)))))]))
  refine Owes.go ?_ fun t k => XS.iloadN X2.here hx rfl (hb hby at_51) rfl k
  show Owes _ _ _ _ (T2.setTop (mkF m 52 #[.val (.int p0), .val (.long q1), .second, .val (.int (p0 &&& (2147483647 : Int32))), .val (.long (q1 &&& (4294967295 : Int64))), .second, .val (.long (f_of (p0 &&& (2147483647 : Int32)) (q1 &&& (4294967295 : Int64)))), .second, .val (.long ((((p0 &&& (2147483647 : Int32)).toInt64) * (4294967296 : Int64)) + (q1 &&& (4294967295 : Int64)))), .second] [(.int (p0 &&& (2147483647 : Int32))), (.int (f_ep (f_of (p0 &&& (2147483647 : Int32)) (q1 &&& (4294967295 : Int64)))))]))
  refine Owes.go ?_ fun t k => XS.icmpNo X2.here hx rfl (hb hby at_52) rfl (teq (own_5 p0 q1)).2 k
  show Owes _ _ _ _ (T2.setTop (mkF m 55 #[.val (.int p0), .val (.long q1), .second, .val (.int (p0 &&& (2147483647 : Int32))), .val (.long (q1 &&& (4294967295 : Int64))), .second, .val (.long (f_of (p0 &&& (2147483647 : Int32)) (q1 &&& (4294967295 : Int64)))), .second, .val (.long ((((p0 &&& (2147483647 : Int32)).toInt64) * (4294967296 : Int64)) + (q1 &&& (4294967295 : Int64)))), .second] []))
  refine Owes.go ?_ fun t k => XS.lload X2.here hx rfl (hb hby at_55) rfl k
  show Owes _ _ _ _ (T2.setTop (mkF m 57 #[.val (.int p0), .val (.long q1), .second, .val (.int (p0 &&& (2147483647 : Int32))), .val (.long (q1 &&& (4294967295 : Int64))), .second, .val (.long (f_of (p0 &&& (2147483647 : Int32)) (q1 &&& (4294967295 : Int64)))), .second, .val (.long ((((p0 &&& (2147483647 : Int32)).toInt64) * (4294967296 : Int64)) + (q1 &&& (4294967295 : Int64)))), .second] [(.long (f_of (p0 &&& (2147483647 : Int32)) (q1 &&& (4294967295 : Int64))))]))
  refine Owes.callS X2 hx hZ hown (hw _ (List.mem_of_getElem? (i := 11) rfl)) (hw _ (List.mem_of_getElem? (i := 12) rfl)) (hw _ (List.mem_of_getElem? (i := 4) rfl)) (hw _ (List.mem_of_getElem? (i := 13) rfl)) (by decide) (argsL := [(.long (f_of (p0 &&& (2147483647 : Int32)) (q1 &&& (4294967295 : Int64))))]) (rest := []) (rm_f_co l Z a0 hw [] (f_of (p0 &&& (2147483647 : Int32)) (q1 &&& (4294967295 : Int64))) h0 ) e2 (by rw [hml]; rfl) pd_2 rfl rfl (hb hby at_57) (by decide) (Nat.le_of_ble_eq_true rfl) (by decide) (by decide) ?_
  rintro T3 _ _ X3 ⟨rfl, rfl, e3⟩
  rw [List.append_nil] at X3
  show Owes _ _ _ _ (T3.setTop (mkF m 60 #[.val (.int p0), .val (.long q1), .second, .val (.int (p0 &&& (2147483647 : Int32))), .val (.long (q1 &&& (4294967295 : Int64))), .second, .val (.long (f_of (p0 &&& (2147483647 : Int32)) (q1 &&& (4294967295 : Int64)))), .second, .val (.long ((((p0 &&& (2147483647 : Int32)).toInt64) * (4294967296 : Int64)) + (q1 &&& (4294967295 : Int64)))), .second] [(.long (f_co (f_of (p0 &&& (2147483647 : Int32)) (q1 &&& (4294967295 : Int64)))))]))
  refine Owes.go ?_ fun t k => XS.lload X3.here hx rfl (hb hby at_60) rfl k
  show Owes _ _ _ _ (T3.setTop (mkF m 62 #[.val (.int p0), .val (.long q1), .second, .val (.int (p0 &&& (2147483647 : Int32))), .val (.long (q1 &&& (4294967295 : Int64))), .second, .val (.long (f_of (p0 &&& (2147483647 : Int32)) (q1 &&& (4294967295 : Int64)))), .second, .val (.long ((((p0 &&& (2147483647 : Int32)).toInt64) * (4294967296 : Int64)) + (q1 &&& (4294967295 : Int64)))), .second] [(.long (q1 &&& (4294967295 : Int64))), (.long (f_co (f_of (p0 &&& (2147483647 : Int32)) (q1 &&& (4294967295 : Int64)))))]))
  refine Owes.go ?_ fun t k => XS.lcmp X3.here hx rfl (hb hby at_62) rfl k
  show Owes _ _ _ _ (T3.setTop (mkF m 63 #[.val (.int p0), .val (.long q1), .second, .val (.int (p0 &&& (2147483647 : Int32))), .val (.long (q1 &&& (4294967295 : Int64))), .second, .val (.long (f_of (p0 &&& (2147483647 : Int32)) (q1 &&& (4294967295 : Int64)))), .second, .val (.long ((((p0 &&& (2147483647 : Int32)).toInt64) * (4294967296 : Int64)) + (q1 &&& (4294967295 : Int64)))), .second] [(.int (lcmpW (f_co (f_of (p0 &&& (2147483647 : Int32)) (q1 &&& (4294967295 : Int64)))) (q1 &&& (4294967295 : Int64))))]))
  refine Owes.go ?_ fun t k => XS.ifNo X3.here hx rfl (hb hby at_63) rfl ((if0 _ _).trans (teq ((lw_eq _ _).mpr (own_6 p0 q1))).2) k
  show Owes _ _ _ _ (T3.setTop (mkF m 66 #[.val (.int p0), .val (.long q1), .second, .val (.int (p0 &&& (2147483647 : Int32))), .val (.long (q1 &&& (4294967295 : Int64))), .second, .val (.long (f_of (p0 &&& (2147483647 : Int32)) (q1 &&& (4294967295 : Int64)))), .second, .val (.long ((((p0 &&& (2147483647 : Int32)).toInt64) * (4294967296 : Int64)) + (q1 &&& (4294967295 : Int64)))), .second] []))
  refine Owes.go ?_ fun t k => XS.iconst X3.here hx rfl (hb hby at_66) k
  show Owes _ _ _ _ (T3.setTop (mkF m 67 #[.val (.int p0), .val (.long q1), .second, .val (.int (p0 &&& (2147483647 : Int32))), .val (.long (q1 &&& (4294967295 : Int64))), .second, .val (.long (f_of (p0 &&& (2147483647 : Int32)) (q1 &&& (4294967295 : Int64)))), .second, .val (.long ((((p0 &&& (2147483647 : Int32)).toInt64) * (4294967296 : Int64)) + (q1 &&& (4294967295 : Int64)))), .second] [(.int (1 : Int32))]))
  refine Owes.go ?_ fun t k => XS.goto X3.here hx rfl (pc0 := 67) (pc' := 71) rfl (hb hby at_67) (by decide) (by decide) k
  show Owes _ _ _ _ (T3.setTop (mkF m 71 #[.val (.int p0), .val (.long q1), .second, .val (.int (p0 &&& (2147483647 : Int32))), .val (.long (q1 &&& (4294967295 : Int64))), .second, .val (.long (f_of (p0 &&& (2147483647 : Int32)) (q1 &&& (4294967295 : Int64)))), .second, .val (.long ((((p0 &&& (2147483647 : Int32)).toInt64) * (4294967296 : Int64)) + (q1 &&& (4294967295 : Int64)))), .second] [(.int (1 : Int32))]))
  exact Owes.retN X3 hx hlk hret (by simp) (hb hby at_71) (by decide) (by decide) ⟨rfl, N0⟩
set_option maxRecDepth 65536 in
set_option maxHeartbeats 40000000 in
theorem comes_1 {Post : Tables → Env → Array Value → State → Outcome → State → Prop} (hpost : ∀ tb e args s v u, (limb_1_1.after args s (.returned v) u = true ∧ limb_1_2.after args s (.returned v) u = true ∧ True) → FrameEnd s (.returned v) u (Jvm.fieldLocs frame_1_writes args s ++ Jvm.arrayLocs frame_1_arrays args s ++ Jvm.staticLocs frame_1_statics s) 0 0 → Post tb e args s (.returned v) u) :
    ArmFor flags0 classFile x code maxLocals ret World_1 tables_1 room_1 Calls_1 rest_1 Pre_1 Post := by
  intro l hfl _ _ p e ha hc hk s m args below hf hA hF happ hP
  obtain ⟨hcalls, hrest, hpre⟩ := hP
  obtain ⟨-, -, -, hnamed, -, -, -, hat⟩ := (Spec.applies_iff hf).mp happ
  obtain ⟨hg, hn⟩ := and_e (Cond.before_iff.mp (show (Jvm.Cond.and given_1 narrow_1).before args s = true from hpre))
  obtain ⟨g1, g2⟩ := and_e hg
  obtain ⟨g3, g4⟩ := and_e g2
  obtain ⟨w0, w1, rfl⟩ : ∃ w0 w1 : Value, args = #[w0, w1] := by
    have hs : args.size = 2 := by simpa [Cond.value, given_1] using g1
    obtain ⟨L⟩ := args
    match L, hs with
    | [w0, w1], _ => exact ⟨w0, w1, rfl⟩
  have hw := fun d (hd : d ∈ tables_1) => atoms_spec (ws := Jvm.Cond.code x code maxLocals ret :: tables_1) hat d (List.mem_cons_of_mem _ hd)
  have hfit : Fit s := fun {y c} hc i hi => by
    obtain ⟨ha, rfl⟩ := Array.getElem?_eq_some_iff.mp hc
    have q := List.all_eq_true.mp ((Array.all_eq_true_iff_forall_mem.mp hF) _ (Array.getElem_mem ha)) i (List.mem_range.mpr hi)
    simpa [Array.getElem?_eq_getElem hi] using q
  obtain ⟨i0, ei0⟩ := is_v g3
  obtain rfl : w0 = (.int i0) := Option.some.inj ei0
  obtain ⟨i1, ei1⟩ := isL_v g4
  obtain rfl : w1 = (.long i1) := Option.some.inj ei1
  obtain ⟨n, o, h1, h2, h3, _, L, rfl, ⟨rfl, N⟩, hq⟩ := rm0 l s _ hw tables_1 i0 i1 s.heap s.heap.size (Nat.le_refl _)  p e ha hc hk s m _ below hf ((Spec.applies_iff_loose hf).mp happ).1 ⟨rfl, State.Warmed39.refl s, rfl⟩ trivial
  refine ⟨n, _, h1, h2, h3, hpost _ _ _ _ _ _ ⟨Cond.after_iff.mpr rfl, Cond.after_iff.mpr (eq_i res_at (Term.int_eval (1)) rfl), trivial⟩ ⟨hq.1, hq.2.1, (hq.2.2.sift fun y hy => Or.inr (N y hy)).mono (by decide) (by decide)⟩⟩
theorem main_1_1 : Claimed_1_1 := comes_1 fun _ _ _ _ _ _ h hF => ⟨h.1, hF⟩
theorem main_1_2 : Claimed_1_2 := comes_1 fun _ _ _ _ _ _ h hF => ⟨h.2.1, hF⟩
end Jvm.Pilot.@@N@@
namespace Jvm.Pilot.@@N@@
open Jvm Jvm.ClassFile Sem Op Lib Jvm.Free Jvm.Stand Jvm.Pilot.@@N@@.Jvm.D
/-! MADE BY PROGRAM (witnessworld.py) out of the Statement's table words and the real class files: 9 classes; the members and pool entries that the words name. The judged class is class 1, her method 1. -/
namespace start1
open Jvm.ClassFile
def u (s : String) : CpInfo := .utf8 (stringToUtf16 s)
/-- a pool by its gaps: so many unusable entries, then the entry; so many at the end -/
def gap : Nat → List CpInfo → List CpInfo
  | 0, r => r
  | n + 1, r => .unusable :: gap n r
def poolList (es : List (Nat × CpInfo)) (last : Nat) : List CpInfo := es.foldr (fun e r => gap e.1 (e.2 :: r)) (gap last [])
def pool (es : List (Nat × CpInfo)) (last : Nat) : Array CpInfo := ⟨poolList es last⟩
def fileOf (pool : Array CpInfo) (this : Nat) (attrs : Array Attribute := #[]) (ms : Array MethodInfo := #[]) (fl : Nat := 33) (sup : Nat := 0) (ifs : Array Nat := #[]) (fds : Array FieldInfo := #[]) : ClassFile where
  minorVersion := 0
  majorVersion := 65
  constantPool := pool
  accessFlags := fl
  thisClass := this
  superClass := sup
  interfaces := ifs
  fields := fds
  methods := ms
  attributes := attrs
def plain (name : String) (sup : Option ClassId) : Class where
  name := name
  kind := .ordinary
  loader := none
  accessFlags := 33
  super := sup
  interfaces := #[]
  cf := none
  fields := #[]
  methods := #[]
  instanceTypes := #[]
  staticTypes := #[]
  resolved := #[]
  callSites := []
  init := .initialized
  statics := none
  mirror := none

def pool0 : Array CpInfo := pool [(5, u "<init>"), (0, u "()V"), (1, .class_ 10), (1, u "java/lang/Object")] 113

def k0m0 : Method := { name := "<init>", desc := "()V", sig := { parameters := [], returnType := none }, accessFlags := 1, code := none }
/-- java/lang/Object -/
def k0 : Class := { plain "java/lang/Object" none with
  accessFlags := 33
  interfaces := #[]
  cf := some (fileOf pool0 8 #[] #[{ accessFlags := 1, nameIndex := 5, descriptorIndex := 6, attributes := #[] }] 33 0 #[] #[])
  fields := #[]
  methods := #[k0m0]
  instanceTypes := #[]
  staticTypes := #[]
  resolved := Array.replicate 124 none
  statics := none }

def pool1 : Array CpInfo := pool [(2, .class_ 4), (1, u "java/lang/Object"), (0, u "<init>"), (0, u "()V"), (0, .integer 2147483647), (0, .long 4294967295), (1, .methodref 11 12), (0, .class_ 13), (0, .nameAndType 14 15), (0, u "com/example/herring/herring/txn/Zxid"), (0, u "of"), (0, u "(IJ)J"), (0, .long 4294967296), (1, .methodref 11 19), (0, .nameAndType 20 21), (0, u "epoch"), (0, u "(J)I"), (0, .methodref 11 23), (0, .nameAndType 24 25), (0, u "counter"), (0, u "(J)J"), (0, .class_ 27), (0, u "com/example/herring/herring/txn/ZxidOfPinLaw"), (2, u "law"), (0, u "(IJ)Z")] 3

def k1m0 : Method := { name := "<init>", desc := "()V", sig := { parameters := [], returnType := none }, accessFlags := 2, code := none }
def k1c1 : Code := { maxStack := 4, maxLocals := 10, code := code, exceptionTable := #[], attributes := #[] }
def k1m1 : Method := { name := "law", desc := "(IJ)Z", sig := { parameters := [.int, .long], returnType := some .boolean }, accessFlags := 9, code := some k1c1 }
/-- com/example/herring/herring/txn/ZxidOfPinLaw -/
def k1 : Class := { plain "com/example/herring/herring/txn/ZxidOfPinLaw" (some 0) with
  accessFlags := 49
  interfaces := #[]
  cf := some (fileOf pool1 26 #[] #[{ accessFlags := 2, nameIndex := 5, descriptorIndex := 6, attributes := #[] }, { accessFlags := 9, nameIndex := 30, descriptorIndex := 31, attributes := #[] }] 49 2 #[] #[])
  fields := #[]
  methods := #[k1m0, k1m1]
  instanceTypes := #[]
  staticTypes := #[]
  resolved := Array.replicate 35 none
  statics := none }

def pool2 : Array CpInfo := pool [(2, .class_ 4), (1, u "java/lang/Object"), (0, u "<init>"), (0, u "()V"), (9, .class_ 17), (0, u "com/example/herring/herring/txn/Zxid"), (0, .long 18446744069414584320), (4, .long 4294967295), (3, u "counter"), (0, u "(J)J"), (9, u "epoch"), (0, u "(J)I"), (4, u "MAX_COUNTER"), (0, u "J"), (3, u "of"), (0, u "(IJ)J")] 23

def k2m0 : Method := { name := "<init>", desc := "()V", sig := { parameters := [], returnType := none }, accessFlags := 2, code := none }
def k2c1 : Code := { maxStack := 4, maxLocals := 3, code := prog_9_method_2_code, exceptionTable := #[], attributes := #[] }
def k2m1 : Method := { name := "of", desc := "(IJ)J", sig := { parameters := [.int, .long], returnType := some .long }, accessFlags := 9, code := some k2c1 }
def k2c2 : Code := { maxStack := 3, maxLocals := 2, code := prog_9_method_3_code, exceptionTable := #[], attributes := #[] }
def k2m2 : Method := { name := "epoch", desc := "(J)I", sig := { parameters := [.long], returnType := some .int }, accessFlags := 9, code := some k2c2 }
def k2c3 : Code := { maxStack := 4, maxLocals := 2, code := prog_9_method_4_code, exceptionTable := #[], attributes := #[] }
def k2m3 : Method := { name := "counter", desc := "(J)J", sig := { parameters := [.long], returnType := some .long }, accessFlags := 9, code := some k2c3 }
/-- com/example/herring/herring/txn/Zxid -/
def k2 : Class := { plain "com/example/herring/herring/txn/Zxid" (some 0) with
  accessFlags := 33
  interfaces := #[]
  cf := some (fileOf pool2 16 #[] #[{ accessFlags := 2, nameIndex := 5, descriptorIndex := 6, attributes := #[] }, { accessFlags := 9, nameIndex := 49, descriptorIndex := 50, attributes := #[] }, { accessFlags := 9, nameIndex := 38, descriptorIndex := 39, attributes := #[] }, { accessFlags := 9, nameIndex := 27, descriptorIndex := 28, attributes := #[] }] 33 2 #[] #[{ accessFlags := 25, nameIndex := 44, descriptorIndex := 45, attributes := #[] }])
  fields := #[{ name := "MAX_COUNTER", type := .long, accessFlags := 25, slot := 0, constantValue := 0 }]
  methods := #[k2m0, k2m1, k2m2, k2m3]
  instanceTypes := #[]
  staticTypes := #[.long]
  resolved := Array.replicate 74 none
  statics := none }

def pool3 : Array CpInfo := pool [(1, u "java/lang/Cloneable"), (0, .class_ 1), (0, u "java/lang/Object"), (0, .class_ 3)] 3

/-- java/lang/Cloneable -/
def k3 : Class := { plain "java/lang/Cloneable" (some 0) with
  accessFlags := 1537
  interfaces := #[]
  cf := some (fileOf pool3 2 #[] #[] 1537 4 #[] #[])
  fields := #[]
  methods := #[]
  instanceTypes := #[]
  staticTypes := #[]
  resolved := Array.replicate 8 none
  statics := none }

def pool4 : Array CpInfo := pool [(1, u "java/io/Serializable"), (0, .class_ 1), (0, u "java/lang/Object"), (0, .class_ 3)] 3

/-- java/io/Serializable -/
def k4 : Class := { plain "java/io/Serializable" (some 0) with
  accessFlags := 1537
  interfaces := #[]
  cf := some (fileOf pool4 2 #[] #[] 1537 4 #[] #[])
  fields := #[]
  methods := #[]
  instanceTypes := #[]
  staticTypes := #[]
  resolved := Array.replicate 8 none
  statics := none }

/-- the primitive byte -/
def k5 : Class := { plain "byte" none with kind := .primitive 'B', accessFlags := 0x411 }
/-- [B -/
def k6 : Class := { plain "[B" (some 0) with kind := .array 5 .byte, interfaces := #[3, 4], accessFlags := 1041 }

/-- the primitive int -/
def k7 : Class := { plain "int" none with kind := .primitive 'I', accessFlags := 0x411 }
/-- [I -/
def k8 : Class := { plain "[I" (some 0) with kind := .array 7 .int, interfaces := #[3, 4], accessFlags := 1041 }

def heap : Heap := #[]
def classes : Array Class := #[k0, k1, k2, k3, k4, k5, k6, k7, k8]
def interned : List (Array UInt16 × Addr) := []
def slotsUsed : Nat := 0
def theMethod : MethodId := ⟨1, 1⟩
def args0 : Array Value := #[.int 5, .long 77]
def aboutOver (below : List Frame) : State where
  vm := { classes := classes, interned := interned.toArray }
  heap := heap
  slotsUsed := slotsUsed
  threads := #[{ frames := .invoking theMethod args0 :: below }]
def below0 : List Frame := [.native { method := ⟨0, 0⟩, args := #[] }]
def about1 : State := aboutOver below0
def p0 : Program := .bare "" "" ""
def e0 : Env := launch0.env 0 0 0
theorem w_frames : about1.frames = Frame.invoking theMethod args0 :: below0 := rfl
set_option maxRecDepth 65536 in
theorem w_args : argsFit about1.vm theMethod args0 = true := by decide +kernel
set_option maxRecDepth 65536 in
theorem w_heap : heapFits about1 = true := by decide +kernel
set_option maxRecDepth 65536 in
theorem w_runnable : about1.curStatus? = some .runnable := by decide +kernel
set_option maxRecDepth 65536 in
theorem w_alone : about1.alone = true := by decide +kernel
set_option maxRecDepth 65536 in
theorem w_named : about1.methodNamed? x = some theMethod := by decide +kernel
set_option maxRecDepth 65536 in
theorem w_hears : about1.hears theMethod below0 = true := by decide +kernel
set_option maxRecDepth 65536 in
theorem w_ripe : about1.ripe theMethod args0 below0 = true := by decide +kernel
theorem w_running : about1.status = .running := rfl
set_option maxRecDepth 65536 in
theorem w_room : about1.hasRoom e0.platform room_1 = true :=
  launch0.hasRoom_least _ room_1 (by decide +kernel) (by decide +kernel) (by decide +kernel) (by decide +kernel) (by decide +kernel) (by decide +kernel)
theorem allAtoms_all (ts : List Jvm.Cond) (a : Array Jvm.Value) (st : Jvm.State) : (allAtoms ts).before a st = ts.all (fun c => c.before a st) := by
  induction ts with
  | nil => rfl
  | cons c t ih =>
    show (Jvm.Cond.and c (allAtoms t)).before a st = _
    rw [Jvm.Cond.before_and, ih, List.all_cons]
def words1 : List Jvm.Cond := Jvm.Cond.code x code maxLocals ret :: tables_1
/-- a 'code' word, met by the world's own term for the bytes: nothing is compared byte by byte -/
theorem code_word {y : MethodName} {bytes : ByteArray} {mx : Nat} {rt : Option FieldType} {a : Array Value} {s : State} {m : MethodId} {meth : Method} {c : Code} (h1 : s.methodNamed? y = some m) (h2 : s.vm.method? m = some meth) (h3 : meth.code = some c) (h4 : c.code = bytes)
    (h5 : (c.maxLocals == mx && c.exceptionTable.isEmpty && decide (c.maxStack ≤ mostOperands) && decide (meth.sig.returnType = rt) && !meth.locks && decide (parseMethodDescriptor y.desc = some meth.sig)) = true) : (Jvm.Cond.code y bytes mx rt).before a s = true := by
  simp only [Bool.and_eq_true, beq_iff_eq, Bool.not_eq_true', decide_eq_true_eq] at h5
  obtain ⟨⟨⟨⟨⟨g1, g2⟩, g3⟩, g4⟩, g5⟩, g6⟩ := h5
  simp [Cond.before, Cond.holds, Cond.value, h1, h2, h3, h4, g1, g2, g3, g4, g5, g6]
def isCode : Jvm.Cond → Bool
  | .code _ _ _ _ => true
  | _ => false
theorem all_split {L : List Jvm.Cond} {P : Jvm.Cond → Bool} (h1 : L.all (fun c => isCode c || P c) = true) (h2 : ∀ c ∈ L.filter isCode, P c = true) : L.all P = true := by
  refine List.all_eq_true.mpr fun c hc => ?_
  have h := List.all_eq_true.mp h1 c hc
  rcases Bool.eq_false_or_eq_true (isCode c) with hi | hi
  · exact h2 c (List.mem_filter.mpr ⟨hc, hi⟩)
  · simpa [hi] using h
set_option maxRecDepth 65536 in
theorem w_c0 : (Jvm.Cond.code x code maxLocals ret).before args0 about1 = true := code_word (m := ⟨1, 1⟩) (meth := k1m1) (c := k1c1) (by decide +kernel) rfl rfl rfl (by decide +kernel)
set_option maxRecDepth 65536 in
theorem w_c1 : (Jvm.Cond.code ({ cls := "com/example/herring/herring/txn/Zxid", name := "of", desc := "(IJ)J" } : Jvm.MethodName) prog_9_method_2_code (3 : Nat) (Option.some Jvm.ClassFile.FieldType.long)).before args0 about1 = true := code_word (m := ⟨2, 1⟩) (meth := k2m1) (c := k2c1) (by decide +kernel) rfl rfl rfl (by decide +kernel)
set_option maxRecDepth 65536 in
theorem w_c2 : (Jvm.Cond.code ({ cls := "com/example/herring/herring/txn/Zxid", name := "epoch", desc := "(J)I" } : Jvm.MethodName) prog_9_method_3_code (2 : Nat) (Option.some Jvm.ClassFile.FieldType.int)).before args0 about1 = true := code_word (m := ⟨2, 2⟩) (meth := k2m2) (c := k2c2) (by decide +kernel) rfl rfl rfl (by decide +kernel)
set_option maxRecDepth 65536 in
theorem w_c3 : (Jvm.Cond.code ({ cls := "com/example/herring/herring/txn/Zxid", name := "counter", desc := "(J)J" } : Jvm.MethodName) prog_9_method_4_code (2 : Nat) (Option.some Jvm.ClassFile.FieldType.long)).before args0 about1 = true := code_word (m := ⟨2, 3⟩) (meth := k2m3) (c := k2c3) (by decide +kernel) rfl rfl rfl (by decide +kernel)
def codes1 : List Jvm.Cond := [Jvm.Cond.code x code maxLocals ret, Jvm.Cond.code ({ cls := "com/example/herring/herring/txn/Zxid", name := "of", desc := "(IJ)J" } : Jvm.MethodName) prog_9_method_2_code (3 : Nat) (Option.some Jvm.ClassFile.FieldType.long), Jvm.Cond.code ({ cls := "com/example/herring/herring/txn/Zxid", name := "epoch", desc := "(J)I" } : Jvm.MethodName) prog_9_method_3_code (2 : Nat) (Option.some Jvm.ClassFile.FieldType.int), Jvm.Cond.code ({ cls := "com/example/herring/herring/txn/Zxid", name := "counter", desc := "(J)J" } : Jvm.MethodName) prog_9_method_4_code (2 : Nat) (Option.some Jvm.ClassFile.FieldType.long)]
set_option maxRecDepth 65536 in
theorem codes_eq : words1.filter isCode = codes1 := rfl
theorem w_codes : ∀ c ∈ words1.filter isCode, c.before args0 about1 = true := by
  rw [codes_eq]
  intro c hc
  simp only [codes1, List.mem_cons, List.not_mem_nil, or_false] at hc
  rcases hc with rfl | rfl | rfl | rfl
  · exact w_c0
  · exact w_c1
  · exact w_c2
  · exact w_c3
set_option maxRecDepth 65536 in
theorem w_t1 : words1.all (fun c => isCode c || c.before args0 about1) = true := by decide +kernel
theorem w_tables : (allAtoms (Jvm.Cond.code x code maxLocals ret :: tables_1)).before args0 about1 = true := by
  rw [allAtoms_all]
  show words1.all (fun c => c.before args0 about1) = true
  refine all_split ?_ w_codes
  rw [w_t1]
set_option maxRecDepth 65536 in
theorem w_case : (Jvm.Cond.and given_1 narrow_1).before args0 about1 = true := by decide +kernel
theorem w_applies : (headSpec (Jvm.Cond.code x code maxLocals ret :: tables_1) room_1).applies x e0.platform about1 = true :=
  (Spec.applies_iff w_frames).mpr ⟨w_running, w_runnable, w_alone, w_named, w_hears, w_ripe, w_room, w_tables⟩
theorem atStart : AtStart classFile x code maxLocals ret World_1 tables_1 room_1 Calls_1 rest_1 Pre_1 launch0 p0 e0 about1 theMethod args0 below0 :=
  ⟨lists_1, trivial, launch0.admits_env _ _ _, launch0.least_env, fairChoices_fair.cas, fairChoices_fair.clock, w_frames, w_args, w_heap, w_applies, trivial, trivial, w_case⟩
end start1
theorem witness_1 : WitnessClaimed_1 := ⟨start1.p0, start1.e0, start1.about1, start1.theMethod, start1.args0, start1.below0, start1.atStart⟩
end Jvm.Pilot.@@N@@
