import JvmDerived
import JvmDerived.Pilot.@@N@@Statement
import JvmDerived.Pilot.@@N@@Code
set_option linter.unusedVariables false
set_option linter.unusedSimpArgs false
set_option maxRecDepth 65536
namespace Jvm.Pilot.@@N@@
open Jvm Jvm.ClassFile Sem Op Lib Jvm.Free Jvm.Stand Jvm.LawKit Jvm.RoadKit Bundle Jvm.Pilot.@@N@@.Jvm.D
section Own
variable {p : Program} {l : Launch} {e : Env} {R : Room} {s : State} {m : MethodId} {args : Array Value} {below : List Frame} {meth : Method} {c : Code} {T : State} {locs : List Loc} {cells slots : Nat} {Z : State} {a0 : Array Value} {h : Heap}
variable {Q : Option Value → Heap → List Loc → Prop} {F : Outcome → State → Prop} {C N : Nat} {A B : State}
/-- how a body ends: it returns v, Q holds of what it returned, of the heap and of the places written; nothing else is written (EndW: String constants may have been interned) -/
def EndN (s : State) (Q : Option Value → Heap → List Loc → Prop) (C N : Nat) (o : Outcome) (t : State) : Prop := ∃ v L, o = .returned v ∧ Q v t.heap L ∧ FrameEnd s o t L C N
/-- what a body owes from a point of its walk: it comes to its end, and F holds there -/
def Owes (p : Program) (e : Env) (below : List Frame) (F : Outcome → State → Prop) (A : State) : Prop :=
  ∃ s₂ o, Steps p.tables e below A s₂ ∧ s₂.status = .running ∧ Ended s₂ below o ∧ F o s₂
theorem Owes.go (k : Owes p e below F B) (f : ∀ t, Steps p.tables e below B t → Steps p.tables e below A t) : Owes p e below F A := by
  obtain ⟨s₂, o, h1, r⟩ := k
  exact ⟨s₂, o, f _ h1, r⟩
theorem Owes.tr (k : Owes p e below F B) (st : Steps p.tables e below A B) : Owes p e below F A := by
  obtain ⟨s₂, o, h1, r⟩ := k
  exact ⟨s₂, o, st.trans h1, r⟩
theorem Owes.mono {Q' : Option Value → Heap → List Loc → Prop} (k : Owes p e below (EndN s Q C N) A) (f : ∀ v h L, Q v h L → Q' v h L) : Owes p e below (EndN s Q' C N) A := by
  obtain ⟨s₂, o, h1, h2, h3, v, L, h4, h5, h6⟩ := k
  exact ⟨s₂, o, h1, h2, h3, v, L, h4, f _ _ _ h5, h6⟩
/-- a body's contract at given arguments and a given heap -/
def OMet (l : Launch) (y : MethodName) (bytes : ByteArray) (maxL : Nat) (ret : Option FieldType) (ws : List Jvm.Cond) (rm : Room) (as' : Array Value) (Z : State) (h0 : Heap) (Q : Option Value → Heap → List Loc → Prop) : Prop :=
  MetFree l y (head1 (Jvm.Cond.code y bytes maxL ret :: ws) rm) (fun a U => a = as' ∧ Z.Warmed39 U.vm ∧ U.heap = h0) (fun _ _ _ _ _ => True) (fun _ U o U' => ∃ v L, o = .returned v ∧ Q v U'.heap L ∧ FrameEnd U o U' L rm.cells rm.slots)
theorem OMet.of {y : MethodName} {bytes : ByteArray} {maxL : Nat} {ret : Option FieldType} {ws : List Jvm.Cond} {rm : Room} {as' : Array Value} {h0 : Heap} (hpl : plainFor y = true) {Ls : Array Slot} (ef : ∀ m, entryFrame m as' maxL = mkF m 0 Ls [])
    (body : ∀ (p : Program) (e : Env) (s : State) (m : MethodId) (below : List Frame) (meth : Method) (c : Code) (s₁ : State), p.tables.exec = Jvm.exec → c.code = bytes → c.maxLocals = maxL → s.vm.findClass y.cls = some m.cls → meth.name = y.name → meth.sig.returnType = ret → meth.locks = false → Z.Warmed39 s.vm →
      Stand p l e rm s m as' below meth c s₁ [] 0 0 → s₁.heap = h0 → Owes p e below (EndN s Q rm.cells rm.slots) (s₁.setTop (mkF m 0 Ls []))) : OMet l y bytes maxL ret ws rm as' Z h0 Q := by
  refine MetFree.of_bodySF hpl hisR ?_
  intro p e s m args below meth c s₁ Bd hml0 hP hK
  obtain ⟨rfl, hZ, hh⟩ := hP
  have hlk : meth.locks = false := BodyLoose.notSynchronized Bd
  have X0 : Stand p l e rm s m args below meth c s₁ [] 0 0 := Stand.of_body Bd
  have e0 : s₁.heap = h0 := by rw [← hh, Bd.state]; rfl
  obtain ⟨s₂, o, h1, h2, h3, h4⟩ := body p e s m below meth c s₁ Bd.exec Bd.bytes hml0 (findClass_of_methodNamed Bd.named) (name_of_methodNamed Bd.named Bd.method).1 Bd.returns hlk hZ X0 e0
  exact ⟨s₂, o, castTop (ef m) h1, h2, h3, h4⟩
theorem OMet.mono {y : MethodName} {bytes : ByteArray} {maxL : Nat} {ret : Option FieldType} {ws : List Jvm.Cond} {rm : Room} {as' : Array Value} {h0 : Heap} {Q' : Option Value → Heap → List Loc → Prop} (M : OMet l y bytes maxL ret ws rm as' Z h0 Q) (f : ∀ v h L, Q v h L → Q' v h L) : OMet l y bytes maxL ret ws rm as' Z h0 Q' := by
  intro p e ha hc hk s m args below hf happ hP hK
  obtain ⟨n, o, h1, h2, h3, v, L, h4, h5, h6⟩ := M p e ha hc hk s m args below hf happ hP hK
  exact ⟨n, o, h1, h2, h3, v, L, h4, f _ _ _ h5, h6⟩
theorem own_end (X : Stand p l e R s m args below meth c T locs cells slots) (hlk : meth.locks = false) {v : Option Value} (hv : meth.sig.returnType = none → v = none) (hc : cells ≤ C) (hs : slots ≤ N) (hq : Q v T.heap locs) {A : State}
    (hst : ∀ fs : List Frame, (∀ (f : JFrame) (acts : List Action), f.method = m → f.locked = none → f.entered = [] → (doReturn e (T.setTop f) acts v).1 = T.setFrames fs) → Steps p.tables e below A (T.setFrames fs)) : Owes p e below (EndN s Q C N) A := by
  obtain ⟨fs, hr, hrun, hended, hW, hsame⟩ := X.leave hv hlk
  exact ⟨_, _, hst fs hr, hrun, hended, v, locs, rfl, hq, ⟨_, rfl⟩, hW, hsame.mono hc hs⟩
theorem Owes.retN (X : Stand p l e R s m args below meth c T locs cells slots) (hx : p.tables.exec = Jvm.exec) (hlk : meth.locks = false) {pc : Nat} {Ls : Array Slot} {z : Int32} {t : FieldType} {rest : List Value} (hret : meth.sig.returnType = some t) (ht : t = .boolean ∨ t = .byte ∨ t = .char ∨ t = .short)
    (hd : decode c.code pc = .ok (.ireturn, 1)) (hc : cells ≤ C) (hs : slots ≤ N) (hq : Q (some (.int (nar t z))) T.heap locs) : Owes p e below (EndN s Q C N) (T.setTop (mkF m pc Ls (.int z :: rest))) :=
  own_end X hlk (fun h => by rw [hret] at h; cases h) hc hs hq fun fs hr => Jvm.RoadKit.retN X hx hret ht hd hr
theorem Owes.retI (X : Stand p l e R s m args below meth c T locs cells slots) (hx : p.tables.exec = Jvm.exec) (hlk : meth.locks = false) {pc : Nat} {Ls : Array Slot} {z : Int32} {rest : List Value} (hret : meth.sig.returnType = some .int)
    (hd : decode c.code pc = .ok (.ireturn, 1)) (hc : cells ≤ C) (hs : slots ≤ N) (hq : Q (some (.int z)) T.heap locs) : Owes p e below (EndN s Q C N) (T.setTop (mkF m pc Ls (.int z :: rest))) :=
  own_end X hlk (fun h => by rw [hret] at h; cases h) hc hs hq fun fs hr => Jvm.RoadKit.retOut X hx hret rfl (Or.inl ⟨rfl, Or.inl rfl, _, rfl⟩) hd hr
theorem Owes.retJ (X : Stand p l e R s m args below meth c T locs cells slots) (hx : p.tables.exec = Jvm.exec) (hlk : meth.locks = false) {pc : Nat} {Ls : Array Slot} {z : Int64} {rest : List Value} (hret : meth.sig.returnType = some .long)
    (hd : decode c.code pc = .ok (.lreturn, 1)) (hc : cells ≤ C) (hs : slots ≤ N) (hq : Q (some (.long z)) T.heap locs) : Owes p e below (EndN s Q C N) (T.setTop (mkF m pc Ls (.long z :: rest))) :=
  own_end X hlk (fun h => by rw [hret] at h; cases h) hc hs hq fun fs hr => Jvm.RoadKit.retOut X hx hret rfl (Or.inr (Or.inl ⟨rfl, rfl, _, rfl⟩)) hd hr
theorem Owes.retA (X : Stand p l e R s m args below meth c T locs cells slots) (hx : p.tables.exec = Jvm.exec) (hlk : meth.locks = false) {pc : Nat} {Ls : Array Slot} {w : Value} {t : FieldType} {rest : List Value} (hret : meth.sig.returnType = some t) (ht : t.isReference = true) (hn : narrow t w = w) (hw : w.isRef = true)
    (hd : decode c.code pc = .ok (.areturn, 1)) (hc : cells ≤ C) (hs : slots ≤ N) (hq : Q (some w) T.heap locs) : Owes p e below (EndN s Q C N) (T.setTop (mkF m pc Ls (w :: rest))) :=
  own_end X hlk (fun h => by rw [hret] at h; cases h) hc hs hq fun fs hr => Jvm.RoadKit.retOut X hx hret hn (Or.inr (Or.inr (Or.inr (Or.inr ⟨rfl, ht, hw⟩)))) hd hr
theorem Owes.retV (X : Stand p l e R s m args below meth c T locs cells slots) (hx : p.tables.exec = Jvm.exec) (hlk : meth.locks = false) {pc : Nat} {Ls : Array Slot} (hret : meth.sig.returnType = none)
    (hd : decode c.code pc = .ok (.return_, 1)) (hc : cells ≤ C) (hs : slots ≤ N) (hq : Q none T.heap locs) : Owes p e below (EndN s Q C N) (T.setTop (mkF m pc Ls [])) :=
  own_end X hlk (fun _ => rfl) hc hs hq fun fs hr => X.returnOut hx hret hd hr
/-- a static method by its contract -/
theorem Owes.callS (X : Stand p l e R s m args below meth c T locs cells slots) (hx : p.tables.exec = Jvm.exec) (hZ : Z.Warmed39 s.vm) {own : String} {index : Nat} {y : MethodName} {bytes : ByteArray} {maxL : Nat} {ret : Option FieldType} {rm : Room}
    (hown : s.vm.findClass own = some m.cls) (w1 : (Cond.methodLink own index y).before a0 Z = true) (w2 : (Cond.static y).before a0 Z = true) (w3 : (Cond.initialized y.cls).before a0 Z = true) (w4 : (Cond.code y bytes maxL ret).before a0 Z = true)
    (hy : y.cls ≠ "java/lang/invoke/MethodHandle" ∧ y.cls ≠ "java/lang/invoke/VarHandle") {pc : Nat} {Ls : Array Slot} {argsL rest : List Value} {Q' : Option Value → Heap → List Loc → Prop} (M : OMet l y bytes maxL ret [] rm argsL.toArray Z h Q') (eT : T.heap = h) (hsize : Ls.size = c.maxLocals)
    {ps : List FieldType} {rt : Option FieldType} (hpd : parseMethodDescriptor y.desc = some ⟨ps, rt⟩) (hln : argsL.length = ps.length) {st : List Value} (hst : st = argsL.reverse ++ rest) (hd : decode c.code pc = .ok (.invokestatic index, 3))
    (hf : rm.frames + 1 ≤ R.frames) (hl : (rest.map fun v => v.category).sum + (maxL + 11) + rm.locals ≤ R.locals) (hcl : cells + rm.cells ≤ R.cells) (hsl : slots + rm.slots ≤ R.slots)
    (k : ∀ (T' : State) (v : Option Value) (L : List Loc), Stand p l e R s m args below meth c T' (locs ++ L) (cells + rm.cells) (slots + rm.slots) → Q' v T'.heap L → Owes p e below F (T'.setTop (mkF m (pc + 3) Ls (v.toList ++ rest)))) :
    Owes p e below F (T.setTop (mkF m pc Ls st)) := by
  subst hst
  obtain ⟨v, _, ⟨T3, L3, k3, n3⟩, -, X3, ⟨Lc3, hQ3, l3, y3, z3⟩, st3⟩ := Jvm.LawKit.callS X hx (y := y) hown (mvT hZ w1) (mvT hZ w2) (mvT hZ w3) (mvT hZ w4) hy (backOf (W := (rest.map fun v => v.category).sum) M hZ w4 w3 hf hl) (g := mkF m pc Ls (argsL.reverse ++ rest)) rfl hsize (argsL := argsL) (rest := rest) (lenOf hpd hln) rfl (by show 2 * 0 + _ ≤ _; omega) hd (fun _ _ => ⟨rfl, eT, hcl, hsl⟩)
  dsimp only [Pt.U, Pt.locs, Pt.cells, Pt.slots] at X3 l3 y3 z3 st3 hQ3
  subst l3 y3 z3
  exact (k T3 v Lc3 X3 hQ3).go st3
/-- a constructor by its contract -/
theorem Owes.callC (X : Stand p l e R s m args below meth c T locs cells slots) (hx : p.tables.exec = Jvm.exec) (hZ : Z.Warmed39 s.vm) {own : String} {index : Nat} {y : MethodName} {bytes : ByteArray} {maxL : Nat} {rm : Room} (hy1 : y.name = "<init>")
    (hown : s.vm.findClass own = some m.cls) (w1 : (Cond.methodLink own index y).before a0 Z = true) (w2 : (Cond.instanceMethod y).before a0 Z = true) (w3 : (Cond.initialized y.cls).before a0 Z = true) (w4 : (Cond.code y bytes maxL none).before a0 Z = true)
    (hy : y.cls ≠ "java/lang/invoke/MethodHandle" ∧ y.cls ≠ "java/lang/invoke/VarHandle") {pc : Nat} {Ls : Array Slot} {a : Addr} {argsL rest : List Value} {Q' : Option Value → Heap → List Loc → Prop} (M : OMet l y bytes maxL none [] rm (.ref a :: argsL).toArray Z h Q') (eT : T.heap = h) (hsize : Ls.size = c.maxLocals)
    {ps : List FieldType} {rt : Option FieldType} (hpd : parseMethodDescriptor y.desc = some ⟨ps, rt⟩) (hln : argsL.length = ps.length) {st : List Value} (hst : st = argsL.reverse ++ .ref a :: rest) (hd : decode c.code pc = .ok (.invokespecial index, 3))
    (hf : rm.frames + 1 ≤ R.frames) (hl : (rest.map fun v => v.category).sum + (maxL + 11) + rm.locals ≤ R.locals) (hcl : cells + rm.cells ≤ R.cells) (hsl : slots + rm.slots ≤ R.slots)
    (k : ∀ (T' : State) (v : Option Value) (L : List Loc), Stand p l e R s m args below meth c T' (locs ++ L) (cells + rm.cells) (slots + rm.slots) → Q' v T'.heap L → Owes p e below F (T'.setTop (mkF m (pc + 3) Ls (v.toList ++ rest)))) :
    Owes p e below F (T.setTop (mkF m pc Ls st)) := by
  subst hst
  obtain ⟨v, _, ⟨T3, L3, k3, n3⟩, -, X3, ⟨Lc3, hQ3, l3, y3, z3⟩, st3⟩ := X.specialBack hx (y := y) hy1 hown (mvT hZ w1) (mvT hZ w2) (mvT hZ w4) hy (backOf (W := (rest.map fun v => v.category).sum) M hZ w4 w3 hf hl) (g := mkF m pc Ls (argsL.reverse ++ .ref a :: rest)) rfl hsize (Steps.refl _) (a := a) (argsL := argsL) (rest := rest) (lenOf hpd hln) rfl (by show 2 * 0 + _ ≤ _; omega) hd (fun _ _ => ⟨rfl, eT, hcl, hsl⟩)
  dsimp only [Pt.U, Pt.locs, Pt.cells, Pt.slots] at X3 l3 y3 z3 st3 hQ3
  subst l3 y3 z3
  exact (k T3 v Lc3 X3 hQ3).tr st3
/-- an instance method by the contract of the body that the receiver's class selects -/
theorem Owes.callV (X : Stand p l e R s m args below meth c T locs cells slots) (hx : p.tables.exec = Jvm.exec) (hZ : Z.Warmed39 s.vm) {own CR : String} {index : Nat} {y z : MethodName} {bytes : ByteArray} {maxL : Nat} {ret : Option FieldType} {rm : Room}
    (hown : s.vm.findClass own = some m.cls) (w1 : (Cond.methodLink own index y).before a0 Z = true) (w2 : (Cond.declares y).before a0 Z = true) (hnf : NotFace s y) (w5 : (Cond.selects CR y z).before a0 Z = true) (w6 : (Cond.instanceMethod z).before a0 Z = true) (w3 : (Cond.initialized z.cls).before a0 Z = true) (w4 : (Cond.code z bytes maxL ret).before a0 Z = true)
    (hy : y.cls ≠ "java/lang/invoke/MethodHandle" ∧ y.cls ≠ "java/lang/invoke/VarHandle") {pc : Nat} {Ls : Array Slot} {a : Addr} {argsL rest : List Value} {Q' : Option Value → Heap → List Loc → Prop} (M : OMet l z bytes maxL ret [] rm (.ref a :: argsL).toArray Z h Q') (eT : T.heap = h) (E : Exa Z h a CR) (hsize : Ls.size = c.maxLocals)
    {ps : List FieldType} {rt : Option FieldType} (hpd : parseMethodDescriptor y.desc = some ⟨ps, rt⟩) (hln : argsL.length = ps.length) {st : List Value} (hst : st = argsL.reverse ++ .ref a :: rest) (hd : decode c.code pc = .ok (.invokevirtual index, 3))
    (hf : rm.frames + 1 ≤ R.frames) (hl : (rest.map fun v => v.category).sum + (maxL + 11) + rm.locals ≤ R.locals) (hcl : cells + rm.cells ≤ R.cells) (hsl : slots + rm.slots ≤ R.slots)
    (k : ∀ (T' : State) (v : Option Value) (L : List Loc), Stand p l e R s m args below meth c T' (locs ++ L) (cells + rm.cells) (slots + rm.slots) → Q' v T'.heap L → Owes p e below F (T'.setTop (mkF m (pc + 3) Ls (v.toList ++ rest)))) :
    Owes p e below F (T.setTop (mkF m pc Ls st)) := by
  subst hst
  obtain ⟨cq, kq, qa, qb, qc⟩ := isOf hZ eT E
  obtain ⟨v, _, ⟨T3, L3, k3, n3⟩, -, X3, ⟨Lc3, hQ3, l3, y3, z3⟩, st3⟩ := X.virtualBack hx (y := y) (z := z) hown (mvT hZ w1) (mvT hZ w2) hnf (mvT hZ w5) (mvT hZ w6) hy (backOf (W := (rest.map fun v => v.category).sum) M hZ w4 w3 hf hl) qa qc (g := mkF m pc Ls (argsL.reverse ++ .ref a :: rest)) rfl hsize (Steps.refl _) (argsL := argsL) (rest := rest) (lenOf hpd hln) rfl (by show 2 * 0 + _ ≤ _; omega) hd (fun _ _ => ⟨rfl, eT, hcl, hsl⟩)
  dsimp only [Pt.U, Pt.locs, Pt.cells, Pt.slots] at X3 l3 y3 z3 st3 hQ3
  subst l3 y3 z3
  exact (k T3 v Lc3 X3 hQ3).tr st3
/-- a private method by its contract -/
theorem Owes.callP (X : Stand p l e R s m args below meth c T locs cells slots) (hx : p.tables.exec = Jvm.exec) (hZ : Z.Warmed39 s.vm) {own CR : String} {index : Nat} {y : MethodName} {bytes : ByteArray} {maxL : Nat} {ret : Option FieldType} {rm : Room}
    (hown : s.vm.findClass own = some m.cls) (w1 : (Cond.methodLink own index y).before a0 Z = true) (w2 : (Cond.instanceMethod y).before a0 Z = true) (w5 : (Cond.selects y.cls y y).before a0 Z = true) (w6 : (Cond.privateMethod y).before a0 Z = true) (w3 : (Cond.initialized y.cls).before a0 Z = true) (w4 : (Cond.code y bytes maxL ret).before a0 Z = true)
    (hy : y.cls ≠ "java/lang/invoke/MethodHandle" ∧ y.cls ≠ "java/lang/invoke/VarHandle") {pc : Nat} {Ls : Array Slot} {a : Addr} {argsL rest : List Value} {Q' : Option Value → Heap → List Loc → Prop} (M : OMet l y bytes maxL ret [] rm (.ref a :: argsL).toArray Z h Q') (eT : T.heap = h) (E : Exa Z h a CR) (hsize : Ls.size = c.maxLocals)
    {ps : List FieldType} {rt : Option FieldType} (hpd : parseMethodDescriptor y.desc = some ⟨ps, rt⟩) (hln : argsL.length = ps.length) {st : List Value} (hst : st = argsL.reverse ++ .ref a :: rest) (hd : decode c.code pc = .ok (.invokevirtual index, 3))
    (hf : rm.frames + 1 ≤ R.frames) (hl : (rest.map fun v => v.category).sum + (maxL + 11) + rm.locals ≤ R.locals) (hcl : cells + rm.cells ≤ R.cells) (hsl : slots + rm.slots ≤ R.slots)
    (k : ∀ (T' : State) (v : Option Value) (L : List Loc), Stand p l e R s m args below meth c T' (locs ++ L) (cells + rm.cells) (slots + rm.slots) → Q' v T'.heap L → Owes p e below F (T'.setTop (mkF m (pc + 3) Ls (v.toList ++ rest)))) :
    Owes p e below F (T.setTop (mkF m pc Ls st)) := by
  subst hst
  obtain ⟨cq, q1, q2⟩ := E.cell
  obtain ⟨v, _, ⟨T3, L3, k3, n3⟩, -, X3, ⟨Lc3, hQ3, l3, y3, z3⟩, st3⟩ := X.privateBack hx (y := y) hown (mvT hZ w1) (mvT hZ w2) (mvT hZ w5) (Cond.privateMethod_at (mvP hZ w6 (args := #[]))) (mvT hZ w4) hy (backOf (W := (rest.map fun v => v.category).sum) M hZ w4 w3 hf hl) (g := mkF m pc Ls (argsL.reverse ++ .ref a :: rest)) rfl hsize (Steps.refl _) (a := a) (by rw [eT]; exact q1) q2 (argsL := argsL) (rest := rest) (lenOf hpd hln) rfl (by show 2 * 0 + _ ≤ _; omega) hd (fun _ _ => ⟨rfl, eT, hcl, hsl⟩)
  dsimp only [Pt.U, Pt.locs, Pt.cells, Pt.slots] at X3 l3 y3 z3 st3 hQ3
  subst l3 y3 z3
  exact (k T3 v Lc3 X3 hQ3).tr st3
theorem Owes.alen (X : Stand p l e R s m args below meth c T locs cells slots) (hx : p.tables.exec = Jvm.exec) (hZ : Z.Warmed39 s.vm) (eT : T.heap = h) {a : Addr} {cl : Cell} {ty : FieldType} (A : Arr Z h a cl ty) {z : Int32} (hn : cl.slots.size.toInt32 = z) {pc : Nat} {Ls : Array Slot} {rest : List Value}
    (hd : decode c.code pc = .ok (.arraylength, 1)) (k : Owes p e below F (T.setTop (mkF m (pc + 1) Ls (.int z :: rest)))) : Owes p e below F (T.setTop (mkF m pc Ls (.ref a :: rest))) := by
  subst hn
  exact k.go fun t q => X.arraylength hx (by rw [eT]; exact A.1) (State.isArrayOf_alike hZ.alike A.2.1) (g := mkF m pc Ls (.ref a :: rest)) rfl rfl hd _ q
theorem Owes.aldI (X : Stand p l e R s m args below meth c T locs cells slots) (hx : p.tables.exec = Jvm.exec) (hZ : Z.Warmed39 s.vm) (eT : T.heap = h) {a : Addr} {cl : Cell} (A : Arr Z h a cl .int) {j : Int32} {v : Value} (hin : ¬ (j < 0 ∨ cl.slots.size ≤ j.toNatClampNeg)) (hat : cl.slots[j.toNatClampNeg]? = some v) {pc : Nat} {Ls : Array Slot} {rest : List Value}
    (hd : decode c.code pc = .ok (.iaload, 1)) (k : Owes p e below F (T.setTop (mkF m (pc + 1) Ls (v :: rest)))) : Owes p e below F (T.setTop (mkF m pc Ls (.int j :: .ref a :: rest))) :=
  k.go fun t q => X.iaload hx (by rw [eT]; exact A.1) (State.isArrayOf_alike hZ.alike A.2.1) A.2.2 hin hat (g := mkF m pc Ls (.int j :: .ref a :: rest)) rfl rfl hd _ q
theorem Owes.aldJ (X : Stand p l e R s m args below meth c T locs cells slots) (hx : p.tables.exec = Jvm.exec) (hZ : Z.Warmed39 s.vm) (eT : T.heap = h) {a : Addr} {cl : Cell} (A : Arr Z h a cl .long) {j : Int32} {v : Value} (hin : ¬ (j < 0 ∨ cl.slots.size ≤ j.toNatClampNeg)) (hat : cl.slots[j.toNatClampNeg]? = some v) {pc : Nat} {Ls : Array Slot} {rest : List Value}
    (hd : decode c.code pc = .ok (.laload, 1)) (k : Owes p e below F (T.setTop (mkF m (pc + 1) Ls (v :: rest)))) : Owes p e below F (T.setTop (mkF m pc Ls (.int j :: .ref a :: rest))) :=
  k.go fun t q => X.laload hx (by rw [eT]; exact A.1) (State.isArrayOf_alike hZ.alike A.2.1) A.2.2 hin hat (g := mkF m pc Ls (.int j :: .ref a :: rest)) rfl rfl hd _ q
theorem Owes.aldC (X : Stand p l e R s m args below meth c T locs cells slots) (hx : p.tables.exec = Jvm.exec) (hZ : Z.Warmed39 s.vm) (eT : T.heap = h) {a : Addr} {cl : Cell} (A : Arr Z h a cl .char) {j : Int32} {v : Value} (hin : ¬ (j < 0 ∨ cl.slots.size ≤ j.toNatClampNeg)) (hat : cl.slots[j.toNatClampNeg]? = some v) {pc : Nat} {Ls : Array Slot} {rest : List Value}
    (hd : decode c.code pc = .ok (.caload, 1)) (k : Owes p e below F (T.setTop (mkF m (pc + 1) Ls (v :: rest)))) : Owes p e below F (T.setTop (mkF m pc Ls (.int j :: .ref a :: rest))) :=
  k.go fun t q => X.caload hx (by rw [eT]; exact A.1) (State.isArrayOf_alike hZ.alike A.2.1) A.2.2 hin hat (g := mkF m pc Ls (.int j :: .ref a :: rest)) rfl rfl hd _ q
theorem Owes.aldZ (X : Stand p l e R s m args below meth c T locs cells slots) (hx : p.tables.exec = Jvm.exec) (hZ : Z.Warmed39 s.vm) (eT : T.heap = h) {a : Addr} {cl : Cell} (A : Arr Z h a cl .boolean) {j : Int32} {v : Value} (hin : ¬ (j < 0 ∨ cl.slots.size ≤ j.toNatClampNeg)) (hat : cl.slots[j.toNatClampNeg]? = some v) {pc : Nat} {Ls : Array Slot} {rest : List Value}
    (hd : decode c.code pc = .ok (.baload, 1)) (k : Owes p e below F (T.setTop (mkF m (pc + 1) Ls (v :: rest)))) : Owes p e below F (T.setTop (mkF m pc Ls (.int j :: .ref a :: rest))) :=
  k.go fun t q => X.baloadBooleans hx (by rw [eT]; exact A.1) (State.isArrayOf_alike hZ.alike A.2.1) A.2.2 hin hat (g := mkF m pc Ls (.int j :: .ref a :: rest)) rfl rfl hd _ q
theorem Owes.aldB (X : Stand p l e R s m args below meth c T locs cells slots) (hx : p.tables.exec = Jvm.exec) (hZ : Z.Warmed39 s.vm) (eT : T.heap = h) {a : Addr} {cl : Cell} (A : Arr Z h a cl .byte) {j : Int32} {v : Value} (hin : ¬ (j < 0 ∨ cl.slots.size ≤ j.toNatClampNeg)) (hat : cl.slots[j.toNatClampNeg]? = some v) {pc : Nat} {Ls : Array Slot} {rest : List Value}
    (hd : decode c.code pc = .ok (.baload, 1)) (k : Owes p e below F (T.setTop (mkF m (pc + 1) Ls (v :: rest)))) : Owes p e below F (T.setTop (mkF m pc Ls (.int j :: .ref a :: rest))) :=
  k.go fun t q => X.baloadBytes hx (by rw [eT]; exact A.1) (State.isArrayOf_alike hZ.alike A.2.1) A.2.2 hin hat (g := mkF m pc Ls (.int j :: .ref a :: rest)) rfl rfl hd _ q
theorem Owes.aldR (X : Stand p l e R s m args below meth c T locs cells slots) (hx : p.tables.exec = Jvm.exec) (hZ : Z.Warmed39 s.vm) (eT : T.heap = h) {a : Addr} {cl : Cell} {ty : FieldType} (A : Arr Z h a cl ty) (hty : ty.isReference = true) {j : Int32} {v : Value} (hin : ¬ (j < 0 ∨ cl.slots.size ≤ j.toNatClampNeg)) (hat : cl.slots[j.toNatClampNeg]? = some v) {pc : Nat} {Ls : Array Slot} {rest : List Value}
    (hd : decode c.code pc = .ok (.aaload, 1)) (k : Owes p e below F (T.setTop (mkF m (pc + 1) Ls (v :: rest)))) : Owes p e below F (T.setTop (mkF m pc Ls (.int j :: .ref a :: rest))) :=
  k.go fun t q => X.aaload hx (by rw [eT]; exact A.1) (State.isArrayOf_alike hZ.alike A.2.1) hty A.2.2 hin hat (g := mkF m pc Ls (.int j :: .ref a :: rest)) rfl rfl hd _ q
theorem own_eqI {first : State} {o : Option Outcome} {idx : List Nat} {t : Term} {k : Int32} (q : (Cond.eq t (.int k)).value args first o s idx = some true) : t.eval args first o idx s = some (.int k) := by
  simp only [Cond.value, Term.eval] at q
  cases hv : t.eval args first o idx s with
  | none => simp [hv] at q
  | some v => cases v <;> simp_all
end Own
theorem d1_0 : decode prog_39_method_7_code 0 = .ok (.ldc2_w 99, 3) := by decide +kernel
theorem d1_3 : decode prog_39_method_7_code 3 = .ok (.aload_n 0, 1) := by decide +kernel
theorem d1_4 : decode prog_39_method_7_code 4 = .ok (.getfield 33, 3) := by decide +kernel
theorem d1_7 : decode prog_39_method_7_code 7 = .ok (.i2l, 1) := by decide +kernel
theorem d1_8 : decode prog_39_method_7_code 8 = .ok (.lload_n 1, 1) := by decide +kernel
theorem d1_9 : decode prog_39_method_7_code 9 = .ok (.lmul, 1) := by decide +kernel
theorem d1_10 : decode prog_39_method_7_code 10 = .ok (.aload_n 0, 1) := by decide +kernel
theorem d1_11 : decode prog_39_method_7_code 11 = .ok (.getfield 37, 3) := by decide +kernel
theorem d1_14 : decode prog_39_method_7_code 14 = .ok (.i2l, 1) := by decide +kernel
theorem d1_15 : decode prog_39_method_7_code 15 = .ok (.lload_n 3, 1) := by decide +kernel
theorem d1_16 : decode prog_39_method_7_code 16 = .ok (.lmul, 1) := by decide +kernel
theorem d1_17 : decode prog_39_method_7_code 17 = .ok (.ladd, 1) := by decide +kernel
theorem d1_18 : decode prog_39_method_7_code 18 = .ok (.lmul, 1) := by decide +kernel
theorem d1_19 : decode prog_39_method_7_code 19 = .ok (.lreturn, 1) := by decide +kernel
def f_hb (q1 : Int64) (q2 : Int64) (vf ne : Int32) : Int64 := ((4 : Int64) * (((vf.toInt64) * q1) + ((ne.toInt64) * q2)))
theorem ef_1_f_hb (m : MethodId) (r0 : Addr) (q1 : Int64) (q2 : Int64) : entryFrame m #[(.ref r0), (.long q1), (.long q2)] 5 = mkF m 0 #[.val (.ref r0), .val (.long q1), .second, .val (.long q2), .second] [] := by first | (simp [entryFrame, mkF, argsToLocals, Value.category]; done) | rfl
theorem pn_1 : plainFor (⟨"com/example/keyedge/keyedge/cli/Store", "heapBytes", "(JJ)J"⟩ : MethodName) = true := plainFor_of_name (by first | (simp [plainName, overriddenIn]; done) | decide +kernel)
set_option maxRecDepth 65536 in
set_option maxHeartbeats 40000000 in
theorem rm_f_hb (l : Launch) (Z : State) (a0 : Array Value) (hw : ∀ d ∈ tables_1, d.before a0 Z = true) (ws : List Jvm.Cond) (r0 : Addr) (q1 : Int64) (q2 : Int64) (h0 : Heap) (vf ne : Int32) (Fv : Fld Z h0 r0 "com/example/keyedge/keyedge/cli/Store" "vertexFields" "I" (.int vf)) (Fe : Fld Z h0 r0 "com/example/keyedge/keyedge/cli/Store" "edgeFields" "I" (.int ne)) :
    OMet l (⟨"com/example/keyedge/keyedge/cli/Store", "heapBytes", "(JJ)J"⟩ : MethodName) prog_39_method_7_code 5 (some .long) ws ({ frames := 0, cells := 0, slots := 0, locals := 0 } : Room) #[(.ref r0), (.long q1), (.long q2)] Z h0 (fun v h L => v = some (Value.long (f_hb q1 q2 vf ne)) ∧ L = [] ∧ h = h0) := by
  refine OMet.of pn_1 (fun m => ef_1_f_hb m r0 q1 q2) ?_
  intro p e s m below meth c s₁ hx hby hml hown hnm hret hlk hZ X0 e0
  refine Owes.go ?_ fun t k => X0.ldc2Long hx hown (mvT hZ (hw _ (List.mem_of_getElem? (i := 11) rfl))) (g := (mkF m 0 #[.val (.ref r0), .val (.long q1), .second, .val (.long q2), .second] [])) rfl (hb hby d1_0) _ k
  show Owes _ _ _ _ (s₁.setTop (mkF m 3 #[.val (.ref r0), .val (.long q1), .second, .val (.long q2), .second] [(.long (4 : Int64))]))
  refine Owes.go ?_ fun t k => XS.aloadN X0.here hx rfl (hb hby d1_3) rfl rfl k
  show Owes _ _ _ _ (s₁.setTop (mkF m 4 #[.val (.ref r0), .val (.long q1), .second, .val (.long q2), .second] [(.ref r0), (.long (4 : Int64))]))
  obtain ⟨T1, X1, e1, st1⟩ := getF X0 hx hZ hown (host := "") (Or.inl (hw _ (List.mem_of_getElem? (i := 12) rfl))) Via.refl e0 Fv (g := (mkF m 4 #[.val (.ref r0), .val (.long q1), .second, .val (.long q2), .second] [(.ref r0), (.long (4 : Int64))])) rfl rfl (hb hby d1_4)
  refine Owes.go ?_ st1
  show Owes _ _ _ _ (T1.setTop (mkF m 7 #[.val (.ref r0), .val (.long q1), .second, .val (.long q2), .second] [(.int vf), (.long (4 : Int64))]))
  refine Owes.go ?_ fun t k => XS.i2l X1.here hx rfl (hb hby d1_7) rfl k
  show Owes _ _ _ _ (T1.setTop (mkF m 8 #[.val (.ref r0), .val (.long q1), .second, .val (.long q2), .second] [(.long (vf.toInt64)), (.long (4 : Int64))]))
  refine Owes.go ?_ fun t k => XS.lloadN X1.here hx rfl (hb hby d1_8) rfl k
  show Owes _ _ _ _ (T1.setTop (mkF m 9 #[.val (.ref r0), .val (.long q1), .second, .val (.long q2), .second] [(.long q1), (.long (vf.toInt64)), (.long (4 : Int64))]))
  refine Owes.go ?_ fun t k => XS.lmul X1.here hx rfl (hb hby d1_9) rfl k
  show Owes _ _ _ _ (T1.setTop (mkF m 10 #[.val (.ref r0), .val (.long q1), .second, .val (.long q2), .second] [(.long ((vf.toInt64) * q1)), (.long (4 : Int64))]))
  refine Owes.go ?_ fun t k => XS.aloadN X1.here hx rfl (hb hby d1_10) rfl rfl k
  show Owes _ _ _ _ (T1.setTop (mkF m 11 #[.val (.ref r0), .val (.long q1), .second, .val (.long q2), .second] [(.ref r0), (.long ((vf.toInt64) * q1)), (.long (4 : Int64))]))
  obtain ⟨T2, X2, e2, st2⟩ := getF X1 hx hZ hown (host := "") (Or.inl (hw _ (List.mem_of_getElem? (i := 14) rfl))) Via.refl e1 Fe (g := (mkF m 11 #[.val (.ref r0), .val (.long q1), .second, .val (.long q2), .second] [(.ref r0), (.long ((vf.toInt64) * q1)), (.long (4 : Int64))])) rfl rfl (hb hby d1_11)
  refine Owes.go ?_ st2
  show Owes _ _ _ _ (T2.setTop (mkF m 14 #[.val (.ref r0), .val (.long q1), .second, .val (.long q2), .second] [(.int ne), (.long ((vf.toInt64) * q1)), (.long (4 : Int64))]))
  refine Owes.go ?_ fun t k => XS.i2l X2.here hx rfl (hb hby d1_14) rfl k
  show Owes _ _ _ _ (T2.setTop (mkF m 15 #[.val (.ref r0), .val (.long q1), .second, .val (.long q2), .second] [(.long (ne.toInt64)), (.long ((vf.toInt64) * q1)), (.long (4 : Int64))]))
  refine Owes.go ?_ fun t k => XS.lloadN X2.here hx rfl (hb hby d1_15) rfl k
  show Owes _ _ _ _ (T2.setTop (mkF m 16 #[.val (.ref r0), .val (.long q1), .second, .val (.long q2), .second] [(.long q2), (.long (ne.toInt64)), (.long ((vf.toInt64) * q1)), (.long (4 : Int64))]))
  refine Owes.go ?_ fun t k => XS.lmul X2.here hx rfl (hb hby d1_16) rfl k
  show Owes _ _ _ _ (T2.setTop (mkF m 17 #[.val (.ref r0), .val (.long q1), .second, .val (.long q2), .second] [(.long ((ne.toInt64) * q2)), (.long ((vf.toInt64) * q1)), (.long (4 : Int64))]))
  refine Owes.go ?_ fun t k => XS.ladd X2.here hx rfl (hb hby d1_17) rfl k
  show Owes _ _ _ _ (T2.setTop (mkF m 18 #[.val (.ref r0), .val (.long q1), .second, .val (.long q2), .second] [(.long (((vf.toInt64) * q1) + ((ne.toInt64) * q2))), (.long (4 : Int64))]))
  refine Owes.go ?_ fun t k => XS.lmul X2.here hx rfl (hb hby d1_18) rfl k
  show Owes _ _ _ _ (T2.setTop (mkF m 19 #[.val (.ref r0), .val (.long q1), .second, .val (.long q2), .second] [(.long ((4 : Int64) * (((vf.toInt64) * q1) + ((ne.toInt64) * q2))))]))
  exact Owes.retJ X2 hx hlk hret (hb hby d1_19) (by decide) (by decide) ⟨congrArg (fun z => some (Value.long z)) (by unfold f_hb; first | done | rfl), rfl, e2⟩
theorem own_ring (a b n m : Int64) : (4 : Int64) * (a * n + b * m) = (4 * a) * n + (4 * b) * m := by
  rw [Int64.mul_add, Int64.mul_assoc, Int64.mul_assoc]
theorem own_map (n m : Int64) : f_hb n m 17 9 = (68 : Int64) * n + (36 : Int64) * m := own_ring 17 9 n m
theorem own_list (n m : Int64) : f_hb n m 19 9 = (76 : Int64) * n + (36 : Int64) * m := own_ring 19 9 n m
theorem pd_0 : parseMethodDescriptor "(JJ)J" = some ⟨[.long, .long], some .long⟩ := by decide +kernel
def QL (n0 : Nat) (v : Option Value) (h : Heap) (L : List Loc) : Prop := v = some (.int 1) ∧ Fr n0 L
theorem ef_0 (m : MethodId) (p0 : Int32) (q1 : Int64) (q2 : Int64) : entryFrame m #[(.int p0), (.long q1), (.long q2)] maxLocals = mkF m 0 #[.val (.int p0), .val (.long q1), .second, .val (.long q2), .second, .unset, .unset, .unset, .unset, .unset, .unset, .unset, .unset, .unset, .unset] [] := by first | (simp [entryFrame, mkF, argsToLocals, Value.category, maxLocals]; done) | rfl
theorem pn_0 : plainFor (⟨"com/example/keyedge/keyedge/cli/StoreHeapBytesPinLaw", "law", "(IJJ)Z"⟩ : MethodName) = true := plainFor_of_name (by first | (simp [plainName, overriddenIn]; done) | decide +kernel)
set_option maxRecDepth 65536 in
set_option maxHeartbeats 40000000 in
theorem rm0 (l : Launch) (Z : State) (a0 : Array Value) (hw : ∀ d ∈ tables_1, d.before a0 Z = true) (ws : List Jvm.Cond) (p0 : Int32) (q1 : Int64) (q2 : Int64) (h0 : Heap) (n0 : Nat) (Z0 : n0 ≤ h0.size) (rM rL : Addr) (S_M : Sta Z h0 "com/example/keyedge/keyedge/cli/Store" "MAP" "Lcom/example/keyedge/keyedge/cli/Store;" (.ref rM)) (E_M : Exa Z h0 rM "com/example/keyedge/keyedge/cli/Store$1") (FMv : Fld Z h0 rM "com/example/keyedge/keyedge/cli/Store" "vertexFields" "I" (.int 17)) (FMe : Fld Z h0 rM "com/example/keyedge/keyedge/cli/Store" "edgeFields" "I" (.int 9)) (S_L : Sta Z h0 "com/example/keyedge/keyedge/cli/Store" "LIST" "Lcom/example/keyedge/keyedge/cli/Store;" (.ref rL)) (E_L : Exa Z h0 rL "com/example/keyedge/keyedge/cli/Store$2") (FLv : Fld Z h0 rL "com/example/keyedge/keyedge/cli/Store" "vertexFields" "I" (.int 19)) (FLe : Fld Z h0 rL "com/example/keyedge/keyedge/cli/Store" "edgeFields" "I" (.int 9)) :
    OMet l x code maxLocals ret ws room_1 #[(.int p0), (.long q1), (.long q2)] Z h0 (QL n0) := by
  have N0 := Fr.nil n0
  refine OMet.of pn_0 (fun m => ef_0 m p0 q1 q2) ?_
  intro p e s m below meth c s₁ hx hby hml hown hnm hret hlk hZ X0 e0
  refine Owes.go ?_ fun t k => XS.iloadN X0.here hx rfl (hb hby at_0) rfl k
  show Owes _ _ _ _ (s₁.setTop (mkF m 1 #[.val (.int p0), .val (.long q1), .second, .val (.long q2), .second, .unset, .unset, .unset, .unset, .unset, .unset, .unset, .unset, .unset, .unset] [(.int p0)]))
  refine Owes.go ?_ fun t k => XS.iconst X0.here hx rfl (hb hby at_1) k
  show Owes _ _ _ _ (s₁.setTop (mkF m 2 #[.val (.int p0), .val (.long q1), .second, .val (.long q2), .second, .unset, .unset, .unset, .unset, .unset, .unset, .unset, .unset, .unset, .unset] [(.int (1 : Int32)), (.int p0)]))
  refine Owes.go ?_ fun t k => XS.iand X0.here hx rfl (hb hby at_2) rfl k
  show Owes _ _ _ _ (s₁.setTop (mkF m 3 #[.val (.int p0), .val (.long q1), .second, .val (.long q2), .second, .unset, .unset, .unset, .unset, .unset, .unset, .unset, .unset, .unset, .unset] [(.int (p0 &&& (1 : Int32)))]))
  by_cases hc1 : (p0 &&& (1 : Int32)) = (0 : Int32)
  · skip
    refine Owes.go ?_ fun t k => XS.ifYes X0.here hx rfl (pc0 := 3) (pc' := 10) rfl (hb hby at_3) rfl ((if0 _ _).trans (teq hc1).1) (by decide) (by decide) k
    show Owes _ _ _ _ (s₁.setTop (mkF m 10 #[.val (.int p0), .val (.long q1), .second, .val (.long q2), .second, .unset, .unset, .unset, .unset, .unset, .unset, .unset, .unset, .unset, .unset] []))
    refine Owes.go ?_ fun t k => XS.iconst X0.here hx rfl (hb hby at_10) k
    show Owes _ _ _ _ (s₁.setTop (mkF m 11 #[.val (.int p0), .val (.long q1), .second, .val (.long q2), .second, .unset, .unset, .unset, .unset, .unset, .unset, .unset, .unset, .unset, .unset] [(.int (0 : Int32))]))
    refine Owes.go ?_ fun t k => XS.istore X0.here hx rfl (hb hby at_11) rfl (l' := #[.val (.int p0), .val (.long q1), .second, .val (.long q2), .second, .val (.int (0 : Int32)), .unset, .unset, .unset, .unset, .unset, .unset, .unset, .unset, .unset]) rfl k
    show Owes _ _ _ _ (s₁.setTop (mkF m 13 #[.val (.int p0), .val (.long q1), .second, .val (.long q2), .second, .val (.int (0 : Int32)), .unset, .unset, .unset, .unset, .unset, .unset, .unset, .unset, .unset] []))
    refine Owes.go ?_ fun t k => XS.iload X0.here hx rfl (hb hby at_13) rfl k
    show Owes _ _ _ _ (s₁.setTop (mkF m 15 #[.val (.int p0), .val (.long q1), .second, .val (.long q2), .second, .val (.int (0 : Int32)), .unset, .unset, .unset, .unset, .unset, .unset, .unset, .unset, .unset] [(.int (0 : Int32))]))
    refine Owes.go ?_ fun t k => XS.ifYes X0.here hx rfl (pc0 := 15) (pc' := 24) rfl (hb hby at_15) rfl ((if0 _ _).trans (teq (by decide : ((0 : Int32) = (0 : Int32)))).1) (by decide) (by decide) k
    show Owes _ _ _ _ (s₁.setTop (mkF m 24 #[.val (.int p0), .val (.long q1), .second, .val (.long q2), .second, .val (.int (0 : Int32)), .unset, .unset, .unset, .unset, .unset, .unset, .unset, .unset, .unset] []))
    obtain ⟨T3, X3, e3, st3⟩ := getS2 X0 hx hZ hown (host := "") (Or.inl (hw _ (List.mem_of_getElem? (i := 0) rfl))) Via.refl e0 S_M (g := (mkF m 24 #[.val (.int p0), .val (.long q1), .second, .val (.long q2), .second, .val (.int (0 : Int32)), .unset, .unset, .unset, .unset, .unset, .unset, .unset, .unset, .unset] [])) rfl (hb hby at_24)
    refine Owes.go ?_ st3
    show Owes _ _ _ _ (T3.setTop (mkF m 27 #[.val (.int p0), .val (.long q1), .second, .val (.long q2), .second, .val (.int (0 : Int32)), .unset, .unset, .unset, .unset, .unset, .unset, .unset, .unset, .unset] [(.ref rM)]))
    refine Owes.go ?_ fun t k => XS.astore X3.here hx rfl (hb hby at_27) rfl rfl (l' := #[.val (.int p0), .val (.long q1), .second, .val (.long q2), .second, .val (.int (0 : Int32)), .val (.ref rM), .unset, .unset, .unset, .unset, .unset, .unset, .unset, .unset]) rfl k
    show Owes _ _ _ _ (T3.setTop (mkF m 29 #[.val (.int p0), .val (.long q1), .second, .val (.long q2), .second, .val (.int (0 : Int32)), .val (.ref rM), .unset, .unset, .unset, .unset, .unset, .unset, .unset, .unset] []))
    refine Owes.go ?_ fun t k => XS.lloadN X3.here hx rfl (hb hby at_29) rfl k
    show Owes _ _ _ _ (T3.setTop (mkF m 30 #[.val (.int p0), .val (.long q1), .second, .val (.long q2), .second, .val (.int (0 : Int32)), .val (.ref rM), .unset, .unset, .unset, .unset, .unset, .unset, .unset, .unset] [(.long q1)]))
    refine Owes.go ?_ fun t k => X3.ldc2Long hx hown (mvT hZ (hw _ (List.mem_of_getElem? (i := 3) rfl))) (g := (mkF m 30 #[.val (.int p0), .val (.long q1), .second, .val (.long q2), .second, .val (.int (0 : Int32)), .val (.ref rM), .unset, .unset, .unset, .unset, .unset, .unset, .unset, .unset] [(.long q1)])) rfl (hb hby at_30) _ k
    show Owes _ _ _ _ (T3.setTop (mkF m 33 #[.val (.int p0), .val (.long q1), .second, .val (.long q2), .second, .val (.int (0 : Int32)), .val (.ref rM), .unset, .unset, .unset, .unset, .unset, .unset, .unset, .unset] [(.long (9223372036854775807 : Int64)), (.long q1)]))
    refine Owes.go ?_ fun t k => XS.land X3.here hx rfl (hb hby at_33) rfl k
    show Owes _ _ _ _ (T3.setTop (mkF m 34 #[.val (.int p0), .val (.long q1), .second, .val (.long q2), .second, .val (.int (0 : Int32)), .val (.ref rM), .unset, .unset, .unset, .unset, .unset, .unset, .unset, .unset] [(.long (q1 &&& (9223372036854775807 : Int64)))]))
    refine Owes.go ?_ fun t k => XS.lstore X3.here hx rfl (hb hby at_34) rfl (l' := #[.val (.int p0), .val (.long q1), .second, .val (.long q2), .second, .val (.int (0 : Int32)), .val (.ref rM), .val (.long (q1 &&& (9223372036854775807 : Int64))), .second, .unset, .unset, .unset, .unset, .unset, .unset]) rfl k
    show Owes _ _ _ _ (T3.setTop (mkF m 36 #[.val (.int p0), .val (.long q1), .second, .val (.long q2), .second, .val (.int (0 : Int32)), .val (.ref rM), .val (.long (q1 &&& (9223372036854775807 : Int64))), .second, .unset, .unset, .unset, .unset, .unset, .unset] []))
    refine Owes.go ?_ fun t k => XS.lloadN X3.here hx rfl (hb hby at_36) rfl k
    show Owes _ _ _ _ (T3.setTop (mkF m 37 #[.val (.int p0), .val (.long q1), .second, .val (.long q2), .second, .val (.int (0 : Int32)), .val (.ref rM), .val (.long (q1 &&& (9223372036854775807 : Int64))), .second, .unset, .unset, .unset, .unset, .unset, .unset] [(.long q2)]))
    refine Owes.go ?_ fun t k => X3.ldc2Long hx hown (mvT hZ (hw _ (List.mem_of_getElem? (i := 3) rfl))) (g := (mkF m 37 #[.val (.int p0), .val (.long q1), .second, .val (.long q2), .second, .val (.int (0 : Int32)), .val (.ref rM), .val (.long (q1 &&& (9223372036854775807 : Int64))), .second, .unset, .unset, .unset, .unset, .unset, .unset] [(.long q2)])) rfl (hb hby at_37) _ k
    show Owes _ _ _ _ (T3.setTop (mkF m 40 #[.val (.int p0), .val (.long q1), .second, .val (.long q2), .second, .val (.int (0 : Int32)), .val (.ref rM), .val (.long (q1 &&& (9223372036854775807 : Int64))), .second, .unset, .unset, .unset, .unset, .unset, .unset] [(.long (9223372036854775807 : Int64)), (.long q2)]))
    refine Owes.go ?_ fun t k => XS.land X3.here hx rfl (hb hby at_40) rfl k
    show Owes _ _ _ _ (T3.setTop (mkF m 41 #[.val (.int p0), .val (.long q1), .second, .val (.long q2), .second, .val (.int (0 : Int32)), .val (.ref rM), .val (.long (q1 &&& (9223372036854775807 : Int64))), .second, .unset, .unset, .unset, .unset, .unset, .unset] [(.long (q2 &&& (9223372036854775807 : Int64)))]))
    refine Owes.go ?_ fun t k => XS.lstore X3.here hx rfl (hb hby at_41) rfl (l' := #[.val (.int p0), .val (.long q1), .second, .val (.long q2), .second, .val (.int (0 : Int32)), .val (.ref rM), .val (.long (q1 &&& (9223372036854775807 : Int64))), .second, .val (.long (q2 &&& (9223372036854775807 : Int64))), .second, .unset, .unset, .unset, .unset]) rfl k
    show Owes _ _ _ _ (T3.setTop (mkF m 43 #[.val (.int p0), .val (.long q1), .second, .val (.long q2), .second, .val (.int (0 : Int32)), .val (.ref rM), .val (.long (q1 &&& (9223372036854775807 : Int64))), .second, .val (.long (q2 &&& (9223372036854775807 : Int64))), .second, .unset, .unset, .unset, .unset] []))
    refine Owes.go ?_ fun t k => XS.iload X3.here hx rfl (hb hby at_43) rfl k
    show Owes _ _ _ _ (T3.setTop (mkF m 45 #[.val (.int p0), .val (.long q1), .second, .val (.long q2), .second, .val (.int (0 : Int32)), .val (.ref rM), .val (.long (q1 &&& (9223372036854775807 : Int64))), .second, .val (.long (q2 &&& (9223372036854775807 : Int64))), .second, .unset, .unset, .unset, .unset] [(.int (0 : Int32))]))
    refine Owes.go ?_ fun t k => XS.ifYes X3.here hx rfl (pc0 := 45) (pc' := 54) rfl (hb hby at_45) rfl ((if0 _ _).trans (teq (by decide : ((0 : Int32) = (0 : Int32)))).1) (by decide) (by decide) k
    show Owes _ _ _ _ (T3.setTop (mkF m 54 #[.val (.int p0), .val (.long q1), .second, .val (.long q2), .second, .val (.int (0 : Int32)), .val (.ref rM), .val (.long (q1 &&& (9223372036854775807 : Int64))), .second, .val (.long (q2 &&& (9223372036854775807 : Int64))), .second, .unset, .unset, .unset, .unset] []))
    refine Owes.go ?_ fun t k => X3.ldc2Long hx hown (mvT hZ (hw _ (List.mem_of_getElem? (i := 4) rfl))) (g := (mkF m 54 #[.val (.int p0), .val (.long q1), .second, .val (.long q2), .second, .val (.int (0 : Int32)), .val (.ref rM), .val (.long (q1 &&& (9223372036854775807 : Int64))), .second, .val (.long (q2 &&& (9223372036854775807 : Int64))), .second, .unset, .unset, .unset, .unset] [])) rfl (hb hby at_54) _ k
    show Owes _ _ _ _ (T3.setTop (mkF m 57 #[.val (.int p0), .val (.long q1), .second, .val (.long q2), .second, .val (.int (0 : Int32)), .val (.ref rM), .val (.long (q1 &&& (9223372036854775807 : Int64))), .second, .val (.long (q2 &&& (9223372036854775807 : Int64))), .second, .unset, .unset, .unset, .unset] [(.long (68 : Int64))]))
    refine Owes.go ?_ fun t k => XS.lstore X3.here hx rfl (hb hby at_57) rfl (l' := #[.val (.int p0), .val (.long q1), .second, .val (.long q2), .second, .val (.int (0 : Int32)), .val (.ref rM), .val (.long (q1 &&& (9223372036854775807 : Int64))), .second, .val (.long (q2 &&& (9223372036854775807 : Int64))), .second, .val (.long (68 : Int64)), .second, .unset, .unset]) rfl k
    show Owes _ _ _ _ (T3.setTop (mkF m 59 #[.val (.int p0), .val (.long q1), .second, .val (.long q2), .second, .val (.int (0 : Int32)), .val (.ref rM), .val (.long (q1 &&& (9223372036854775807 : Int64))), .second, .val (.long (q2 &&& (9223372036854775807 : Int64))), .second, .val (.long (68 : Int64)), .second, .unset, .unset] []))
    refine Owes.go ?_ fun t k => XS.lload X3.here hx rfl (hb hby at_59) rfl k
    show Owes _ _ _ _ (T3.setTop (mkF m 61 #[.val (.int p0), .val (.long q1), .second, .val (.long q2), .second, .val (.int (0 : Int32)), .val (.ref rM), .val (.long (q1 &&& (9223372036854775807 : Int64))), .second, .val (.long (q2 &&& (9223372036854775807 : Int64))), .second, .val (.long (68 : Int64)), .second, .unset, .unset] [(.long (68 : Int64))]))
    refine Owes.go ?_ fun t k => XS.lload X3.here hx rfl (hb hby at_61) rfl k
    show Owes _ _ _ _ (T3.setTop (mkF m 63 #[.val (.int p0), .val (.long q1), .second, .val (.long q2), .second, .val (.int (0 : Int32)), .val (.ref rM), .val (.long (q1 &&& (9223372036854775807 : Int64))), .second, .val (.long (q2 &&& (9223372036854775807 : Int64))), .second, .val (.long (68 : Int64)), .second, .unset, .unset] [(.long (q1 &&& (9223372036854775807 : Int64))), (.long (68 : Int64))]))
    refine Owes.go ?_ fun t k => XS.lmul X3.here hx rfl (hb hby at_63) rfl k
    show Owes _ _ _ _ (T3.setTop (mkF m 64 #[.val (.int p0), .val (.long q1), .second, .val (.long q2), .second, .val (.int (0 : Int32)), .val (.ref rM), .val (.long (q1 &&& (9223372036854775807 : Int64))), .second, .val (.long (q2 &&& (9223372036854775807 : Int64))), .second, .val (.long (68 : Int64)), .second, .unset, .unset] [(.long ((68 : Int64) * (q1 &&& (9223372036854775807 : Int64))))]))
    refine Owes.go ?_ fun t k => X3.ldc2Long hx hown (mvT hZ (hw _ (List.mem_of_getElem? (i := 5) rfl))) (g := (mkF m 64 #[.val (.int p0), .val (.long q1), .second, .val (.long q2), .second, .val (.int (0 : Int32)), .val (.ref rM), .val (.long (q1 &&& (9223372036854775807 : Int64))), .second, .val (.long (q2 &&& (9223372036854775807 : Int64))), .second, .val (.long (68 : Int64)), .second, .unset, .unset] [(.long ((68 : Int64) * (q1 &&& (9223372036854775807 : Int64))))])) rfl (hb hby at_64) _ k
    show Owes _ _ _ _ (T3.setTop (mkF m 67 #[.val (.int p0), .val (.long q1), .second, .val (.long q2), .second, .val (.int (0 : Int32)), .val (.ref rM), .val (.long (q1 &&& (9223372036854775807 : Int64))), .second, .val (.long (q2 &&& (9223372036854775807 : Int64))), .second, .val (.long (68 : Int64)), .second, .unset, .unset] [(.long (36 : Int64)), (.long ((68 : Int64) * (q1 &&& (9223372036854775807 : Int64))))]))
    refine Owes.go ?_ fun t k => XS.lload X3.here hx rfl (hb hby at_67) rfl k
    show Owes _ _ _ _ (T3.setTop (mkF m 69 #[.val (.int p0), .val (.long q1), .second, .val (.long q2), .second, .val (.int (0 : Int32)), .val (.ref rM), .val (.long (q1 &&& (9223372036854775807 : Int64))), .second, .val (.long (q2 &&& (9223372036854775807 : Int64))), .second, .val (.long (68 : Int64)), .second, .unset, .unset] [(.long (q2 &&& (9223372036854775807 : Int64))), (.long (36 : Int64)), (.long ((68 : Int64) * (q1 &&& (9223372036854775807 : Int64))))]))
    refine Owes.go ?_ fun t k => XS.lmul X3.here hx rfl (hb hby at_69) rfl k
    show Owes _ _ _ _ (T3.setTop (mkF m 70 #[.val (.int p0), .val (.long q1), .second, .val (.long q2), .second, .val (.int (0 : Int32)), .val (.ref rM), .val (.long (q1 &&& (9223372036854775807 : Int64))), .second, .val (.long (q2 &&& (9223372036854775807 : Int64))), .second, .val (.long (68 : Int64)), .second, .unset, .unset] [(.long ((36 : Int64) * (q2 &&& (9223372036854775807 : Int64)))), (.long ((68 : Int64) * (q1 &&& (9223372036854775807 : Int64))))]))
    refine Owes.go ?_ fun t k => XS.ladd X3.here hx rfl (hb hby at_70) rfl k
    show Owes _ _ _ _ (T3.setTop (mkF m 71 #[.val (.int p0), .val (.long q1), .second, .val (.long q2), .second, .val (.int (0 : Int32)), .val (.ref rM), .val (.long (q1 &&& (9223372036854775807 : Int64))), .second, .val (.long (q2 &&& (9223372036854775807 : Int64))), .second, .val (.long (68 : Int64)), .second, .unset, .unset] [(.long (((68 : Int64) * (q1 &&& (9223372036854775807 : Int64))) + ((36 : Int64) * (q2 &&& (9223372036854775807 : Int64)))))]))
    refine Owes.go ?_ fun t k => XS.lstore X3.here hx rfl (hb hby at_71) rfl (l' := #[.val (.int p0), .val (.long q1), .second, .val (.long q2), .second, .val (.int (0 : Int32)), .val (.ref rM), .val (.long (q1 &&& (9223372036854775807 : Int64))), .second, .val (.long (q2 &&& (9223372036854775807 : Int64))), .second, .val (.long (68 : Int64)), .second, .val (.long (((68 : Int64) * (q1 &&& (9223372036854775807 : Int64))) + ((36 : Int64) * (q2 &&& (9223372036854775807 : Int64))))), .second]) rfl k
    show Owes _ _ _ _ (T3.setTop (mkF m 73 #[.val (.int p0), .val (.long q1), .second, .val (.long q2), .second, .val (.int (0 : Int32)), .val (.ref rM), .val (.long (q1 &&& (9223372036854775807 : Int64))), .second, .val (.long (q2 &&& (9223372036854775807 : Int64))), .second, .val (.long (68 : Int64)), .second, .val (.long (((68 : Int64) * (q1 &&& (9223372036854775807 : Int64))) + ((36 : Int64) * (q2 &&& (9223372036854775807 : Int64))))), .second] []))
    refine Owes.go ?_ fun t k => XS.aload X3.here hx rfl (hb hby at_73) rfl rfl k
    show Owes _ _ _ _ (T3.setTop (mkF m 75 #[.val (.int p0), .val (.long q1), .second, .val (.long q2), .second, .val (.int (0 : Int32)), .val (.ref rM), .val (.long (q1 &&& (9223372036854775807 : Int64))), .second, .val (.long (q2 &&& (9223372036854775807 : Int64))), .second, .val (.long (68 : Int64)), .second, .val (.long (((68 : Int64) * (q1 &&& (9223372036854775807 : Int64))) + ((36 : Int64) * (q2 &&& (9223372036854775807 : Int64))))), .second] [(.ref rM)]))
    refine Owes.go ?_ fun t k => XS.lload X3.here hx rfl (hb hby at_75) rfl k
    show Owes _ _ _ _ (T3.setTop (mkF m 77 #[.val (.int p0), .val (.long q1), .second, .val (.long q2), .second, .val (.int (0 : Int32)), .val (.ref rM), .val (.long (q1 &&& (9223372036854775807 : Int64))), .second, .val (.long (q2 &&& (9223372036854775807 : Int64))), .second, .val (.long (68 : Int64)), .second, .val (.long (((68 : Int64) * (q1 &&& (9223372036854775807 : Int64))) + ((36 : Int64) * (q2 &&& (9223372036854775807 : Int64))))), .second] [(.long (q1 &&& (9223372036854775807 : Int64))), (.ref rM)]))
    refine Owes.go ?_ fun t k => XS.lload X3.here hx rfl (hb hby at_77) rfl k
    show Owes _ _ _ _ (T3.setTop (mkF m 79 #[.val (.int p0), .val (.long q1), .second, .val (.long q2), .second, .val (.int (0 : Int32)), .val (.ref rM), .val (.long (q1 &&& (9223372036854775807 : Int64))), .second, .val (.long (q2 &&& (9223372036854775807 : Int64))), .second, .val (.long (68 : Int64)), .second, .val (.long (((68 : Int64) * (q1 &&& (9223372036854775807 : Int64))) + ((36 : Int64) * (q2 &&& (9223372036854775807 : Int64))))), .second] [(.long (q2 &&& (9223372036854775807 : Int64))), (.long (q1 &&& (9223372036854775807 : Int64))), (.ref rM)]))
    refine Owes.callV X3 hx hZ hown (hw _ (List.mem_of_getElem? (i := 6) rfl)) (hw _ (List.mem_of_getElem? (i := 7) rfl)) (notFace_of_selects (args := #[]) (mvT hZ (hw _ (List.mem_of_getElem? (i := 9) rfl)))) (hw _ (List.mem_of_getElem? (i := 9) rfl)) (hw _ (List.mem_of_getElem? (i := 8) rfl)) (hw _ (List.mem_of_getElem? (i := 1) rfl)) (hw _ (List.mem_of_getElem? (i := 10) rfl)) (by decide) (a := rM) (argsL := [(.long (q1 &&& (9223372036854775807 : Int64))), (.long (q2 &&& (9223372036854775807 : Int64)))]) (rest := []) (rm_f_hb l Z a0 hw [] rM (q1 &&& (9223372036854775807 : Int64)) (q2 &&& (9223372036854775807 : Int64)) h0 17 9 FMv FMe) e3 E_M (by rw [hml]; rfl) pd_0 rfl rfl (hb hby at_79) (by decide) (Nat.le_of_ble_eq_true rfl) (by decide) (by decide) ?_
    rintro T4 _ _ X4 ⟨rfl, rfl, e4⟩
    rw [List.append_nil] at X4
    show Owes _ _ _ _ (T4.setTop (mkF m 82 #[.val (.int p0), .val (.long q1), .second, .val (.long q2), .second, .val (.int (0 : Int32)), .val (.ref rM), .val (.long (q1 &&& (9223372036854775807 : Int64))), .second, .val (.long (q2 &&& (9223372036854775807 : Int64))), .second, .val (.long (68 : Int64)), .second, .val (.long (((68 : Int64) * (q1 &&& (9223372036854775807 : Int64))) + ((36 : Int64) * (q2 &&& (9223372036854775807 : Int64))))), .second] [(.long (f_hb (q1 &&& (9223372036854775807 : Int64)) (q2 &&& (9223372036854775807 : Int64)) 17 9))]))
    refine Owes.go ?_ fun t k => XS.lload X4.here hx rfl (hb hby at_82) rfl k
    show Owes _ _ _ _ (T4.setTop (mkF m 84 #[.val (.int p0), .val (.long q1), .second, .val (.long q2), .second, .val (.int (0 : Int32)), .val (.ref rM), .val (.long (q1 &&& (9223372036854775807 : Int64))), .second, .val (.long (q2 &&& (9223372036854775807 : Int64))), .second, .val (.long (68 : Int64)), .second, .val (.long (((68 : Int64) * (q1 &&& (9223372036854775807 : Int64))) + ((36 : Int64) * (q2 &&& (9223372036854775807 : Int64))))), .second] [(.long (((68 : Int64) * (q1 &&& (9223372036854775807 : Int64))) + ((36 : Int64) * (q2 &&& (9223372036854775807 : Int64))))), (.long (f_hb (q1 &&& (9223372036854775807 : Int64)) (q2 &&& (9223372036854775807 : Int64)) 17 9))]))
    refine Owes.go ?_ fun t k => XS.lcmp X4.here hx rfl (hb hby at_84) rfl k
    show Owes _ _ _ _ (T4.setTop (mkF m 85 #[.val (.int p0), .val (.long q1), .second, .val (.long q2), .second, .val (.int (0 : Int32)), .val (.ref rM), .val (.long (q1 &&& (9223372036854775807 : Int64))), .second, .val (.long (q2 &&& (9223372036854775807 : Int64))), .second, .val (.long (68 : Int64)), .second, .val (.long (((68 : Int64) * (q1 &&& (9223372036854775807 : Int64))) + ((36 : Int64) * (q2 &&& (9223372036854775807 : Int64))))), .second] [(.int (lcmpW (f_hb (q1 &&& (9223372036854775807 : Int64)) (q2 &&& (9223372036854775807 : Int64)) 17 9) (((68 : Int64) * (q1 &&& (9223372036854775807 : Int64))) + ((36 : Int64) * (q2 &&& (9223372036854775807 : Int64))))))]))
    refine Owes.go ?_ fun t k => XS.ifNo X4.here hx rfl (hb hby at_85) rfl ((if0 _ _).trans (teq ((lw_eq _ _).mpr (own_map _ _))).2) k
    show Owes _ _ _ _ (T4.setTop (mkF m 88 #[.val (.int p0), .val (.long q1), .second, .val (.long q2), .second, .val (.int (0 : Int32)), .val (.ref rM), .val (.long (q1 &&& (9223372036854775807 : Int64))), .second, .val (.long (q2 &&& (9223372036854775807 : Int64))), .second, .val (.long (68 : Int64)), .second, .val (.long (((68 : Int64) * (q1 &&& (9223372036854775807 : Int64))) + ((36 : Int64) * (q2 &&& (9223372036854775807 : Int64))))), .second] []))
    refine Owes.go ?_ fun t k => XS.iconst X4.here hx rfl (hb hby at_88) k
    show Owes _ _ _ _ (T4.setTop (mkF m 89 #[.val (.int p0), .val (.long q1), .second, .val (.long q2), .second, .val (.int (0 : Int32)), .val (.ref rM), .val (.long (q1 &&& (9223372036854775807 : Int64))), .second, .val (.long (q2 &&& (9223372036854775807 : Int64))), .second, .val (.long (68 : Int64)), .second, .val (.long (((68 : Int64) * (q1 &&& (9223372036854775807 : Int64))) + ((36 : Int64) * (q2 &&& (9223372036854775807 : Int64))))), .second] [(.int (1 : Int32))]))
    refine Owes.go ?_ fun t k => XS.goto X4.here hx rfl (pc0 := 89) (pc' := 93) rfl (hb hby at_89) (by decide) (by decide) k
    show Owes _ _ _ _ (T4.setTop (mkF m 93 #[.val (.int p0), .val (.long q1), .second, .val (.long q2), .second, .val (.int (0 : Int32)), .val (.ref rM), .val (.long (q1 &&& (9223372036854775807 : Int64))), .second, .val (.long (q2 &&& (9223372036854775807 : Int64))), .second, .val (.long (68 : Int64)), .second, .val (.long (((68 : Int64) * (q1 &&& (9223372036854775807 : Int64))) + ((36 : Int64) * (q2 &&& (9223372036854775807 : Int64))))), .second] [(.int (1 : Int32))]))
    exact Owes.retN X4 hx hlk hret (by simp) (hb hby at_93) (by decide) (by decide) ⟨rfl, N0⟩
  · skip
    refine Owes.go ?_ fun t k => XS.ifNo X0.here hx rfl (hb hby at_3) rfl ((if0 _ _).trans (feq hc1).1) k
    show Owes _ _ _ _ (s₁.setTop (mkF m 6 #[.val (.int p0), .val (.long q1), .second, .val (.long q2), .second, .unset, .unset, .unset, .unset, .unset, .unset, .unset, .unset, .unset, .unset] []))
    refine Owes.go ?_ fun t k => XS.iconst X0.here hx rfl (hb hby at_6) k
    show Owes _ _ _ _ (s₁.setTop (mkF m 7 #[.val (.int p0), .val (.long q1), .second, .val (.long q2), .second, .unset, .unset, .unset, .unset, .unset, .unset, .unset, .unset, .unset, .unset] [(.int (1 : Int32))]))
    refine Owes.go ?_ fun t k => XS.goto X0.here hx rfl (pc0 := 7) (pc' := 11) rfl (hb hby at_7) (by decide) (by decide) k
    show Owes _ _ _ _ (s₁.setTop (mkF m 11 #[.val (.int p0), .val (.long q1), .second, .val (.long q2), .second, .unset, .unset, .unset, .unset, .unset, .unset, .unset, .unset, .unset, .unset] [(.int (1 : Int32))]))
    refine Owes.go ?_ fun t k => XS.istore X0.here hx rfl (hb hby at_11) rfl (l' := #[.val (.int p0), .val (.long q1), .second, .val (.long q2), .second, .val (.int (1 : Int32)), .unset, .unset, .unset, .unset, .unset, .unset, .unset, .unset, .unset]) rfl k
    show Owes _ _ _ _ (s₁.setTop (mkF m 13 #[.val (.int p0), .val (.long q1), .second, .val (.long q2), .second, .val (.int (1 : Int32)), .unset, .unset, .unset, .unset, .unset, .unset, .unset, .unset, .unset] []))
    refine Owes.go ?_ fun t k => XS.iload X0.here hx rfl (hb hby at_13) rfl k
    show Owes _ _ _ _ (s₁.setTop (mkF m 15 #[.val (.int p0), .val (.long q1), .second, .val (.long q2), .second, .val (.int (1 : Int32)), .unset, .unset, .unset, .unset, .unset, .unset, .unset, .unset, .unset] [(.int (1 : Int32))]))
    refine Owes.go ?_ fun t k => XS.ifNo X0.here hx rfl (hb hby at_15) rfl ((if0 _ _).trans (feq (by decide : ¬ ((1 : Int32) = (0 : Int32)))).1) k
    show Owes _ _ _ _ (s₁.setTop (mkF m 18 #[.val (.int p0), .val (.long q1), .second, .val (.long q2), .second, .val (.int (1 : Int32)), .unset, .unset, .unset, .unset, .unset, .unset, .unset, .unset, .unset] []))
    obtain ⟨T5, X5, e5, st5⟩ := getS2 X0 hx hZ hown (host := "") (Or.inl (hw _ (List.mem_of_getElem? (i := 16) rfl))) Via.refl e0 S_L (g := (mkF m 18 #[.val (.int p0), .val (.long q1), .second, .val (.long q2), .second, .val (.int (1 : Int32)), .unset, .unset, .unset, .unset, .unset, .unset, .unset, .unset, .unset] [])) rfl (hb hby at_18)
    refine Owes.go ?_ st5
    show Owes _ _ _ _ (T5.setTop (mkF m 21 #[.val (.int p0), .val (.long q1), .second, .val (.long q2), .second, .val (.int (1 : Int32)), .unset, .unset, .unset, .unset, .unset, .unset, .unset, .unset, .unset] [(.ref rL)]))
    refine Owes.go ?_ fun t k => XS.goto X5.here hx rfl (pc0 := 21) (pc' := 27) rfl (hb hby at_21) (by decide) (by decide) k
    show Owes _ _ _ _ (T5.setTop (mkF m 27 #[.val (.int p0), .val (.long q1), .second, .val (.long q2), .second, .val (.int (1 : Int32)), .unset, .unset, .unset, .unset, .unset, .unset, .unset, .unset, .unset] [(.ref rL)]))
    refine Owes.go ?_ fun t k => XS.astore X5.here hx rfl (hb hby at_27) rfl rfl (l' := #[.val (.int p0), .val (.long q1), .second, .val (.long q2), .second, .val (.int (1 : Int32)), .val (.ref rL), .unset, .unset, .unset, .unset, .unset, .unset, .unset, .unset]) rfl k
    show Owes _ _ _ _ (T5.setTop (mkF m 29 #[.val (.int p0), .val (.long q1), .second, .val (.long q2), .second, .val (.int (1 : Int32)), .val (.ref rL), .unset, .unset, .unset, .unset, .unset, .unset, .unset, .unset] []))
    refine Owes.go ?_ fun t k => XS.lloadN X5.here hx rfl (hb hby at_29) rfl k
    show Owes _ _ _ _ (T5.setTop (mkF m 30 #[.val (.int p0), .val (.long q1), .second, .val (.long q2), .second, .val (.int (1 : Int32)), .val (.ref rL), .unset, .unset, .unset, .unset, .unset, .unset, .unset, .unset] [(.long q1)]))
    refine Owes.go ?_ fun t k => X5.ldc2Long hx hown (mvT hZ (hw _ (List.mem_of_getElem? (i := 3) rfl))) (g := (mkF m 30 #[.val (.int p0), .val (.long q1), .second, .val (.long q2), .second, .val (.int (1 : Int32)), .val (.ref rL), .unset, .unset, .unset, .unset, .unset, .unset, .unset, .unset] [(.long q1)])) rfl (hb hby at_30) _ k
    show Owes _ _ _ _ (T5.setTop (mkF m 33 #[.val (.int p0), .val (.long q1), .second, .val (.long q2), .second, .val (.int (1 : Int32)), .val (.ref rL), .unset, .unset, .unset, .unset, .unset, .unset, .unset, .unset] [(.long (9223372036854775807 : Int64)), (.long q1)]))
    refine Owes.go ?_ fun t k => XS.land X5.here hx rfl (hb hby at_33) rfl k
    show Owes _ _ _ _ (T5.setTop (mkF m 34 #[.val (.int p0), .val (.long q1), .second, .val (.long q2), .second, .val (.int (1 : Int32)), .val (.ref rL), .unset, .unset, .unset, .unset, .unset, .unset, .unset, .unset] [(.long (q1 &&& (9223372036854775807 : Int64)))]))
    refine Owes.go ?_ fun t k => XS.lstore X5.here hx rfl (hb hby at_34) rfl (l' := #[.val (.int p0), .val (.long q1), .second, .val (.long q2), .second, .val (.int (1 : Int32)), .val (.ref rL), .val (.long (q1 &&& (9223372036854775807 : Int64))), .second, .unset, .unset, .unset, .unset, .unset, .unset]) rfl k
    show Owes _ _ _ _ (T5.setTop (mkF m 36 #[.val (.int p0), .val (.long q1), .second, .val (.long q2), .second, .val (.int (1 : Int32)), .val (.ref rL), .val (.long (q1 &&& (9223372036854775807 : Int64))), .second, .unset, .unset, .unset, .unset, .unset, .unset] []))
    refine Owes.go ?_ fun t k => XS.lloadN X5.here hx rfl (hb hby at_36) rfl k
    show Owes _ _ _ _ (T5.setTop (mkF m 37 #[.val (.int p0), .val (.long q1), .second, .val (.long q2), .second, .val (.int (1 : Int32)), .val (.ref rL), .val (.long (q1 &&& (9223372036854775807 : Int64))), .second, .unset, .unset, .unset, .unset, .unset, .unset] [(.long q2)]))
    refine Owes.go ?_ fun t k => X5.ldc2Long hx hown (mvT hZ (hw _ (List.mem_of_getElem? (i := 3) rfl))) (g := (mkF m 37 #[.val (.int p0), .val (.long q1), .second, .val (.long q2), .second, .val (.int (1 : Int32)), .val (.ref rL), .val (.long (q1 &&& (9223372036854775807 : Int64))), .second, .unset, .unset, .unset, .unset, .unset, .unset] [(.long q2)])) rfl (hb hby at_37) _ k
    show Owes _ _ _ _ (T5.setTop (mkF m 40 #[.val (.int p0), .val (.long q1), .second, .val (.long q2), .second, .val (.int (1 : Int32)), .val (.ref rL), .val (.long (q1 &&& (9223372036854775807 : Int64))), .second, .unset, .unset, .unset, .unset, .unset, .unset] [(.long (9223372036854775807 : Int64)), (.long q2)]))
    refine Owes.go ?_ fun t k => XS.land X5.here hx rfl (hb hby at_40) rfl k
    show Owes _ _ _ _ (T5.setTop (mkF m 41 #[.val (.int p0), .val (.long q1), .second, .val (.long q2), .second, .val (.int (1 : Int32)), .val (.ref rL), .val (.long (q1 &&& (9223372036854775807 : Int64))), .second, .unset, .unset, .unset, .unset, .unset, .unset] [(.long (q2 &&& (9223372036854775807 : Int64)))]))
    refine Owes.go ?_ fun t k => XS.lstore X5.here hx rfl (hb hby at_41) rfl (l' := #[.val (.int p0), .val (.long q1), .second, .val (.long q2), .second, .val (.int (1 : Int32)), .val (.ref rL), .val (.long (q1 &&& (9223372036854775807 : Int64))), .second, .val (.long (q2 &&& (9223372036854775807 : Int64))), .second, .unset, .unset, .unset, .unset]) rfl k
    show Owes _ _ _ _ (T5.setTop (mkF m 43 #[.val (.int p0), .val (.long q1), .second, .val (.long q2), .second, .val (.int (1 : Int32)), .val (.ref rL), .val (.long (q1 &&& (9223372036854775807 : Int64))), .second, .val (.long (q2 &&& (9223372036854775807 : Int64))), .second, .unset, .unset, .unset, .unset] []))
    refine Owes.go ?_ fun t k => XS.iload X5.here hx rfl (hb hby at_43) rfl k
    show Owes _ _ _ _ (T5.setTop (mkF m 45 #[.val (.int p0), .val (.long q1), .second, .val (.long q2), .second, .val (.int (1 : Int32)), .val (.ref rL), .val (.long (q1 &&& (9223372036854775807 : Int64))), .second, .val (.long (q2 &&& (9223372036854775807 : Int64))), .second, .unset, .unset, .unset, .unset] [(.int (1 : Int32))]))
    refine Owes.go ?_ fun t k => XS.ifNo X5.here hx rfl (hb hby at_45) rfl ((if0 _ _).trans (feq (by decide : ¬ ((1 : Int32) = (0 : Int32)))).1) k
    show Owes _ _ _ _ (T5.setTop (mkF m 48 #[.val (.int p0), .val (.long q1), .second, .val (.long q2), .second, .val (.int (1 : Int32)), .val (.ref rL), .val (.long (q1 &&& (9223372036854775807 : Int64))), .second, .val (.long (q2 &&& (9223372036854775807 : Int64))), .second, .unset, .unset, .unset, .unset] []))
    refine Owes.go ?_ fun t k => X5.ldc2Long hx hown (mvT hZ (hw _ (List.mem_of_getElem? (i := 18) rfl))) (g := (mkF m 48 #[.val (.int p0), .val (.long q1), .second, .val (.long q2), .second, .val (.int (1 : Int32)), .val (.ref rL), .val (.long (q1 &&& (9223372036854775807 : Int64))), .second, .val (.long (q2 &&& (9223372036854775807 : Int64))), .second, .unset, .unset, .unset, .unset] [])) rfl (hb hby at_48) _ k
    show Owes _ _ _ _ (T5.setTop (mkF m 51 #[.val (.int p0), .val (.long q1), .second, .val (.long q2), .second, .val (.int (1 : Int32)), .val (.ref rL), .val (.long (q1 &&& (9223372036854775807 : Int64))), .second, .val (.long (q2 &&& (9223372036854775807 : Int64))), .second, .unset, .unset, .unset, .unset] [(.long (76 : Int64))]))
    refine Owes.go ?_ fun t k => XS.goto X5.here hx rfl (pc0 := 51) (pc' := 57) rfl (hb hby at_51) (by decide) (by decide) k
    show Owes _ _ _ _ (T5.setTop (mkF m 57 #[.val (.int p0), .val (.long q1), .second, .val (.long q2), .second, .val (.int (1 : Int32)), .val (.ref rL), .val (.long (q1 &&& (9223372036854775807 : Int64))), .second, .val (.long (q2 &&& (9223372036854775807 : Int64))), .second, .unset, .unset, .unset, .unset] [(.long (76 : Int64))]))
    refine Owes.go ?_ fun t k => XS.lstore X5.here hx rfl (hb hby at_57) rfl (l' := #[.val (.int p0), .val (.long q1), .second, .val (.long q2), .second, .val (.int (1 : Int32)), .val (.ref rL), .val (.long (q1 &&& (9223372036854775807 : Int64))), .second, .val (.long (q2 &&& (9223372036854775807 : Int64))), .second, .val (.long (76 : Int64)), .second, .unset, .unset]) rfl k
    show Owes _ _ _ _ (T5.setTop (mkF m 59 #[.val (.int p0), .val (.long q1), .second, .val (.long q2), .second, .val (.int (1 : Int32)), .val (.ref rL), .val (.long (q1 &&& (9223372036854775807 : Int64))), .second, .val (.long (q2 &&& (9223372036854775807 : Int64))), .second, .val (.long (76 : Int64)), .second, .unset, .unset] []))
    refine Owes.go ?_ fun t k => XS.lload X5.here hx rfl (hb hby at_59) rfl k
    show Owes _ _ _ _ (T5.setTop (mkF m 61 #[.val (.int p0), .val (.long q1), .second, .val (.long q2), .second, .val (.int (1 : Int32)), .val (.ref rL), .val (.long (q1 &&& (9223372036854775807 : Int64))), .second, .val (.long (q2 &&& (9223372036854775807 : Int64))), .second, .val (.long (76 : Int64)), .second, .unset, .unset] [(.long (76 : Int64))]))
    refine Owes.go ?_ fun t k => XS.lload X5.here hx rfl (hb hby at_61) rfl k
    show Owes _ _ _ _ (T5.setTop (mkF m 63 #[.val (.int p0), .val (.long q1), .second, .val (.long q2), .second, .val (.int (1 : Int32)), .val (.ref rL), .val (.long (q1 &&& (9223372036854775807 : Int64))), .second, .val (.long (q2 &&& (9223372036854775807 : Int64))), .second, .val (.long (76 : Int64)), .second, .unset, .unset] [(.long (q1 &&& (9223372036854775807 : Int64))), (.long (76 : Int64))]))
    refine Owes.go ?_ fun t k => XS.lmul X5.here hx rfl (hb hby at_63) rfl k
    show Owes _ _ _ _ (T5.setTop (mkF m 64 #[.val (.int p0), .val (.long q1), .second, .val (.long q2), .second, .val (.int (1 : Int32)), .val (.ref rL), .val (.long (q1 &&& (9223372036854775807 : Int64))), .second, .val (.long (q2 &&& (9223372036854775807 : Int64))), .second, .val (.long (76 : Int64)), .second, .unset, .unset] [(.long ((76 : Int64) * (q1 &&& (9223372036854775807 : Int64))))]))
    refine Owes.go ?_ fun t k => X5.ldc2Long hx hown (mvT hZ (hw _ (List.mem_of_getElem? (i := 5) rfl))) (g := (mkF m 64 #[.val (.int p0), .val (.long q1), .second, .val (.long q2), .second, .val (.int (1 : Int32)), .val (.ref rL), .val (.long (q1 &&& (9223372036854775807 : Int64))), .second, .val (.long (q2 &&& (9223372036854775807 : Int64))), .second, .val (.long (76 : Int64)), .second, .unset, .unset] [(.long ((76 : Int64) * (q1 &&& (9223372036854775807 : Int64))))])) rfl (hb hby at_64) _ k
    show Owes _ _ _ _ (T5.setTop (mkF m 67 #[.val (.int p0), .val (.long q1), .second, .val (.long q2), .second, .val (.int (1 : Int32)), .val (.ref rL), .val (.long (q1 &&& (9223372036854775807 : Int64))), .second, .val (.long (q2 &&& (9223372036854775807 : Int64))), .second, .val (.long (76 : Int64)), .second, .unset, .unset] [(.long (36 : Int64)), (.long ((76 : Int64) * (q1 &&& (9223372036854775807 : Int64))))]))
    refine Owes.go ?_ fun t k => XS.lload X5.here hx rfl (hb hby at_67) rfl k
    show Owes _ _ _ _ (T5.setTop (mkF m 69 #[.val (.int p0), .val (.long q1), .second, .val (.long q2), .second, .val (.int (1 : Int32)), .val (.ref rL), .val (.long (q1 &&& (9223372036854775807 : Int64))), .second, .val (.long (q2 &&& (9223372036854775807 : Int64))), .second, .val (.long (76 : Int64)), .second, .unset, .unset] [(.long (q2 &&& (9223372036854775807 : Int64))), (.long (36 : Int64)), (.long ((76 : Int64) * (q1 &&& (9223372036854775807 : Int64))))]))
    refine Owes.go ?_ fun t k => XS.lmul X5.here hx rfl (hb hby at_69) rfl k
    show Owes _ _ _ _ (T5.setTop (mkF m 70 #[.val (.int p0), .val (.long q1), .second, .val (.long q2), .second, .val (.int (1 : Int32)), .val (.ref rL), .val (.long (q1 &&& (9223372036854775807 : Int64))), .second, .val (.long (q2 &&& (9223372036854775807 : Int64))), .second, .val (.long (76 : Int64)), .second, .unset, .unset] [(.long ((36 : Int64) * (q2 &&& (9223372036854775807 : Int64)))), (.long ((76 : Int64) * (q1 &&& (9223372036854775807 : Int64))))]))
    refine Owes.go ?_ fun t k => XS.ladd X5.here hx rfl (hb hby at_70) rfl k
    show Owes _ _ _ _ (T5.setTop (mkF m 71 #[.val (.int p0), .val (.long q1), .second, .val (.long q2), .second, .val (.int (1 : Int32)), .val (.ref rL), .val (.long (q1 &&& (9223372036854775807 : Int64))), .second, .val (.long (q2 &&& (9223372036854775807 : Int64))), .second, .val (.long (76 : Int64)), .second, .unset, .unset] [(.long (((76 : Int64) * (q1 &&& (9223372036854775807 : Int64))) + ((36 : Int64) * (q2 &&& (9223372036854775807 : Int64)))))]))
    refine Owes.go ?_ fun t k => XS.lstore X5.here hx rfl (hb hby at_71) rfl (l' := #[.val (.int p0), .val (.long q1), .second, .val (.long q2), .second, .val (.int (1 : Int32)), .val (.ref rL), .val (.long (q1 &&& (9223372036854775807 : Int64))), .second, .val (.long (q2 &&& (9223372036854775807 : Int64))), .second, .val (.long (76 : Int64)), .second, .val (.long (((76 : Int64) * (q1 &&& (9223372036854775807 : Int64))) + ((36 : Int64) * (q2 &&& (9223372036854775807 : Int64))))), .second]) rfl k
    show Owes _ _ _ _ (T5.setTop (mkF m 73 #[.val (.int p0), .val (.long q1), .second, .val (.long q2), .second, .val (.int (1 : Int32)), .val (.ref rL), .val (.long (q1 &&& (9223372036854775807 : Int64))), .second, .val (.long (q2 &&& (9223372036854775807 : Int64))), .second, .val (.long (76 : Int64)), .second, .val (.long (((76 : Int64) * (q1 &&& (9223372036854775807 : Int64))) + ((36 : Int64) * (q2 &&& (9223372036854775807 : Int64))))), .second] []))
    refine Owes.go ?_ fun t k => XS.aload X5.here hx rfl (hb hby at_73) rfl rfl k
    show Owes _ _ _ _ (T5.setTop (mkF m 75 #[.val (.int p0), .val (.long q1), .second, .val (.long q2), .second, .val (.int (1 : Int32)), .val (.ref rL), .val (.long (q1 &&& (9223372036854775807 : Int64))), .second, .val (.long (q2 &&& (9223372036854775807 : Int64))), .second, .val (.long (76 : Int64)), .second, .val (.long (((76 : Int64) * (q1 &&& (9223372036854775807 : Int64))) + ((36 : Int64) * (q2 &&& (9223372036854775807 : Int64))))), .second] [(.ref rL)]))
    refine Owes.go ?_ fun t k => XS.lload X5.here hx rfl (hb hby at_75) rfl k
    show Owes _ _ _ _ (T5.setTop (mkF m 77 #[.val (.int p0), .val (.long q1), .second, .val (.long q2), .second, .val (.int (1 : Int32)), .val (.ref rL), .val (.long (q1 &&& (9223372036854775807 : Int64))), .second, .val (.long (q2 &&& (9223372036854775807 : Int64))), .second, .val (.long (76 : Int64)), .second, .val (.long (((76 : Int64) * (q1 &&& (9223372036854775807 : Int64))) + ((36 : Int64) * (q2 &&& (9223372036854775807 : Int64))))), .second] [(.long (q1 &&& (9223372036854775807 : Int64))), (.ref rL)]))
    refine Owes.go ?_ fun t k => XS.lload X5.here hx rfl (hb hby at_77) rfl k
    show Owes _ _ _ _ (T5.setTop (mkF m 79 #[.val (.int p0), .val (.long q1), .second, .val (.long q2), .second, .val (.int (1 : Int32)), .val (.ref rL), .val (.long (q1 &&& (9223372036854775807 : Int64))), .second, .val (.long (q2 &&& (9223372036854775807 : Int64))), .second, .val (.long (76 : Int64)), .second, .val (.long (((76 : Int64) * (q1 &&& (9223372036854775807 : Int64))) + ((36 : Int64) * (q2 &&& (9223372036854775807 : Int64))))), .second] [(.long (q2 &&& (9223372036854775807 : Int64))), (.long (q1 &&& (9223372036854775807 : Int64))), (.ref rL)]))
    refine Owes.callV X5 hx hZ hown (hw _ (List.mem_of_getElem? (i := 6) rfl)) (hw _ (List.mem_of_getElem? (i := 7) rfl)) (notFace_of_selects (args := #[]) (mvT hZ (hw _ (List.mem_of_getElem? (i := 19) rfl)))) (hw _ (List.mem_of_getElem? (i := 19) rfl)) (hw _ (List.mem_of_getElem? (i := 8) rfl)) (hw _ (List.mem_of_getElem? (i := 1) rfl)) (hw _ (List.mem_of_getElem? (i := 10) rfl)) (by decide) (a := rL) (argsL := [(.long (q1 &&& (9223372036854775807 : Int64))), (.long (q2 &&& (9223372036854775807 : Int64)))]) (rest := []) (rm_f_hb l Z a0 hw [] rL (q1 &&& (9223372036854775807 : Int64)) (q2 &&& (9223372036854775807 : Int64)) h0 19 9 FLv FLe) e5 E_L (by rw [hml]; rfl) pd_0 rfl rfl (hb hby at_79) (by decide) (Nat.le_of_ble_eq_true rfl) (by decide) (by decide) ?_
    rintro T6 _ _ X6 ⟨rfl, rfl, e6⟩
    rw [List.append_nil] at X6
    show Owes _ _ _ _ (T6.setTop (mkF m 82 #[.val (.int p0), .val (.long q1), .second, .val (.long q2), .second, .val (.int (1 : Int32)), .val (.ref rL), .val (.long (q1 &&& (9223372036854775807 : Int64))), .second, .val (.long (q2 &&& (9223372036854775807 : Int64))), .second, .val (.long (76 : Int64)), .second, .val (.long (((76 : Int64) * (q1 &&& (9223372036854775807 : Int64))) + ((36 : Int64) * (q2 &&& (9223372036854775807 : Int64))))), .second] [(.long (f_hb (q1 &&& (9223372036854775807 : Int64)) (q2 &&& (9223372036854775807 : Int64)) 19 9))]))
    refine Owes.go ?_ fun t k => XS.lload X6.here hx rfl (hb hby at_82) rfl k
    show Owes _ _ _ _ (T6.setTop (mkF m 84 #[.val (.int p0), .val (.long q1), .second, .val (.long q2), .second, .val (.int (1 : Int32)), .val (.ref rL), .val (.long (q1 &&& (9223372036854775807 : Int64))), .second, .val (.long (q2 &&& (9223372036854775807 : Int64))), .second, .val (.long (76 : Int64)), .second, .val (.long (((76 : Int64) * (q1 &&& (9223372036854775807 : Int64))) + ((36 : Int64) * (q2 &&& (9223372036854775807 : Int64))))), .second] [(.long (((76 : Int64) * (q1 &&& (9223372036854775807 : Int64))) + ((36 : Int64) * (q2 &&& (9223372036854775807 : Int64))))), (.long (f_hb (q1 &&& (9223372036854775807 : Int64)) (q2 &&& (9223372036854775807 : Int64)) 19 9))]))
    refine Owes.go ?_ fun t k => XS.lcmp X6.here hx rfl (hb hby at_84) rfl k
    show Owes _ _ _ _ (T6.setTop (mkF m 85 #[.val (.int p0), .val (.long q1), .second, .val (.long q2), .second, .val (.int (1 : Int32)), .val (.ref rL), .val (.long (q1 &&& (9223372036854775807 : Int64))), .second, .val (.long (q2 &&& (9223372036854775807 : Int64))), .second, .val (.long (76 : Int64)), .second, .val (.long (((76 : Int64) * (q1 &&& (9223372036854775807 : Int64))) + ((36 : Int64) * (q2 &&& (9223372036854775807 : Int64))))), .second] [(.int (lcmpW (f_hb (q1 &&& (9223372036854775807 : Int64)) (q2 &&& (9223372036854775807 : Int64)) 19 9) (((76 : Int64) * (q1 &&& (9223372036854775807 : Int64))) + ((36 : Int64) * (q2 &&& (9223372036854775807 : Int64))))))]))
    refine Owes.go ?_ fun t k => XS.ifNo X6.here hx rfl (hb hby at_85) rfl ((if0 _ _).trans (teq ((lw_eq _ _).mpr (own_list _ _))).2) k
    show Owes _ _ _ _ (T6.setTop (mkF m 88 #[.val (.int p0), .val (.long q1), .second, .val (.long q2), .second, .val (.int (1 : Int32)), .val (.ref rL), .val (.long (q1 &&& (9223372036854775807 : Int64))), .second, .val (.long (q2 &&& (9223372036854775807 : Int64))), .second, .val (.long (76 : Int64)), .second, .val (.long (((76 : Int64) * (q1 &&& (9223372036854775807 : Int64))) + ((36 : Int64) * (q2 &&& (9223372036854775807 : Int64))))), .second] []))
    refine Owes.go ?_ fun t k => XS.iconst X6.here hx rfl (hb hby at_88) k
    show Owes _ _ _ _ (T6.setTop (mkF m 89 #[.val (.int p0), .val (.long q1), .second, .val (.long q2), .second, .val (.int (1 : Int32)), .val (.ref rL), .val (.long (q1 &&& (9223372036854775807 : Int64))), .second, .val (.long (q2 &&& (9223372036854775807 : Int64))), .second, .val (.long (76 : Int64)), .second, .val (.long (((76 : Int64) * (q1 &&& (9223372036854775807 : Int64))) + ((36 : Int64) * (q2 &&& (9223372036854775807 : Int64))))), .second] [(.int (1 : Int32))]))
    refine Owes.go ?_ fun t k => XS.goto X6.here hx rfl (pc0 := 89) (pc' := 93) rfl (hb hby at_89) (by decide) (by decide) k
    show Owes _ _ _ _ (T6.setTop (mkF m 93 #[.val (.int p0), .val (.long q1), .second, .val (.long q2), .second, .val (.int (1 : Int32)), .val (.ref rL), .val (.long (q1 &&& (9223372036854775807 : Int64))), .second, .val (.long (q2 &&& (9223372036854775807 : Int64))), .second, .val (.long (76 : Int64)), .second, .val (.long (((76 : Int64) * (q1 &&& (9223372036854775807 : Int64))) + ((36 : Int64) * (q2 &&& (9223372036854775807 : Int64))))), .second] [(.int (1 : Int32))]))
    exact Owes.retN X6 hx hlk hret (by simp) (hb hby at_93) (by decide) (by decide) ⟨rfl, N0⟩
set_option maxRecDepth 65536 in
set_option maxHeartbeats 40000000 in
theorem comes_1 {Post : Tables → Env → Array Value → State → Outcome → State → Prop} (hpost : ∀ tb e args s v u, (limb_1_1.after args s (.returned v) u = true ∧ limb_1_2.after args s (.returned v) u = true ∧ True) → FrameEnd s (.returned v) u (Jvm.fieldLocs frame_1_writes args s ++ Jvm.arrayLocs frame_1_arrays args s ++ Jvm.staticLocs frame_1_statics s) 0 0 → Post tb e args s (.returned v) u) :
    ArmFor flags0 classFile x code maxLocals ret World_1 tables_1 room_1 Calls_1 rest_1 Pre_1 Post := by
  intro l hfl _ _ p e ha hc hk s m args below hf hA hF happ hP
  obtain ⟨hcalls, hrest, hpre⟩ := hP
  obtain ⟨-, -, -, hnamed, -, -, -, hat⟩ := (Spec.applies_iff hf).mp happ
  obtain ⟨hg, hn⟩ := and_e (Cond.before_iff.mp (show (Jvm.Cond.and given_1 narrow_1).before args s = true from hpre))
  obtain ⟨g1, g2⟩ := and_e hg
  obtain ⟨g3, g4⟩ := and_e g2
  obtain ⟨g5, g6⟩ := and_e g4
  obtain ⟨w0, w1, w2, rfl⟩ : ∃ w0 w1 w2 : Value, args = #[w0, w1, w2] := by
    have hs : args.size = 3 := by simpa [Cond.value, given_1] using g1
    obtain ⟨L⟩ := args
    match L, hs with
    | [w0, w1, w2], _ => exact ⟨w0, w1, w2, rfl⟩
  have hw := fun d (hd : d ∈ tables_1) => atoms_spec (ws := Jvm.Cond.code x code maxLocals ret :: tables_1) hat d (List.mem_cons_of_mem _ hd)
  have hfit : Fit s := fun {y c} hc i hi => by
    obtain ⟨ha, rfl⟩ := Array.getElem?_eq_some_iff.mp hc
    have q := List.all_eq_true.mp ((Array.all_eq_true_iff_forall_mem.mp hF) _ (Array.getElem_mem ha)) i (List.mem_range.mpr hi)
    simpa [Array.getElem?_eq_getElem hi] using q
  obtain ⟨i0, ei0⟩ := is_v g3
  obtain rfl : w0 = (.int i0) := Option.some.inj ei0
  obtain ⟨i1, ei1⟩ := isL_v g5
  obtain rfl : w1 = (.long i1) := Option.some.inj ei1
  obtain ⟨i2, ei2⟩ := isL_v g6
  obtain rfl : w2 = (.long i2) := Option.some.inj ei2
  obtain ⟨n1, n'⟩ := and_e hn
  obtain ⟨n2, n'⟩ := and_e n'
  obtain ⟨n3, n'⟩ := and_e n'
  obtain ⟨n4, n'⟩ := and_e n'
  obtain ⟨n5, n6⟩ := and_e n'
  obtain ⟨rM, eM⟩ := exa_v n1
  obtain ⟨rL, eL⟩ := exa_v n4
  have S_M := Sta.start eM (Or.inr ⟨(hw _ (List.mem_of_getElem? (i := 1) rfl)), (hw _ (List.mem_of_getElem? (i := 2) rfl))⟩)
  have S_L := Sta.start eL (Or.inr ⟨(hw _ (List.mem_of_getElem? (i := 1) rfl)), (hw _ (List.mem_of_getElem? (i := 17) rfl))⟩)
  have E_M := Exa.start eM n1
  have E_L := Exa.start eL n4
  have FMv := Fld.start ((fld_at eM).symm.trans (own_eqI n2))
  have FMe := Fld.start ((fld_at eM).symm.trans (own_eqI n3))
  have FLv := Fld.start ((fld_at eL).symm.trans (own_eqI n5))
  have FLe := Fld.start ((fld_at eL).symm.trans (own_eqI n6))
  obtain ⟨n, o, h1, h2, h3, _, L, rfl, ⟨rfl, N⟩, hq⟩ := rm0 l s _ hw tables_1 i0 i1 i2 s.heap s.heap.size (Nat.le_refl _) rM rL S_M E_M FMv FMe S_L E_L FLv FLe p e ha hc hk s m _ below hf ((Spec.applies_iff_loose hf).mp happ).1 ⟨rfl, State.Warmed39.refl s, rfl⟩ trivial
  refine ⟨n, _, h1, h2, h3, hpost _ _ _ _ _ _ ⟨Cond.after_iff.mpr rfl, Cond.after_iff.mpr (eq_i res_at (Term.int_eval (1)) rfl), trivial⟩ ⟨hq.1, hq.2.1, (hq.2.2.sift fun y hy => Or.inr (N y hy)).mono (by decide) (by decide)⟩⟩
theorem main_1_1 : Claimed_1_1 := comes_1 fun _ _ _ _ _ _ h hF => ⟨h.1, hF⟩
theorem main_1_2 : Claimed_1_2 := comes_1 fun _ _ _ _ _ _ h hF => ⟨h.2.1, hF⟩
end Jvm.Pilot.@@N@@
namespace Jvm.Pilot.@@N@@
open Jvm Jvm.ClassFile Sem Op Lib Jvm.Free Jvm.Stand Jvm.Pilot.@@N@@.Jvm.D
/-! MADE BY PROGRAM (witnessworld.py) out of the Statement's table words and the real class files: 14 classes; the members and pool entries that the words name. The judged class is class 1, her method 1. -/
namespace start1
open Jvm.ClassFile
def u (s : String) : CpInfo := .utf8 (stringToUtf16 s)
/-- a pool by its gaps: so many unusable entries, then the entry; so many at the end -/
def gap : Nat → List CpInfo → List CpInfo
  | 0, r => r
  | n + 1, r => .unusable :: gap n r
def poolList (es : List (Nat × CpInfo)) (last : Nat) : List CpInfo := es.foldr (fun e r => gap e.1 (e.2 :: r)) (gap last [])
def pool (es : List (Nat × CpInfo)) (last : Nat) : Array CpInfo := ⟨poolList es last⟩
def fileOf (pool : Array CpInfo) (this : Nat) (attrs : Array Attribute := #[]) (ms : Array MethodInfo := #[]) (fl : Nat := 33) (sup : Nat := 0) (ifs : Array Nat := #[]) (fds : Array FieldInfo := #[]) : ClassFile where
  minorVersion := 0
  majorVersion := 65
  constantPool := pool
  accessFlags := fl
  thisClass := this
  superClass := sup
  interfaces := ifs
  fields := fds
  methods := ms
  attributes := attrs
def plain (name : String) (sup : Option ClassId) : Class where
  name := name
  kind := .ordinary
  loader := none
  accessFlags := 33
  super := sup
  interfaces := #[]
  cf := none
  fields := #[]
  methods := #[]
  instanceTypes := #[]
  staticTypes := #[]
  resolved := #[]
  callSites := []
  init := .initialized
  statics := none
  mirror := none

def pool0 : Array CpInfo := pool [(5, u "<init>"), (0, u "()V"), (1, .class_ 10), (1, u "java/lang/Object")] 113

def k0m0 : Method := { name := "<init>", desc := "()V", sig := { parameters := [], returnType := none }, accessFlags := 1, code := none }
/-- java/lang/Object -/
def k0 : Class := { plain "java/lang/Object" none with
  accessFlags := 33
  interfaces := #[]
  cf := some (fileOf pool0 8 #[] #[{ accessFlags := 1, nameIndex := 5, descriptorIndex := 6, attributes := #[] }] 33 0 #[] #[])
  fields := #[]
  methods := #[k0m0]
  instanceTypes := #[]
  staticTypes := #[]
  resolved := Array.replicate 124 none
  statics := none }

def pool1 : Array CpInfo := pool [(2, .class_ 4), (1, u "java/lang/Object"), (0, u "<init>"), (0, u "()V"), (0, .fieldref 8 9), (0, .class_ 10), (0, .nameAndType 11 12), (0, u "com/example/keyedge/keyedge/cli/Store"), (0, u "LIST"), (0, u "Lcom/example/keyedge/keyedge/cli/Store;"), (0, .fieldref 8 14), (0, .nameAndType 15 12), (0, u "MAP"), (2, .long 9223372036854775807), (1, .long 76), (1, .long 68), (1, .long 36), (1, .methodref 8 27), (0, .nameAndType 28 29), (0, u "heapBytes"), (0, u "(JJ)J"), (0, .class_ 31), (0, u "com/example/keyedge/keyedge/cli/StoreHeapBytesPinLaw"), (2, u "law"), (0, u "(IJJ)Z")] 3

def k1m0 : Method := { name := "<init>", desc := "()V", sig := { parameters := [], returnType := none }, accessFlags := 1, code := none }
def k1c1 : Code := { maxStack := 6, maxLocals := 15, code := code, exceptionTable := #[], attributes := #[] }
def k1m1 : Method := { name := "law", desc := "(IJJ)Z", sig := { parameters := [.int, .long, .long], returnType := some .boolean }, accessFlags := 9, code := some k1c1 }
/-- com/example/keyedge/keyedge/cli/StoreHeapBytesPinLaw -/
def k1 : Class := { plain "com/example/keyedge/keyedge/cli/StoreHeapBytesPinLaw" (some 0) with
  accessFlags := 49
  interfaces := #[]
  cf := some (fileOf pool1 30 #[] #[{ accessFlags := 1, nameIndex := 5, descriptorIndex := 6, attributes := #[] }, { accessFlags := 9, nameIndex := 34, descriptorIndex := 35, attributes := #[] }] 49 2 #[] #[])
  fields := #[]
  methods := #[k1m0, k1m1]
  instanceTypes := #[]
  staticTypes := #[]
  resolved := Array.replicate 39 none
  statics := none }

def pool2 : Array CpInfo := pool [(1, .class_ 2), (0, u "java/lang/constant/Constable"), (0, .class_ 4), (0, u "java/lang/Object")] 6

/-- java/lang/constant/Constable -/
def k2 : Class := { plain "java/lang/constant/Constable" (some 0) with
  accessFlags := 1537
  interfaces := #[]
  cf := some (fileOf pool2 1 #[] #[] 1537 3 #[] #[])
  fields := #[]
  methods := #[]
  instanceTypes := #[]
  staticTypes := #[]
  resolved := Array.replicate 11 none
  statics := none }

def pool3 : Array CpInfo := pool [(1, .class_ 2), (0, u "java/lang/Comparable"), (0, .class_ 4), (0, u "java/lang/Object")] 7

/-- java/lang/Comparable -/
def k3 : Class := { plain "java/lang/Comparable" (some 0) with
  accessFlags := 1537
  interfaces := #[]
  cf := some (fileOf pool3 1 #[] #[] 1537 3 #[] #[])
  fields := #[]
  methods := #[]
  instanceTypes := #[]
  staticTypes := #[]
  resolved := Array.replicate 12 none
  statics := none }

def pool4 : Array CpInfo := pool [(1, .class_ 2), (0, u "java/io/Serializable"), (0, .class_ 4), (0, u "java/lang/Object")] 2

/-- java/io/Serializable -/
def k4 : Class := { plain "java/io/Serializable" (some 0) with
  accessFlags := 1537
  interfaces := #[]
  cf := some (fileOf pool4 1 #[] #[] 1537 3 #[] #[])
  fields := #[]
  methods := #[]
  instanceTypes := #[]
  staticTypes := #[]
  resolved := Array.replicate 7 none
  statics := none }

def pool5 : Array CpInfo := pool [(2, .class_ 4), (1, u "java/lang/Enum"), (0, u "name"), (0, u "Ljava/lang/String;"), (2, u "ordinal"), (0, u "I"), (1, .class_ 14), (1, u "java/lang/Object"), (4, u "hash"), (86, .class_ 108), (1, u "java/lang/Enum$EnumDesc"), (2, .class_ 112), (0, u "java/lang/constant/Constable"), (0, .class_ 114), (0, u "java/lang/Comparable"), (0, .class_ 116), (0, u "java/io/Serializable")] 87

/-- java/lang/Enum -/
def k5 : Class := { plain "java/lang/Enum" (some 0) with
  accessFlags := 1057
  interfaces := #[2, 3, 4]
  cf := some (fileOf pool5 2 #[.nestMembers #[106]] #[] 1057 12 #[111, 113, 115] #[{ accessFlags := 18, nameIndex := 5, descriptorIndex := 6, attributes := #[] }, { accessFlags := 18, nameIndex := 9, descriptorIndex := 10, attributes := #[] }, { accessFlags := 2, nameIndex := 19, descriptorIndex := 10, attributes := #[] }])
  fields := #[{ name := "name", type := (.object "java/lang/String"), accessFlags := 18, slot := 0, constantValue := 0 }, { name := "ordinal", type := .int, accessFlags := 18, slot := 1, constantValue := 0 }, { name := "hash", type := .int, accessFlags := 2, slot := 2, constantValue := 0 }]
  methods := #[]
  instanceTypes := #[(.object "java/lang/String"), .int, .int]
  staticTypes := #[]
  resolved := Array.replicate 204 none
  statics := none }

def pool6 : Array CpInfo := pool [(1, .class_ 2), (0, u "com/example/keyedge/keyedge/cli/Store"), (2, u "MAP"), (0, u "Lcom/example/keyedge/keyedge/cli/Store;"), (2, u "LIST"), (2, u "$VALUES"), (0, u "[Lcom/example/keyedge/keyedge/cli/Store;"), (6, .class_ 22), (1, u "java/lang/Enum"), (8, u "word"), (0, u "Ljava/lang/String;"), (0, .fieldref 1 34), (0, .nameAndType 35 36), (0, u "vertexFields"), (0, u "I"), (0, .fieldref 1 38), (0, .nameAndType 39 36), (0, u "edgeFields"), (59, .long 4), (11, .class_ 112), (0, u "com/example/keyedge/keyedge/cli/Store$1"), (5, .class_ 119), (0, u "com/example/keyedge/keyedge/cli/Store$2"), (7, u "FIELD_BYTES"), (2, u "OPTION"), (10, u "heapBytes"), (0, u "(JJ)J")] 43

def k6c0 : Code := { maxStack := 8, maxLocals := 5, code := prog_39_method_7_code, exceptionTable := #[], attributes := #[] }
def k6m0 : Method := { name := "heapBytes", desc := "(JJ)J", sig := { parameters := [.long, .long], returnType := some .long }, accessFlags := 0, code := some k6c0 }
/-- com/example/keyedge/keyedge/cli/Store -/
def k6 : Class := { plain "com/example/keyedge/keyedge/cli/Store" (some 5) with
  accessFlags := 17440
  interfaces := #[]
  cf := some (fileOf pool6 1 #[.nestMembers #[118, 111]] #[{ accessFlags := 0, nameIndex := 141, descriptorIndex := 142, attributes := #[] }] 17440 20 #[] #[{ accessFlags := 16409, nameIndex := 5, descriptorIndex := 6, attributes := #[] }, { accessFlags := 16409, nameIndex := 9, descriptorIndex := 6, attributes := #[] }, { accessFlags := 26, nameIndex := 127, descriptorIndex := 36, attributes := #[] }, { accessFlags := 24, nameIndex := 130, descriptorIndex := 32, attributes := #[] }, { accessFlags := 18, nameIndex := 31, descriptorIndex := 32, attributes := #[] }, { accessFlags := 18, nameIndex := 35, descriptorIndex := 36, attributes := #[] }, { accessFlags := 18, nameIndex := 39, descriptorIndex := 36, attributes := #[] }, { accessFlags := 4122, nameIndex := 12, descriptorIndex := 13, attributes := #[] }])
  fields := #[{ name := "MAP", type := (.object "com/example/keyedge/keyedge/cli/Store"), accessFlags := 16409, slot := 0, constantValue := 0 }, { name := "LIST", type := (.object "com/example/keyedge/keyedge/cli/Store"), accessFlags := 16409, slot := 1, constantValue := 0 }, { name := "FIELD_BYTES", type := .int, accessFlags := 26, slot := 2, constantValue := 0 }, { name := "OPTION", type := (.object "java/lang/String"), accessFlags := 24, slot := 3, constantValue := 0 }, { name := "word", type := (.object "java/lang/String"), accessFlags := 18, slot := 3, constantValue := 0 }, { name := "vertexFields", type := .int, accessFlags := 18, slot := 4, constantValue := 0 }, { name := "edgeFields", type := .int, accessFlags := 18, slot := 5, constantValue := 0 }, { name := "$VALUES", type := (.array (.object "com/example/keyedge/keyedge/cli/Store")), accessFlags := 4122, slot := 4, constantValue := 0 }]
  methods := #[k6m0]
  instanceTypes := #[(.object "java/lang/String"), .int, .int, (.object "java/lang/String"), .int, .int]
  staticTypes := #[(.object "com/example/keyedge/keyedge/cli/Store"), (.object "com/example/keyedge/keyedge/cli/Store"), .int, (.object "java/lang/String"), (.array (.object "com/example/keyedge/keyedge/cli/Store"))]
  resolved := Array.replicate 186 none
  statics := some 0 }

def pool7 : Array CpInfo := pool [(2, .class_ 4), (1, u "com/example/keyedge/keyedge/cli/Store"), (7, .class_ 13), (0, u "com/example/keyedge/keyedge/cli/Store$1")] 12

/-- com/example/keyedge/keyedge/cli/Store$1 -/
def k7 : Class := { plain "com/example/keyedge/keyedge/cli/Store$1" (some 6) with
  accessFlags := 16432
  interfaces := #[]
  cf := some (fileOf pool7 12 #[.nestHost 2] #[] 16432 2 #[] #[])
  fields := #[]
  methods := #[]
  instanceTypes := #[(.object "java/lang/String"), .int, .int, (.object "java/lang/String"), .int, .int]
  staticTypes := #[]
  resolved := Array.replicate 26 none
  statics := none }

def pool8 : Array CpInfo := pool [(2, .class_ 4), (1, u "com/example/keyedge/keyedge/cli/Store"), (7, .class_ 13), (0, u "com/example/keyedge/keyedge/cli/Store$2")] 12

/-- com/example/keyedge/keyedge/cli/Store$2 -/
def k8 : Class := { plain "com/example/keyedge/keyedge/cli/Store$2" (some 6) with
  accessFlags := 16432
  interfaces := #[]
  cf := some (fileOf pool8 12 #[.nestHost 2] #[] 16432 2 #[] #[])
  fields := #[]
  methods := #[]
  instanceTypes := #[(.object "java/lang/String"), .int, .int, (.object "java/lang/String"), .int, .int]
  staticTypes := #[]
  resolved := Array.replicate 26 none
  statics := none }

def pool9 : Array CpInfo := pool [(1, u "java/lang/Cloneable"), (0, .class_ 1), (0, u "java/lang/Object"), (0, .class_ 3)] 3

/-- java/lang/Cloneable -/
def k9 : Class := { plain "java/lang/Cloneable" (some 0) with
  accessFlags := 1537
  interfaces := #[]
  cf := some (fileOf pool9 2 #[] #[] 1537 4 #[] #[])
  fields := #[]
  methods := #[]
  instanceTypes := #[]
  staticTypes := #[]
  resolved := Array.replicate 8 none
  statics := none }

/-- the primitive byte -/
def k10 : Class := { plain "byte" none with kind := .primitive 'B', accessFlags := 0x411 }
/-- [B -/
def k11 : Class := { plain "[B" (some 0) with kind := .array 10 .byte, interfaces := #[9, 4], accessFlags := 1041 }

/-- the primitive int -/
def k12 : Class := { plain "int" none with kind := .primitive 'I', accessFlags := 0x411 }
/-- [I -/
def k13 : Class := { plain "[I" (some 0) with kind := .array 12 .int, interfaces := #[9, 4], accessFlags := 1041 }

def heap : Heap := #[{ cls := 6, slots := #[.ref 1, .ref 2, .int 0, .null, .null], vm := .statics 6 },
  { cls := 7, slots := #[.null, .int 0, .int 0, .null, .int 17, .int 9], vm := .none },
  { cls := 8, slots := #[.null, .int 1, .int 0, .null, .int 19, .int 9], vm := .none }]
def classes : Array Class := #[k0, k1, k2, k3, k4, k5, k6, k7, k8, k9, k10, k11, k12, k13]
def interned : List (Array UInt16 × Addr) := []
def slotsUsed : Nat := 17
def theMethod : MethodId := ⟨1, 1⟩
def args0 : Array Value := #[.int 5, .long 77, .long 2]
def aboutOver (below : List Frame) : State where
  vm := { classes := classes, interned := interned.toArray }
  heap := heap
  slotsUsed := slotsUsed
  threads := #[{ frames := .invoking theMethod args0 :: below }]
def below0 : List Frame := [.native { method := ⟨0, 0⟩, args := #[] }]
def about1 : State := aboutOver below0
def p0 : Program := .bare "" "" ""
def e0 : Env := launch0.env 0 0 0
theorem w_frames : about1.frames = Frame.invoking theMethod args0 :: below0 := rfl
set_option maxRecDepth 65536 in
theorem w_args : argsFit about1.vm theMethod args0 = true := by decide +kernel
set_option maxRecDepth 65536 in
theorem w_heap : heapFits about1 = true := by decide +kernel
set_option maxRecDepth 65536 in
theorem w_runnable : about1.curStatus? = some .runnable := by decide +kernel
set_option maxRecDepth 65536 in
theorem w_alone : about1.alone = true := by decide +kernel
set_option maxRecDepth 65536 in
theorem w_named : about1.methodNamed? x = some theMethod := by decide +kernel
set_option maxRecDepth 65536 in
theorem w_hears : about1.hears theMethod below0 = true := by decide +kernel
set_option maxRecDepth 65536 in
theorem w_ripe : about1.ripe theMethod args0 below0 = true := by decide +kernel
theorem w_running : about1.status = .running := rfl
set_option maxRecDepth 65536 in
theorem w_room : about1.hasRoom e0.platform room_1 = true :=
  launch0.hasRoom_least _ room_1 (by decide +kernel) (by decide +kernel) (by decide +kernel) (by decide +kernel) (by decide +kernel) (by decide +kernel)
theorem allAtoms_all (ts : List Jvm.Cond) (a : Array Jvm.Value) (st : Jvm.State) : (allAtoms ts).before a st = ts.all (fun c => c.before a st) := by
  induction ts with
  | nil => rfl
  | cons c t ih =>
    show (Jvm.Cond.and c (allAtoms t)).before a st = _
    rw [Jvm.Cond.before_and, ih, List.all_cons]
def words1 : List Jvm.Cond := Jvm.Cond.code x code maxLocals ret :: tables_1
/-- a 'code' word, met by the world's own term for the bytes: nothing is compared byte by byte -/
theorem code_word {y : MethodName} {bytes : ByteArray} {mx : Nat} {rt : Option FieldType} {a : Array Value} {s : State} {m : MethodId} {meth : Method} {c : Code} (h1 : s.methodNamed? y = some m) (h2 : s.vm.method? m = some meth) (h3 : meth.code = some c) (h4 : c.code = bytes)
    (h5 : (c.maxLocals == mx && c.exceptionTable.isEmpty && decide (c.maxStack ≤ mostOperands) && decide (meth.sig.returnType = rt) && !meth.locks && decide (parseMethodDescriptor y.desc = some meth.sig)) = true) : (Jvm.Cond.code y bytes mx rt).before a s = true := by
  simp only [Bool.and_eq_true, beq_iff_eq, Bool.not_eq_true', decide_eq_true_eq] at h5
  obtain ⟨⟨⟨⟨⟨g1, g2⟩, g3⟩, g4⟩, g5⟩, g6⟩ := h5
  simp [Cond.before, Cond.holds, Cond.value, h1, h2, h3, h4, g1, g2, g3, g4, g5, g6]
def isCode : Jvm.Cond → Bool
  | .code _ _ _ _ => true
  | _ => false
theorem all_split {L : List Jvm.Cond} {P : Jvm.Cond → Bool} (h1 : L.all (fun c => isCode c || P c) = true) (h2 : ∀ c ∈ L.filter isCode, P c = true) : L.all P = true := by
  refine List.all_eq_true.mpr fun c hc => ?_
  have h := List.all_eq_true.mp h1 c hc
  rcases Bool.eq_false_or_eq_true (isCode c) with hi | hi
  · exact h2 c (List.mem_filter.mpr ⟨hc, hi⟩)
  · simpa [hi] using h
set_option maxRecDepth 65536 in
theorem w_c0 : (Jvm.Cond.code x code maxLocals ret).before args0 about1 = true := code_word (m := ⟨1, 1⟩) (meth := k1m1) (c := k1c1) (by decide +kernel) rfl rfl rfl (by decide +kernel)
set_option maxRecDepth 65536 in
theorem w_c1 : (Jvm.Cond.code ({ cls := "com/example/keyedge/keyedge/cli/Store", name := "heapBytes", desc := "(JJ)J" } : Jvm.MethodName) prog_39_method_7_code (5 : Nat) (Option.some Jvm.ClassFile.FieldType.long)).before args0 about1 = true := code_word (m := ⟨6, 0⟩) (meth := k6m0) (c := k6c0) (by decide +kernel) rfl rfl rfl (by decide +kernel)
def codes1 : List Jvm.Cond := [Jvm.Cond.code x code maxLocals ret, Jvm.Cond.code ({ cls := "com/example/keyedge/keyedge/cli/Store", name := "heapBytes", desc := "(JJ)J" } : Jvm.MethodName) prog_39_method_7_code (5 : Nat) (Option.some Jvm.ClassFile.FieldType.long)]
set_option maxRecDepth 65536 in
theorem codes_eq : words1.filter isCode = codes1 := rfl
theorem w_codes : ∀ c ∈ words1.filter isCode, c.before args0 about1 = true := by
  rw [codes_eq]
  intro c hc
  simp only [codes1, List.mem_cons, List.not_mem_nil, or_false] at hc
  rcases hc with rfl | rfl
  · exact w_c0
  · exact w_c1
set_option maxRecDepth 65536 in
theorem w_t1 : words1.all (fun c => isCode c || c.before args0 about1) = true := by decide +kernel
theorem w_tables : (allAtoms (Jvm.Cond.code x code maxLocals ret :: tables_1)).before args0 about1 = true := by
  rw [allAtoms_all]
  show words1.all (fun c => c.before args0 about1) = true
  refine all_split ?_ w_codes
  rw [w_t1]
set_option maxRecDepth 65536 in
theorem w_case : (Jvm.Cond.and given_1 narrow_1).before args0 about1 = true := by decide +kernel
theorem w_applies : (headSpec (Jvm.Cond.code x code maxLocals ret :: tables_1) room_1).applies x e0.platform about1 = true :=
  (Spec.applies_iff w_frames).mpr ⟨w_running, w_runnable, w_alone, w_named, w_hears, w_ripe, w_room, w_tables⟩
theorem atStart : AtStart classFile x code maxLocals ret World_1 tables_1 room_1 Calls_1 rest_1 Pre_1 launch0 p0 e0 about1 theMethod args0 below0 :=
  ⟨lists_1, trivial, launch0.admits_env _ _ _, launch0.least_env, fairChoices_fair.cas, fairChoices_fair.clock, w_frames, w_args, w_heap, w_applies, trivial, trivial, w_case⟩
end start1
theorem witness_1 : WitnessClaimed_1 := ⟨start1.p0, start1.e0, start1.about1, start1.theMethod, start1.args0, start1.below0, start1.atStart⟩
end Jvm.Pilot.@@N@@
