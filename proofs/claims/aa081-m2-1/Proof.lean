import JvmDerived
import JvmDerived.Pilot.@@N@@Statement
import JvmDerived.Pilot.@@N@@Code
set_option linter.unusedVariables false
set_option linter.unusedSimpArgs false
set_option maxRecDepth 65536
namespace Jvm.Pilot.@@N@@
open Jvm Jvm.ClassFile Sem Op Lib Jvm.Free Jvm.Stand Jvm.LawKit Jvm.RoadKit Bundle Jvm.Pilot.@@N@@.Jvm.D
section Own
variable {p : Program} {l : Launch} {e : Env} {R : Room} {s : State} {m : MethodId} {args : Array Value} {below : List Frame} {meth : Method} {c : Code} {T : State} {locs : List Loc} {cells slots : Nat} {Z : State} {a0 : Array Value} {h : Heap}
variable {Q : Option Value → Heap → List Loc → Prop} {F : Outcome → State → Prop} {C N : Nat} {A B : State}
/-- how a body ends: it returns v, Q holds of what it returned, of the heap and of the places written; nothing else is written (EndW: String constants may have been interned) -/
def EndN (s : State) (Q : Option Value → Heap → List Loc → Prop) (C N : Nat) (o : Outcome) (t : State) : Prop := ∃ v L, o = .returned v ∧ Q v t.heap L ∧ FrameEnd s o t L C N
/-- what a body owes from a point of its walk: it comes to its end, and F holds there -/
def Owes (p : Program) (e : Env) (below : List Frame) (F : Outcome → State → Prop) (A : State) : Prop :=
  ∃ s₂ o, Steps p.tables e below A s₂ ∧ s₂.status = .running ∧ Ended s₂ below o ∧ F o s₂
theorem Owes.go (k : Owes p e below F B) (f : ∀ t, Steps p.tables e below B t → Steps p.tables e below A t) : Owes p e below F A := by
  obtain ⟨s₂, o, h1, r⟩ := k
  exact ⟨s₂, o, f _ h1, r⟩
theorem Owes.tr (k : Owes p e below F B) (st : Steps p.tables e below A B) : Owes p e below F A := by
  obtain ⟨s₂, o, h1, r⟩ := k
  exact ⟨s₂, o, st.trans h1, r⟩
theorem Owes.mono {Q' : Option Value → Heap → List Loc → Prop} (k : Owes p e below (EndN s Q C N) A) (f : ∀ v h L, Q v h L → Q' v h L) : Owes p e below (EndN s Q' C N) A := by
  obtain ⟨s₂, o, h1, h2, h3, v, L, h4, h5, h6⟩ := k
  exact ⟨s₂, o, h1, h2, h3, v, L, h4, f _ _ _ h5, h6⟩
/-- a body's contract at given arguments and a given heap -/
def OMet (l : Launch) (y : MethodName) (bytes : ByteArray) (maxL : Nat) (ret : Option FieldType) (ws : List Jvm.Cond) (rm : Room) (as' : Array Value) (Z : State) (h0 : Heap) (Q : Option Value → Heap → List Loc → Prop) : Prop :=
  MetFree l y (head1 (Jvm.Cond.code y bytes maxL ret :: ws) rm) (fun a U => a = as' ∧ Z.Warmed39 U.vm ∧ U.heap = h0) (fun _ _ _ _ _ => True) (fun _ U o U' => ∃ v L, o = .returned v ∧ Q v U'.heap L ∧ FrameEnd U o U' L rm.cells rm.slots)
theorem OMet.of {y : MethodName} {bytes : ByteArray} {maxL : Nat} {ret : Option FieldType} {ws : List Jvm.Cond} {rm : Room} {as' : Array Value} {h0 : Heap} (hpl : plainFor y = true) {Ls : Array Slot} (ef : ∀ m, entryFrame m as' maxL = mkF m 0 Ls [])
    (body : ∀ (p : Program) (e : Env) (s : State) (m : MethodId) (below : List Frame) (meth : Method) (c : Code) (s₁ : State), p.tables.exec = Jvm.exec → c.code = bytes → c.maxLocals = maxL → s.vm.findClass y.cls = some m.cls → meth.name = y.name → meth.sig.returnType = ret → meth.locks = false → Z.Warmed39 s.vm →
      Stand p l e rm s m as' below meth c s₁ [] 0 0 → s₁.heap = h0 → Owes p e below (EndN s Q rm.cells rm.slots) (s₁.setTop (mkF m 0 Ls []))) : OMet l y bytes maxL ret ws rm as' Z h0 Q := by
  refine MetFree.of_bodySF hpl hisR ?_
  intro p e s m args below meth c s₁ Bd hml0 hP hK
  obtain ⟨rfl, hZ, hh⟩ := hP
  have hlk : meth.locks = false := BodyLoose.notSynchronized Bd
  have X0 : Stand p l e rm s m args below meth c s₁ [] 0 0 := Stand.of_body Bd
  have e0 : s₁.heap = h0 := by rw [← hh, Bd.state]; rfl
  obtain ⟨s₂, o, h1, h2, h3, h4⟩ := body p e s m below meth c s₁ Bd.exec Bd.bytes hml0 (findClass_of_methodNamed Bd.named) (name_of_methodNamed Bd.named Bd.method).1 Bd.returns hlk hZ X0 e0
  exact ⟨s₂, o, castTop (ef m) h1, h2, h3, h4⟩
theorem OMet.mono {y : MethodName} {bytes : ByteArray} {maxL : Nat} {ret : Option FieldType} {ws : List Jvm.Cond} {rm : Room} {as' : Array Value} {h0 : Heap} {Q' : Option Value → Heap → List Loc → Prop} (M : OMet l y bytes maxL ret ws rm as' Z h0 Q) (f : ∀ v h L, Q v h L → Q' v h L) : OMet l y bytes maxL ret ws rm as' Z h0 Q' := by
  intro p e ha hc hk s m args below hf happ hP hK
  obtain ⟨n, o, h1, h2, h3, v, L, h4, h5, h6⟩ := M p e ha hc hk s m args below hf happ hP hK
  exact ⟨n, o, h1, h2, h3, v, L, h4, f _ _ _ h5, h6⟩
theorem own_end (X : Stand p l e R s m args below meth c T locs cells slots) (hlk : meth.locks = false) {v : Option Value} (hv : meth.sig.returnType = none → v = none) (hc : cells ≤ C) (hs : slots ≤ N) (hq : Q v T.heap locs) {A : State}
    (hst : ∀ fs : List Frame, (∀ (f : JFrame) (acts : List Action), f.method = m → f.locked = none → f.entered = [] → (doReturn e (T.setTop f) acts v).1 = T.setFrames fs) → Steps p.tables e below A (T.setFrames fs)) : Owes p e below (EndN s Q C N) A := by
  obtain ⟨fs, hr, hrun, hended, hW, hsame⟩ := X.leave hv hlk
  exact ⟨_, _, hst fs hr, hrun, hended, v, locs, rfl, hq, ⟨_, rfl⟩, hW, hsame.mono hc hs⟩
theorem Owes.retN (X : Stand p l e R s m args below meth c T locs cells slots) (hx : p.tables.exec = Jvm.exec) (hlk : meth.locks = false) {pc : Nat} {Ls : Array Slot} {z : Int32} {t : FieldType} {rest : List Value} (hret : meth.sig.returnType = some t) (ht : t = .boolean ∨ t = .byte ∨ t = .char ∨ t = .short)
    (hd : decode c.code pc = .ok (.ireturn, 1)) (hc : cells ≤ C) (hs : slots ≤ N) (hq : Q (some (.int (nar t z))) T.heap locs) : Owes p e below (EndN s Q C N) (T.setTop (mkF m pc Ls (.int z :: rest))) :=
  own_end X hlk (fun h => by rw [hret] at h; cases h) hc hs hq fun fs hr => Jvm.RoadKit.retN X hx hret ht hd hr
theorem Owes.retI (X : Stand p l e R s m args below meth c T locs cells slots) (hx : p.tables.exec = Jvm.exec) (hlk : meth.locks = false) {pc : Nat} {Ls : Array Slot} {z : Int32} {rest : List Value} (hret : meth.sig.returnType = some .int)
    (hd : decode c.code pc = .ok (.ireturn, 1)) (hc : cells ≤ C) (hs : slots ≤ N) (hq : Q (some (.int z)) T.heap locs) : Owes p e below (EndN s Q C N) (T.setTop (mkF m pc Ls (.int z :: rest))) :=
  own_end X hlk (fun h => by rw [hret] at h; cases h) hc hs hq fun fs hr => Jvm.RoadKit.retOut X hx hret rfl (Or.inl ⟨rfl, Or.inl rfl, _, rfl⟩) hd hr
theorem Owes.retJ (X : Stand p l e R s m args below meth c T locs cells slots) (hx : p.tables.exec = Jvm.exec) (hlk : meth.locks = false) {pc : Nat} {Ls : Array Slot} {z : Int64} {rest : List Value} (hret : meth.sig.returnType = some .long)
    (hd : decode c.code pc = .ok (.lreturn, 1)) (hc : cells ≤ C) (hs : slots ≤ N) (hq : Q (some (.long z)) T.heap locs) : Owes p e below (EndN s Q C N) (T.setTop (mkF m pc Ls (.long z :: rest))) :=
  own_end X hlk (fun h => by rw [hret] at h; cases h) hc hs hq fun fs hr => Jvm.RoadKit.retOut X hx hret rfl (Or.inr (Or.inl ⟨rfl, rfl, _, rfl⟩)) hd hr
theorem Owes.retA (X : Stand p l e R s m args below meth c T locs cells slots) (hx : p.tables.exec = Jvm.exec) (hlk : meth.locks = false) {pc : Nat} {Ls : Array Slot} {w : Value} {t : FieldType} {rest : List Value} (hret : meth.sig.returnType = some t) (ht : t.isReference = true) (hn : narrow t w = w) (hw : w.isRef = true)
    (hd : decode c.code pc = .ok (.areturn, 1)) (hc : cells ≤ C) (hs : slots ≤ N) (hq : Q (some w) T.heap locs) : Owes p e below (EndN s Q C N) (T.setTop (mkF m pc Ls (w :: rest))) :=
  own_end X hlk (fun h => by rw [hret] at h; cases h) hc hs hq fun fs hr => Jvm.RoadKit.retOut X hx hret hn (Or.inr (Or.inr (Or.inr (Or.inr ⟨rfl, ht, hw⟩)))) hd hr
theorem Owes.retV (X : Stand p l e R s m args below meth c T locs cells slots) (hx : p.tables.exec = Jvm.exec) (hlk : meth.locks = false) {pc : Nat} {Ls : Array Slot} (hret : meth.sig.returnType = none)
    (hd : decode c.code pc = .ok (.return_, 1)) (hc : cells ≤ C) (hs : slots ≤ N) (hq : Q none T.heap locs) : Owes p e below (EndN s Q C N) (T.setTop (mkF m pc Ls [])) :=
  own_end X hlk (fun _ => rfl) hc hs hq fun fs hr => X.returnOut hx hret hd hr
/-- a static method by its contract -/
theorem Owes.callS (X : Stand p l e R s m args below meth c T locs cells slots) (hx : p.tables.exec = Jvm.exec) (hZ : Z.Warmed39 s.vm) {own : String} {index : Nat} {y : MethodName} {bytes : ByteArray} {maxL : Nat} {ret : Option FieldType} {rm : Room}
    (hown : s.vm.findClass own = some m.cls) (w1 : (Cond.methodLink own index y).before a0 Z = true) (w2 : (Cond.static y).before a0 Z = true) (w3 : (Cond.initialized y.cls).before a0 Z = true) (w4 : (Cond.code y bytes maxL ret).before a0 Z = true)
    (hy : y.cls ≠ "java/lang/invoke/MethodHandle" ∧ y.cls ≠ "java/lang/invoke/VarHandle") {pc : Nat} {Ls : Array Slot} {argsL rest : List Value} {Q' : Option Value → Heap → List Loc → Prop} (M : OMet l y bytes maxL ret [] rm argsL.toArray Z h Q') (eT : T.heap = h) (hsize : Ls.size = c.maxLocals)
    {ps : List FieldType} {rt : Option FieldType} (hpd : parseMethodDescriptor y.desc = some ⟨ps, rt⟩) (hln : argsL.length = ps.length) {st : List Value} (hst : st = argsL.reverse ++ rest) (hd : decode c.code pc = .ok (.invokestatic index, 3))
    (hf : rm.frames + 1 ≤ R.frames) (hl : (rest.map fun v => v.category).sum + (maxL + 11) + rm.locals ≤ R.locals) (hcl : cells + rm.cells ≤ R.cells) (hsl : slots + rm.slots ≤ R.slots)
    (k : ∀ (T' : State) (v : Option Value) (L : List Loc), Stand p l e R s m args below meth c T' (locs ++ L) (cells + rm.cells) (slots + rm.slots) → Q' v T'.heap L → Owes p e below F (T'.setTop (mkF m (pc + 3) Ls (v.toList ++ rest)))) :
    Owes p e below F (T.setTop (mkF m pc Ls st)) := by
  subst hst
  obtain ⟨v, _, ⟨T3, L3, k3, n3⟩, -, X3, ⟨Lc3, hQ3, l3, y3, z3⟩, st3⟩ := Jvm.LawKit.callS X hx (y := y) hown (mvT hZ w1) (mvT hZ w2) (mvT hZ w3) (mvT hZ w4) hy (backOf (W := (rest.map fun v => v.category).sum) M hZ w4 w3 hf hl) (g := mkF m pc Ls (argsL.reverse ++ rest)) rfl hsize (argsL := argsL) (rest := rest) (lenOf hpd hln) rfl (by show 2 * 0 + _ ≤ _; omega) hd (fun _ _ => ⟨rfl, eT, hcl, hsl⟩)
  dsimp only [Pt.U, Pt.locs, Pt.cells, Pt.slots] at X3 l3 y3 z3 st3 hQ3
  subst l3 y3 z3
  exact (k T3 v Lc3 X3 hQ3).go st3
/-- a constructor by its contract -/
theorem Owes.callC (X : Stand p l e R s m args below meth c T locs cells slots) (hx : p.tables.exec = Jvm.exec) (hZ : Z.Warmed39 s.vm) {own : String} {index : Nat} {y : MethodName} {bytes : ByteArray} {maxL : Nat} {rm : Room} (hy1 : y.name = "<init>")
    (hown : s.vm.findClass own = some m.cls) (w1 : (Cond.methodLink own index y).before a0 Z = true) (w2 : (Cond.instanceMethod y).before a0 Z = true) (w3 : (Cond.initialized y.cls).before a0 Z = true) (w4 : (Cond.code y bytes maxL none).before a0 Z = true)
    (hy : y.cls ≠ "java/lang/invoke/MethodHandle" ∧ y.cls ≠ "java/lang/invoke/VarHandle") {pc : Nat} {Ls : Array Slot} {a : Addr} {argsL rest : List Value} {Q' : Option Value → Heap → List Loc → Prop} (M : OMet l y bytes maxL none [] rm (.ref a :: argsL).toArray Z h Q') (eT : T.heap = h) (hsize : Ls.size = c.maxLocals)
    {ps : List FieldType} {rt : Option FieldType} (hpd : parseMethodDescriptor y.desc = some ⟨ps, rt⟩) (hln : argsL.length = ps.length) {st : List Value} (hst : st = argsL.reverse ++ .ref a :: rest) (hd : decode c.code pc = .ok (.invokespecial index, 3))
    (hf : rm.frames + 1 ≤ R.frames) (hl : (rest.map fun v => v.category).sum + (maxL + 11) + rm.locals ≤ R.locals) (hcl : cells + rm.cells ≤ R.cells) (hsl : slots + rm.slots ≤ R.slots)
    (k : ∀ (T' : State) (v : Option Value) (L : List Loc), Stand p l e R s m args below meth c T' (locs ++ L) (cells + rm.cells) (slots + rm.slots) → Q' v T'.heap L → Owes p e below F (T'.setTop (mkF m (pc + 3) Ls (v.toList ++ rest)))) :
    Owes p e below F (T.setTop (mkF m pc Ls st)) := by
  subst hst
  obtain ⟨v, _, ⟨T3, L3, k3, n3⟩, -, X3, ⟨Lc3, hQ3, l3, y3, z3⟩, st3⟩ := X.specialBack hx (y := y) hy1 hown (mvT hZ w1) (mvT hZ w2) (mvT hZ w4) hy (backOf (W := (rest.map fun v => v.category).sum) M hZ w4 w3 hf hl) (g := mkF m pc Ls (argsL.reverse ++ .ref a :: rest)) rfl hsize (Steps.refl _) (a := a) (argsL := argsL) (rest := rest) (lenOf hpd hln) rfl (by show 2 * 0 + _ ≤ _; omega) hd (fun _ _ => ⟨rfl, eT, hcl, hsl⟩)
  dsimp only [Pt.U, Pt.locs, Pt.cells, Pt.slots] at X3 l3 y3 z3 st3 hQ3
  subst l3 y3 z3
  exact (k T3 v Lc3 X3 hQ3).tr st3
/-- an instance method by the contract of the body that the receiver's class selects -/
theorem Owes.callV (X : Stand p l e R s m args below meth c T locs cells slots) (hx : p.tables.exec = Jvm.exec) (hZ : Z.Warmed39 s.vm) {own CR : String} {index : Nat} {y z : MethodName} {bytes : ByteArray} {maxL : Nat} {ret : Option FieldType} {rm : Room}
    (hown : s.vm.findClass own = some m.cls) (w1 : (Cond.methodLink own index y).before a0 Z = true) (w2 : (Cond.declares y).before a0 Z = true) (hnf : NotFace s y) (w5 : (Cond.selects CR y z).before a0 Z = true) (w6 : (Cond.instanceMethod z).before a0 Z = true) (w3 : (Cond.initialized z.cls).before a0 Z = true) (w4 : (Cond.code z bytes maxL ret).before a0 Z = true)
    (hy : y.cls ≠ "java/lang/invoke/MethodHandle" ∧ y.cls ≠ "java/lang/invoke/VarHandle") {pc : Nat} {Ls : Array Slot} {a : Addr} {argsL rest : List Value} {Q' : Option Value → Heap → List Loc → Prop} (M : OMet l z bytes maxL ret [] rm (.ref a :: argsL).toArray Z h Q') (eT : T.heap = h) (E : Exa Z h a CR) (hsize : Ls.size = c.maxLocals)
    {ps : List FieldType} {rt : Option FieldType} (hpd : parseMethodDescriptor y.desc = some ⟨ps, rt⟩) (hln : argsL.length = ps.length) {st : List Value} (hst : st = argsL.reverse ++ .ref a :: rest) (hd : decode c.code pc = .ok (.invokevirtual index, 3))
    (hf : rm.frames + 1 ≤ R.frames) (hl : (rest.map fun v => v.category).sum + (maxL + 11) + rm.locals ≤ R.locals) (hcl : cells + rm.cells ≤ R.cells) (hsl : slots + rm.slots ≤ R.slots)
    (k : ∀ (T' : State) (v : Option Value) (L : List Loc), Stand p l e R s m args below meth c T' (locs ++ L) (cells + rm.cells) (slots + rm.slots) → Q' v T'.heap L → Owes p e below F (T'.setTop (mkF m (pc + 3) Ls (v.toList ++ rest)))) :
    Owes p e below F (T.setTop (mkF m pc Ls st)) := by
  subst hst
  obtain ⟨cq, kq, qa, qb, qc⟩ := isOf hZ eT E
  obtain ⟨v, _, ⟨T3, L3, k3, n3⟩, -, X3, ⟨Lc3, hQ3, l3, y3, z3⟩, st3⟩ := X.virtualBack hx (y := y) (z := z) hown (mvT hZ w1) (mvT hZ w2) hnf (mvT hZ w5) (mvT hZ w6) hy (backOf (W := (rest.map fun v => v.category).sum) M hZ w4 w3 hf hl) qa qc (g := mkF m pc Ls (argsL.reverse ++ .ref a :: rest)) rfl hsize (Steps.refl _) (argsL := argsL) (rest := rest) (lenOf hpd hln) rfl (by show 2 * 0 + _ ≤ _; omega) hd (fun _ _ => ⟨rfl, eT, hcl, hsl⟩)
  dsimp only [Pt.U, Pt.locs, Pt.cells, Pt.slots] at X3 l3 y3 z3 st3 hQ3
  subst l3 y3 z3
  exact (k T3 v Lc3 X3 hQ3).tr st3
/-- a private method by its contract -/
theorem Owes.callP (X : Stand p l e R s m args below meth c T locs cells slots) (hx : p.tables.exec = Jvm.exec) (hZ : Z.Warmed39 s.vm) {own CR : String} {index : Nat} {y : MethodName} {bytes : ByteArray} {maxL : Nat} {ret : Option FieldType} {rm : Room}
    (hown : s.vm.findClass own = some m.cls) (w1 : (Cond.methodLink own index y).before a0 Z = true) (w2 : (Cond.instanceMethod y).before a0 Z = true) (w5 : (Cond.selects y.cls y y).before a0 Z = true) (w6 : (Cond.privateMethod y).before a0 Z = true) (w3 : (Cond.initialized y.cls).before a0 Z = true) (w4 : (Cond.code y bytes maxL ret).before a0 Z = true)
    (hy : y.cls ≠ "java/lang/invoke/MethodHandle" ∧ y.cls ≠ "java/lang/invoke/VarHandle") {pc : Nat} {Ls : Array Slot} {a : Addr} {argsL rest : List Value} {Q' : Option Value → Heap → List Loc → Prop} (M : OMet l y bytes maxL ret [] rm (.ref a :: argsL).toArray Z h Q') (eT : T.heap = h) (E : Exa Z h a CR) (hsize : Ls.size = c.maxLocals)
    {ps : List FieldType} {rt : Option FieldType} (hpd : parseMethodDescriptor y.desc = some ⟨ps, rt⟩) (hln : argsL.length = ps.length) {st : List Value} (hst : st = argsL.reverse ++ .ref a :: rest) (hd : decode c.code pc = .ok (.invokevirtual index, 3))
    (hf : rm.frames + 1 ≤ R.frames) (hl : (rest.map fun v => v.category).sum + (maxL + 11) + rm.locals ≤ R.locals) (hcl : cells + rm.cells ≤ R.cells) (hsl : slots + rm.slots ≤ R.slots)
    (k : ∀ (T' : State) (v : Option Value) (L : List Loc), Stand p l e R s m args below meth c T' (locs ++ L) (cells + rm.cells) (slots + rm.slots) → Q' v T'.heap L → Owes p e below F (T'.setTop (mkF m (pc + 3) Ls (v.toList ++ rest)))) :
    Owes p e below F (T.setTop (mkF m pc Ls st)) := by
  subst hst
  obtain ⟨cq, q1, q2⟩ := E.cell
  obtain ⟨v, _, ⟨T3, L3, k3, n3⟩, -, X3, ⟨Lc3, hQ3, l3, y3, z3⟩, st3⟩ := X.privateBack hx (y := y) hown (mvT hZ w1) (mvT hZ w2) (mvT hZ w5) (Cond.privateMethod_at (mvP hZ w6 (args := #[]))) (mvT hZ w4) hy (backOf (W := (rest.map fun v => v.category).sum) M hZ w4 w3 hf hl) (g := mkF m pc Ls (argsL.reverse ++ .ref a :: rest)) rfl hsize (Steps.refl _) (a := a) (by rw [eT]; exact q1) q2 (argsL := argsL) (rest := rest) (lenOf hpd hln) rfl (by show 2 * 0 + _ ≤ _; omega) hd (fun _ _ => ⟨rfl, eT, hcl, hsl⟩)
  dsimp only [Pt.U, Pt.locs, Pt.cells, Pt.slots] at X3 l3 y3 z3 st3 hQ3
  subst l3 y3 z3
  exact (k T3 v Lc3 X3 hQ3).tr st3
theorem Owes.alen (X : Stand p l e R s m args below meth c T locs cells slots) (hx : p.tables.exec = Jvm.exec) (hZ : Z.Warmed39 s.vm) (eT : T.heap = h) {a : Addr} {cl : Cell} {ty : FieldType} (A : Arr Z h a cl ty) {z : Int32} (hn : cl.slots.size.toInt32 = z) {pc : Nat} {Ls : Array Slot} {rest : List Value}
    (hd : decode c.code pc = .ok (.arraylength, 1)) (k : Owes p e below F (T.setTop (mkF m (pc + 1) Ls (.int z :: rest)))) : Owes p e below F (T.setTop (mkF m pc Ls (.ref a :: rest))) := by
  subst hn
  exact k.go fun t q => X.arraylength hx (by rw [eT]; exact A.1) (State.isArrayOf_alike hZ.alike A.2.1) (g := mkF m pc Ls (.ref a :: rest)) rfl rfl hd _ q
theorem Owes.aldI (X : Stand p l e R s m args below meth c T locs cells slots) (hx : p.tables.exec = Jvm.exec) (hZ : Z.Warmed39 s.vm) (eT : T.heap = h) {a : Addr} {cl : Cell} (A : Arr Z h a cl .int) {j : Int32} {v : Value} (hin : ¬ (j < 0 ∨ cl.slots.size ≤ j.toNatClampNeg)) (hat : cl.slots[j.toNatClampNeg]? = some v) {pc : Nat} {Ls : Array Slot} {rest : List Value}
    (hd : decode c.code pc = .ok (.iaload, 1)) (k : Owes p e below F (T.setTop (mkF m (pc + 1) Ls (v :: rest)))) : Owes p e below F (T.setTop (mkF m pc Ls (.int j :: .ref a :: rest))) :=
  k.go fun t q => X.iaload hx (by rw [eT]; exact A.1) (State.isArrayOf_alike hZ.alike A.2.1) A.2.2 hin hat (g := mkF m pc Ls (.int j :: .ref a :: rest)) rfl rfl hd _ q
theorem Owes.aldJ (X : Stand p l e R s m args below meth c T locs cells slots) (hx : p.tables.exec = Jvm.exec) (hZ : Z.Warmed39 s.vm) (eT : T.heap = h) {a : Addr} {cl : Cell} (A : Arr Z h a cl .long) {j : Int32} {v : Value} (hin : ¬ (j < 0 ∨ cl.slots.size ≤ j.toNatClampNeg)) (hat : cl.slots[j.toNatClampNeg]? = some v) {pc : Nat} {Ls : Array Slot} {rest : List Value}
    (hd : decode c.code pc = .ok (.laload, 1)) (k : Owes p e below F (T.setTop (mkF m (pc + 1) Ls (v :: rest)))) : Owes p e below F (T.setTop (mkF m pc Ls (.int j :: .ref a :: rest))) :=
  k.go fun t q => X.laload hx (by rw [eT]; exact A.1) (State.isArrayOf_alike hZ.alike A.2.1) A.2.2 hin hat (g := mkF m pc Ls (.int j :: .ref a :: rest)) rfl rfl hd _ q
theorem Owes.aldC (X : Stand p l e R s m args below meth c T locs cells slots) (hx : p.tables.exec = Jvm.exec) (hZ : Z.Warmed39 s.vm) (eT : T.heap = h) {a : Addr} {cl : Cell} (A : Arr Z h a cl .char) {j : Int32} {v : Value} (hin : ¬ (j < 0 ∨ cl.slots.size ≤ j.toNatClampNeg)) (hat : cl.slots[j.toNatClampNeg]? = some v) {pc : Nat} {Ls : Array Slot} {rest : List Value}
    (hd : decode c.code pc = .ok (.caload, 1)) (k : Owes p e below F (T.setTop (mkF m (pc + 1) Ls (v :: rest)))) : Owes p e below F (T.setTop (mkF m pc Ls (.int j :: .ref a :: rest))) :=
  k.go fun t q => X.caload hx (by rw [eT]; exact A.1) (State.isArrayOf_alike hZ.alike A.2.1) A.2.2 hin hat (g := mkF m pc Ls (.int j :: .ref a :: rest)) rfl rfl hd _ q
theorem Owes.aldZ (X : Stand p l e R s m args below meth c T locs cells slots) (hx : p.tables.exec = Jvm.exec) (hZ : Z.Warmed39 s.vm) (eT : T.heap = h) {a : Addr} {cl : Cell} (A : Arr Z h a cl .boolean) {j : Int32} {v : Value} (hin : ¬ (j < 0 ∨ cl.slots.size ≤ j.toNatClampNeg)) (hat : cl.slots[j.toNatClampNeg]? = some v) {pc : Nat} {Ls : Array Slot} {rest : List Value}
    (hd : decode c.code pc = .ok (.baload, 1)) (k : Owes p e below F (T.setTop (mkF m (pc + 1) Ls (v :: rest)))) : Owes p e below F (T.setTop (mkF m pc Ls (.int j :: .ref a :: rest))) :=
  k.go fun t q => X.baloadBooleans hx (by rw [eT]; exact A.1) (State.isArrayOf_alike hZ.alike A.2.1) A.2.2 hin hat (g := mkF m pc Ls (.int j :: .ref a :: rest)) rfl rfl hd _ q
theorem Owes.aldB (X : Stand p l e R s m args below meth c T locs cells slots) (hx : p.tables.exec = Jvm.exec) (hZ : Z.Warmed39 s.vm) (eT : T.heap = h) {a : Addr} {cl : Cell} (A : Arr Z h a cl .byte) {j : Int32} {v : Value} (hin : ¬ (j < 0 ∨ cl.slots.size ≤ j.toNatClampNeg)) (hat : cl.slots[j.toNatClampNeg]? = some v) {pc : Nat} {Ls : Array Slot} {rest : List Value}
    (hd : decode c.code pc = .ok (.baload, 1)) (k : Owes p e below F (T.setTop (mkF m (pc + 1) Ls (v :: rest)))) : Owes p e below F (T.setTop (mkF m pc Ls (.int j :: .ref a :: rest))) :=
  k.go fun t q => X.baloadBytes hx (by rw [eT]; exact A.1) (State.isArrayOf_alike hZ.alike A.2.1) A.2.2 hin hat (g := mkF m pc Ls (.int j :: .ref a :: rest)) rfl rfl hd _ q
theorem Owes.aldR (X : Stand p l e R s m args below meth c T locs cells slots) (hx : p.tables.exec = Jvm.exec) (hZ : Z.Warmed39 s.vm) (eT : T.heap = h) {a : Addr} {cl : Cell} {ty : FieldType} (A : Arr Z h a cl ty) (hty : ty.isReference = true) {j : Int32} {v : Value} (hin : ¬ (j < 0 ∨ cl.slots.size ≤ j.toNatClampNeg)) (hat : cl.slots[j.toNatClampNeg]? = some v) {pc : Nat} {Ls : Array Slot} {rest : List Value}
    (hd : decode c.code pc = .ok (.aaload, 1)) (k : Owes p e below F (T.setTop (mkF m (pc + 1) Ls (v :: rest)))) : Owes p e below F (T.setTop (mkF m pc Ls (.int j :: .ref a :: rest))) :=
  k.go fun t q => X.aaload hx (by rw [eT]; exact A.1) (State.isArrayOf_alike hZ.alike A.2.1) hty A.2.2 hin hat (g := mkF m pc Ls (.int j :: .ref a :: rest)) rfl rfl hd _ q
theorem own_eqI {first : State} {o : Option Outcome} {idx : List Nat} {t : Term} {k : Int32} (q : (Cond.eq t (.int k)).value args first o s idx = some true) : t.eval args first o idx s = some (.int k) := by
  simp only [Cond.value, Term.eval] at q
  cases hv : t.eval args first o idx s with
  | none => simp [hv] at q
  | some v => cases v <;> simp_all
end Own
theorem d2_0 : decode prog_25_method_2_code 0 = .ok (.iload_n 0, 1) := by decide +kernel
theorem d2_1 : decode prog_25_method_2_code 1 = .ok (.i2l, 1) := by decide +kernel
theorem d2_2 : decode prog_25_method_2_code 2 = .ok (.iload_n 0, 1) := by decide +kernel
theorem d2_3 : decode prog_25_method_2_code 3 = .ok (.iconst 1, 1) := by decide +kernel
theorem d2_4 : decode prog_25_method_2_code 4 = .ok (.isub, 1) := by decide +kernel
theorem d2_5 : decode prog_25_method_2_code 5 = .ok (.i2l, 1) := by decide +kernel
theorem d2_6 : decode prog_25_method_2_code 6 = .ok (.lmul, 1) := by decide +kernel
theorem d2_7 : decode prog_25_method_2_code 7 = .ok (.lreturn, 1) := by decide +kernel
def f_pairs (p0 : Int32)  : Int64 := ((p0.toInt64) * ((p0 - (1 : Int32)).toInt64))
theorem ef_2_f_pairs (m : MethodId) (p0 : Int32) : entryFrame m #[(.int p0)] 1 = mkF m 0 #[.val (.int p0)] [] := by first | (simp [entryFrame, mkF, argsToLocals, Value.category]; done) | rfl
theorem pn_2 : plainFor (⟨"com/example/keyedge/keyedge/algo/RandomDigraphs", "pairs", "(I)J"⟩ : MethodName) = true := plainFor_of_name (by first | (simp [plainName, overriddenIn]; done) | decide +kernel)
set_option maxRecDepth 65536 in
set_option maxHeartbeats 40000000 in
theorem rm_f_pairs (l : Launch) (Z : State) (a0 : Array Value) (hw : ∀ d ∈ tables_1, d.before a0 Z = true) (ws : List Jvm.Cond) (p0 : Int32) (h0 : Heap)  :
    OMet l (⟨"com/example/keyedge/keyedge/algo/RandomDigraphs", "pairs", "(I)J"⟩ : MethodName) prog_25_method_2_code 1 (some .long) ws ({ frames := 0, cells := 0, slots := 0, locals := 0 } : Room) #[(.int p0)] Z h0 (fun v h L => v = some (Value.long (f_pairs p0)) ∧ L = [] ∧ h = h0) := by
  refine OMet.of pn_2 (fun m => ef_2_f_pairs m p0) ?_
  intro p e s m below meth c s₁ hx hby hml hown hnm hret hlk hZ X0 e0
  refine Owes.go ?_ fun t k => XS.iloadN X0.here hx rfl (hb hby d2_0) rfl k
  show Owes _ _ _ _ (s₁.setTop (mkF m 1 #[.val (.int p0)] [(.int p0)]))
  refine Owes.go ?_ fun t k => XS.i2l X0.here hx rfl (hb hby d2_1) rfl k
  show Owes _ _ _ _ (s₁.setTop (mkF m 2 #[.val (.int p0)] [(.long (p0.toInt64))]))
  refine Owes.go ?_ fun t k => XS.iloadN X0.here hx rfl (hb hby d2_2) rfl k
  show Owes _ _ _ _ (s₁.setTop (mkF m 3 #[.val (.int p0)] [(.int p0), (.long (p0.toInt64))]))
  refine Owes.go ?_ fun t k => XS.iconst X0.here hx rfl (hb hby d2_3) k
  show Owes _ _ _ _ (s₁.setTop (mkF m 4 #[.val (.int p0)] [(.int (1 : Int32)), (.int p0), (.long (p0.toInt64))]))
  refine Owes.go ?_ fun t k => XS.isub X0.here hx rfl (hb hby d2_4) rfl k
  show Owes _ _ _ _ (s₁.setTop (mkF m 5 #[.val (.int p0)] [(.int (p0 - (1 : Int32))), (.long (p0.toInt64))]))
  refine Owes.go ?_ fun t k => XS.i2l X0.here hx rfl (hb hby d2_5) rfl k
  show Owes _ _ _ _ (s₁.setTop (mkF m 6 #[.val (.int p0)] [(.long ((p0 - (1 : Int32)).toInt64)), (.long (p0.toInt64))]))
  refine Owes.go ?_ fun t k => XS.lmul X0.here hx rfl (hb hby d2_6) rfl k
  show Owes _ _ _ _ (s₁.setTop (mkF m 7 #[.val (.int p0)] [(.long ((p0.toInt64) * ((p0 - (1 : Int32)).toInt64)))]))
  exact Owes.retJ X0 hx hlk hret (hb hby d2_7) (by decide) (by decide) ⟨congrArg (fun z => some (Value.long z)) (by unfold f_pairs; first | done | rfl), rfl, e0⟩
theorem d3_0 : decode prog_32_method_2_code 0 = .ok (.lload_n 2, 1) := by decide +kernel
theorem d3_1 : decode prog_32_method_2_code 1 = .ok (.lconst 0, 1) := by decide +kernel
theorem d3_2 : decode prog_32_method_2_code 2 = .ok (.lcmp, 1) := by decide +kernel
theorem d3_3 : decode prog_32_method_2_code 3 = .ok (.ifCond .ne 7, 3) := by decide +kernel
theorem d3_6 : decode prog_32_method_2_code 6 = .ok (.lconst 1, 1) := by decide +kernel
theorem d3_7 : decode prog_32_method_2_code 7 = .ok (.goto 21, 3) := by decide +kernel
theorem d3_28 : decode prog_32_method_2_code 28 = .ok (.lreturn, 1) := by decide +kernel
theorem d3_10 : decode prog_32_method_2_code 10 = .ok (.lload_n 0, 1) := by decide +kernel
theorem d3_11 : decode prog_32_method_2_code 11 = .ok (.lload_n 2, 1) := by decide +kernel
theorem d3_12 : decode prog_32_method_2_code 12 = .ok (.ldiv, 1) := by decide +kernel
theorem d3_13 : decode prog_32_method_2_code 13 = .ok (.lload_n 0, 1) := by decide +kernel
theorem d3_14 : decode prog_32_method_2_code 14 = .ok (.lload_n 2, 1) := by decide +kernel
theorem d3_15 : decode prog_32_method_2_code 15 = .ok (.lrem, 1) := by decide +kernel
theorem d3_16 : decode prog_32_method_2_code 16 = .ok (.lconst 0, 1) := by decide +kernel
theorem d3_17 : decode prog_32_method_2_code 17 = .ok (.lcmp, 1) := by decide +kernel
theorem d3_18 : decode prog_32_method_2_code 18 = .ok (.ifCond .ne 7, 3) := by decide +kernel
theorem d3_21 : decode prog_32_method_2_code 21 = .ok (.iconst 0, 1) := by decide +kernel
theorem d3_22 : decode prog_32_method_2_code 22 = .ok (.goto 4, 3) := by decide +kernel
theorem d3_26 : decode prog_32_method_2_code 26 = .ok (.i2l, 1) := by decide +kernel
theorem d3_27 : decode prog_32_method_2_code 27 = .ok (.ladd, 1) := by decide +kernel
theorem d3_25 : decode prog_32_method_2_code 25 = .ok (.iconst 1, 1) := by decide +kernel
def f_str (q0 : Int64) (q1 : Int64)  : Int64 := (if q1 = (0 : Int64) then (1 : Int64) else (if (q0 - q0 / q1 * q1) = (0 : Int64) then ((q0 / q1) + ((0 : Int32).toInt64)) else ((q0 / q1) + ((1 : Int32).toInt64))))
theorem ef_3_f_str (m : MethodId) (q0 : Int64) (q1 : Int64) : entryFrame m #[(.long q0), (.long q1)] 4 = mkF m 0 #[.val (.long q0), .second, .val (.long q1), .second] [] := by first | (simp [entryFrame, mkF, argsToLocals, Value.category]; done) | rfl
theorem pn_3 : plainFor (⟨"com/example/keyedge/keyedge/cli/Bench", "stride", "(JJ)J"⟩ : MethodName) = true := plainFor_of_name (by first | (simp [plainName, overriddenIn]; done) | decide +kernel)
set_option maxRecDepth 65536 in
set_option maxHeartbeats 40000000 in
theorem rm_f_str (l : Launch) (Z : State) (a0 : Array Value) (hw : ∀ d ∈ tables_1, d.before a0 Z = true) (ws : List Jvm.Cond) (q0 : Int64) (q1 : Int64) (h0 : Heap)  :
    OMet l (⟨"com/example/keyedge/keyedge/cli/Bench", "stride", "(JJ)J"⟩ : MethodName) prog_32_method_2_code 4 (some .long) ws ({ frames := 0, cells := 0, slots := 0, locals := 0 } : Room) #[(.long q0), (.long q1)] Z h0 (fun v h L => v = some (Value.long (f_str q0 q1)) ∧ L = [] ∧ h = h0) := by
  refine OMet.of pn_3 (fun m => ef_3_f_str m q0 q1) ?_
  intro p e s m below meth c s₁ hx hby hml hown hnm hret hlk hZ X0 e0
  refine Owes.go ?_ fun t k => XS.lloadN X0.here hx rfl (hb hby d3_0) rfl k
  show Owes _ _ _ _ (s₁.setTop (mkF m 1 #[.val (.long q0), .second, .val (.long q1), .second] [(.long q1)]))
  refine Owes.go ?_ fun t k => XS.lconst X0.here hx rfl (hb hby d3_1) k
  show Owes _ _ _ _ (s₁.setTop (mkF m 2 #[.val (.long q0), .second, .val (.long q1), .second] [(.long (0 : Int64)), (.long q1)]))
  refine Owes.go ?_ fun t k => XS.lcmp X0.here hx rfl (hb hby d3_2) rfl k
  show Owes _ _ _ _ (s₁.setTop (mkF m 3 #[.val (.long q0), .second, .val (.long q1), .second] [(.int (lcmpW q1 (0 : Int64)))]))
  by_cases hc1 : q1 = (0 : Int64)
  · skip
    refine Owes.go ?_ fun t k => XS.ifNo X0.here hx rfl (hb hby d3_3) rfl ((if0 _ _).trans (teq ((lw_eq _ _).mpr hc1)).2) k
    show Owes _ _ _ _ (s₁.setTop (mkF m 6 #[.val (.long q0), .second, .val (.long q1), .second] []))
    refine Owes.go ?_ fun t k => XS.lconst X0.here hx rfl (hb hby d3_6) k
    show Owes _ _ _ _ (s₁.setTop (mkF m 7 #[.val (.long q0), .second, .val (.long q1), .second] [(.long (1 : Int64))]))
    refine Owes.go ?_ fun t k => XS.goto X0.here hx rfl (pc0 := 7) (pc' := 28) rfl (hb hby d3_7) (by decide) (by decide) k
    show Owes _ _ _ _ (s₁.setTop (mkF m 28 #[.val (.long q0), .second, .val (.long q1), .second] [(.long (1 : Int64))]))
    exact Owes.retJ X0 hx hlk hret (hb hby d3_28) (by decide) (by decide) ⟨congrArg (fun z => some (Value.long z)) (by unfold f_str; rw [if_pos hc1]; first | done | rfl), rfl, e0⟩
  · skip
    refine Owes.go ?_ fun t k => XS.ifYes X0.here hx rfl (pc0 := 3) (pc' := 10) rfl (hb hby d3_3) rfl ((if0 _ _).trans (feq (fun q => hc1 ((lw_eq _ _).mp q))).2) (by decide) (by decide) k
    show Owes _ _ _ _ (s₁.setTop (mkF m 10 #[.val (.long q0), .second, .val (.long q1), .second] []))
    refine Owes.go ?_ fun t k => XS.lloadN X0.here hx rfl (hb hby d3_10) rfl k
    show Owes _ _ _ _ (s₁.setTop (mkF m 11 #[.val (.long q0), .second, .val (.long q1), .second] [(.long q0)]))
    refine Owes.go ?_ fun t k => XS.lloadN X0.here hx rfl (hb hby d3_11) rfl k
    show Owes _ _ _ _ (s₁.setTop (mkF m 12 #[.val (.long q0), .second, .val (.long q1), .second] [(.long q1), (.long q0)]))
    refine Owes.go ?_ fun t k => XS.ldiv X0.here hx rfl (hb hby d3_12) rfl hc1 k
    show Owes _ _ _ _ (s₁.setTop (mkF m 13 #[.val (.long q0), .second, .val (.long q1), .second] [(.long (q0 / q1))]))
    refine Owes.go ?_ fun t k => XS.lloadN X0.here hx rfl (hb hby d3_13) rfl k
    show Owes _ _ _ _ (s₁.setTop (mkF m 14 #[.val (.long q0), .second, .val (.long q1), .second] [(.long q0), (.long (q0 / q1))]))
    refine Owes.go ?_ fun t k => XS.lloadN X0.here hx rfl (hb hby d3_14) rfl k
    show Owes _ _ _ _ (s₁.setTop (mkF m 15 #[.val (.long q0), .second, .val (.long q1), .second] [(.long q1), (.long q0), (.long (q0 / q1))]))
    refine Owes.go ?_ fun t k => XS.lrem X0.here hx rfl (hb hby d3_15) rfl hc1 k
    show Owes _ _ _ _ (s₁.setTop (mkF m 16 #[.val (.long q0), .second, .val (.long q1), .second] [(.long (q0 - q0 / q1 * q1)), (.long (q0 / q1))]))
    refine Owes.go ?_ fun t k => XS.lconst X0.here hx rfl (hb hby d3_16) k
    show Owes _ _ _ _ (s₁.setTop (mkF m 17 #[.val (.long q0), .second, .val (.long q1), .second] [(.long (0 : Int64)), (.long (q0 - q0 / q1 * q1)), (.long (q0 / q1))]))
    refine Owes.go ?_ fun t k => XS.lcmp X0.here hx rfl (hb hby d3_17) rfl k
    show Owes _ _ _ _ (s₁.setTop (mkF m 18 #[.val (.long q0), .second, .val (.long q1), .second] [(.int (lcmpW (q0 - q0 / q1 * q1) (0 : Int64))), (.long (q0 / q1))]))
    by_cases hc2 : (q0 - q0 / q1 * q1) = (0 : Int64)
    · skip
      refine Owes.go ?_ fun t k => XS.ifNo X0.here hx rfl (hb hby d3_18) rfl ((if0 _ _).trans (teq ((lw_eq _ _).mpr hc2)).2) k
      show Owes _ _ _ _ (s₁.setTop (mkF m 21 #[.val (.long q0), .second, .val (.long q1), .second] [(.long (q0 / q1))]))
      refine Owes.go ?_ fun t k => XS.iconst X0.here hx rfl (hb hby d3_21) k
      show Owes _ _ _ _ (s₁.setTop (mkF m 22 #[.val (.long q0), .second, .val (.long q1), .second] [(.int (0 : Int32)), (.long (q0 / q1))]))
      refine Owes.go ?_ fun t k => XS.goto X0.here hx rfl (pc0 := 22) (pc' := 26) rfl (hb hby d3_22) (by decide) (by decide) k
      show Owes _ _ _ _ (s₁.setTop (mkF m 26 #[.val (.long q0), .second, .val (.long q1), .second] [(.int (0 : Int32)), (.long (q0 / q1))]))
      refine Owes.go ?_ fun t k => XS.i2l X0.here hx rfl (hb hby d3_26) rfl k
      show Owes _ _ _ _ (s₁.setTop (mkF m 27 #[.val (.long q0), .second, .val (.long q1), .second] [(.long ((0 : Int32).toInt64)), (.long (q0 / q1))]))
      refine Owes.go ?_ fun t k => XS.ladd X0.here hx rfl (hb hby d3_27) rfl k
      show Owes _ _ _ _ (s₁.setTop (mkF m 28 #[.val (.long q0), .second, .val (.long q1), .second] [(.long ((q0 / q1) + ((0 : Int32).toInt64)))]))
      exact Owes.retJ X0 hx hlk hret (hb hby d3_28) (by decide) (by decide) ⟨congrArg (fun z => some (Value.long z)) (by unfold f_str; rw [if_neg hc1, if_pos hc2]; first | done | rfl), rfl, e0⟩
    · skip
      refine Owes.go ?_ fun t k => XS.ifYes X0.here hx rfl (pc0 := 18) (pc' := 25) rfl (hb hby d3_18) rfl ((if0 _ _).trans (feq (fun q => hc2 ((lw_eq _ _).mp q))).2) (by decide) (by decide) k
      show Owes _ _ _ _ (s₁.setTop (mkF m 25 #[.val (.long q0), .second, .val (.long q1), .second] [(.long (q0 / q1))]))
      refine Owes.go ?_ fun t k => XS.iconst X0.here hx rfl (hb hby d3_25) k
      show Owes _ _ _ _ (s₁.setTop (mkF m 26 #[.val (.long q0), .second, .val (.long q1), .second] [(.int (1 : Int32)), (.long (q0 / q1))]))
      refine Owes.go ?_ fun t k => XS.i2l X0.here hx rfl (hb hby d3_26) rfl k
      show Owes _ _ _ _ (s₁.setTop (mkF m 27 #[.val (.long q0), .second, .val (.long q1), .second] [(.long ((1 : Int32).toInt64)), (.long (q0 / q1))]))
      refine Owes.go ?_ fun t k => XS.ladd X0.here hx rfl (hb hby d3_27) rfl k
      show Owes _ _ _ _ (s₁.setTop (mkF m 28 #[.val (.long q0), .second, .val (.long q1), .second] [(.long ((q0 / q1) + ((1 : Int32).toInt64)))]))
      exact Owes.retJ X0 hx hlk hret (hb hby d3_28) (by decide) (by decide) ⟨congrArg (fun z => some (Value.long z)) (by unfold f_str; rw [if_neg hc1, if_neg hc2]; first | done | rfl), rfl, e0⟩
theorem d1_0 : decode prog_32_method_3_code 0 = .ok (.iload_n 0, 1) := by decide +kernel
theorem d1_1 : decode prog_32_method_3_code 1 = .ok (.invokestatic 37, 3) := by decide +kernel
theorem pd_0 : parseMethodDescriptor "(I)J" = some ⟨[.int], some .long⟩ := by decide +kernel
theorem d1_4 : decode prog_32_method_3_code 4 = .ok (.lstore_n 3, 1) := by decide +kernel
theorem d1_5 : decode prog_32_method_3_code 5 = .ok (.lload_n 3, 1) := by decide +kernel
theorem d1_6 : decode prog_32_method_3_code 6 = .ok (.lload_n 1, 1) := by decide +kernel
theorem d1_7 : decode prog_32_method_3_code 7 = .ok (.invokestatic 43, 3) := by decide +kernel
theorem pd_1 : parseMethodDescriptor "(JJ)J" = some ⟨[.long, .long], some .long⟩ := by decide +kernel
theorem d1_10 : decode prog_32_method_3_code 10 = .ok (.lstore 5, 2) := by decide +kernel
theorem d1_12 : decode prog_32_method_3_code 12 = .ok (.lconst 1, 1) := by decide +kernel
theorem d1_13 : decode prog_32_method_3_code 13 = .ok (.lload_n 3, 1) := by decide +kernel
theorem d1_14 : decode prog_32_method_3_code 14 = .ok (.lconst 1, 1) := by decide +kernel
theorem d1_15 : decode prog_32_method_3_code 15 = .ok (.lsub, 1) := by decide +kernel
theorem d1_16 : decode prog_32_method_3_code 16 = .ok (.lload 5, 2) := by decide +kernel
theorem d1_18 : decode prog_32_method_3_code 18 = .ok (.ldiv, 1) := by decide +kernel
theorem d1_19 : decode prog_32_method_3_code 19 = .ok (.lload 5, 2) := by decide +kernel
theorem d1_21 : decode prog_32_method_3_code 21 = .ok (.lmul, 1) := by decide +kernel
theorem d1_22 : decode prog_32_method_3_code 22 = .ok (.ladd, 1) := by decide +kernel
theorem d1_23 : decode prog_32_method_3_code 23 = .ok (.lreturn, 1) := by decide +kernel
def f_most (p0 : Int32) (q1 : Int64)  : Int64 := ((1 : Int64) + ((((f_pairs p0) - (1 : Int64)) / (f_str (f_pairs p0) q1)) * (f_str (f_pairs p0) q1)))
theorem ef_1_f_most (m : MethodId) (p0 : Int32) (q1 : Int64) : entryFrame m #[(.int p0), (.long q1)] 7 = mkF m 0 #[.val (.int p0), .val (.long q1), .second, .unset, .unset, .unset, .unset] [] := by first | (simp [entryFrame, mkF, argsToLocals, Value.category]; done) | rfl
theorem pn_1 : plainFor (⟨"com/example/keyedge/keyedge/cli/Bench", "mostEdges", "(IJ)J"⟩ : MethodName) = true := plainFor_of_name (by first | (simp [plainName, overriddenIn]; done) | decide +kernel)
set_option maxRecDepth 65536 in
set_option maxHeartbeats 40000000 in
theorem rm_f_most (l : Launch) (Z : State) (a0 : Array Value) (hw : ∀ d ∈ tables_1, d.before a0 Z = true) (ws : List Jvm.Cond) (p0 : Int32) (q1 : Int64) (h0 : Heap) (hs : ¬ (f_str (f_pairs p0) q1 = (0 : Int64))) :
    OMet l (⟨"com/example/keyedge/keyedge/cli/Bench", "mostEdges", "(IJ)J"⟩ : MethodName) prog_32_method_3_code 7 (some .long) ws ({ frames := 1, cells := 0, slots := 0, locals := 15 } : Room) #[(.int p0), (.long q1)] Z h0 (fun v h L => v = some (Value.long (f_most p0 q1)) ∧ L = [] ∧ h = h0) := by
  refine OMet.of pn_1 (fun m => ef_1_f_most m p0 q1) ?_
  intro p e s m below meth c s₁ hx hby hml hown hnm hret hlk hZ X0 e0
  refine Owes.go ?_ fun t k => XS.iloadN X0.here hx rfl (hb hby d1_0) rfl k
  show Owes _ _ _ _ (s₁.setTop (mkF m 1 #[.val (.int p0), .val (.long q1), .second, .unset, .unset, .unset, .unset] [(.int p0)]))
  refine Owes.callS X0 hx hZ hown (hw _ (List.mem_of_getElem? (i := 6) rfl)) (hw _ (List.mem_of_getElem? (i := 7) rfl)) (hw _ (List.mem_of_getElem? (i := 8) rfl)) (hw _ (List.mem_of_getElem? (i := 9) rfl)) (by decide) (argsL := [(.int p0)]) (rest := []) (rm_f_pairs l Z a0 hw [] p0 h0 ) e0 (by rw [hml]; rfl) pd_0 rfl rfl (hb hby d1_1) (by decide) (Nat.le_of_ble_eq_true rfl) (by decide) (by decide) ?_
  rintro T1 _ _ X1 ⟨rfl, rfl, e1⟩
  rw [List.append_nil] at X1
  show Owes _ _ _ _ (T1.setTop (mkF m 4 #[.val (.int p0), .val (.long q1), .second, .unset, .unset, .unset, .unset] [(.long (f_pairs p0))]))
  refine Owes.go ?_ fun t k => XS.lstoreN X1.here hx rfl (hb hby d1_4) rfl (l' := #[.val (.int p0), .val (.long q1), .second, .val (.long (f_pairs p0)), .second, .unset, .unset]) rfl k
  show Owes _ _ _ _ (T1.setTop (mkF m 5 #[.val (.int p0), .val (.long q1), .second, .val (.long (f_pairs p0)), .second, .unset, .unset] []))
  refine Owes.go ?_ fun t k => XS.lloadN X1.here hx rfl (hb hby d1_5) rfl k
  show Owes _ _ _ _ (T1.setTop (mkF m 6 #[.val (.int p0), .val (.long q1), .second, .val (.long (f_pairs p0)), .second, .unset, .unset] [(.long (f_pairs p0))]))
  refine Owes.go ?_ fun t k => XS.lloadN X1.here hx rfl (hb hby d1_6) rfl k
  show Owes _ _ _ _ (T1.setTop (mkF m 7 #[.val (.int p0), .val (.long q1), .second, .val (.long (f_pairs p0)), .second, .unset, .unset] [(.long q1), (.long (f_pairs p0))]))
  refine Owes.callS X1 hx hZ hown (hw _ (List.mem_of_getElem? (i := 10) rfl)) (hw _ (List.mem_of_getElem? (i := 11) rfl)) (hw _ (List.mem_of_getElem? (i := 4) rfl)) (hw _ (List.mem_of_getElem? (i := 12) rfl)) (by decide) (argsL := [(.long (f_pairs p0)), (.long q1)]) (rest := []) (rm_f_str l Z a0 hw [] (f_pairs p0) q1 h0 ) e1 (by rw [hml]; rfl) pd_1 rfl rfl (hb hby d1_7) (by decide) (Nat.le_of_ble_eq_true rfl) (by decide) (by decide) ?_
  rintro T2 _ _ X2 ⟨rfl, rfl, e2⟩
  rw [List.append_nil] at X2
  show Owes _ _ _ _ (T2.setTop (mkF m 10 #[.val (.int p0), .val (.long q1), .second, .val (.long (f_pairs p0)), .second, .unset, .unset] [(.long (f_str (f_pairs p0) q1))]))
  refine Owes.go ?_ fun t k => XS.lstore X2.here hx rfl (hb hby d1_10) rfl (l' := #[.val (.int p0), .val (.long q1), .second, .val (.long (f_pairs p0)), .second, .val (.long (f_str (f_pairs p0) q1)), .second]) rfl k
  show Owes _ _ _ _ (T2.setTop (mkF m 12 #[.val (.int p0), .val (.long q1), .second, .val (.long (f_pairs p0)), .second, .val (.long (f_str (f_pairs p0) q1)), .second] []))
  refine Owes.go ?_ fun t k => XS.lconst X2.here hx rfl (hb hby d1_12) k
  show Owes _ _ _ _ (T2.setTop (mkF m 13 #[.val (.int p0), .val (.long q1), .second, .val (.long (f_pairs p0)), .second, .val (.long (f_str (f_pairs p0) q1)), .second] [(.long (1 : Int64))]))
  refine Owes.go ?_ fun t k => XS.lloadN X2.here hx rfl (hb hby d1_13) rfl k
  show Owes _ _ _ _ (T2.setTop (mkF m 14 #[.val (.int p0), .val (.long q1), .second, .val (.long (f_pairs p0)), .second, .val (.long (f_str (f_pairs p0) q1)), .second] [(.long (f_pairs p0)), (.long (1 : Int64))]))
  refine Owes.go ?_ fun t k => XS.lconst X2.here hx rfl (hb hby d1_14) k
  show Owes _ _ _ _ (T2.setTop (mkF m 15 #[.val (.int p0), .val (.long q1), .second, .val (.long (f_pairs p0)), .second, .val (.long (f_str (f_pairs p0) q1)), .second] [(.long (1 : Int64)), (.long (f_pairs p0)), (.long (1 : Int64))]))
  refine Owes.go ?_ fun t k => XS.lsub X2.here hx rfl (hb hby d1_15) rfl k
  show Owes _ _ _ _ (T2.setTop (mkF m 16 #[.val (.int p0), .val (.long q1), .second, .val (.long (f_pairs p0)), .second, .val (.long (f_str (f_pairs p0) q1)), .second] [(.long ((f_pairs p0) - (1 : Int64))), (.long (1 : Int64))]))
  refine Owes.go ?_ fun t k => XS.lload X2.here hx rfl (hb hby d1_16) rfl k
  show Owes _ _ _ _ (T2.setTop (mkF m 18 #[.val (.int p0), .val (.long q1), .second, .val (.long (f_pairs p0)), .second, .val (.long (f_str (f_pairs p0) q1)), .second] [(.long (f_str (f_pairs p0) q1)), (.long ((f_pairs p0) - (1 : Int64))), (.long (1 : Int64))]))
  refine Owes.go ?_ fun t k => XS.ldiv X2.here hx rfl (hb hby d1_18) rfl hs k
  show Owes _ _ _ _ (T2.setTop (mkF m 19 #[.val (.int p0), .val (.long q1), .second, .val (.long (f_pairs p0)), .second, .val (.long (f_str (f_pairs p0) q1)), .second] [(.long (((f_pairs p0) - (1 : Int64)) / (f_str (f_pairs p0) q1))), (.long (1 : Int64))]))
  refine Owes.go ?_ fun t k => XS.lload X2.here hx rfl (hb hby d1_19) rfl k
  show Owes _ _ _ _ (T2.setTop (mkF m 21 #[.val (.int p0), .val (.long q1), .second, .val (.long (f_pairs p0)), .second, .val (.long (f_str (f_pairs p0) q1)), .second] [(.long (f_str (f_pairs p0) q1)), (.long (((f_pairs p0) - (1 : Int64)) / (f_str (f_pairs p0) q1))), (.long (1 : Int64))]))
  refine Owes.go ?_ fun t k => XS.lmul X2.here hx rfl (hb hby d1_21) rfl k
  show Owes _ _ _ _ (T2.setTop (mkF m 22 #[.val (.int p0), .val (.long q1), .second, .val (.long (f_pairs p0)), .second, .val (.long (f_str (f_pairs p0) q1)), .second] [(.long ((((f_pairs p0) - (1 : Int64)) / (f_str (f_pairs p0) q1)) * (f_str (f_pairs p0) q1))), (.long (1 : Int64))]))
  refine Owes.go ?_ fun t k => XS.ladd X2.here hx rfl (hb hby d1_22) rfl k
  show Owes _ _ _ _ (T2.setTop (mkF m 23 #[.val (.int p0), .val (.long q1), .second, .val (.long (f_pairs p0)), .second, .val (.long (f_str (f_pairs p0) q1)), .second] [(.long ((1 : Int64) + ((((f_pairs p0) - (1 : Int64)) / (f_str (f_pairs p0) q1)) * (f_str (f_pairs p0) q1))))]))
  exact Owes.retJ X2 hx hlk hret (hb hby d1_23) (by decide) (by decide) ⟨congrArg (fun z => some (Value.long z)) (by unfold f_most; first | done | rfl), rfl, e2⟩
theorem own_n1 (p : Int32) : 2 ≤ ((2 : Int32) + (p &&& (15 : Int32))).toInt ∧ ((2 : Int32) + (p &&& (15 : Int32))).toInt ≤ 23170 := by
  have h := c_mask p 15 4 (by decide) (by decide)
  have h1 := c_iadd 2 (p &&& 15)
  have r := rng32 (2 + (p &&& 15))
  have e1 : (2 : Int32).toInt = 2 := by decide
  rw [e1] at h1
  omega
theorem own_n2 (p : Int32) : 2 ≤ ((2 : Int32) + ((p &&& (2147483647 : Int32)) % (23169 : Int32))).toInt ∧ ((2 : Int32) + ((p &&& (2147483647 : Int32)) % (23169 : Int32))).toInt ≤ 23170 := by
  have h := c_mask p 2147483647 31 (by decide) (by decide)
  have h2 := (c_irem (p &&& 2147483647) 23169 23169 (by decide)).1 (by omega)
  have h1 := c_iadd 2 ((p &&& 2147483647) % 23169)
  have r := rng32 (2 + ((p &&& 2147483647) % 23169))
  have e1 : (2 : Int32).toInt = 2 := by decide
  rw [e1] at h1
  omega
theorem own_P (n : Int32) (hn : 2 ≤ n.toInt ∧ n.toInt ≤ 23170) : 2 ≤ (f_pairs n).toInt ∧ (f_pairs n).toInt ≤ 536848900 := by
  unfold f_pairs
  have h1 := c_i2l n
  have h2 := c_isub n 1
  have r2 := rng32 (n - 1)
  have e1 : (1 : Int32).toInt = 1 := by decide
  rw [e1] at h2
  have h3 : (n - 1).toInt = n.toInt - 1 := by omega
  have h4 := c_i2l (n - 1)
  have h5 := c_lmul n.toInt64 (n - 1).toInt64
  rw [h1, h4, h3] at h5
  have h6 := mc (a := n.toInt) (b := n.toInt - 1) (l1 := 2) (h1 := 23170) (l2 := 1) (h2 := 23169) (by omega) (by omega) (by omega) (by omega)
  have r5 := rng64 (n.toInt64 * (n - 1).toInt64)
  generalize n.toInt * (n.toInt - 1) = M at *
  have hM : 2 ≤ M ∧ M ≤ 536848900 := by omega
  clear h6
  omega
theorem own_Pne (n : Int32) (hn : 2 ≤ n.toInt ∧ n.toInt ≤ 23170) : ¬ (((n.toInt64) * ((n - (1 : Int32)).toInt64)) = (0 : Int64)) := fun q => by
  have h := own_P n hn
  have q' : f_pairs n = 0 := q
  rw [q'] at h
  exact absurd h.1 (by decide)
theorem own_l1 : 0 ≤ ((0 : Int64)).toInt := by decide
theorem own_l2 (q : Int64) : 0 ≤ (q &&& (9223372036854775807 : Int64)).toInt := by
  have h := c_maskL q 9223372036854775807 63 (by decide) (by decide)
  omega
theorem own_l4 (q : Int64) : 0 ≤ (q &&& (255 : Int64)).toInt := by
  have h := c_maskL q 255 8 (by decide) (by decide)
  omega
theorem own_l3 (q : Int64) (n : Int32) (hn : 2 ≤ n.toInt ∧ n.toInt ≤ 23170) : 0 ≤ ((1 : Int64) + ((q &&& (2147483647 : Int64)) - (q &&& (2147483647 : Int64)) / ((n.toInt64) * ((n - (1 : Int32)).toInt64)) * ((n.toInt64) * ((n - (1 : Int32)).toInt64)))).toInt := by
  have h := c_maskL q 2147483647 31 (by decide) (by decide)
  have hp : 2 ≤ ((n.toInt64) * ((n - (1 : Int32)).toInt64)).toInt ∧ ((n.toInt64) * ((n - (1 : Int32)).toInt64)).toInt ≤ 536848900 := own_P n hn
  generalize ((n.toInt64) * ((n - (1 : Int32)).toInt64)) = p at *
  have h1 := (c_lrem (q &&& 2147483647) p p.toInt rfl).1 (by omega)
  have h2 := c_ladd 1 ((q &&& 2147483647) - (q &&& 2147483647) / p * p)
  have r := rng64 (1 + ((q &&& 2147483647) - (q &&& 2147483647) / p * p))
  have e1 : (1 : Int64).toInt = 1 := by decide
  rw [e1, h1] at h2
  have h3 := Int.emod_nonneg (q &&& 2147483647).toInt (b := p.toInt) (by omega)
  have h4 := Int.emod_lt_of_pos (q &&& 2147483647).toInt (b := p.toInt) (by omega)
  generalize (q &&& 2147483647).toInt % p.toInt = M at *
  omega
theorem own_ceil (P L : Int) (hL : 0 < L) : (P + L - 1) / L = P / L + if P % L = 0 then 0 else 1 := by
  have h1 := Int.emod_add_mul_ediv P L
  have h2 := Int.emod_nonneg P (b := L) (by omega)
  have h3 := Int.emod_lt_of_pos P hL
  generalize P / L = q at *
  generalize P % L = r at *
  subst h1
  by_cases h : r = 0
  · subst h
    rw [if_pos rfl, show 0 + L * q + L - 1 = (L - 1) + L * q by omega, Int.add_mul_ediv_left _ _ (by omega), Int.ediv_eq_zero_of_lt (by omega) (by omega)]
    omega
  · rw [if_neg h, show r + L * q + L - 1 = (r - 1) + L * (q + 1) by rw [Int.mul_add]; omega, Int.add_mul_ediv_left _ _ (by omega), Int.ediv_eq_zero_of_lt (by omega) (by omega)]
    omega
theorem own_str (p q : Int64) (hp : 2 ≤ p.toInt ∧ p.toInt ≤ 536848900) (hq : 0 < q.toInt) : (f_str p q).toInt = (p.toInt + q.toInt - 1) / q.toInt := by
  have hq0 : ¬ (q = 0) := fun h => by subst h; exact absurd hq (by decide)
  have hq1 : q ≠ -1 := fun h => by subst h; exact absurd hq (by decide)
  have h1 := (c_ldiv p q q.toInt rfl hq1).1 (by omega)
  have h2 := (c_lrem p q q.toInt rfl).1 (by omega)
  have e0 : ((0 : Int32).toInt64).toInt = 0 := by decide
  have e1 : ((1 : Int32).toInt64).toInt = 1 := by decide
  have h5 := Int.ediv_nonneg (a := p.toInt) (b := q.toInt) (by omega) (by omega)
  have h6 : p.toInt / q.toInt ≤ p.toInt := Int.ediv_le_self _ (by omega)
  rw [own_ceil _ _ hq]
  unfold f_str
  rw [if_neg hq0]
  by_cases h : p - p / q * q = 0
  · rw [if_pos h]
    rw [h, show (0 : Int64).toInt = 0 from rfl] at h2
    rw [if_pos h2.symm]
    have h3 := c_ladd (p / q) (0 : Int32).toInt64
    have r3 := rng64 (p / q + (0 : Int32).toInt64)
    rw [e0, h1] at h3
    omega
  · rw [if_neg h]
    have h4 : ¬ (p.toInt % q.toInt = 0) := fun z => h (Int64.toInt_inj.mp (by rw [h2, z]; rfl))
    rw [if_neg h4]
    have h3 := c_ladd (p / q) (1 : Int32).toInt64
    have r3 := rng64 (p / q + (1 : Int32).toInt64)
    rw [e1, h1] at h3
    omega
theorem own_one (n : Int32) (hn : 2 ≤ n.toInt ∧ n.toInt ≤ 23170) (q : Int64) (hq : 0 ≤ q.toInt) (h : q = 0 ∨ ¬ q < ((n.toInt64) * ((n - (1 : Int32)).toInt64))) : (1 : Int64) = f_str (f_pairs n) q := by
  by_cases h0 : q = 0
  · subst h0; rfl
  · have h1 : ¬ q < f_pairs n := h.resolve_left h0
    have hp := own_P n hn
    have hq' : 0 < q.toInt := by
      have : q.toInt ≠ 0 := fun z => h0 (Int64.toInt_inj.mp (by rw [z]; rfl))
      omega
    apply Int64.toInt_inj.mp
    rw [own_str _ _ hp hq', show (1 : Int64).toInt = 1 by decide]
    rw [Int64.lt_iff_toInt_lt] at h1
    rw [show (f_pairs n).toInt + q.toInt - 1 = ((f_pairs n).toInt - 1) + q.toInt * 1 by omega, Int.add_mul_ediv_left _ _ (by omega), Int.ediv_eq_zero_of_lt (by omega) (by omega)]
    rfl
theorem own_more (n : Int32) (hn : 2 ≤ n.toInt ∧ n.toInt ≤ 23170) (q : Int64) (hq : 0 ≤ q.toInt) (h0 : ¬ q = 0) (h : q < ((n.toInt64) * ((n - (1 : Int32)).toInt64))) : ((((n.toInt64) * ((n - (1 : Int32)).toInt64)) + q) - (1 : Int64)) / q = f_str (f_pairs n) q := by
  have hp := own_P n hn
  have hq' : 0 < q.toInt := by
    have : q.toInt ≠ 0 := fun z => h0 (Int64.toInt_inj.mp (by rw [z]; rfl))
    omega
  apply Int64.toInt_inj.mp
  rw [own_str _ _ hp hq']
  have h' : q < f_pairs n := h
  show (((f_pairs n + q) - 1) / q).toInt = _
  rw [Int64.lt_iff_toInt_lt] at h'
  generalize f_pairs n = p at *
  have hq1 : q ≠ -1 := fun z => by subst z; exact absurd hq (by decide)
  have h1 := c_ladd p q
  have r1 := rng64 (p + q)
  have h2 := c_lsub (p + q) 1
  have r2 := rng64 (p + q - 1)
  have e1 : (1 : Int64).toInt = 1 := by decide
  rw [e1] at h2
  have h3 : (p + q - 1).toInt = p.toInt + q.toInt - 1 := by omega
  rw [(c_ldiv (p + q - 1) q q.toInt rfl hq1).1 (by omega), h3]
theorem own_sne (n : Int32) (hn : 2 ≤ n.toInt ∧ n.toInt ≤ 23170) (q : Int64) (hq : 0 ≤ q.toInt) : ¬ (f_str (f_pairs n) q = (0 : Int64)) := fun z => by
  by_cases h0 : q = 0
  · subst h0; exact absurd z (by show ¬ ((1 : Int64) = 0); decide)
  · have hq' : 0 < q.toInt := by
      have : q.toInt ≠ 0 := fun z => h0 (Int64.toInt_inj.mp (by rw [z]; rfl))
      omega
    have hp := own_P n hn
    have h := own_str _ _ hp hq'
    rw [z, show ((0 : Int64)).toInt = 0 by decide, show (f_pairs n).toInt + q.toInt - 1 = ((f_pairs n).toInt - 1) + q.toInt * 1 by omega, Int.add_mul_ediv_left _ _ (by omega)] at h
    have := Int.ediv_nonneg (a := (f_pairs n).toInt - 1) (b := q.toInt) (by omega) (by omega)
    omega
theorem own_fin (n : Int32) (q s : Int64) (hs : s = f_str (f_pairs n) q) : f_most n q = ((n.toInt64) * ((n - (1 : Int32)).toInt64)) - ((((n.toInt64) * ((n - (1 : Int32)).toInt64)) - (1 : Int64)) - (((n.toInt64) * ((n - (1 : Int32)).toInt64)) - (1 : Int64)) / s * s) := by
  subst hs
  show (1 : Int64) + ((f_pairs n - 1) / f_str (f_pairs n) q) * f_str (f_pairs n) q = f_pairs n - ((f_pairs n - 1) - (f_pairs n - 1) / f_str (f_pairs n) q * f_str (f_pairs n) q)
  generalize (f_pairs n - 1) / f_str (f_pairs n) q * f_str (f_pairs n) q = t
  generalize f_pairs n = p
  apply Int64.toInt_inj.mp
  have h1 := c_ladd 1 t
  have h2 := c_lsub p 1
  have h3 := c_lsub (p - 1) t
  have h4 := c_lsub p (p - 1 - t)
  have r1 := rng64 (1 + t)
  have r4 := rng64 (p - (p - 1 - t))
  have e1 : (1 : Int64).toInt = 1 := by decide
  rw [e1] at h1 h2
  omega
theorem pd_2 : parseMethodDescriptor "(IJ)J" = some ⟨[.int, .long], some .long⟩ := by decide +kernel
def QL (n0 : Nat) (v : Option Value) (h : Heap) (L : List Loc) : Prop := v = some (.int 1) ∧ Fr n0 L
theorem ef_0 (m : MethodId) (p0 : Int32) (q1 : Int64) (p2 : Int32) : entryFrame m #[(.int p0), (.long q1), (.int p2)] maxLocals = mkF m 0 #[.val (.int p0), .val (.long q1), .second, .val (.int p2), .unset, .unset, .unset, .unset, .unset, .unset, .unset, .unset, .unset, .unset] [] := by first | (simp [entryFrame, mkF, argsToLocals, Value.category, maxLocals]; done) | rfl
theorem pn_0 : plainFor (⟨"com/example/keyedge/keyedge/cli/BenchMostEdgesPinLaw", "law", "(IJI)Z"⟩ : MethodName) = true := plainFor_of_name (by first | (simp [plainName, overriddenIn]; done) | decide +kernel)
set_option maxRecDepth 65536 in
set_option maxHeartbeats 40000000 in
theorem rm0 (l : Launch) (Z : State) (a0 : Array Value) (hw : ∀ d ∈ tables_1, d.before a0 Z = true) (ws : List Jvm.Cond) (p0 : Int32) (q1 : Int64) (p2 : Int32) (h0 : Heap) (n0 : Nat) (Z0 : n0 ≤ h0.size)  :
    OMet l x code maxLocals ret ws room_1 #[(.int p0), (.long q1), (.int p2)] Z h0 (QL n0) := by
  have N0 := Fr.nil n0
  refine OMet.of pn_0 (fun m => ef_0 m p0 q1 p2) ?_
  intro p e s m below meth c s₁ hx hby hml hown hnm hret hlk hZ X0 e0
  have J25_3 : ∀ (n : Int32), (2 ≤ n.toInt ∧ n.toInt ≤ 23170) → Owes p e below (EndN s (QL n0) room_1.cells room_1.slots) (s₁.setTop (mkF m 25 #[.val (.int p0), .val (.long q1), .second, .val (.int p2), .unset, .unset, .unset, .unset, .unset, .unset, .unset, .unset, .unset, .unset] [(.int n)])) := by
    intro n hn
    refine Owes.go ?_ fun t k => XS.istore X0.here hx rfl (hb hby at_25) rfl (l' := #[.val (.int p0), .val (.long q1), .second, .val (.int p2), .val (.int n), .unset, .unset, .unset, .unset, .unset, .unset, .unset, .unset, .unset]) rfl k
    show Owes _ _ _ _ (s₁.setTop (mkF m 27 #[.val (.int p0), .val (.long q1), .second, .val (.int p2), .val (.int n), .unset, .unset, .unset, .unset, .unset, .unset, .unset, .unset, .unset] []))
    refine Owes.go ?_ fun t k => XS.iload X0.here hx rfl (hb hby at_27) rfl k
    show Owes _ _ _ _ (s₁.setTop (mkF m 29 #[.val (.int p0), .val (.long q1), .second, .val (.int p2), .val (.int n), .unset, .unset, .unset, .unset, .unset, .unset, .unset, .unset, .unset] [(.int n)]))
    refine Owes.go ?_ fun t k => XS.i2l X0.here hx rfl (hb hby at_29) rfl k
    show Owes _ _ _ _ (s₁.setTop (mkF m 30 #[.val (.int p0), .val (.long q1), .second, .val (.int p2), .val (.int n), .unset, .unset, .unset, .unset, .unset, .unset, .unset, .unset, .unset] [(.long (n.toInt64))]))
    refine Owes.go ?_ fun t k => XS.iload X0.here hx rfl (hb hby at_30) rfl k
    show Owes _ _ _ _ (s₁.setTop (mkF m 32 #[.val (.int p0), .val (.long q1), .second, .val (.int p2), .val (.int n), .unset, .unset, .unset, .unset, .unset, .unset, .unset, .unset, .unset] [(.int n), (.long (n.toInt64))]))
    refine Owes.go ?_ fun t k => XS.iconst X0.here hx rfl (hb hby at_32) k
    show Owes _ _ _ _ (s₁.setTop (mkF m 33 #[.val (.int p0), .val (.long q1), .second, .val (.int p2), .val (.int n), .unset, .unset, .unset, .unset, .unset, .unset, .unset, .unset, .unset] [(.int (1 : Int32)), (.int n), (.long (n.toInt64))]))
    refine Owes.go ?_ fun t k => XS.isub X0.here hx rfl (hb hby at_33) rfl k
    show Owes _ _ _ _ (s₁.setTop (mkF m 34 #[.val (.int p0), .val (.long q1), .second, .val (.int p2), .val (.int n), .unset, .unset, .unset, .unset, .unset, .unset, .unset, .unset, .unset] [(.int (n - (1 : Int32))), (.long (n.toInt64))]))
    refine Owes.go ?_ fun t k => XS.i2l X0.here hx rfl (hb hby at_34) rfl k
    show Owes _ _ _ _ (s₁.setTop (mkF m 35 #[.val (.int p0), .val (.long q1), .second, .val (.int p2), .val (.int n), .unset, .unset, .unset, .unset, .unset, .unset, .unset, .unset, .unset] [(.long ((n - (1 : Int32)).toInt64)), (.long (n.toInt64))]))
    refine Owes.go ?_ fun t k => XS.lmul X0.here hx rfl (hb hby at_35) rfl k
    show Owes _ _ _ _ (s₁.setTop (mkF m 36 #[.val (.int p0), .val (.long q1), .second, .val (.int p2), .val (.int n), .unset, .unset, .unset, .unset, .unset, .unset, .unset, .unset, .unset] [(.long ((n.toInt64) * ((n - (1 : Int32)).toInt64)))]))
    refine Owes.go ?_ fun t k => XS.lstore X0.here hx rfl (hb hby at_36) rfl (l' := #[.val (.int p0), .val (.long q1), .second, .val (.int p2), .val (.int n), .val (.long ((n.toInt64) * ((n - (1 : Int32)).toInt64))), .second, .unset, .unset, .unset, .unset, .unset, .unset, .unset]) rfl k
    show Owes _ _ _ _ (s₁.setTop (mkF m 38 #[.val (.int p0), .val (.long q1), .second, .val (.int p2), .val (.int n), .val (.long ((n.toInt64) * ((n - (1 : Int32)).toInt64))), .second, .unset, .unset, .unset, .unset, .unset, .unset, .unset] []))
    refine Owes.go ?_ fun t k => XS.iloadN X0.here hx rfl (hb hby at_38) rfl k
    show Owes _ _ _ _ (s₁.setTop (mkF m 39 #[.val (.int p0), .val (.long q1), .second, .val (.int p2), .val (.int n), .val (.long ((n.toInt64) * ((n - (1 : Int32)).toInt64))), .second, .unset, .unset, .unset, .unset, .unset, .unset, .unset] [(.int p2)]))
    refine Owes.go ?_ fun t k => XS.iconst X0.here hx rfl (hb hby at_39) k
    show Owes _ _ _ _ (s₁.setTop (mkF m 40 #[.val (.int p0), .val (.long q1), .second, .val (.int p2), .val (.int n), .val (.long ((n.toInt64) * ((n - (1 : Int32)).toInt64))), .second, .unset, .unset, .unset, .unset, .unset, .unset, .unset] [(.int (3 : Int32)), (.int p2)]))
    refine Owes.go ?_ fun t k => XS.iand X0.here hx rfl (hb hby at_40) rfl k
    show Owes _ _ _ _ (s₁.setTop (mkF m 41 #[.val (.int p0), .val (.long q1), .second, .val (.int p2), .val (.int n), .val (.long ((n.toInt64) * ((n - (1 : Int32)).toInt64))), .second, .unset, .unset, .unset, .unset, .unset, .unset, .unset] [(.int (p2 &&& (3 : Int32)))]))
    refine Owes.go ?_ fun t k => XS.istore X0.here hx rfl (hb hby at_41) rfl (l' := #[.val (.int p0), .val (.long q1), .second, .val (.int p2), .val (.int n), .val (.long ((n.toInt64) * ((n - (1 : Int32)).toInt64))), .second, .val (.int (p2 &&& (3 : Int32))), .unset, .unset, .unset, .unset, .unset, .unset]) rfl k
    show Owes _ _ _ _ (s₁.setTop (mkF m 43 #[.val (.int p0), .val (.long q1), .second, .val (.int p2), .val (.int n), .val (.long ((n.toInt64) * ((n - (1 : Int32)).toInt64))), .second, .val (.int (p2 &&& (3 : Int32))), .unset, .unset, .unset, .unset, .unset, .unset] []))
    have J98_4 : ∀ (lim : Int64), (0 ≤ lim.toInt) → Owes p e below (EndN s (QL n0) room_1.cells room_1.slots) (s₁.setTop (mkF m 98 #[.val (.int p0), .val (.long q1), .second, .val (.int p2), .val (.int n), .val (.long ((n.toInt64) * ((n - (1 : Int32)).toInt64))), .second, .val (.int (p2 &&& (3 : Int32))), .val (.long lim), .second, .unset, .unset, .unset, .unset] [])) := by
      intro lim hl
      have J131_5 : ∀ (sv : Int64), (sv = f_str (f_pairs n) lim) → Owes p e below (EndN s (QL n0) room_1.cells room_1.slots) (s₁.setTop (mkF m 131 #[.val (.int p0), .val (.long q1), .second, .val (.int p2), .val (.int n), .val (.long ((n.toInt64) * ((n - (1 : Int32)).toInt64))), .second, .val (.int (p2 &&& (3 : Int32))), .val (.long lim), .second, .val (.long sv), .second, .unset, .unset] [])) := by
        intro sv hs
        refine Owes.go ?_ fun t k => XS.lload X0.here hx rfl (hb hby at_131) rfl k
        show Owes _ _ _ _ (s₁.setTop (mkF m 133 #[.val (.int p0), .val (.long q1), .second, .val (.int p2), .val (.int n), .val (.long ((n.toInt64) * ((n - (1 : Int32)).toInt64))), .second, .val (.int (p2 &&& (3 : Int32))), .val (.long lim), .second, .val (.long sv), .second, .unset, .unset] [(.long ((n.toInt64) * ((n - (1 : Int32)).toInt64)))]))
        refine Owes.go ?_ fun t k => XS.lload X0.here hx rfl (hb hby at_133) rfl k
        show Owes _ _ _ _ (s₁.setTop (mkF m 135 #[.val (.int p0), .val (.long q1), .second, .val (.int p2), .val (.int n), .val (.long ((n.toInt64) * ((n - (1 : Int32)).toInt64))), .second, .val (.int (p2 &&& (3 : Int32))), .val (.long lim), .second, .val (.long sv), .second, .unset, .unset] [(.long ((n.toInt64) * ((n - (1 : Int32)).toInt64))), (.long ((n.toInt64) * ((n - (1 : Int32)).toInt64)))]))
        refine Owes.go ?_ fun t k => XS.lconst X0.here hx rfl (hb hby at_135) k
        show Owes _ _ _ _ (s₁.setTop (mkF m 136 #[.val (.int p0), .val (.long q1), .second, .val (.int p2), .val (.int n), .val (.long ((n.toInt64) * ((n - (1 : Int32)).toInt64))), .second, .val (.int (p2 &&& (3 : Int32))), .val (.long lim), .second, .val (.long sv), .second, .unset, .unset] [(.long (1 : Int64)), (.long ((n.toInt64) * ((n - (1 : Int32)).toInt64))), (.long ((n.toInt64) * ((n - (1 : Int32)).toInt64)))]))
        refine Owes.go ?_ fun t k => XS.lsub X0.here hx rfl (hb hby at_136) rfl k
        show Owes _ _ _ _ (s₁.setTop (mkF m 137 #[.val (.int p0), .val (.long q1), .second, .val (.int p2), .val (.int n), .val (.long ((n.toInt64) * ((n - (1 : Int32)).toInt64))), .second, .val (.int (p2 &&& (3 : Int32))), .val (.long lim), .second, .val (.long sv), .second, .unset, .unset] [(.long (((n.toInt64) * ((n - (1 : Int32)).toInt64)) - (1 : Int64))), (.long ((n.toInt64) * ((n - (1 : Int32)).toInt64)))]))
        refine Owes.go ?_ fun t k => XS.lload X0.here hx rfl (hb hby at_137) rfl k
        show Owes _ _ _ _ (s₁.setTop (mkF m 139 #[.val (.int p0), .val (.long q1), .second, .val (.int p2), .val (.int n), .val (.long ((n.toInt64) * ((n - (1 : Int32)).toInt64))), .second, .val (.int (p2 &&& (3 : Int32))), .val (.long lim), .second, .val (.long sv), .second, .unset, .unset] [(.long sv), (.long (((n.toInt64) * ((n - (1 : Int32)).toInt64)) - (1 : Int64))), (.long ((n.toInt64) * ((n - (1 : Int32)).toInt64)))]))
        refine Owes.go ?_ fun t k => XS.lrem X0.here hx rfl (hb hby at_139) rfl (fun z => own_sne n hn lim hl (hs ▸ z)) k
        show Owes _ _ _ _ (s₁.setTop (mkF m 140 #[.val (.int p0), .val (.long q1), .second, .val (.int p2), .val (.int n), .val (.long ((n.toInt64) * ((n - (1 : Int32)).toInt64))), .second, .val (.int (p2 &&& (3 : Int32))), .val (.long lim), .second, .val (.long sv), .second, .unset, .unset] [(.long ((((n.toInt64) * ((n - (1 : Int32)).toInt64)) - (1 : Int64)) - (((n.toInt64) * ((n - (1 : Int32)).toInt64)) - (1 : Int64)) / sv * sv)), (.long ((n.toInt64) * ((n - (1 : Int32)).toInt64)))]))
        refine Owes.go ?_ fun t k => XS.lsub X0.here hx rfl (hb hby at_140) rfl k
        show Owes _ _ _ _ (s₁.setTop (mkF m 141 #[.val (.int p0), .val (.long q1), .second, .val (.int p2), .val (.int n), .val (.long ((n.toInt64) * ((n - (1 : Int32)).toInt64))), .second, .val (.int (p2 &&& (3 : Int32))), .val (.long lim), .second, .val (.long sv), .second, .unset, .unset] [(.long (((n.toInt64) * ((n - (1 : Int32)).toInt64)) - ((((n.toInt64) * ((n - (1 : Int32)).toInt64)) - (1 : Int64)) - (((n.toInt64) * ((n - (1 : Int32)).toInt64)) - (1 : Int64)) / sv * sv)))]))
        refine Owes.go ?_ fun t k => XS.lstore X0.here hx rfl (hb hby at_141) rfl (l' := #[.val (.int p0), .val (.long q1), .second, .val (.int p2), .val (.int n), .val (.long ((n.toInt64) * ((n - (1 : Int32)).toInt64))), .second, .val (.int (p2 &&& (3 : Int32))), .val (.long lim), .second, .val (.long sv), .second, .val (.long (((n.toInt64) * ((n - (1 : Int32)).toInt64)) - ((((n.toInt64) * ((n - (1 : Int32)).toInt64)) - (1 : Int64)) - (((n.toInt64) * ((n - (1 : Int32)).toInt64)) - (1 : Int64)) / sv * sv))), .second]) rfl k
        show Owes _ _ _ _ (s₁.setTop (mkF m 143 #[.val (.int p0), .val (.long q1), .second, .val (.int p2), .val (.int n), .val (.long ((n.toInt64) * ((n - (1 : Int32)).toInt64))), .second, .val (.int (p2 &&& (3 : Int32))), .val (.long lim), .second, .val (.long sv), .second, .val (.long (((n.toInt64) * ((n - (1 : Int32)).toInt64)) - ((((n.toInt64) * ((n - (1 : Int32)).toInt64)) - (1 : Int64)) - (((n.toInt64) * ((n - (1 : Int32)).toInt64)) - (1 : Int64)) / sv * sv))), .second] []))
        refine Owes.go ?_ fun t k => XS.iload X0.here hx rfl (hb hby at_143) rfl k
        show Owes _ _ _ _ (s₁.setTop (mkF m 145 #[.val (.int p0), .val (.long q1), .second, .val (.int p2), .val (.int n), .val (.long ((n.toInt64) * ((n - (1 : Int32)).toInt64))), .second, .val (.int (p2 &&& (3 : Int32))), .val (.long lim), .second, .val (.long sv), .second, .val (.long (((n.toInt64) * ((n - (1 : Int32)).toInt64)) - ((((n.toInt64) * ((n - (1 : Int32)).toInt64)) - (1 : Int64)) - (((n.toInt64) * ((n - (1 : Int32)).toInt64)) - (1 : Int64)) / sv * sv))), .second] [(.int n)]))
        refine Owes.go ?_ fun t k => XS.lload X0.here hx rfl (hb hby at_145) rfl k
        show Owes _ _ _ _ (s₁.setTop (mkF m 147 #[.val (.int p0), .val (.long q1), .second, .val (.int p2), .val (.int n), .val (.long ((n.toInt64) * ((n - (1 : Int32)).toInt64))), .second, .val (.int (p2 &&& (3 : Int32))), .val (.long lim), .second, .val (.long sv), .second, .val (.long (((n.toInt64) * ((n - (1 : Int32)).toInt64)) - ((((n.toInt64) * ((n - (1 : Int32)).toInt64)) - (1 : Int64)) - (((n.toInt64) * ((n - (1 : Int32)).toInt64)) - (1 : Int64)) / sv * sv))), .second] [(.long lim), (.int n)]))
        refine Owes.callS X0 hx hZ hown (hw _ (List.mem_of_getElem? (i := 2) rfl)) (hw _ (List.mem_of_getElem? (i := 3) rfl)) (hw _ (List.mem_of_getElem? (i := 4) rfl)) (hw _ (List.mem_of_getElem? (i := 5) rfl)) (by decide) (argsL := [(.int n), (.long lim)]) (rest := []) (rm_f_most l Z a0 hw [] n lim h0 (own_sne n hn lim hl)) e0 (by rw [hml]; rfl) pd_2 rfl rfl (hb hby at_147) (by decide) (Nat.le_of_ble_eq_true rfl) (by decide) (by decide) ?_
        rintro T6 _ _ X6 ⟨rfl, rfl, e6⟩
        rw [List.append_nil] at X6
        show Owes _ _ _ _ (T6.setTop (mkF m 150 #[.val (.int p0), .val (.long q1), .second, .val (.int p2), .val (.int n), .val (.long ((n.toInt64) * ((n - (1 : Int32)).toInt64))), .second, .val (.int (p2 &&& (3 : Int32))), .val (.long lim), .second, .val (.long sv), .second, .val (.long (((n.toInt64) * ((n - (1 : Int32)).toInt64)) - ((((n.toInt64) * ((n - (1 : Int32)).toInt64)) - (1 : Int64)) - (((n.toInt64) * ((n - (1 : Int32)).toInt64)) - (1 : Int64)) / sv * sv))), .second] [(.long (f_most n lim))]))
        refine Owes.go ?_ fun t k => XS.lload X6.here hx rfl (hb hby at_150) rfl k
        show Owes _ _ _ _ (T6.setTop (mkF m 152 #[.val (.int p0), .val (.long q1), .second, .val (.int p2), .val (.int n), .val (.long ((n.toInt64) * ((n - (1 : Int32)).toInt64))), .second, .val (.int (p2 &&& (3 : Int32))), .val (.long lim), .second, .val (.long sv), .second, .val (.long (((n.toInt64) * ((n - (1 : Int32)).toInt64)) - ((((n.toInt64) * ((n - (1 : Int32)).toInt64)) - (1 : Int64)) - (((n.toInt64) * ((n - (1 : Int32)).toInt64)) - (1 : Int64)) / sv * sv))), .second] [(.long (((n.toInt64) * ((n - (1 : Int32)).toInt64)) - ((((n.toInt64) * ((n - (1 : Int32)).toInt64)) - (1 : Int64)) - (((n.toInt64) * ((n - (1 : Int32)).toInt64)) - (1 : Int64)) / sv * sv))), (.long (f_most n lim))]))
        refine Owes.go ?_ fun t k => XS.lcmp X6.here hx rfl (hb hby at_152) rfl k
        show Owes _ _ _ _ (T6.setTop (mkF m 153 #[.val (.int p0), .val (.long q1), .second, .val (.int p2), .val (.int n), .val (.long ((n.toInt64) * ((n - (1 : Int32)).toInt64))), .second, .val (.int (p2 &&& (3 : Int32))), .val (.long lim), .second, .val (.long sv), .second, .val (.long (((n.toInt64) * ((n - (1 : Int32)).toInt64)) - ((((n.toInt64) * ((n - (1 : Int32)).toInt64)) - (1 : Int64)) - (((n.toInt64) * ((n - (1 : Int32)).toInt64)) - (1 : Int64)) / sv * sv))), .second] [(.int (lcmpW (f_most n lim) (((n.toInt64) * ((n - (1 : Int32)).toInt64)) - ((((n.toInt64) * ((n - (1 : Int32)).toInt64)) - (1 : Int64)) - (((n.toInt64) * ((n - (1 : Int32)).toInt64)) - (1 : Int64)) / sv * sv))))]))
        refine Owes.go ?_ fun t k => XS.ifNo X6.here hx rfl (hb hby at_153) rfl ((if0 _ _).trans (teq ((lw_eq _ _).mpr (own_fin n lim sv hs))).2) k
        show Owes _ _ _ _ (T6.setTop (mkF m 156 #[.val (.int p0), .val (.long q1), .second, .val (.int p2), .val (.int n), .val (.long ((n.toInt64) * ((n - (1 : Int32)).toInt64))), .second, .val (.int (p2 &&& (3 : Int32))), .val (.long lim), .second, .val (.long sv), .second, .val (.long (((n.toInt64) * ((n - (1 : Int32)).toInt64)) - ((((n.toInt64) * ((n - (1 : Int32)).toInt64)) - (1 : Int64)) - (((n.toInt64) * ((n - (1 : Int32)).toInt64)) - (1 : Int64)) / sv * sv))), .second] []))
        refine Owes.go ?_ fun t k => XS.iconst X6.here hx rfl (hb hby at_156) k
        show Owes _ _ _ _ (T6.setTop (mkF m 157 #[.val (.int p0), .val (.long q1), .second, .val (.int p2), .val (.int n), .val (.long ((n.toInt64) * ((n - (1 : Int32)).toInt64))), .second, .val (.int (p2 &&& (3 : Int32))), .val (.long lim), .second, .val (.long sv), .second, .val (.long (((n.toInt64) * ((n - (1 : Int32)).toInt64)) - ((((n.toInt64) * ((n - (1 : Int32)).toInt64)) - (1 : Int64)) - (((n.toInt64) * ((n - (1 : Int32)).toInt64)) - (1 : Int64)) / sv * sv))), .second] [(.int (1 : Int32))]))
        refine Owes.go ?_ fun t k => XS.goto X6.here hx rfl (pc0 := 157) (pc' := 161) rfl (hb hby at_157) (by decide) (by decide) k
        show Owes _ _ _ _ (T6.setTop (mkF m 161 #[.val (.int p0), .val (.long q1), .second, .val (.int p2), .val (.int n), .val (.long ((n.toInt64) * ((n - (1 : Int32)).toInt64))), .second, .val (.int (p2 &&& (3 : Int32))), .val (.long lim), .second, .val (.long sv), .second, .val (.long (((n.toInt64) * ((n - (1 : Int32)).toInt64)) - ((((n.toInt64) * ((n - (1 : Int32)).toInt64)) - (1 : Int64)) - (((n.toInt64) * ((n - (1 : Int32)).toInt64)) - (1 : Int64)) / sv * sv))), .second] [(.int (1 : Int32))]))
        exact Owes.retN X6 hx hlk hret (by simp) (hb hby at_161) (by decide) (by decide) ⟨rfl, N0⟩
      refine Owes.go ?_ fun t k => XS.lload X0.here hx rfl (hb hby at_98) rfl k
      show Owes _ _ _ _ (s₁.setTop (mkF m 100 #[.val (.int p0), .val (.long q1), .second, .val (.int p2), .val (.int n), .val (.long ((n.toInt64) * ((n - (1 : Int32)).toInt64))), .second, .val (.int (p2 &&& (3 : Int32))), .val (.long lim), .second, .unset, .unset, .unset, .unset] [(.long lim)]))
      refine Owes.go ?_ fun t k => XS.lconst X0.here hx rfl (hb hby at_100) k
      show Owes _ _ _ _ (s₁.setTop (mkF m 101 #[.val (.int p0), .val (.long q1), .second, .val (.int p2), .val (.int n), .val (.long ((n.toInt64) * ((n - (1 : Int32)).toInt64))), .second, .val (.int (p2 &&& (3 : Int32))), .val (.long lim), .second, .unset, .unset, .unset, .unset] [(.long (0 : Int64)), (.long lim)]))
      refine Owes.go ?_ fun t k => XS.lcmp X0.here hx rfl (hb hby at_101) rfl k
      show Owes _ _ _ _ (s₁.setTop (mkF m 102 #[.val (.int p0), .val (.long q1), .second, .val (.int p2), .val (.int n), .val (.long ((n.toInt64) * ((n - (1 : Int32)).toInt64))), .second, .val (.int (p2 &&& (3 : Int32))), .val (.long lim), .second, .unset, .unset, .unset, .unset] [(.int (lcmpW lim (0 : Int64)))]))
      by_cases hc1 : lim = (0 : Int64)
      · skip
        refine Owes.go ?_ fun t k => XS.ifYes X0.here hx rfl (pc0 := 102) (pc' := 113) rfl (hb hby at_102) rfl ((if0 _ _).trans (teq ((lw_eq _ _).mpr hc1)).1) (by decide) (by decide) k
        show Owes _ _ _ _ (s₁.setTop (mkF m 113 #[.val (.int p0), .val (.long q1), .second, .val (.int p2), .val (.int n), .val (.long ((n.toInt64) * ((n - (1 : Int32)).toInt64))), .second, .val (.int (p2 &&& (3 : Int32))), .val (.long lim), .second, .unset, .unset, .unset, .unset] []))
        refine Owes.go ?_ fun t k => XS.lconst X0.here hx rfl (hb hby at_113) k
        show Owes _ _ _ _ (s₁.setTop (mkF m 114 #[.val (.int p0), .val (.long q1), .second, .val (.int p2), .val (.int n), .val (.long ((n.toInt64) * ((n - (1 : Int32)).toInt64))), .second, .val (.int (p2 &&& (3 : Int32))), .val (.long lim), .second, .unset, .unset, .unset, .unset] [(.long (1 : Int64))]))
        refine Owes.go ?_ fun t k => XS.lstore X0.here hx rfl (hb hby at_114) rfl (l' := #[.val (.int p0), .val (.long q1), .second, .val (.int p2), .val (.int n), .val (.long ((n.toInt64) * ((n - (1 : Int32)).toInt64))), .second, .val (.int (p2 &&& (3 : Int32))), .val (.long lim), .second, .val (.long (1 : Int64)), .second, .unset, .unset]) rfl k
        show Owes _ _ _ _ (s₁.setTop (mkF m 116 #[.val (.int p0), .val (.long q1), .second, .val (.int p2), .val (.int n), .val (.long ((n.toInt64) * ((n - (1 : Int32)).toInt64))), .second, .val (.int (p2 &&& (3 : Int32))), .val (.long lim), .second, .val (.long (1 : Int64)), .second, .unset, .unset] []))
        refine Owes.go ?_ fun t k => XS.goto X0.here hx rfl (pc0 := 116) (pc' := 131) rfl (hb hby at_116) (by decide) (by decide) k
        show Owes _ _ _ _ (s₁.setTop (mkF m 131 #[.val (.int p0), .val (.long q1), .second, .val (.int p2), .val (.int n), .val (.long ((n.toInt64) * ((n - (1 : Int32)).toInt64))), .second, .val (.int (p2 &&& (3 : Int32))), .val (.long lim), .second, .val (.long (1 : Int64)), .second, .unset, .unset] []))
        exact J131_5 (1 : Int64) (own_one n hn lim hl (Or.inl hc1))
      · skip
        refine Owes.go ?_ fun t k => XS.ifNo X0.here hx rfl (hb hby at_102) rfl ((if0 _ _).trans (feq (fun q => hc1 ((lw_eq _ _).mp q))).1) k
        show Owes _ _ _ _ (s₁.setTop (mkF m 105 #[.val (.int p0), .val (.long q1), .second, .val (.int p2), .val (.int n), .val (.long ((n.toInt64) * ((n - (1 : Int32)).toInt64))), .second, .val (.int (p2 &&& (3 : Int32))), .val (.long lim), .second, .unset, .unset, .unset, .unset] []))
        refine Owes.go ?_ fun t k => XS.lload X0.here hx rfl (hb hby at_105) rfl k
        show Owes _ _ _ _ (s₁.setTop (mkF m 107 #[.val (.int p0), .val (.long q1), .second, .val (.int p2), .val (.int n), .val (.long ((n.toInt64) * ((n - (1 : Int32)).toInt64))), .second, .val (.int (p2 &&& (3 : Int32))), .val (.long lim), .second, .unset, .unset, .unset, .unset] [(.long lim)]))
        refine Owes.go ?_ fun t k => XS.lload X0.here hx rfl (hb hby at_107) rfl k
        show Owes _ _ _ _ (s₁.setTop (mkF m 109 #[.val (.int p0), .val (.long q1), .second, .val (.int p2), .val (.int n), .val (.long ((n.toInt64) * ((n - (1 : Int32)).toInt64))), .second, .val (.int (p2 &&& (3 : Int32))), .val (.long lim), .second, .unset, .unset, .unset, .unset] [(.long ((n.toInt64) * ((n - (1 : Int32)).toInt64))), (.long lim)]))
        refine Owes.go ?_ fun t k => XS.lcmp X0.here hx rfl (hb hby at_109) rfl k
        show Owes _ _ _ _ (s₁.setTop (mkF m 110 #[.val (.int p0), .val (.long q1), .second, .val (.int p2), .val (.int n), .val (.long ((n.toInt64) * ((n - (1 : Int32)).toInt64))), .second, .val (.int (p2 &&& (3 : Int32))), .val (.long lim), .second, .unset, .unset, .unset, .unset] [(.int (lcmpW lim ((n.toInt64) * ((n - (1 : Int32)).toInt64))))]))
        by_cases hc2 : lim < ((n.toInt64) * ((n - (1 : Int32)).toInt64))
        · skip
          refine Owes.go ?_ fun t k => XS.ifYes X0.here hx rfl (pc0 := 110) (pc' := 119) rfl (hb hby at_110) rfl ((if0 _ _).trans (tlt ((lw_lt _ _).mpr hc2)).1) (by decide) (by decide) k
          show Owes _ _ _ _ (s₁.setTop (mkF m 119 #[.val (.int p0), .val (.long q1), .second, .val (.int p2), .val (.int n), .val (.long ((n.toInt64) * ((n - (1 : Int32)).toInt64))), .second, .val (.int (p2 &&& (3 : Int32))), .val (.long lim), .second, .unset, .unset, .unset, .unset] []))
          refine Owes.go ?_ fun t k => XS.lload X0.here hx rfl (hb hby at_119) rfl k
          show Owes _ _ _ _ (s₁.setTop (mkF m 121 #[.val (.int p0), .val (.long q1), .second, .val (.int p2), .val (.int n), .val (.long ((n.toInt64) * ((n - (1 : Int32)).toInt64))), .second, .val (.int (p2 &&& (3 : Int32))), .val (.long lim), .second, .unset, .unset, .unset, .unset] [(.long ((n.toInt64) * ((n - (1 : Int32)).toInt64)))]))
          refine Owes.go ?_ fun t k => XS.lload X0.here hx rfl (hb hby at_121) rfl k
          show Owes _ _ _ _ (s₁.setTop (mkF m 123 #[.val (.int p0), .val (.long q1), .second, .val (.int p2), .val (.int n), .val (.long ((n.toInt64) * ((n - (1 : Int32)).toInt64))), .second, .val (.int (p2 &&& (3 : Int32))), .val (.long lim), .second, .unset, .unset, .unset, .unset] [(.long lim), (.long ((n.toInt64) * ((n - (1 : Int32)).toInt64)))]))
          refine Owes.go ?_ fun t k => XS.ladd X0.here hx rfl (hb hby at_123) rfl k
          show Owes _ _ _ _ (s₁.setTop (mkF m 124 #[.val (.int p0), .val (.long q1), .second, .val (.int p2), .val (.int n), .val (.long ((n.toInt64) * ((n - (1 : Int32)).toInt64))), .second, .val (.int (p2 &&& (3 : Int32))), .val (.long lim), .second, .unset, .unset, .unset, .unset] [(.long (((n.toInt64) * ((n - (1 : Int32)).toInt64)) + lim))]))
          refine Owes.go ?_ fun t k => XS.lconst X0.here hx rfl (hb hby at_124) k
          show Owes _ _ _ _ (s₁.setTop (mkF m 125 #[.val (.int p0), .val (.long q1), .second, .val (.int p2), .val (.int n), .val (.long ((n.toInt64) * ((n - (1 : Int32)).toInt64))), .second, .val (.int (p2 &&& (3 : Int32))), .val (.long lim), .second, .unset, .unset, .unset, .unset] [(.long (1 : Int64)), (.long (((n.toInt64) * ((n - (1 : Int32)).toInt64)) + lim))]))
          refine Owes.go ?_ fun t k => XS.lsub X0.here hx rfl (hb hby at_125) rfl k
          show Owes _ _ _ _ (s₁.setTop (mkF m 126 #[.val (.int p0), .val (.long q1), .second, .val (.int p2), .val (.int n), .val (.long ((n.toInt64) * ((n - (1 : Int32)).toInt64))), .second, .val (.int (p2 &&& (3 : Int32))), .val (.long lim), .second, .unset, .unset, .unset, .unset] [(.long ((((n.toInt64) * ((n - (1 : Int32)).toInt64)) + lim) - (1 : Int64)))]))
          refine Owes.go ?_ fun t k => XS.lload X0.here hx rfl (hb hby at_126) rfl k
          show Owes _ _ _ _ (s₁.setTop (mkF m 128 #[.val (.int p0), .val (.long q1), .second, .val (.int p2), .val (.int n), .val (.long ((n.toInt64) * ((n - (1 : Int32)).toInt64))), .second, .val (.int (p2 &&& (3 : Int32))), .val (.long lim), .second, .unset, .unset, .unset, .unset] [(.long lim), (.long ((((n.toInt64) * ((n - (1 : Int32)).toInt64)) + lim) - (1 : Int64)))]))
          refine Owes.go ?_ fun t k => XS.ldiv X0.here hx rfl (hb hby at_128) rfl hc1 k
          show Owes _ _ _ _ (s₁.setTop (mkF m 129 #[.val (.int p0), .val (.long q1), .second, .val (.int p2), .val (.int n), .val (.long ((n.toInt64) * ((n - (1 : Int32)).toInt64))), .second, .val (.int (p2 &&& (3 : Int32))), .val (.long lim), .second, .unset, .unset, .unset, .unset] [(.long (((((n.toInt64) * ((n - (1 : Int32)).toInt64)) + lim) - (1 : Int64)) / lim))]))
          refine Owes.go ?_ fun t k => XS.lstore X0.here hx rfl (hb hby at_129) rfl (l' := #[.val (.int p0), .val (.long q1), .second, .val (.int p2), .val (.int n), .val (.long ((n.toInt64) * ((n - (1 : Int32)).toInt64))), .second, .val (.int (p2 &&& (3 : Int32))), .val (.long lim), .second, .val (.long (((((n.toInt64) * ((n - (1 : Int32)).toInt64)) + lim) - (1 : Int64)) / lim)), .second, .unset, .unset]) rfl k
          show Owes _ _ _ _ (s₁.setTop (mkF m 131 #[.val (.int p0), .val (.long q1), .second, .val (.int p2), .val (.int n), .val (.long ((n.toInt64) * ((n - (1 : Int32)).toInt64))), .second, .val (.int (p2 &&& (3 : Int32))), .val (.long lim), .second, .val (.long (((((n.toInt64) * ((n - (1 : Int32)).toInt64)) + lim) - (1 : Int64)) / lim)), .second, .unset, .unset] []))
          exact J131_5 (((((n.toInt64) * ((n - (1 : Int32)).toInt64)) + lim) - (1 : Int64)) / lim) (own_more n hn lim hl hc1 hc2)
        · skip
          refine Owes.go ?_ fun t k => XS.ifNo X0.here hx rfl (hb hby at_110) rfl ((if0 _ _).trans (flt (fun q => hc2 ((lw_lt _ _).mp q))).1) k
          show Owes _ _ _ _ (s₁.setTop (mkF m 113 #[.val (.int p0), .val (.long q1), .second, .val (.int p2), .val (.int n), .val (.long ((n.toInt64) * ((n - (1 : Int32)).toInt64))), .second, .val (.int (p2 &&& (3 : Int32))), .val (.long lim), .second, .unset, .unset, .unset, .unset] []))
          refine Owes.go ?_ fun t k => XS.lconst X0.here hx rfl (hb hby at_113) k
          show Owes _ _ _ _ (s₁.setTop (mkF m 114 #[.val (.int p0), .val (.long q1), .second, .val (.int p2), .val (.int n), .val (.long ((n.toInt64) * ((n - (1 : Int32)).toInt64))), .second, .val (.int (p2 &&& (3 : Int32))), .val (.long lim), .second, .unset, .unset, .unset, .unset] [(.long (1 : Int64))]))
          refine Owes.go ?_ fun t k => XS.lstore X0.here hx rfl (hb hby at_114) rfl (l' := #[.val (.int p0), .val (.long q1), .second, .val (.int p2), .val (.int n), .val (.long ((n.toInt64) * ((n - (1 : Int32)).toInt64))), .second, .val (.int (p2 &&& (3 : Int32))), .val (.long lim), .second, .val (.long (1 : Int64)), .second, .unset, .unset]) rfl k
          show Owes _ _ _ _ (s₁.setTop (mkF m 116 #[.val (.int p0), .val (.long q1), .second, .val (.int p2), .val (.int n), .val (.long ((n.toInt64) * ((n - (1 : Int32)).toInt64))), .second, .val (.int (p2 &&& (3 : Int32))), .val (.long lim), .second, .val (.long (1 : Int64)), .second, .unset, .unset] []))
          refine Owes.go ?_ fun t k => XS.goto X0.here hx rfl (pc0 := 116) (pc' := 131) rfl (hb hby at_116) (by decide) (by decide) k
          show Owes _ _ _ _ (s₁.setTop (mkF m 131 #[.val (.int p0), .val (.long q1), .second, .val (.int p2), .val (.int n), .val (.long ((n.toInt64) * ((n - (1 : Int32)).toInt64))), .second, .val (.int (p2 &&& (3 : Int32))), .val (.long lim), .second, .val (.long (1 : Int64)), .second, .unset, .unset] []))
          exact J131_5 (1 : Int64) (own_one n hn lim hl (Or.inr hc2))
    refine Owes.go ?_ fun t k => XS.iload X0.here hx rfl (hb hby at_43) rfl k
    show Owes _ _ _ _ (s₁.setTop (mkF m 45 #[.val (.int p0), .val (.long q1), .second, .val (.int p2), .val (.int n), .val (.long ((n.toInt64) * ((n - (1 : Int32)).toInt64))), .second, .val (.int (p2 &&& (3 : Int32))), .unset, .unset, .unset, .unset, .unset, .unset] [(.int (p2 &&& (3 : Int32)))]))
    by_cases hc3 : (p2 &&& (3 : Int32)) = (0 : Int32)
    · skip
      refine Owes.go ?_ fun t k => XS.ifNo X0.here hx rfl (hb hby at_45) rfl ((if0 _ _).trans (teq hc3).2) k
      show Owes _ _ _ _ (s₁.setTop (mkF m 48 #[.val (.int p0), .val (.long q1), .second, .val (.int p2), .val (.int n), .val (.long ((n.toInt64) * ((n - (1 : Int32)).toInt64))), .second, .val (.int (p2 &&& (3 : Int32))), .unset, .unset, .unset, .unset, .unset, .unset] []))
      refine Owes.go ?_ fun t k => XS.lconst X0.here hx rfl (hb hby at_48) k
      show Owes _ _ _ _ (s₁.setTop (mkF m 49 #[.val (.int p0), .val (.long q1), .second, .val (.int p2), .val (.int n), .val (.long ((n.toInt64) * ((n - (1 : Int32)).toInt64))), .second, .val (.int (p2 &&& (3 : Int32))), .unset, .unset, .unset, .unset, .unset, .unset] [(.long (0 : Int64))]))
      refine Owes.go ?_ fun t k => XS.lstore X0.here hx rfl (hb hby at_49) rfl (l' := #[.val (.int p0), .val (.long q1), .second, .val (.int p2), .val (.int n), .val (.long ((n.toInt64) * ((n - (1 : Int32)).toInt64))), .second, .val (.int (p2 &&& (3 : Int32))), .val (.long (0 : Int64)), .second, .unset, .unset, .unset, .unset]) rfl k
      show Owes _ _ _ _ (s₁.setTop (mkF m 51 #[.val (.int p0), .val (.long q1), .second, .val (.int p2), .val (.int n), .val (.long ((n.toInt64) * ((n - (1 : Int32)).toInt64))), .second, .val (.int (p2 &&& (3 : Int32))), .val (.long (0 : Int64)), .second, .unset, .unset, .unset, .unset] []))
      refine Owes.go ?_ fun t k => XS.goto X0.here hx rfl (pc0 := 51) (pc' := 98) rfl (hb hby at_51) (by decide) (by decide) k
      show Owes _ _ _ _ (s₁.setTop (mkF m 98 #[.val (.int p0), .val (.long q1), .second, .val (.int p2), .val (.int n), .val (.long ((n.toInt64) * ((n - (1 : Int32)).toInt64))), .second, .val (.int (p2 &&& (3 : Int32))), .val (.long (0 : Int64)), .second, .unset, .unset, .unset, .unset] []))
      exact J98_4 (0 : Int64) own_l1
    · skip
      refine Owes.go ?_ fun t k => XS.ifYes X0.here hx rfl (pc0 := 45) (pc' := 54) rfl (hb hby at_45) rfl ((if0 _ _).trans (feq hc3).2) (by decide) (by decide) k
      show Owes _ _ _ _ (s₁.setTop (mkF m 54 #[.val (.int p0), .val (.long q1), .second, .val (.int p2), .val (.int n), .val (.long ((n.toInt64) * ((n - (1 : Int32)).toInt64))), .second, .val (.int (p2 &&& (3 : Int32))), .unset, .unset, .unset, .unset, .unset, .unset] []))
      refine Owes.go ?_ fun t k => XS.iload X0.here hx rfl (hb hby at_54) rfl k
      show Owes _ _ _ _ (s₁.setTop (mkF m 56 #[.val (.int p0), .val (.long q1), .second, .val (.int p2), .val (.int n), .val (.long ((n.toInt64) * ((n - (1 : Int32)).toInt64))), .second, .val (.int (p2 &&& (3 : Int32))), .unset, .unset, .unset, .unset, .unset, .unset] [(.int (p2 &&& (3 : Int32)))]))
      refine Owes.go ?_ fun t k => XS.iconst X0.here hx rfl (hb hby at_56) k
      show Owes _ _ _ _ (s₁.setTop (mkF m 57 #[.val (.int p0), .val (.long q1), .second, .val (.int p2), .val (.int n), .val (.long ((n.toInt64) * ((n - (1 : Int32)).toInt64))), .second, .val (.int (p2 &&& (3 : Int32))), .unset, .unset, .unset, .unset, .unset, .unset] [(.int (1 : Int32)), (.int (p2 &&& (3 : Int32)))]))
      by_cases hc4 : (p2 &&& (3 : Int32)) = (1 : Int32)
      · skip
        refine Owes.go ?_ fun t k => XS.icmpNo X0.here hx rfl (hb hby at_57) rfl (teq hc4).2 k
        show Owes _ _ _ _ (s₁.setTop (mkF m 60 #[.val (.int p0), .val (.long q1), .second, .val (.int p2), .val (.int n), .val (.long ((n.toInt64) * ((n - (1 : Int32)).toInt64))), .second, .val (.int (p2 &&& (3 : Int32))), .unset, .unset, .unset, .unset, .unset, .unset] []))
        refine Owes.go ?_ fun t k => XS.lloadN X0.here hx rfl (hb hby at_60) rfl k
        show Owes _ _ _ _ (s₁.setTop (mkF m 61 #[.val (.int p0), .val (.long q1), .second, .val (.int p2), .val (.int n), .val (.long ((n.toInt64) * ((n - (1 : Int32)).toInt64))), .second, .val (.int (p2 &&& (3 : Int32))), .unset, .unset, .unset, .unset, .unset, .unset] [(.long q1)]))
        refine Owes.go ?_ fun t k => X0.ldc2Long hx hown (mvT hZ (hw _ (List.mem_of_getElem? (i := 1) rfl))) (g := (mkF m 61 #[.val (.int p0), .val (.long q1), .second, .val (.int p2), .val (.int n), .val (.long ((n.toInt64) * ((n - (1 : Int32)).toInt64))), .second, .val (.int (p2 &&& (3 : Int32))), .unset, .unset, .unset, .unset, .unset, .unset] [(.long q1)])) rfl (hb hby at_61) _ k
        show Owes _ _ _ _ (s₁.setTop (mkF m 64 #[.val (.int p0), .val (.long q1), .second, .val (.int p2), .val (.int n), .val (.long ((n.toInt64) * ((n - (1 : Int32)).toInt64))), .second, .val (.int (p2 &&& (3 : Int32))), .unset, .unset, .unset, .unset, .unset, .unset] [(.long (9223372036854775807 : Int64)), (.long q1)]))
        refine Owes.go ?_ fun t k => XS.land X0.here hx rfl (hb hby at_64) rfl k
        show Owes _ _ _ _ (s₁.setTop (mkF m 65 #[.val (.int p0), .val (.long q1), .second, .val (.int p2), .val (.int n), .val (.long ((n.toInt64) * ((n - (1 : Int32)).toInt64))), .second, .val (.int (p2 &&& (3 : Int32))), .unset, .unset, .unset, .unset, .unset, .unset] [(.long (q1 &&& (9223372036854775807 : Int64)))]))
        refine Owes.go ?_ fun t k => XS.lstore X0.here hx rfl (hb hby at_65) rfl (l' := #[.val (.int p0), .val (.long q1), .second, .val (.int p2), .val (.int n), .val (.long ((n.toInt64) * ((n - (1 : Int32)).toInt64))), .second, .val (.int (p2 &&& (3 : Int32))), .val (.long (q1 &&& (9223372036854775807 : Int64))), .second, .unset, .unset, .unset, .unset]) rfl k
        show Owes _ _ _ _ (s₁.setTop (mkF m 67 #[.val (.int p0), .val (.long q1), .second, .val (.int p2), .val (.int n), .val (.long ((n.toInt64) * ((n - (1 : Int32)).toInt64))), .second, .val (.int (p2 &&& (3 : Int32))), .val (.long (q1 &&& (9223372036854775807 : Int64))), .second, .unset, .unset, .unset, .unset] []))
        refine Owes.go ?_ fun t k => XS.goto X0.here hx rfl (pc0 := 67) (pc' := 98) rfl (hb hby at_67) (by decide) (by decide) k
        show Owes _ _ _ _ (s₁.setTop (mkF m 98 #[.val (.int p0), .val (.long q1), .second, .val (.int p2), .val (.int n), .val (.long ((n.toInt64) * ((n - (1 : Int32)).toInt64))), .second, .val (.int (p2 &&& (3 : Int32))), .val (.long (q1 &&& (9223372036854775807 : Int64))), .second, .unset, .unset, .unset, .unset] []))
        exact J98_4 (q1 &&& (9223372036854775807 : Int64)) (own_l2 q1)
      · skip
        refine Owes.go ?_ fun t k => XS.icmpYes X0.here hx rfl (pc0 := 57) (pc' := 70) rfl (hb hby at_57) rfl (feq hc4).2 (by decide) (by decide) k
        show Owes _ _ _ _ (s₁.setTop (mkF m 70 #[.val (.int p0), .val (.long q1), .second, .val (.int p2), .val (.int n), .val (.long ((n.toInt64) * ((n - (1 : Int32)).toInt64))), .second, .val (.int (p2 &&& (3 : Int32))), .unset, .unset, .unset, .unset, .unset, .unset] []))
        refine Owes.go ?_ fun t k => XS.iload X0.here hx rfl (hb hby at_70) rfl k
        show Owes _ _ _ _ (s₁.setTop (mkF m 72 #[.val (.int p0), .val (.long q1), .second, .val (.int p2), .val (.int n), .val (.long ((n.toInt64) * ((n - (1 : Int32)).toInt64))), .second, .val (.int (p2 &&& (3 : Int32))), .unset, .unset, .unset, .unset, .unset, .unset] [(.int (p2 &&& (3 : Int32)))]))
        refine Owes.go ?_ fun t k => XS.iconst X0.here hx rfl (hb hby at_72) k
        show Owes _ _ _ _ (s₁.setTop (mkF m 73 #[.val (.int p0), .val (.long q1), .second, .val (.int p2), .val (.int n), .val (.long ((n.toInt64) * ((n - (1 : Int32)).toInt64))), .second, .val (.int (p2 &&& (3 : Int32))), .unset, .unset, .unset, .unset, .unset, .unset] [(.int (2 : Int32)), (.int (p2 &&& (3 : Int32)))]))
        by_cases hc5 : (p2 &&& (3 : Int32)) = (2 : Int32)
        · skip
          refine Owes.go ?_ fun t k => XS.icmpNo X0.here hx rfl (hb hby at_73) rfl (teq hc5).2 k
          show Owes _ _ _ _ (s₁.setTop (mkF m 76 #[.val (.int p0), .val (.long q1), .second, .val (.int p2), .val (.int n), .val (.long ((n.toInt64) * ((n - (1 : Int32)).toInt64))), .second, .val (.int (p2 &&& (3 : Int32))), .unset, .unset, .unset, .unset, .unset, .unset] []))
          refine Owes.go ?_ fun t k => XS.lconst X0.here hx rfl (hb hby at_76) k
          show Owes _ _ _ _ (s₁.setTop (mkF m 77 #[.val (.int p0), .val (.long q1), .second, .val (.int p2), .val (.int n), .val (.long ((n.toInt64) * ((n - (1 : Int32)).toInt64))), .second, .val (.int (p2 &&& (3 : Int32))), .unset, .unset, .unset, .unset, .unset, .unset] [(.long (1 : Int64))]))
          refine Owes.go ?_ fun t k => XS.lloadN X0.here hx rfl (hb hby at_77) rfl k
          show Owes _ _ _ _ (s₁.setTop (mkF m 78 #[.val (.int p0), .val (.long q1), .second, .val (.int p2), .val (.int n), .val (.long ((n.toInt64) * ((n - (1 : Int32)).toInt64))), .second, .val (.int (p2 &&& (3 : Int32))), .unset, .unset, .unset, .unset, .unset, .unset] [(.long q1), (.long (1 : Int64))]))
          refine Owes.go ?_ fun t k => X0.ldc2Long hx hown (mvT hZ (hw _ (List.mem_of_getElem? (i := 13) rfl))) (g := (mkF m 78 #[.val (.int p0), .val (.long q1), .second, .val (.int p2), .val (.int n), .val (.long ((n.toInt64) * ((n - (1 : Int32)).toInt64))), .second, .val (.int (p2 &&& (3 : Int32))), .unset, .unset, .unset, .unset, .unset, .unset] [(.long q1), (.long (1 : Int64))])) rfl (hb hby at_78) _ k
          show Owes _ _ _ _ (s₁.setTop (mkF m 81 #[.val (.int p0), .val (.long q1), .second, .val (.int p2), .val (.int n), .val (.long ((n.toInt64) * ((n - (1 : Int32)).toInt64))), .second, .val (.int (p2 &&& (3 : Int32))), .unset, .unset, .unset, .unset, .unset, .unset] [(.long (2147483647 : Int64)), (.long q1), (.long (1 : Int64))]))
          refine Owes.go ?_ fun t k => XS.land X0.here hx rfl (hb hby at_81) rfl k
          show Owes _ _ _ _ (s₁.setTop (mkF m 82 #[.val (.int p0), .val (.long q1), .second, .val (.int p2), .val (.int n), .val (.long ((n.toInt64) * ((n - (1 : Int32)).toInt64))), .second, .val (.int (p2 &&& (3 : Int32))), .unset, .unset, .unset, .unset, .unset, .unset] [(.long (q1 &&& (2147483647 : Int64))), (.long (1 : Int64))]))
          refine Owes.go ?_ fun t k => XS.lload X0.here hx rfl (hb hby at_82) rfl k
          show Owes _ _ _ _ (s₁.setTop (mkF m 84 #[.val (.int p0), .val (.long q1), .second, .val (.int p2), .val (.int n), .val (.long ((n.toInt64) * ((n - (1 : Int32)).toInt64))), .second, .val (.int (p2 &&& (3 : Int32))), .unset, .unset, .unset, .unset, .unset, .unset] [(.long ((n.toInt64) * ((n - (1 : Int32)).toInt64))), (.long (q1 &&& (2147483647 : Int64))), (.long (1 : Int64))]))
          refine Owes.go ?_ fun t k => XS.lrem X0.here hx rfl (hb hby at_84) rfl (own_Pne n hn) k
          show Owes _ _ _ _ (s₁.setTop (mkF m 85 #[.val (.int p0), .val (.long q1), .second, .val (.int p2), .val (.int n), .val (.long ((n.toInt64) * ((n - (1 : Int32)).toInt64))), .second, .val (.int (p2 &&& (3 : Int32))), .unset, .unset, .unset, .unset, .unset, .unset] [(.long ((q1 &&& (2147483647 : Int64)) - (q1 &&& (2147483647 : Int64)) / ((n.toInt64) * ((n - (1 : Int32)).toInt64)) * ((n.toInt64) * ((n - (1 : Int32)).toInt64)))), (.long (1 : Int64))]))
          refine Owes.go ?_ fun t k => XS.ladd X0.here hx rfl (hb hby at_85) rfl k
          show Owes _ _ _ _ (s₁.setTop (mkF m 86 #[.val (.int p0), .val (.long q1), .second, .val (.int p2), .val (.int n), .val (.long ((n.toInt64) * ((n - (1 : Int32)).toInt64))), .second, .val (.int (p2 &&& (3 : Int32))), .unset, .unset, .unset, .unset, .unset, .unset] [(.long ((1 : Int64) + ((q1 &&& (2147483647 : Int64)) - (q1 &&& (2147483647 : Int64)) / ((n.toInt64) * ((n - (1 : Int32)).toInt64)) * ((n.toInt64) * ((n - (1 : Int32)).toInt64)))))]))
          refine Owes.go ?_ fun t k => XS.lstore X0.here hx rfl (hb hby at_86) rfl (l' := #[.val (.int p0), .val (.long q1), .second, .val (.int p2), .val (.int n), .val (.long ((n.toInt64) * ((n - (1 : Int32)).toInt64))), .second, .val (.int (p2 &&& (3 : Int32))), .val (.long ((1 : Int64) + ((q1 &&& (2147483647 : Int64)) - (q1 &&& (2147483647 : Int64)) / ((n.toInt64) * ((n - (1 : Int32)).toInt64)) * ((n.toInt64) * ((n - (1 : Int32)).toInt64))))), .second, .unset, .unset, .unset, .unset]) rfl k
          show Owes _ _ _ _ (s₁.setTop (mkF m 88 #[.val (.int p0), .val (.long q1), .second, .val (.int p2), .val (.int n), .val (.long ((n.toInt64) * ((n - (1 : Int32)).toInt64))), .second, .val (.int (p2 &&& (3 : Int32))), .val (.long ((1 : Int64) + ((q1 &&& (2147483647 : Int64)) - (q1 &&& (2147483647 : Int64)) / ((n.toInt64) * ((n - (1 : Int32)).toInt64)) * ((n.toInt64) * ((n - (1 : Int32)).toInt64))))), .second, .unset, .unset, .unset, .unset] []))
          refine Owes.go ?_ fun t k => XS.goto X0.here hx rfl (pc0 := 88) (pc' := 98) rfl (hb hby at_88) (by decide) (by decide) k
          show Owes _ _ _ _ (s₁.setTop (mkF m 98 #[.val (.int p0), .val (.long q1), .second, .val (.int p2), .val (.int n), .val (.long ((n.toInt64) * ((n - (1 : Int32)).toInt64))), .second, .val (.int (p2 &&& (3 : Int32))), .val (.long ((1 : Int64) + ((q1 &&& (2147483647 : Int64)) - (q1 &&& (2147483647 : Int64)) / ((n.toInt64) * ((n - (1 : Int32)).toInt64)) * ((n.toInt64) * ((n - (1 : Int32)).toInt64))))), .second, .unset, .unset, .unset, .unset] []))
          exact J98_4 ((1 : Int64) + ((q1 &&& (2147483647 : Int64)) - (q1 &&& (2147483647 : Int64)) / ((n.toInt64) * ((n - (1 : Int32)).toInt64)) * ((n.toInt64) * ((n - (1 : Int32)).toInt64)))) (own_l3 q1 n hn)
        · skip
          refine Owes.go ?_ fun t k => XS.icmpYes X0.here hx rfl (pc0 := 73) (pc' := 91) rfl (hb hby at_73) rfl (feq hc5).2 (by decide) (by decide) k
          show Owes _ _ _ _ (s₁.setTop (mkF m 91 #[.val (.int p0), .val (.long q1), .second, .val (.int p2), .val (.int n), .val (.long ((n.toInt64) * ((n - (1 : Int32)).toInt64))), .second, .val (.int (p2 &&& (3 : Int32))), .unset, .unset, .unset, .unset, .unset, .unset] []))
          refine Owes.go ?_ fun t k => XS.lloadN X0.here hx rfl (hb hby at_91) rfl k
          show Owes _ _ _ _ (s₁.setTop (mkF m 92 #[.val (.int p0), .val (.long q1), .second, .val (.int p2), .val (.int n), .val (.long ((n.toInt64) * ((n - (1 : Int32)).toInt64))), .second, .val (.int (p2 &&& (3 : Int32))), .unset, .unset, .unset, .unset, .unset, .unset] [(.long q1)]))
          refine Owes.go ?_ fun t k => X0.ldc2Long hx hown (mvT hZ (hw _ (List.mem_of_getElem? (i := 14) rfl))) (g := (mkF m 92 #[.val (.int p0), .val (.long q1), .second, .val (.int p2), .val (.int n), .val (.long ((n.toInt64) * ((n - (1 : Int32)).toInt64))), .second, .val (.int (p2 &&& (3 : Int32))), .unset, .unset, .unset, .unset, .unset, .unset] [(.long q1)])) rfl (hb hby at_92) _ k
          show Owes _ _ _ _ (s₁.setTop (mkF m 95 #[.val (.int p0), .val (.long q1), .second, .val (.int p2), .val (.int n), .val (.long ((n.toInt64) * ((n - (1 : Int32)).toInt64))), .second, .val (.int (p2 &&& (3 : Int32))), .unset, .unset, .unset, .unset, .unset, .unset] [(.long (255 : Int64)), (.long q1)]))
          refine Owes.go ?_ fun t k => XS.land X0.here hx rfl (hb hby at_95) rfl k
          show Owes _ _ _ _ (s₁.setTop (mkF m 96 #[.val (.int p0), .val (.long q1), .second, .val (.int p2), .val (.int n), .val (.long ((n.toInt64) * ((n - (1 : Int32)).toInt64))), .second, .val (.int (p2 &&& (3 : Int32))), .unset, .unset, .unset, .unset, .unset, .unset] [(.long (q1 &&& (255 : Int64)))]))
          refine Owes.go ?_ fun t k => XS.lstore X0.here hx rfl (hb hby at_96) rfl (l' := #[.val (.int p0), .val (.long q1), .second, .val (.int p2), .val (.int n), .val (.long ((n.toInt64) * ((n - (1 : Int32)).toInt64))), .second, .val (.int (p2 &&& (3 : Int32))), .val (.long (q1 &&& (255 : Int64))), .second, .unset, .unset, .unset, .unset]) rfl k
          show Owes _ _ _ _ (s₁.setTop (mkF m 98 #[.val (.int p0), .val (.long q1), .second, .val (.int p2), .val (.int n), .val (.long ((n.toInt64) * ((n - (1 : Int32)).toInt64))), .second, .val (.int (p2 &&& (3 : Int32))), .val (.long (q1 &&& (255 : Int64))), .second, .unset, .unset, .unset, .unset] []))
          exact J98_4 (q1 &&& (255 : Int64)) (own_l4 q1)
  refine Owes.go ?_ fun t k => XS.iloadN X0.here hx rfl (hb hby at_0) rfl k
  show Owes _ _ _ _ (s₁.setTop (mkF m 1 #[.val (.int p0), .val (.long q1), .second, .val (.int p2), .unset, .unset, .unset, .unset, .unset, .unset, .unset, .unset, .unset, .unset] [(.int p2)]))
  refine Owes.go ?_ fun t k => XS.iconst X0.here hx rfl (hb hby at_1) k
  show Owes _ _ _ _ (s₁.setTop (mkF m 2 #[.val (.int p0), .val (.long q1), .second, .val (.int p2), .unset, .unset, .unset, .unset, .unset, .unset, .unset, .unset, .unset, .unset] [(.int (4 : Int32)), (.int p2)]))
  refine Owes.go ?_ fun t k => XS.iand X0.here hx rfl (hb hby at_2) rfl k
  show Owes _ _ _ _ (s₁.setTop (mkF m 3 #[.val (.int p0), .val (.long q1), .second, .val (.int p2), .unset, .unset, .unset, .unset, .unset, .unset, .unset, .unset, .unset, .unset] [(.int (p2 &&& (4 : Int32)))]))
  by_cases hc6 : (p2 &&& (4 : Int32)) = (0 : Int32)
  · skip
    refine Owes.go ?_ fun t k => XS.ifYes X0.here hx rfl (pc0 := 3) (pc' := 15) rfl (hb hby at_3) rfl ((if0 _ _).trans (teq hc6).1) (by decide) (by decide) k
    show Owes _ _ _ _ (s₁.setTop (mkF m 15 #[.val (.int p0), .val (.long q1), .second, .val (.int p2), .unset, .unset, .unset, .unset, .unset, .unset, .unset, .unset, .unset, .unset] []))
    refine Owes.go ?_ fun t k => XS.iconst X0.here hx rfl (hb hby at_15) k
    show Owes _ _ _ _ (s₁.setTop (mkF m 16 #[.val (.int p0), .val (.long q1), .second, .val (.int p2), .unset, .unset, .unset, .unset, .unset, .unset, .unset, .unset, .unset, .unset] [(.int (2 : Int32))]))
    refine Owes.go ?_ fun t k => XS.iloadN X0.here hx rfl (hb hby at_16) rfl k
    show Owes _ _ _ _ (s₁.setTop (mkF m 17 #[.val (.int p0), .val (.long q1), .second, .val (.int p2), .unset, .unset, .unset, .unset, .unset, .unset, .unset, .unset, .unset, .unset] [(.int p0), (.int (2 : Int32))]))
    refine Owes.go ?_ fun t k => X0.ldcInt hx hown (mvT hZ (hw _ (List.mem_of_getElem? (i := 0) rfl))) (g := (mkF m 17 #[.val (.int p0), .val (.long q1), .second, .val (.int p2), .unset, .unset, .unset, .unset, .unset, .unset, .unset, .unset, .unset, .unset] [(.int p0), (.int (2 : Int32))])) rfl (hb hby at_17) _ k
    show Owes _ _ _ _ (s₁.setTop (mkF m 19 #[.val (.int p0), .val (.long q1), .second, .val (.int p2), .unset, .unset, .unset, .unset, .unset, .unset, .unset, .unset, .unset, .unset] [(.int (2147483647 : Int32)), (.int p0), (.int (2 : Int32))]))
    refine Owes.go ?_ fun t k => XS.iand X0.here hx rfl (hb hby at_19) rfl k
    show Owes _ _ _ _ (s₁.setTop (mkF m 20 #[.val (.int p0), .val (.long q1), .second, .val (.int p2), .unset, .unset, .unset, .unset, .unset, .unset, .unset, .unset, .unset, .unset] [(.int (p0 &&& (2147483647 : Int32))), (.int (2 : Int32))]))
    refine Owes.go ?_ fun t k => XS.sipush X0.here hx rfl (hb hby at_20) k
    show Owes _ _ _ _ (s₁.setTop (mkF m 23 #[.val (.int p0), .val (.long q1), .second, .val (.int p2), .unset, .unset, .unset, .unset, .unset, .unset, .unset, .unset, .unset, .unset] [(.int (23169 : Int32)), (.int (p0 &&& (2147483647 : Int32))), (.int (2 : Int32))]))
    refine Owes.go ?_ fun t k => Jvm.RoadKit.iremM X0 hx rfl (hb hby at_23) rfl (by decide : ¬ ((23169 : Int32) = (0 : Int32))) k
    show Owes _ _ _ _ (s₁.setTop (mkF m 24 #[.val (.int p0), .val (.long q1), .second, .val (.int p2), .unset, .unset, .unset, .unset, .unset, .unset, .unset, .unset, .unset, .unset] [(.int ((p0 &&& (2147483647 : Int32)) % (23169 : Int32))), (.int (2 : Int32))]))
    refine Owes.go ?_ fun t k => XS.iadd X0.here hx rfl (hb hby at_24) rfl k
    show Owes _ _ _ _ (s₁.setTop (mkF m 25 #[.val (.int p0), .val (.long q1), .second, .val (.int p2), .unset, .unset, .unset, .unset, .unset, .unset, .unset, .unset, .unset, .unset] [(.int ((2 : Int32) + ((p0 &&& (2147483647 : Int32)) % (23169 : Int32))))]))
    exact J25_3 ((2 : Int32) + ((p0 &&& (2147483647 : Int32)) % (23169 : Int32))) (own_n2 p0)
  · skip
    refine Owes.go ?_ fun t k => XS.ifNo X0.here hx rfl (hb hby at_3) rfl ((if0 _ _).trans (feq hc6).1) k
    show Owes _ _ _ _ (s₁.setTop (mkF m 6 #[.val (.int p0), .val (.long q1), .second, .val (.int p2), .unset, .unset, .unset, .unset, .unset, .unset, .unset, .unset, .unset, .unset] []))
    refine Owes.go ?_ fun t k => XS.iconst X0.here hx rfl (hb hby at_6) k
    show Owes _ _ _ _ (s₁.setTop (mkF m 7 #[.val (.int p0), .val (.long q1), .second, .val (.int p2), .unset, .unset, .unset, .unset, .unset, .unset, .unset, .unset, .unset, .unset] [(.int (2 : Int32))]))
    refine Owes.go ?_ fun t k => XS.iloadN X0.here hx rfl (hb hby at_7) rfl k
    show Owes _ _ _ _ (s₁.setTop (mkF m 8 #[.val (.int p0), .val (.long q1), .second, .val (.int p2), .unset, .unset, .unset, .unset, .unset, .unset, .unset, .unset, .unset, .unset] [(.int p0), (.int (2 : Int32))]))
    refine Owes.go ?_ fun t k => XS.bipush X0.here hx rfl (hb hby at_8) k
    show Owes _ _ _ _ (s₁.setTop (mkF m 10 #[.val (.int p0), .val (.long q1), .second, .val (.int p2), .unset, .unset, .unset, .unset, .unset, .unset, .unset, .unset, .unset, .unset] [(.int (15 : Int32)), (.int p0), (.int (2 : Int32))]))
    refine Owes.go ?_ fun t k => XS.iand X0.here hx rfl (hb hby at_10) rfl k
    show Owes _ _ _ _ (s₁.setTop (mkF m 11 #[.val (.int p0), .val (.long q1), .second, .val (.int p2), .unset, .unset, .unset, .unset, .unset, .unset, .unset, .unset, .unset, .unset] [(.int (p0 &&& (15 : Int32))), (.int (2 : Int32))]))
    refine Owes.go ?_ fun t k => XS.iadd X0.here hx rfl (hb hby at_11) rfl k
    show Owes _ _ _ _ (s₁.setTop (mkF m 12 #[.val (.int p0), .val (.long q1), .second, .val (.int p2), .unset, .unset, .unset, .unset, .unset, .unset, .unset, .unset, .unset, .unset] [(.int ((2 : Int32) + (p0 &&& (15 : Int32))))]))
    refine Owes.go ?_ fun t k => XS.goto X0.here hx rfl (pc0 := 12) (pc' := 25) rfl (hb hby at_12) (by decide) (by decide) k
    show Owes _ _ _ _ (s₁.setTop (mkF m 25 #[.val (.int p0), .val (.long q1), .second, .val (.int p2), .unset, .unset, .unset, .unset, .unset, .unset, .unset, .unset, .unset, .unset] [(.int ((2 : Int32) + (p0 &&& (15 : Int32))))]))
    exact J25_3 ((2 : Int32) + (p0 &&& (15 : Int32))) (own_n1 p0)
set_option maxRecDepth 65536 in
set_option maxHeartbeats 40000000 in
theorem comes_1 {Post : Tables → Env → Array Value → State → Outcome → State → Prop} (hpost : ∀ tb e args s v u, (limb_1_1.after args s (.returned v) u = true ∧ limb_1_2.after args s (.returned v) u = true ∧ True) → FrameEnd s (.returned v) u (Jvm.fieldLocs frame_1_writes args s ++ Jvm.arrayLocs frame_1_arrays args s ++ Jvm.staticLocs frame_1_statics s) 0 0 → Post tb e args s (.returned v) u) :
    ArmFor flags0 classFile x code maxLocals ret World_1 tables_1 room_1 Calls_1 rest_1 Pre_1 Post := by
  intro l hfl _ _ p e ha hc hk s m args below hf hA hF happ hP
  obtain ⟨hcalls, hrest, hpre⟩ := hP
  obtain ⟨-, -, -, hnamed, -, -, -, hat⟩ := (Spec.applies_iff hf).mp happ
  obtain ⟨hg, hn⟩ := and_e (Cond.before_iff.mp (show (Jvm.Cond.and given_1 narrow_1).before args s = true from hpre))
  obtain ⟨g1, g2⟩ := and_e hg
  obtain ⟨g3, g4⟩ := and_e g2
  obtain ⟨g5, g6⟩ := and_e g4
  obtain ⟨w0, w1, w2, rfl⟩ : ∃ w0 w1 w2 : Value, args = #[w0, w1, w2] := by
    have hs : args.size = 3 := by simpa [Cond.value, given_1] using g1
    obtain ⟨L⟩ := args
    match L, hs with
    | [w0, w1, w2], _ => exact ⟨w0, w1, w2, rfl⟩
  have hw := fun d (hd : d ∈ tables_1) => atoms_spec (ws := Jvm.Cond.code x code maxLocals ret :: tables_1) hat d (List.mem_cons_of_mem _ hd)
  have hfit : Fit s := fun {y c} hc i hi => by
    obtain ⟨ha, rfl⟩ := Array.getElem?_eq_some_iff.mp hc
    have q := List.all_eq_true.mp ((Array.all_eq_true_iff_forall_mem.mp hF) _ (Array.getElem_mem ha)) i (List.mem_range.mpr hi)
    simpa [Array.getElem?_eq_getElem hi] using q
  obtain ⟨i0, ei0⟩ := is_v g3
  obtain rfl : w0 = (.int i0) := Option.some.inj ei0
  obtain ⟨i1, ei1⟩ := isL_v g5
  obtain rfl : w1 = (.long i1) := Option.some.inj ei1
  obtain ⟨i2, ei2⟩ := is_v g6
  obtain rfl : w2 = (.int i2) := Option.some.inj ei2
  obtain ⟨n, o, h1, h2, h3, _, L, rfl, ⟨rfl, N⟩, hq⟩ := rm0 l s _ hw tables_1 i0 i1 i2 s.heap s.heap.size (Nat.le_refl _)  p e ha hc hk s m _ below hf ((Spec.applies_iff_loose hf).mp happ).1 ⟨rfl, State.Warmed39.refl s, rfl⟩ trivial
  refine ⟨n, _, h1, h2, h3, hpost _ _ _ _ _ _ ⟨Cond.after_iff.mpr rfl, Cond.after_iff.mpr (eq_i res_at (Term.int_eval (1)) rfl), trivial⟩ ⟨hq.1, hq.2.1, (hq.2.2.sift fun y hy => Or.inr (N y hy)).mono (by decide) (by decide)⟩⟩
theorem main_1_1 : Claimed_1_1 := comes_1 fun _ _ _ _ _ _ h hF => ⟨h.1, hF⟩
theorem main_1_2 : Claimed_1_2 := comes_1 fun _ _ _ _ _ _ h hF => ⟨h.2.1, hF⟩
end Jvm.Pilot.@@N@@
namespace Jvm.Pilot.@@N@@
open Jvm Jvm.ClassFile Sem Op Lib Jvm.Free Jvm.Stand Jvm.Pilot.@@N@@.Jvm.D
/-! MADE BY PROGRAM (witnessworld.py) out of the Statement's table words and the real class files: 10 classes; the members and pool entries that the words name. The judged class is class 1, her method 1. -/
namespace start1
open Jvm.ClassFile
def u (s : String) : CpInfo := .utf8 (stringToUtf16 s)
/-- a pool by its gaps: so many unusable entries, then the entry; so many at the end -/
def gap : Nat → List CpInfo → List CpInfo
  | 0, r => r
  | n + 1, r => .unusable :: gap n r
def poolList (es : List (Nat × CpInfo)) (last : Nat) : List CpInfo := es.foldr (fun e r => gap e.1 (e.2 :: r)) (gap last [])
def pool (es : List (Nat × CpInfo)) (last : Nat) : Array CpInfo := ⟨poolList es last⟩
def fileOf (pool : Array CpInfo) (this : Nat) (attrs : Array Attribute := #[]) (ms : Array MethodInfo := #[]) (fl : Nat := 33) (sup : Nat := 0) (ifs : Array Nat := #[]) (fds : Array FieldInfo := #[]) : ClassFile where
  minorVersion := 0
  majorVersion := 65
  constantPool := pool
  accessFlags := fl
  thisClass := this
  superClass := sup
  interfaces := ifs
  fields := fds
  methods := ms
  attributes := attrs
def plain (name : String) (sup : Option ClassId) : Class where
  name := name
  kind := .ordinary
  loader := none
  accessFlags := 33
  super := sup
  interfaces := #[]
  cf := none
  fields := #[]
  methods := #[]
  instanceTypes := #[]
  staticTypes := #[]
  resolved := #[]
  callSites := []
  init := .initialized
  statics := none
  mirror := none

def pool0 : Array CpInfo := pool [(5, u "<init>"), (0, u "()V"), (1, .class_ 10), (1, u "java/lang/Object")] 113

def k0m0 : Method := { name := "<init>", desc := "()V", sig := { parameters := [], returnType := none }, accessFlags := 1, code := none }
/-- java/lang/Object -/
def k0 : Class := { plain "java/lang/Object" none with
  accessFlags := 33
  interfaces := #[]
  cf := some (fileOf pool0 8 #[] #[{ accessFlags := 1, nameIndex := 5, descriptorIndex := 6, attributes := #[] }] 33 0 #[] #[])
  fields := #[]
  methods := #[k0m0]
  instanceTypes := #[]
  staticTypes := #[]
  resolved := Array.replicate 124 none
  statics := none }

def pool1 : Array CpInfo := pool [(2, .class_ 4), (1, u "java/lang/Object"), (0, u "<init>"), (0, u "()V"), (0, .integer 2147483647), (2, .long 9223372036854775807), (1, .long 2147483647), (1, .long 255), (1, .methodref 17 18), (0, .class_ 19), (0, .nameAndType 20 21), (0, u "com/example/keyedge/keyedge/cli/Bench"), (0, u "mostEdges"), (0, u "(IJ)J"), (0, .class_ 23), (0, u "com/example/keyedge/keyedge/cli/BenchMostEdgesPinLaw"), (2, u "law"), (0, u "(IJI)Z")] 3

def k1m0 : Method := { name := "<init>", desc := "()V", sig := { parameters := [], returnType := none }, accessFlags := 2, code := none }
def k1c1 : Code := { maxStack := 6, maxLocals := 14, code := code, exceptionTable := #[], attributes := #[] }
def k1m1 : Method := { name := "law", desc := "(IJI)Z", sig := { parameters := [.int, .long, .int], returnType := some .boolean }, accessFlags := 9, code := some k1c1 }
/-- com/example/keyedge/keyedge/cli/BenchMostEdgesPinLaw -/
def k1 : Class := { plain "com/example/keyedge/keyedge/cli/BenchMostEdgesPinLaw" (some 0) with
  accessFlags := 49
  interfaces := #[]
  cf := some (fileOf pool1 22 #[] #[{ accessFlags := 2, nameIndex := 5, descriptorIndex := 6, attributes := #[] }, { accessFlags := 9, nameIndex := 26, descriptorIndex := 27, attributes := #[] }] 49 2 #[] #[])
  fields := #[]
  methods := #[k1m0, k1m1]
  instanceTypes := #[]
  staticTypes := #[]
  resolved := Array.replicate 31 none
  statics := none }

def pool2 : Array CpInfo := pool [(2, .class_ 4), (1, u "java/lang/Object"), (9, .class_ 16), (1, u "com/example/keyedge/keyedge/cli/Bench"), (0, u "stores"), (0, u "Ljava/util/List;"), (2, u "limit"), (0, u "J"), (2, u "seed"), (2, u "repeat"), (2, u "out"), (0, u "Ljava/io/PrintStream;"), (2, u "clock"), (0, u "Ljava/util/function/LongSupplier;"), (0, .methodref 38 39), (0, .class_ 40), (0, .nameAndType 41 42), (0, u "com/example/keyedge/keyedge/algo/RandomDigraphs"), (0, u "pairs"), (0, u "(I)J"), (0, .methodref 14 44), (0, .nameAndType 45 46), (0, u "stride"), (0, u "(JJ)J"), (41, .class_ 89), (0, u "com/example/keyedge/keyedge/cli/Bench$Tally"), (44, u "ALGORITHMS"), (0, u "[Ljava/lang/String;"), (45, .class_ 182), (0, u "com/example/keyedge/keyedge/cli/Bench$Measurement"), (65, u "MAX_VERTICES"), (0, u "I"), (6, u "WARM_UP_ELEMENTS"), (1, u "CONSTRUCT"), (1, u "TRAVERSAL"), (1, u "SINK"), (1, u "NANOS"), (0, u "D"), (9, u "mostEdges"), (0, u "(IJ)J")] 80

def k2c0 : Code := { maxStack := 6, maxLocals := 4, code := prog_32_method_2_code, exceptionTable := #[], attributes := #[] }
def k2m0 : Method := { name := "stride", desc := "(JJ)J", sig := { parameters := [.long, .long], returnType := some .long }, accessFlags := 10, code := some k2c0 }
def k2c1 : Code := { maxStack := 6, maxLocals := 7, code := prog_32_method_3_code, exceptionTable := #[], attributes := #[] }
def k2m1 : Method := { name := "mostEdges", desc := "(IJ)J", sig := { parameters := [.int, .long], returnType := some .long }, accessFlags := 8, code := some k2c1 }
/-- com/example/keyedge/keyedge/cli/Bench -/
def k2 : Class := { plain "com/example/keyedge/keyedge/cli/Bench" (some 0) with
  accessFlags := 48
  interfaces := #[]
  cf := some (fileOf pool2 14 #[.nestMembers #[88, 181]] #[{ accessFlags := 10, nameIndex := 45, descriptorIndex := 46, attributes := #[] }, { accessFlags := 8, nameIndex := 275, descriptorIndex := 276, attributes := #[] }] 48 2 #[] #[{ accessFlags := 24, nameIndex := 256, descriptorIndex := 22, attributes := #[] }, { accessFlags := 24, nameIndex := 248, descriptorIndex := 249, attributes := #[] }, { accessFlags := 26, nameIndex := 134, descriptorIndex := 135, attributes := #[] }, { accessFlags := 26, nameIndex := 258, descriptorIndex := 249, attributes := #[] }, { accessFlags := 26, nameIndex := 260, descriptorIndex := 249, attributes := #[] }, { accessFlags := 26, nameIndex := 262, descriptorIndex := 249, attributes := #[] }, { accessFlags := 26, nameIndex := 264, descriptorIndex := 265, attributes := #[] }, { accessFlags := 18, nameIndex := 17, descriptorIndex := 18, attributes := #[] }, { accessFlags := 18, nameIndex := 21, descriptorIndex := 22, attributes := #[] }, { accessFlags := 18, nameIndex := 25, descriptorIndex := 22, attributes := #[] }, { accessFlags := 18, nameIndex := 28, descriptorIndex := 22, attributes := #[] }, { accessFlags := 18, nameIndex := 31, descriptorIndex := 32, attributes := #[] }, { accessFlags := 18, nameIndex := 35, descriptorIndex := 36, attributes := #[] }])
  fields := #[{ name := "WARM_UP_ELEMENTS", type := .long, accessFlags := 24, slot := 0, constantValue := 0 }, { name := "MAX_VERTICES", type := .int, accessFlags := 24, slot := 1, constantValue := 0 }, { name := "ALGORITHMS", type := (.array (.object "java/lang/String")), accessFlags := 26, slot := 2, constantValue := 0 }, { name := "CONSTRUCT", type := .int, accessFlags := 26, slot := 3, constantValue := 0 }, { name := "TRAVERSAL", type := .int, accessFlags := 26, slot := 4, constantValue := 0 }, { name := "SINK", type := .int, accessFlags := 26, slot := 5, constantValue := 0 }, { name := "NANOS", type := .double, accessFlags := 26, slot := 6, constantValue := 0 }, { name := "stores", type := (.object "java/util/List"), accessFlags := 18, slot := 0, constantValue := 0 }, { name := "limit", type := .long, accessFlags := 18, slot := 1, constantValue := 0 }, { name := "seed", type := .long, accessFlags := 18, slot := 2, constantValue := 0 }, { name := "repeat", type := .long, accessFlags := 18, slot := 3, constantValue := 0 }, { name := "out", type := (.object "java/io/PrintStream"), accessFlags := 18, slot := 4, constantValue := 0 }, { name := "clock", type := (.object "java/util/function/LongSupplier"), accessFlags := 18, slot := 5, constantValue := 0 }]
  methods := #[k2m0, k2m1]
  instanceTypes := #[(.object "java/util/List"), .long, .long, .long, (.object "java/io/PrintStream"), (.object "java/util/function/LongSupplier")]
  staticTypes := #[.long, .int, (.array (.object "java/lang/String")), .int, .int, .int, .double]
  resolved := Array.replicate 357 none
  statics := none }

def pool3 : Array CpInfo := pool [(3, .class_ 4), (0, u "com/example/keyedge/keyedge/algo/RandomDigraphs"), (1, .class_ 8), (1, u "java/lang/Object"), (4, u "state"), (0, u "J"), (9, .class_ 25), (0, u "com/example/keyedge/keyedge/algo/RandomDigraphs$Shuffle"), (20, .class_ 47), (0, u "com/example/keyedge/keyedge/algo/RandomDigraphs$Digraph"), (14, u "pairs"), (0, u "(I)J"), (25, .class_ 91), (1, u "com/example/keyedge/keyedge/algo/RandomDigraphs$EdgeConsumer"), (18, u "MAX_EDGES"), (0, u "I"), (1, u "BLOCK"), (1, u "DRAW_OVERHEAD"), (0, u "GAMMA")] 48

def k3c0 : Code := { maxStack := 4, maxLocals := 1, code := prog_25_method_2_code, exceptionTable := #[], attributes := #[] }
def k3m0 : Method := { name := "pairs", desc := "(I)J", sig := { parameters := [.int], returnType := some .long }, accessFlags := 9, code := some k3c0 }
/-- com/example/keyedge/keyedge/algo/RandomDigraphs -/
def k3 : Class := { plain "com/example/keyedge/keyedge/algo/RandomDigraphs" (some 0) with
  accessFlags := 49
  interfaces := #[]
  cf := some (fileOf pool3 3 #[.nestMembers #[24, 46, 89]] #[{ accessFlags := 9, nameIndex := 62, descriptorIndex := 63, attributes := #[] }] 49 6 #[] #[{ accessFlags := 25, nameIndex := 110, descriptorIndex := 111, attributes := #[] }, { accessFlags := 26, nameIndex := 113, descriptorIndex := 111, attributes := #[] }, { accessFlags := 26, nameIndex := 115, descriptorIndex := 14, attributes := #[] }, { accessFlags := 26, nameIndex := 116, descriptorIndex := 14, attributes := #[] }, { accessFlags := 2, nameIndex := 13, descriptorIndex := 14, attributes := #[] }])
  fields := #[{ name := "MAX_EDGES", type := .int, accessFlags := 25, slot := 0, constantValue := 0 }, { name := "BLOCK", type := .int, accessFlags := 26, slot := 1, constantValue := 0 }, { name := "DRAW_OVERHEAD", type := .long, accessFlags := 26, slot := 2, constantValue := 0 }, { name := "GAMMA", type := .long, accessFlags := 26, slot := 3, constantValue := 0 }, { name := "state", type := .long, accessFlags := 2, slot := 0, constantValue := 0 }]
  methods := #[k3m0]
  instanceTypes := #[.long]
  staticTypes := #[.int, .int, .long, .long]
  resolved := Array.replicate 165 none
  statics := none }

def pool4 : Array CpInfo := pool [(1, u "java/lang/Cloneable"), (0, .class_ 1), (0, u "java/lang/Object"), (0, .class_ 3)] 3

/-- java/lang/Cloneable -/
def k4 : Class := { plain "java/lang/Cloneable" (some 0) with
  accessFlags := 1537
  interfaces := #[]
  cf := some (fileOf pool4 2 #[] #[] 1537 4 #[] #[])
  fields := #[]
  methods := #[]
  instanceTypes := #[]
  staticTypes := #[]
  resolved := Array.replicate 8 none
  statics := none }

def pool5 : Array CpInfo := pool [(1, u "java/io/Serializable"), (0, .class_ 1), (0, u "java/lang/Object"), (0, .class_ 3)] 3

/-- java/io/Serializable -/
def k5 : Class := { plain "java/io/Serializable" (some 0) with
  accessFlags := 1537
  interfaces := #[]
  cf := some (fileOf pool5 2 #[] #[] 1537 4 #[] #[])
  fields := #[]
  methods := #[]
  instanceTypes := #[]
  staticTypes := #[]
  resolved := Array.replicate 8 none
  statics := none }

/-- the primitive byte -/
def k6 : Class := { plain "byte" none with kind := .primitive 'B', accessFlags := 0x411 }
/-- [B -/
def k7 : Class := { plain "[B" (some 0) with kind := .array 6 .byte, interfaces := #[4, 5], accessFlags := 1041 }

/-- the primitive int -/
def k8 : Class := { plain "int" none with kind := .primitive 'I', accessFlags := 0x411 }
/-- [I -/
def k9 : Class := { plain "[I" (some 0) with kind := .array 8 .int, interfaces := #[4, 5], accessFlags := 1041 }

def heap : Heap := #[]
def classes : Array Class := #[k0, k1, k2, k3, k4, k5, k6, k7, k8, k9]
def interned : List (Array UInt16 × Addr) := []
def slotsUsed : Nat := 0
def theMethod : MethodId := ⟨1, 1⟩
def args0 : Array Value := #[.int 5, .long 77, .int 2]
def aboutOver (below : List Frame) : State where
  vm := { classes := classes, interned := interned.toArray }
  heap := heap
  slotsUsed := slotsUsed
  threads := #[{ frames := .invoking theMethod args0 :: below }]
def below0 : List Frame := [.native { method := ⟨0, 0⟩, args := #[] }]
def about1 : State := aboutOver below0
def p0 : Program := .bare "" "" ""
def e0 : Env := launch0.env 0 0 0
theorem w_frames : about1.frames = Frame.invoking theMethod args0 :: below0 := rfl
set_option maxRecDepth 65536 in
theorem w_args : argsFit about1.vm theMethod args0 = true := by decide +kernel
set_option maxRecDepth 65536 in
theorem w_heap : heapFits about1 = true := by decide +kernel
set_option maxRecDepth 65536 in
theorem w_runnable : about1.curStatus? = some .runnable := by decide +kernel
set_option maxRecDepth 65536 in
theorem w_alone : about1.alone = true := by decide +kernel
set_option maxRecDepth 65536 in
theorem w_named : about1.methodNamed? x = some theMethod := by decide +kernel
set_option maxRecDepth 65536 in
theorem w_hears : about1.hears theMethod below0 = true := by decide +kernel
set_option maxRecDepth 65536 in
theorem w_ripe : about1.ripe theMethod args0 below0 = true := by decide +kernel
theorem w_running : about1.status = .running := rfl
set_option maxRecDepth 65536 in
theorem w_room : about1.hasRoom e0.platform room_1 = true :=
  launch0.hasRoom_least _ room_1 (by decide +kernel) (by decide +kernel) (by decide +kernel) (by decide +kernel) (by decide +kernel) (by decide +kernel)
theorem allAtoms_all (ts : List Jvm.Cond) (a : Array Jvm.Value) (st : Jvm.State) : (allAtoms ts).before a st = ts.all (fun c => c.before a st) := by
  induction ts with
  | nil => rfl
  | cons c t ih =>
    show (Jvm.Cond.and c (allAtoms t)).before a st = _
    rw [Jvm.Cond.before_and, ih, List.all_cons]
def words1 : List Jvm.Cond := Jvm.Cond.code x code maxLocals ret :: tables_1
/-- a 'code' word, met by the world's own term for the bytes: nothing is compared byte by byte -/
theorem code_word {y : MethodName} {bytes : ByteArray} {mx : Nat} {rt : Option FieldType} {a : Array Value} {s : State} {m : MethodId} {meth : Method} {c : Code} (h1 : s.methodNamed? y = some m) (h2 : s.vm.method? m = some meth) (h3 : meth.code = some c) (h4 : c.code = bytes)
    (h5 : (c.maxLocals == mx && c.exceptionTable.isEmpty && decide (c.maxStack ≤ mostOperands) && decide (meth.sig.returnType = rt) && !meth.locks && decide (parseMethodDescriptor y.desc = some meth.sig)) = true) : (Jvm.Cond.code y bytes mx rt).before a s = true := by
  simp only [Bool.and_eq_true, beq_iff_eq, Bool.not_eq_true', decide_eq_true_eq] at h5
  obtain ⟨⟨⟨⟨⟨g1, g2⟩, g3⟩, g4⟩, g5⟩, g6⟩ := h5
  simp [Cond.before, Cond.holds, Cond.value, h1, h2, h3, h4, g1, g2, g3, g4, g5, g6]
def isCode : Jvm.Cond → Bool
  | .code _ _ _ _ => true
  | _ => false
theorem all_split {L : List Jvm.Cond} {P : Jvm.Cond → Bool} (h1 : L.all (fun c => isCode c || P c) = true) (h2 : ∀ c ∈ L.filter isCode, P c = true) : L.all P = true := by
  refine List.all_eq_true.mpr fun c hc => ?_
  have h := List.all_eq_true.mp h1 c hc
  rcases Bool.eq_false_or_eq_true (isCode c) with hi | hi
  · exact h2 c (List.mem_filter.mpr ⟨hc, hi⟩)
  · simpa [hi] using h
set_option maxRecDepth 65536 in
theorem w_c0 : (Jvm.Cond.code x code maxLocals ret).before args0 about1 = true := code_word (m := ⟨1, 1⟩) (meth := k1m1) (c := k1c1) (by decide +kernel) rfl rfl rfl (by decide +kernel)
set_option maxRecDepth 65536 in
theorem w_c1 : (Jvm.Cond.code ({ cls := "com/example/keyedge/keyedge/cli/Bench", name := "mostEdges", desc := "(IJ)J" } : Jvm.MethodName) prog_32_method_3_code (7 : Nat) (Option.some Jvm.ClassFile.FieldType.long)).before args0 about1 = true := code_word (m := ⟨2, 1⟩) (meth := k2m1) (c := k2c1) (by decide +kernel) rfl rfl rfl (by decide +kernel)
set_option maxRecDepth 65536 in
theorem w_c2 : (Jvm.Cond.code ({ cls := "com/example/keyedge/keyedge/algo/RandomDigraphs", name := "pairs", desc := "(I)J" } : Jvm.MethodName) prog_25_method_2_code (1 : Nat) (Option.some Jvm.ClassFile.FieldType.long)).before args0 about1 = true := code_word (m := ⟨3, 0⟩) (meth := k3m0) (c := k3c0) (by decide +kernel) rfl rfl rfl (by decide +kernel)
set_option maxRecDepth 65536 in
theorem w_c3 : (Jvm.Cond.code ({ cls := "com/example/keyedge/keyedge/cli/Bench", name := "stride", desc := "(JJ)J" } : Jvm.MethodName) prog_32_method_2_code (4 : Nat) (Option.some Jvm.ClassFile.FieldType.long)).before args0 about1 = true := code_word (m := ⟨2, 0⟩) (meth := k2m0) (c := k2c0) (by decide +kernel) rfl rfl rfl (by decide +kernel)
def codes1 : List Jvm.Cond := [Jvm.Cond.code x code maxLocals ret, Jvm.Cond.code ({ cls := "com/example/keyedge/keyedge/cli/Bench", name := "mostEdges", desc := "(IJ)J" } : Jvm.MethodName) prog_32_method_3_code (7 : Nat) (Option.some Jvm.ClassFile.FieldType.long), Jvm.Cond.code ({ cls := "com/example/keyedge/keyedge/algo/RandomDigraphs", name := "pairs", desc := "(I)J" } : Jvm.MethodName) prog_25_method_2_code (1 : Nat) (Option.some Jvm.ClassFile.FieldType.long), Jvm.Cond.code ({ cls := "com/example/keyedge/keyedge/cli/Bench", name := "stride", desc := "(JJ)J" } : Jvm.MethodName) prog_32_method_2_code (4 : Nat) (Option.some Jvm.ClassFile.FieldType.long)]
set_option maxRecDepth 65536 in
theorem codes_eq : words1.filter isCode = codes1 := rfl
theorem w_codes : ∀ c ∈ words1.filter isCode, c.before args0 about1 = true := by
  rw [codes_eq]
  intro c hc
  simp only [codes1, List.mem_cons, List.not_mem_nil, or_false] at hc
  rcases hc with rfl | rfl | rfl | rfl
  · exact w_c0
  · exact w_c1
  · exact w_c2
  · exact w_c3
set_option maxRecDepth 65536 in
theorem w_t1 : words1.all (fun c => isCode c || c.before args0 about1) = true := by decide +kernel
theorem w_tables : (allAtoms (Jvm.Cond.code x code maxLocals ret :: tables_1)).before args0 about1 = true := by
  rw [allAtoms_all]
  show words1.all (fun c => c.before args0 about1) = true
  refine all_split ?_ w_codes
  rw [w_t1]
set_option maxRecDepth 65536 in
theorem w_case : (Jvm.Cond.and given_1 narrow_1).before args0 about1 = true := by decide +kernel
theorem w_applies : (headSpec (Jvm.Cond.code x code maxLocals ret :: tables_1) room_1).applies x e0.platform about1 = true :=
  (Spec.applies_iff w_frames).mpr ⟨w_running, w_runnable, w_alone, w_named, w_hears, w_ripe, w_room, w_tables⟩
theorem atStart : AtStart classFile x code maxLocals ret World_1 tables_1 room_1 Calls_1 rest_1 Pre_1 launch0 p0 e0 about1 theMethod args0 below0 :=
  ⟨lists_1, trivial, launch0.admits_env _ _ _, launch0.least_env, fairChoices_fair.cas, fairChoices_fair.clock, w_frames, w_args, w_heap, w_applies, trivial, trivial, w_case⟩
end start1
theorem witness_1 : WitnessClaimed_1 := ⟨start1.p0, start1.e0, start1.about1, start1.theMethod, start1.args0, start1.below0, start1.atStart⟩
end Jvm.Pilot.@@N@@
