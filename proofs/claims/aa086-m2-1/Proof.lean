import JvmDerived
import JvmDerived.Pilot.@@N@@Statement
import JvmDerived.Pilot.@@N@@Code
set_option linter.unusedVariables false
set_option linter.unusedSimpArgs false
set_option maxRecDepth 65536
namespace Jvm.Pilot.@@N@@
open Jvm Jvm.ClassFile Sem Op Lib Jvm.Free Jvm.Stand Jvm.LawKit Jvm.RoadKit Bundle Jvm.Pilot.@@N@@.Jvm.D
section Own
variable {p : Program} {l : Launch} {e : Env} {R : Room} {s : State} {m : MethodId} {args : Array Value} {below : List Frame} {meth : Method} {c : Code} {T : State} {locs : List Loc} {cells slots : Nat} {Z : State} {a0 : Array Value} {h : Heap}
variable {Q : Option Value → Heap → List Loc → Prop} {F : Outcome → State → Prop} {C N : Nat} {A B : State}
/-- how a body ends: it returns v, Q holds of what it returned, of the heap and of the places written; nothing else is written (EndW: String constants may have been interned) -/
def EndN (s : State) (Q : Option Value → Heap → List Loc → Prop) (C N : Nat) (o : Outcome) (t : State) : Prop := ∃ v L, o = .returned v ∧ Q v t.heap L ∧ FrameEnd s o t L C N
/-- what a body owes from a point of its walk: it comes to its end, and F holds there -/
def Owes (p : Program) (e : Env) (below : List Frame) (F : Outcome → State → Prop) (A : State) : Prop :=
  ∃ s₂ o, Steps p.tables e below A s₂ ∧ s₂.status = .running ∧ Ended s₂ below o ∧ F o s₂
theorem Owes.go (k : Owes p e below F B) (f : ∀ t, Steps p.tables e below B t → Steps p.tables e below A t) : Owes p e below F A := by
  obtain ⟨s₂, o, h1, r⟩ := k
  exact ⟨s₂, o, f _ h1, r⟩
theorem Owes.tr (k : Owes p e below F B) (st : Steps p.tables e below A B) : Owes p e below F A := by
  obtain ⟨s₂, o, h1, r⟩ := k
  exact ⟨s₂, o, st.trans h1, r⟩
theorem Owes.mono {Q' : Option Value → Heap → List Loc → Prop} (k : Owes p e below (EndN s Q C N) A) (f : ∀ v h L, Q v h L → Q' v h L) : Owes p e below (EndN s Q' C N) A := by
  obtain ⟨s₂, o, h1, h2, h3, v, L, h4, h5, h6⟩ := k
  exact ⟨s₂, o, h1, h2, h3, v, L, h4, f _ _ _ h5, h6⟩
/-- a body's contract at given arguments and a given heap -/
def OMet (l : Launch) (y : MethodName) (bytes : ByteArray) (maxL : Nat) (ret : Option FieldType) (ws : List Jvm.Cond) (rm : Room) (as' : Array Value) (Z : State) (h0 : Heap) (Q : Option Value → Heap → List Loc → Prop) : Prop :=
  MetFree l y (head1 (Jvm.Cond.code y bytes maxL ret :: ws) rm) (fun a U => a = as' ∧ Z.Warmed39 U.vm ∧ U.heap = h0) (fun _ _ _ _ _ => True) (fun _ U o U' => ∃ v L, o = .returned v ∧ Q v U'.heap L ∧ FrameEnd U o U' L rm.cells rm.slots)
theorem OMet.of {y : MethodName} {bytes : ByteArray} {maxL : Nat} {ret : Option FieldType} {ws : List Jvm.Cond} {rm : Room} {as' : Array Value} {h0 : Heap} (hpl : plainFor y = true) {Ls : Array Slot} (ef : ∀ m, entryFrame m as' maxL = mkF m 0 Ls [])
    (body : ∀ (p : Program) (e : Env) (s : State) (m : MethodId) (below : List Frame) (meth : Method) (c : Code) (s₁ : State), p.tables.exec = Jvm.exec → c.code = bytes → c.maxLocals = maxL → s.vm.findClass y.cls = some m.cls → meth.name = y.name → meth.sig.returnType = ret → meth.locks = false → Z.Warmed39 s.vm →
      Stand p l e rm s m as' below meth c s₁ [] 0 0 → s₁.heap = h0 → Owes p e below (EndN s Q rm.cells rm.slots) (s₁.setTop (mkF m 0 Ls []))) : OMet l y bytes maxL ret ws rm as' Z h0 Q := by
  refine MetFree.of_bodySF hpl hisR ?_
  intro p e s m args below meth c s₁ Bd hml0 hP hK
  obtain ⟨rfl, hZ, hh⟩ := hP
  have hlk : meth.locks = false := BodyLoose.notSynchronized Bd
  have X0 : Stand p l e rm s m args below meth c s₁ [] 0 0 := Stand.of_body Bd
  have e0 : s₁.heap = h0 := by rw [← hh, Bd.state]; rfl
  obtain ⟨s₂, o, h1, h2, h3, h4⟩ := body p e s m below meth c s₁ Bd.exec Bd.bytes hml0 (findClass_of_methodNamed Bd.named) (name_of_methodNamed Bd.named Bd.method).1 Bd.returns hlk hZ X0 e0
  exact ⟨s₂, o, castTop (ef m) h1, h2, h3, h4⟩
theorem OMet.mono {y : MethodName} {bytes : ByteArray} {maxL : Nat} {ret : Option FieldType} {ws : List Jvm.Cond} {rm : Room} {as' : Array Value} {h0 : Heap} {Q' : Option Value → Heap → List Loc → Prop} (M : OMet l y bytes maxL ret ws rm as' Z h0 Q) (f : ∀ v h L, Q v h L → Q' v h L) : OMet l y bytes maxL ret ws rm as' Z h0 Q' := by
  intro p e ha hc hk s m args below hf happ hP hK
  obtain ⟨n, o, h1, h2, h3, v, L, h4, h5, h6⟩ := M p e ha hc hk s m args below hf happ hP hK
  exact ⟨n, o, h1, h2, h3, v, L, h4, f _ _ _ h5, h6⟩
theorem own_end (X : Stand p l e R s m args below meth c T locs cells slots) (hlk : meth.locks = false) {v : Option Value} (hv : meth.sig.returnType = none → v = none) (hc : cells ≤ C) (hs : slots ≤ N) (hq : Q v T.heap locs) {A : State}
    (hst : ∀ fs : List Frame, (∀ (f : JFrame) (acts : List Action), f.method = m → f.locked = none → f.entered = [] → (doReturn e (T.setTop f) acts v).1 = T.setFrames fs) → Steps p.tables e below A (T.setFrames fs)) : Owes p e below (EndN s Q C N) A := by
  obtain ⟨fs, hr, hrun, hended, hW, hsame⟩ := X.leave hv hlk
  exact ⟨_, _, hst fs hr, hrun, hended, v, locs, rfl, hq, ⟨_, rfl⟩, hW, hsame.mono hc hs⟩
theorem Owes.retN (X : Stand p l e R s m args below meth c T locs cells slots) (hx : p.tables.exec = Jvm.exec) (hlk : meth.locks = false) {pc : Nat} {Ls : Array Slot} {z : Int32} {t : FieldType} {rest : List Value} (hret : meth.sig.returnType = some t) (ht : t = .boolean ∨ t = .byte ∨ t = .char ∨ t = .short)
    (hd : decode c.code pc = .ok (.ireturn, 1)) (hc : cells ≤ C) (hs : slots ≤ N) (hq : Q (some (.int (nar t z))) T.heap locs) : Owes p e below (EndN s Q C N) (T.setTop (mkF m pc Ls (.int z :: rest))) :=
  own_end X hlk (fun h => by rw [hret] at h; cases h) hc hs hq fun fs hr => Jvm.RoadKit.retN X hx hret ht hd hr
theorem Owes.retI (X : Stand p l e R s m args below meth c T locs cells slots) (hx : p.tables.exec = Jvm.exec) (hlk : meth.locks = false) {pc : Nat} {Ls : Array Slot} {z : Int32} {rest : List Value} (hret : meth.sig.returnType = some .int)
    (hd : decode c.code pc = .ok (.ireturn, 1)) (hc : cells ≤ C) (hs : slots ≤ N) (hq : Q (some (.int z)) T.heap locs) : Owes p e below (EndN s Q C N) (T.setTop (mkF m pc Ls (.int z :: rest))) :=
  own_end X hlk (fun h => by rw [hret] at h; cases h) hc hs hq fun fs hr => Jvm.RoadKit.retOut X hx hret rfl (Or.inl ⟨rfl, Or.inl rfl, _, rfl⟩) hd hr
theorem Owes.retJ (X : Stand p l e R s m args below meth c T locs cells slots) (hx : p.tables.exec = Jvm.exec) (hlk : meth.locks = false) {pc : Nat} {Ls : Array Slot} {z : Int64} {rest : List Value} (hret : meth.sig.returnType = some .long)
    (hd : decode c.code pc = .ok (.lreturn, 1)) (hc : cells ≤ C) (hs : slots ≤ N) (hq : Q (some (.long z)) T.heap locs) : Owes p e below (EndN s Q C N) (T.setTop (mkF m pc Ls (.long z :: rest))) :=
  own_end X hlk (fun h => by rw [hret] at h; cases h) hc hs hq fun fs hr => Jvm.RoadKit.retOut X hx hret rfl (Or.inr (Or.inl ⟨rfl, rfl, _, rfl⟩)) hd hr
theorem Owes.retA (X : Stand p l e R s m args below meth c T locs cells slots) (hx : p.tables.exec = Jvm.exec) (hlk : meth.locks = false) {pc : Nat} {Ls : Array Slot} {w : Value} {t : FieldType} {rest : List Value} (hret : meth.sig.returnType = some t) (ht : t.isReference = true) (hn : narrow t w = w) (hw : w.isRef = true)
    (hd : decode c.code pc = .ok (.areturn, 1)) (hc : cells ≤ C) (hs : slots ≤ N) (hq : Q (some w) T.heap locs) : Owes p e below (EndN s Q C N) (T.setTop (mkF m pc Ls (w :: rest))) :=
  own_end X hlk (fun h => by rw [hret] at h; cases h) hc hs hq fun fs hr => Jvm.RoadKit.retOut X hx hret hn (Or.inr (Or.inr (Or.inr (Or.inr ⟨rfl, ht, hw⟩)))) hd hr
theorem Owes.retV (X : Stand p l e R s m args below meth c T locs cells slots) (hx : p.tables.exec = Jvm.exec) (hlk : meth.locks = false) {pc : Nat} {Ls : Array Slot} (hret : meth.sig.returnType = none)
    (hd : decode c.code pc = .ok (.return_, 1)) (hc : cells ≤ C) (hs : slots ≤ N) (hq : Q none T.heap locs) : Owes p e below (EndN s Q C N) (T.setTop (mkF m pc Ls [])) :=
  own_end X hlk (fun _ => rfl) hc hs hq fun fs hr => X.returnOut hx hret hd hr
/-- a static method by its contract -/
theorem Owes.callS (X : Stand p l e R s m args below meth c T locs cells slots) (hx : p.tables.exec = Jvm.exec) (hZ : Z.Warmed39 s.vm) {own : String} {index : Nat} {y : MethodName} {bytes : ByteArray} {maxL : Nat} {ret : Option FieldType} {rm : Room}
    (hown : s.vm.findClass own = some m.cls) (w1 : (Cond.methodLink own index y).before a0 Z = true) (w2 : (Cond.static y).before a0 Z = true) (w3 : (Cond.initialized y.cls).before a0 Z = true) (w4 : (Cond.code y bytes maxL ret).before a0 Z = true)
    (hy : y.cls ≠ "java/lang/invoke/MethodHandle" ∧ y.cls ≠ "java/lang/invoke/VarHandle") {pc : Nat} {Ls : Array Slot} {argsL rest : List Value} {Q' : Option Value → Heap → List Loc → Prop} (M : OMet l y bytes maxL ret [] rm argsL.toArray Z h Q') (eT : T.heap = h) (hsize : Ls.size = c.maxLocals)
    {ps : List FieldType} {rt : Option FieldType} (hpd : parseMethodDescriptor y.desc = some ⟨ps, rt⟩) (hln : argsL.length = ps.length) {st : List Value} (hst : st = argsL.reverse ++ rest) (hd : decode c.code pc = .ok (.invokestatic index, 3))
    (hf : rm.frames + 1 ≤ R.frames) (hl : (rest.map fun v => v.category).sum + (maxL + 11) + rm.locals ≤ R.locals) (hcl : cells + rm.cells ≤ R.cells) (hsl : slots + rm.slots ≤ R.slots)
    (k : ∀ (T' : State) (v : Option Value) (L : List Loc), Stand p l e R s m args below meth c T' (locs ++ L) (cells + rm.cells) (slots + rm.slots) → Q' v T'.heap L → Owes p e below F (T'.setTop (mkF m (pc + 3) Ls (v.toList ++ rest)))) :
    Owes p e below F (T.setTop (mkF m pc Ls st)) := by
  subst hst
  obtain ⟨v, _, ⟨T3, L3, k3, n3⟩, -, X3, ⟨Lc3, hQ3, l3, y3, z3⟩, st3⟩ := Jvm.LawKit.callS X hx (y := y) hown (mvT hZ w1) (mvT hZ w2) (mvT hZ w3) (mvT hZ w4) hy (backOf (W := (rest.map fun v => v.category).sum) M hZ w4 w3 hf hl) (g := mkF m pc Ls (argsL.reverse ++ rest)) rfl hsize (argsL := argsL) (rest := rest) (lenOf hpd hln) rfl (by show 2 * 0 + _ ≤ _; omega) hd (fun _ _ => ⟨rfl, eT, hcl, hsl⟩)
  dsimp only [Pt.U, Pt.locs, Pt.cells, Pt.slots] at X3 l3 y3 z3 st3 hQ3
  subst l3 y3 z3
  exact (k T3 v Lc3 X3 hQ3).go st3
/-- a constructor by its contract -/
theorem Owes.callC (X : Stand p l e R s m args below meth c T locs cells slots) (hx : p.tables.exec = Jvm.exec) (hZ : Z.Warmed39 s.vm) {own : String} {index : Nat} {y : MethodName} {bytes : ByteArray} {maxL : Nat} {rm : Room} (hy1 : y.name = "<init>")
    (hown : s.vm.findClass own = some m.cls) (w1 : (Cond.methodLink own index y).before a0 Z = true) (w2 : (Cond.instanceMethod y).before a0 Z = true) (w3 : (Cond.initialized y.cls).before a0 Z = true) (w4 : (Cond.code y bytes maxL none).before a0 Z = true)
    (hy : y.cls ≠ "java/lang/invoke/MethodHandle" ∧ y.cls ≠ "java/lang/invoke/VarHandle") {pc : Nat} {Ls : Array Slot} {a : Addr} {argsL rest : List Value} {Q' : Option Value → Heap → List Loc → Prop} (M : OMet l y bytes maxL none [] rm (.ref a :: argsL).toArray Z h Q') (eT : T.heap = h) (hsize : Ls.size = c.maxLocals)
    {ps : List FieldType} {rt : Option FieldType} (hpd : parseMethodDescriptor y.desc = some ⟨ps, rt⟩) (hln : argsL.length = ps.length) {st : List Value} (hst : st = argsL.reverse ++ .ref a :: rest) (hd : decode c.code pc = .ok (.invokespecial index, 3))
    (hf : rm.frames + 1 ≤ R.frames) (hl : (rest.map fun v => v.category).sum + (maxL + 11) + rm.locals ≤ R.locals) (hcl : cells + rm.cells ≤ R.cells) (hsl : slots + rm.slots ≤ R.slots)
    (k : ∀ (T' : State) (v : Option Value) (L : List Loc), Stand p l e R s m args below meth c T' (locs ++ L) (cells + rm.cells) (slots + rm.slots) → Q' v T'.heap L → Owes p e below F (T'.setTop (mkF m (pc + 3) Ls (v.toList ++ rest)))) :
    Owes p e below F (T.setTop (mkF m pc Ls st)) := by
  subst hst
  obtain ⟨v, _, ⟨T3, L3, k3, n3⟩, -, X3, ⟨Lc3, hQ3, l3, y3, z3⟩, st3⟩ := X.specialBack hx (y := y) hy1 hown (mvT hZ w1) (mvT hZ w2) (mvT hZ w4) hy (backOf (W := (rest.map fun v => v.category).sum) M hZ w4 w3 hf hl) (g := mkF m pc Ls (argsL.reverse ++ .ref a :: rest)) rfl hsize (Steps.refl _) (a := a) (argsL := argsL) (rest := rest) (lenOf hpd hln) rfl (by show 2 * 0 + _ ≤ _; omega) hd (fun _ _ => ⟨rfl, eT, hcl, hsl⟩)
  dsimp only [Pt.U, Pt.locs, Pt.cells, Pt.slots] at X3 l3 y3 z3 st3 hQ3
  subst l3 y3 z3
  exact (k T3 v Lc3 X3 hQ3).tr st3
/-- an instance method by the contract of the body that the receiver's class selects -/
theorem Owes.callV (X : Stand p l e R s m args below meth c T locs cells slots) (hx : p.tables.exec = Jvm.exec) (hZ : Z.Warmed39 s.vm) {own CR : String} {index : Nat} {y z : MethodName} {bytes : ByteArray} {maxL : Nat} {ret : Option FieldType} {rm : Room}
    (hown : s.vm.findClass own = some m.cls) (w1 : (Cond.methodLink own index y).before a0 Z = true) (w2 : (Cond.declares y).before a0 Z = true) (hnf : NotFace s y) (w5 : (Cond.selects CR y z).before a0 Z = true) (w6 : (Cond.instanceMethod z).before a0 Z = true) (w3 : (Cond.initialized z.cls).before a0 Z = true) (w4 : (Cond.code z bytes maxL ret).before a0 Z = true)
    (hy : y.cls ≠ "java/lang/invoke/MethodHandle" ∧ y.cls ≠ "java/lang/invoke/VarHandle") {pc : Nat} {Ls : Array Slot} {a : Addr} {argsL rest : List Value} {Q' : Option Value → Heap → List Loc → Prop} (M : OMet l z bytes maxL ret [] rm (.ref a :: argsL).toArray Z h Q') (eT : T.heap = h) (E : Exa Z h a CR) (hsize : Ls.size = c.maxLocals)
    {ps : List FieldType} {rt : Option FieldType} (hpd : parseMethodDescriptor y.desc = some ⟨ps, rt⟩) (hln : argsL.length = ps.length) {st : List Value} (hst : st = argsL.reverse ++ .ref a :: rest) (hd : decode c.code pc = .ok (.invokevirtual index, 3))
    (hf : rm.frames + 1 ≤ R.frames) (hl : (rest.map fun v => v.category).sum + (maxL + 11) + rm.locals ≤ R.locals) (hcl : cells + rm.cells ≤ R.cells) (hsl : slots + rm.slots ≤ R.slots)
    (k : ∀ (T' : State) (v : Option Value) (L : List Loc), Stand p l e R s m args below meth c T' (locs ++ L) (cells + rm.cells) (slots + rm.slots) → Q' v T'.heap L → Owes p e below F (T'.setTop (mkF m (pc + 3) Ls (v.toList ++ rest)))) :
    Owes p e below F (T.setTop (mkF m pc Ls st)) := by
  subst hst
  obtain ⟨cq, kq, qa, qb, qc⟩ := isOf hZ eT E
  obtain ⟨v, _, ⟨T3, L3, k3, n3⟩, -, X3, ⟨Lc3, hQ3, l3, y3, z3⟩, st3⟩ := X.virtualBack hx (y := y) (z := z) hown (mvT hZ w1) (mvT hZ w2) hnf (mvT hZ w5) (mvT hZ w6) hy (backOf (W := (rest.map fun v => v.category).sum) M hZ w4 w3 hf hl) qa qc (g := mkF m pc Ls (argsL.reverse ++ .ref a :: rest)) rfl hsize (Steps.refl _) (argsL := argsL) (rest := rest) (lenOf hpd hln) rfl (by show 2 * 0 + _ ≤ _; omega) hd (fun _ _ => ⟨rfl, eT, hcl, hsl⟩)
  dsimp only [Pt.U, Pt.locs, Pt.cells, Pt.slots] at X3 l3 y3 z3 st3 hQ3
  subst l3 y3 z3
  exact (k T3 v Lc3 X3 hQ3).tr st3
/-- a private method by its contract -/
theorem Owes.callP (X : Stand p l e R s m args below meth c T locs cells slots) (hx : p.tables.exec = Jvm.exec) (hZ : Z.Warmed39 s.vm) {own CR : String} {index : Nat} {y : MethodName} {bytes : ByteArray} {maxL : Nat} {ret : Option FieldType} {rm : Room}
    (hown : s.vm.findClass own = some m.cls) (w1 : (Cond.methodLink own index y).before a0 Z = true) (w2 : (Cond.instanceMethod y).before a0 Z = true) (w5 : (Cond.selects y.cls y y).before a0 Z = true) (w6 : (Cond.privateMethod y).before a0 Z = true) (w3 : (Cond.initialized y.cls).before a0 Z = true) (w4 : (Cond.code y bytes maxL ret).before a0 Z = true)
    (hy : y.cls ≠ "java/lang/invoke/MethodHandle" ∧ y.cls ≠ "java/lang/invoke/VarHandle") {pc : Nat} {Ls : Array Slot} {a : Addr} {argsL rest : List Value} {Q' : Option Value → Heap → List Loc → Prop} (M : OMet l y bytes maxL ret [] rm (.ref a :: argsL).toArray Z h Q') (eT : T.heap = h) (E : Exa Z h a CR) (hsize : Ls.size = c.maxLocals)
    {ps : List FieldType} {rt : Option FieldType} (hpd : parseMethodDescriptor y.desc = some ⟨ps, rt⟩) (hln : argsL.length = ps.length) {st : List Value} (hst : st = argsL.reverse ++ .ref a :: rest) (hd : decode c.code pc = .ok (.invokevirtual index, 3))
    (hf : rm.frames + 1 ≤ R.frames) (hl : (rest.map fun v => v.category).sum + (maxL + 11) + rm.locals ≤ R.locals) (hcl : cells + rm.cells ≤ R.cells) (hsl : slots + rm.slots ≤ R.slots)
    (k : ∀ (T' : State) (v : Option Value) (L : List Loc), Stand p l e R s m args below meth c T' (locs ++ L) (cells + rm.cells) (slots + rm.slots) → Q' v T'.heap L → Owes p e below F (T'.setTop (mkF m (pc + 3) Ls (v.toList ++ rest)))) :
    Owes p e below F (T.setTop (mkF m pc Ls st)) := by
  subst hst
  obtain ⟨cq, q1, q2⟩ := E.cell
  obtain ⟨v, _, ⟨T3, L3, k3, n3⟩, -, X3, ⟨Lc3, hQ3, l3, y3, z3⟩, st3⟩ := X.privateBack hx (y := y) hown (mvT hZ w1) (mvT hZ w2) (mvT hZ w5) (Cond.privateMethod_at (mvP hZ w6 (args := #[]))) (mvT hZ w4) hy (backOf (W := (rest.map fun v => v.category).sum) M hZ w4 w3 hf hl) (g := mkF m pc Ls (argsL.reverse ++ .ref a :: rest)) rfl hsize (Steps.refl _) (a := a) (by rw [eT]; exact q1) q2 (argsL := argsL) (rest := rest) (lenOf hpd hln) rfl (by show 2 * 0 + _ ≤ _; omega) hd (fun _ _ => ⟨rfl, eT, hcl, hsl⟩)
  dsimp only [Pt.U, Pt.locs, Pt.cells, Pt.slots] at X3 l3 y3 z3 st3 hQ3
  subst l3 y3 z3
  exact (k T3 v Lc3 X3 hQ3).tr st3
theorem Owes.alen (X : Stand p l e R s m args below meth c T locs cells slots) (hx : p.tables.exec = Jvm.exec) (hZ : Z.Warmed39 s.vm) (eT : T.heap = h) {a : Addr} {cl : Cell} {ty : FieldType} (A : Arr Z h a cl ty) {z : Int32} (hn : cl.slots.size.toInt32 = z) {pc : Nat} {Ls : Array Slot} {rest : List Value}
    (hd : decode c.code pc = .ok (.arraylength, 1)) (k : Owes p e below F (T.setTop (mkF m (pc + 1) Ls (.int z :: rest)))) : Owes p e below F (T.setTop (mkF m pc Ls (.ref a :: rest))) := by
  subst hn
  exact k.go fun t q => X.arraylength hx (by rw [eT]; exact A.1) (State.isArrayOf_alike hZ.alike A.2.1) (g := mkF m pc Ls (.ref a :: rest)) rfl rfl hd _ q
theorem Owes.aldI (X : Stand p l e R s m args below meth c T locs cells slots) (hx : p.tables.exec = Jvm.exec) (hZ : Z.Warmed39 s.vm) (eT : T.heap = h) {a : Addr} {cl : Cell} (A : Arr Z h a cl .int) {j : Int32} {v : Value} (hin : ¬ (j < 0 ∨ cl.slots.size ≤ j.toNatClampNeg)) (hat : cl.slots[j.toNatClampNeg]? = some v) {pc : Nat} {Ls : Array Slot} {rest : List Value}
    (hd : decode c.code pc = .ok (.iaload, 1)) (k : Owes p e below F (T.setTop (mkF m (pc + 1) Ls (v :: rest)))) : Owes p e below F (T.setTop (mkF m pc Ls (.int j :: .ref a :: rest))) :=
  k.go fun t q => X.iaload hx (by rw [eT]; exact A.1) (State.isArrayOf_alike hZ.alike A.2.1) A.2.2 hin hat (g := mkF m pc Ls (.int j :: .ref a :: rest)) rfl rfl hd _ q
theorem Owes.aldJ (X : Stand p l e R s m args below meth c T locs cells slots) (hx : p.tables.exec = Jvm.exec) (hZ : Z.Warmed39 s.vm) (eT : T.heap = h) {a : Addr} {cl : Cell} (A : Arr Z h a cl .long) {j : Int32} {v : Value} (hin : ¬ (j < 0 ∨ cl.slots.size ≤ j.toNatClampNeg)) (hat : cl.slots[j.toNatClampNeg]? = some v) {pc : Nat} {Ls : Array Slot} {rest : List Value}
    (hd : decode c.code pc = .ok (.laload, 1)) (k : Owes p e below F (T.setTop (mkF m (pc + 1) Ls (v :: rest)))) : Owes p e below F (T.setTop (mkF m pc Ls (.int j :: .ref a :: rest))) :=
  k.go fun t q => X.laload hx (by rw [eT]; exact A.1) (State.isArrayOf_alike hZ.alike A.2.1) A.2.2 hin hat (g := mkF m pc Ls (.int j :: .ref a :: rest)) rfl rfl hd _ q
theorem Owes.aldC (X : Stand p l e R s m args below meth c T locs cells slots) (hx : p.tables.exec = Jvm.exec) (hZ : Z.Warmed39 s.vm) (eT : T.heap = h) {a : Addr} {cl : Cell} (A : Arr Z h a cl .char) {j : Int32} {v : Value} (hin : ¬ (j < 0 ∨ cl.slots.size ≤ j.toNatClampNeg)) (hat : cl.slots[j.toNatClampNeg]? = some v) {pc : Nat} {Ls : Array Slot} {rest : List Value}
    (hd : decode c.code pc = .ok (.caload, 1)) (k : Owes p e below F (T.setTop (mkF m (pc + 1) Ls (v :: rest)))) : Owes p e below F (T.setTop (mkF m pc Ls (.int j :: .ref a :: rest))) :=
  k.go fun t q => X.caload hx (by rw [eT]; exact A.1) (State.isArrayOf_alike hZ.alike A.2.1) A.2.2 hin hat (g := mkF m pc Ls (.int j :: .ref a :: rest)) rfl rfl hd _ q
theorem Owes.aldZ (X : Stand p l e R s m args below meth c T locs cells slots) (hx : p.tables.exec = Jvm.exec) (hZ : Z.Warmed39 s.vm) (eT : T.heap = h) {a : Addr} {cl : Cell} (A : Arr Z h a cl .boolean) {j : Int32} {v : Value} (hin : ¬ (j < 0 ∨ cl.slots.size ≤ j.toNatClampNeg)) (hat : cl.slots[j.toNatClampNeg]? = some v) {pc : Nat} {Ls : Array Slot} {rest : List Value}
    (hd : decode c.code pc = .ok (.baload, 1)) (k : Owes p e below F (T.setTop (mkF m (pc + 1) Ls (v :: rest)))) : Owes p e below F (T.setTop (mkF m pc Ls (.int j :: .ref a :: rest))) :=
  k.go fun t q => X.baloadBooleans hx (by rw [eT]; exact A.1) (State.isArrayOf_alike hZ.alike A.2.1) A.2.2 hin hat (g := mkF m pc Ls (.int j :: .ref a :: rest)) rfl rfl hd _ q
theorem Owes.aldB (X : Stand p l e R s m args below meth c T locs cells slots) (hx : p.tables.exec = Jvm.exec) (hZ : Z.Warmed39 s.vm) (eT : T.heap = h) {a : Addr} {cl : Cell} (A : Arr Z h a cl .byte) {j : Int32} {v : Value} (hin : ¬ (j < 0 ∨ cl.slots.size ≤ j.toNatClampNeg)) (hat : cl.slots[j.toNatClampNeg]? = some v) {pc : Nat} {Ls : Array Slot} {rest : List Value}
    (hd : decode c.code pc = .ok (.baload, 1)) (k : Owes p e below F (T.setTop (mkF m (pc + 1) Ls (v :: rest)))) : Owes p e below F (T.setTop (mkF m pc Ls (.int j :: .ref a :: rest))) :=
  k.go fun t q => X.baloadBytes hx (by rw [eT]; exact A.1) (State.isArrayOf_alike hZ.alike A.2.1) A.2.2 hin hat (g := mkF m pc Ls (.int j :: .ref a :: rest)) rfl rfl hd _ q
theorem Owes.aldR (X : Stand p l e R s m args below meth c T locs cells slots) (hx : p.tables.exec = Jvm.exec) (hZ : Z.Warmed39 s.vm) (eT : T.heap = h) {a : Addr} {cl : Cell} {ty : FieldType} (A : Arr Z h a cl ty) (hty : ty.isReference = true) {j : Int32} {v : Value} (hin : ¬ (j < 0 ∨ cl.slots.size ≤ j.toNatClampNeg)) (hat : cl.slots[j.toNatClampNeg]? = some v) {pc : Nat} {Ls : Array Slot} {rest : List Value}
    (hd : decode c.code pc = .ok (.aaload, 1)) (k : Owes p e below F (T.setTop (mkF m (pc + 1) Ls (v :: rest)))) : Owes p e below F (T.setTop (mkF m pc Ls (.int j :: .ref a :: rest))) :=
  k.go fun t q => X.aaload hx (by rw [eT]; exact A.1) (State.isArrayOf_alike hZ.alike A.2.1) hty A.2.2 hin hat (g := mkF m pc Ls (.int j :: .ref a :: rest)) rfl rfl hd _ q
theorem own_eqI {first : State} {o : Option Outcome} {idx : List Nat} {t : Term} {k : Int32} (q : (Cond.eq t (.int k)).value args first o s idx = some true) : t.eval args first o idx s = some (.int k) := by
  simp only [Cond.value, Term.eval] at q
  cases hv : t.eval args first o idx s with
  | none => simp [hv] at q
  | some v => cases v <;> simp_all
end Own
theorem own_in {cl : Cell} {p0 : Int32} (S : cl.slots.size = (256 : Int32).toNatClampNeg) (h1 : ¬ p0 < (0 : Int32)) (h2 : p0 < (256 : Int32)) : ¬ (p0 < 0 ∨ cl.slots.size ≤ p0.toNatClampNeg) := by
  rw [S]
  rintro (q | q)
  · exact h1 q
  · rw [Int32.lt_iff_toInt_lt] at h1 h2
    have e0 : (0 : Int32).toInt = 0 := by decide
    have e1 : (256 : Int32).toInt = 256 := by decide
    have e2 : (256 : Int32).toNatClampNeg = 256 := by decide
    rw [e2, Int32.toNatClampNeg] at q
    rw [e0] at h1
    rw [e1] at h2
    omega
theorem d1_0 : decode prog_12_method_2_code 0 = .ok (.iload_n 0, 1) := by decide +kernel
theorem d1_1 : decode prog_12_method_2_code 1 = .ok (.ifCond .lt 23, 3) := by decide +kernel
theorem d1_24 : decode prog_12_method_2_code 24 = .ok (.iconst 0, 1) := by decide +kernel
theorem d1_25 : decode prog_12_method_2_code 25 = .ok (.ireturn, 1) := by decide +kernel
theorem d1_4 : decode prog_12_method_2_code 4 = .ok (.iload_n 0, 1) := by decide +kernel
theorem d1_5 : decode prog_12_method_2_code 5 = .ok (.getstatic 7, 3) := by decide +kernel
theorem d1_8 : decode prog_12_method_2_code 8 = .ok (.arraylength, 1) := by decide +kernel
theorem d1_9 : decode prog_12_method_2_code 9 = .ok (.if_icmp .ge 15, 3) := by decide +kernel
theorem d1_12 : decode prog_12_method_2_code 12 = .ok (.getstatic 7, 3) := by decide +kernel
theorem d1_15 : decode prog_12_method_2_code 15 = .ok (.iload_n 0, 1) := by decide +kernel
theorem d1_16 : decode prog_12_method_2_code 16 = .ok (.baload, 1) := by decide +kernel
theorem d1_17 : decode prog_12_method_2_code 17 = .ok (.ifCond .eq 7, 3) := by decide +kernel
theorem d1_20 : decode prog_12_method_2_code 20 = .ok (.iconst 1, 1) := by decide +kernel
theorem d1_21 : decode prog_12_method_2_code 21 = .ok (.goto 4, 3) := by decide +kernel
def f_tok (p0 : Int32) (cl : Cell) : Int32 := (if p0 < (0 : Int32) then nar .boolean (0 : Int32) else (if p0 < (256 : Int32) then (if (atv cl p0) = (0 : Int32) then nar .boolean (0 : Int32) else nar .boolean (1 : Int32)) else nar .boolean (0 : Int32)))
theorem ef_1_f_tok (m : MethodId) (p0 : Int32) : entryFrame m #[(.int p0)] 1 = mkF m 0 #[.val (.int p0)] [] := by first | (simp [entryFrame, mkF, argsToLocals, Value.category]; done) | rfl
theorem pn_1 : plainFor (⟨"com/example/vetter/vetter/http/FieldSyntax", "isTokenCharacter", "(I)Z"⟩ : MethodName) = true := plainFor_of_name (by first | (simp [plainName, overriddenIn]; done) | decide +kernel)
set_option maxRecDepth 65536 in
set_option maxHeartbeats 40000000 in
theorem rm_f_tok (l : Launch) (Z : State) (a0 : Array Value) (hw : ∀ d ∈ tables_1, d.before a0 Z = true) (ws : List Jvm.Cond) (p0 : Int32) (h0 : Heap) (rT : Addr) (cl : Cell) (S_T : Sta Z h0 "com/example/vetter/vetter/http/FieldSyntax" "TOKEN" "[Z" (.ref rT)) (TB : Tab Z h0 rT cl .boolean 256) :
    OMet l (⟨"com/example/vetter/vetter/http/FieldSyntax", "isTokenCharacter", "(I)Z"⟩ : MethodName) prog_12_method_2_code 1 (some .boolean) ws ({ frames := 0, cells := 0, slots := 0, locals := 0 } : Room) #[(.int p0)] Z h0 (fun v h L => v = some (Value.int (f_tok p0 cl)) ∧ L = [] ∧ h = h0) := by
  refine OMet.of pn_1 (fun m => ef_1_f_tok m p0) ?_
  intro p e s m below meth c s₁ hx hby hml hown hnm hret hlk hZ X0 e0
  refine Owes.go ?_ fun t k => XS.iloadN X0.here hx rfl (hb hby d1_0) rfl k
  show Owes _ _ _ _ (s₁.setTop (mkF m 1 #[.val (.int p0)] [(.int p0)]))
  by_cases hc1 : p0 < (0 : Int32)
  · skip
    refine Owes.go ?_ fun t k => XS.ifYes X0.here hx rfl (pc0 := 1) (pc' := 24) rfl (hb hby d1_1) rfl ((if0 _ _).trans (tlt hc1).1) (by decide) (by decide) k
    show Owes _ _ _ _ (s₁.setTop (mkF m 24 #[.val (.int p0)] []))
    refine Owes.go ?_ fun t k => XS.iconst X0.here hx rfl (hb hby d1_24) k
    show Owes _ _ _ _ (s₁.setTop (mkF m 25 #[.val (.int p0)] [(.int (0 : Int32))]))
    exact Owes.retN X0 hx hlk hret (by simp) (hb hby d1_25) (by decide) (by decide) ⟨congrArg (fun z => some (Value.int z)) (by unfold f_tok; rw [if_pos hc1]; first | done | rfl), rfl, e0⟩
  · skip
    refine Owes.go ?_ fun t k => XS.ifNo X0.here hx rfl (hb hby d1_1) rfl ((if0 _ _).trans (flt hc1).1) k
    show Owes _ _ _ _ (s₁.setTop (mkF m 4 #[.val (.int p0)] []))
    refine Owes.go ?_ fun t k => XS.iloadN X0.here hx rfl (hb hby d1_4) rfl k
    show Owes _ _ _ _ (s₁.setTop (mkF m 5 #[.val (.int p0)] [(.int p0)]))
    obtain ⟨T1, X1, e1, st1⟩ := getS2 X0 hx hZ hown (host := "") (Or.inl (hw _ (List.mem_of_getElem? (i := 4) rfl))) Via.refl e0 S_T (g := (mkF m 5 #[.val (.int p0)] [(.int p0)])) rfl (hb hby d1_5)
    refine Owes.go ?_ st1
    show Owes _ _ _ _ (T1.setTop (mkF m 8 #[.val (.int p0)] [(.ref rT), (.int p0)]))
    refine Owes.alen X1 hx hZ e1 TB.1 (len_of TB.2.1 TB.2.2.1) (hb hby d1_8) ?_
    show Owes _ _ _ _ (T1.setTop (mkF m 9 #[.val (.int p0)] [(.int (256 : Int32)), (.int p0)]))
    by_cases hc2 : p0 < (256 : Int32)
    · skip
      refine Owes.go ?_ fun t k => XS.icmpNo X1.here hx rfl (hb hby d1_9) rfl (tlt hc2).2.1 k
      show Owes _ _ _ _ (T1.setTop (mkF m 12 #[.val (.int p0)] []))
      obtain ⟨T2, X2, e2, st2⟩ := getS2 X1 hx hZ hown (host := "") (Or.inl (hw _ (List.mem_of_getElem? (i := 4) rfl))) Via.refl e1 S_T (g := (mkF m 12 #[.val (.int p0)] [])) rfl (hb hby d1_12)
      refine Owes.go ?_ st2
      show Owes _ _ _ _ (T2.setTop (mkF m 15 #[.val (.int p0)] [(.ref rT)]))
      refine Owes.go ?_ fun t k => XS.iloadN X2.here hx rfl (hb hby d1_15) rfl k
      show Owes _ _ _ _ (T2.setTop (mkF m 16 #[.val (.int p0)] [(.int p0), (.ref rT)]))
      have hin : ¬ (p0 < 0 ∨ cl.slots.size ≤ p0.toNatClampNeg) := own_in TB.2.1 hc1 hc2
      refine Owes.aldZ X2 hx hZ e2 TB.1 hin (TB.2.2.2 p0 hin) (hb hby d1_16) ?_
      show Owes _ _ _ _ (T2.setTop (mkF m 17 #[.val (.int p0)] [(.int (atv cl p0))]))
      by_cases hc3 : (atv cl p0) = (0 : Int32)
      · skip
        refine Owes.go ?_ fun t k => XS.ifYes X2.here hx rfl (pc0 := 17) (pc' := 24) rfl (hb hby d1_17) rfl ((if0 _ _).trans (teq hc3).1) (by decide) (by decide) k
        show Owes _ _ _ _ (T2.setTop (mkF m 24 #[.val (.int p0)] []))
        refine Owes.go ?_ fun t k => XS.iconst X2.here hx rfl (hb hby d1_24) k
        show Owes _ _ _ _ (T2.setTop (mkF m 25 #[.val (.int p0)] [(.int (0 : Int32))]))
        exact Owes.retN X2 hx hlk hret (by simp) (hb hby d1_25) (by decide) (by decide) ⟨congrArg (fun z => some (Value.int z)) (by unfold f_tok; rw [if_neg hc1, if_pos hc2, if_pos hc3]; first | done | rfl), rfl, e2⟩
      · skip
        refine Owes.go ?_ fun t k => XS.ifNo X2.here hx rfl (hb hby d1_17) rfl ((if0 _ _).trans (feq hc3).1) k
        show Owes _ _ _ _ (T2.setTop (mkF m 20 #[.val (.int p0)] []))
        refine Owes.go ?_ fun t k => XS.iconst X2.here hx rfl (hb hby d1_20) k
        show Owes _ _ _ _ (T2.setTop (mkF m 21 #[.val (.int p0)] [(.int (1 : Int32))]))
        refine Owes.go ?_ fun t k => XS.goto X2.here hx rfl (pc0 := 21) (pc' := 25) rfl (hb hby d1_21) (by decide) (by decide) k
        show Owes _ _ _ _ (T2.setTop (mkF m 25 #[.val (.int p0)] [(.int (1 : Int32))]))
        exact Owes.retN X2 hx hlk hret (by simp) (hb hby d1_25) (by decide) (by decide) ⟨congrArg (fun z => some (Value.int z)) (by unfold f_tok; rw [if_neg hc1, if_pos hc2, if_neg hc3]; first | done | rfl), rfl, e2⟩
    · skip
      refine Owes.go ?_ fun t k => XS.icmpYes X1.here hx rfl (pc0 := 9) (pc' := 24) rfl (hb hby d1_9) rfl (flt hc2).2.1 (by decide) (by decide) k
      show Owes _ _ _ _ (T1.setTop (mkF m 24 #[.val (.int p0)] []))
      refine Owes.go ?_ fun t k => XS.iconst X1.here hx rfl (hb hby d1_24) k
      show Owes _ _ _ _ (T1.setTop (mkF m 25 #[.val (.int p0)] [(.int (0 : Int32))]))
      exact Owes.retN X1 hx hlk hret (by simp) (hb hby d1_25) (by decide) (by decide) ⟨congrArg (fun z => some (Value.int z)) (by unfold f_tok; rw [if_neg hc1, if_neg hc2]; first | done | rfl), rfl, e1⟩
theorem d2_0 : decode method_2_code 0 = .ok (.iload_n 0, 1) := by decide +kernel
theorem d2_1 : decode method_2_code 1 = .ok (.bipush 48, 2) := by decide +kernel
theorem d2_3 : decode method_2_code 3 = .ok (.if_icmp .lt 11, 3) := by decide +kernel
theorem d2_14 : decode method_2_code 14 = .ok (.iload_n 0, 1) := by decide +kernel
theorem d2_15 : decode method_2_code 15 = .ok (.bipush 97, 2) := by decide +kernel
theorem d2_17 : decode method_2_code 17 = .ok (.if_icmp .lt 11, 3) := by decide +kernel
theorem d2_28 : decode method_2_code 28 = .ok (.iload_n 0, 1) := by decide +kernel
theorem d2_29 : decode method_2_code 29 = .ok (.bipush 65, 2) := by decide +kernel
theorem d2_31 : decode method_2_code 31 = .ok (.if_icmp .lt 11, 3) := by decide +kernel
theorem d2_42 : decode method_2_code 42 = .ok (.iload_n 0, 1) := by decide +kernel
theorem d2_43 : decode method_2_code 43 = .ok (.bipush 33, 2) := by decide +kernel
theorem d2_45 : decode method_2_code 45 = .ok (.if_icmp .eq 87, 3) := by decide +kernel
theorem d2_132 : decode method_2_code 132 = .ok (.iconst 1, 1) := by decide +kernel
theorem d2_133 : decode method_2_code 133 = .ok (.goto 4, 3) := by decide +kernel
theorem d2_137 : decode method_2_code 137 = .ok (.ireturn, 1) := by decide +kernel
theorem d2_48 : decode method_2_code 48 = .ok (.iload_n 0, 1) := by decide +kernel
theorem d2_49 : decode method_2_code 49 = .ok (.bipush 35, 2) := by decide +kernel
theorem d2_51 : decode method_2_code 51 = .ok (.if_icmp .eq 81, 3) := by decide +kernel
theorem d2_54 : decode method_2_code 54 = .ok (.iload_n 0, 1) := by decide +kernel
theorem d2_55 : decode method_2_code 55 = .ok (.bipush 36, 2) := by decide +kernel
theorem d2_57 : decode method_2_code 57 = .ok (.if_icmp .eq 75, 3) := by decide +kernel
theorem d2_60 : decode method_2_code 60 = .ok (.iload_n 0, 1) := by decide +kernel
theorem d2_61 : decode method_2_code 61 = .ok (.bipush 37, 2) := by decide +kernel
theorem d2_63 : decode method_2_code 63 = .ok (.if_icmp .eq 69, 3) := by decide +kernel
theorem d2_66 : decode method_2_code 66 = .ok (.iload_n 0, 1) := by decide +kernel
theorem d2_67 : decode method_2_code 67 = .ok (.bipush 38, 2) := by decide +kernel
theorem d2_69 : decode method_2_code 69 = .ok (.if_icmp .eq 63, 3) := by decide +kernel
theorem d2_72 : decode method_2_code 72 = .ok (.iload_n 0, 1) := by decide +kernel
theorem d2_73 : decode method_2_code 73 = .ok (.bipush 39, 2) := by decide +kernel
theorem d2_75 : decode method_2_code 75 = .ok (.if_icmp .eq 57, 3) := by decide +kernel
theorem d2_78 : decode method_2_code 78 = .ok (.iload_n 0, 1) := by decide +kernel
theorem d2_79 : decode method_2_code 79 = .ok (.bipush 42, 2) := by decide +kernel
theorem d2_81 : decode method_2_code 81 = .ok (.if_icmp .eq 51, 3) := by decide +kernel
theorem d2_84 : decode method_2_code 84 = .ok (.iload_n 0, 1) := by decide +kernel
theorem d2_85 : decode method_2_code 85 = .ok (.bipush 43, 2) := by decide +kernel
theorem d2_87 : decode method_2_code 87 = .ok (.if_icmp .eq 45, 3) := by decide +kernel
theorem d2_90 : decode method_2_code 90 = .ok (.iload_n 0, 1) := by decide +kernel
theorem d2_91 : decode method_2_code 91 = .ok (.bipush 45, 2) := by decide +kernel
theorem d2_93 : decode method_2_code 93 = .ok (.if_icmp .eq 39, 3) := by decide +kernel
theorem d2_96 : decode method_2_code 96 = .ok (.iload_n 0, 1) := by decide +kernel
theorem d2_97 : decode method_2_code 97 = .ok (.bipush 46, 2) := by decide +kernel
theorem d2_99 : decode method_2_code 99 = .ok (.if_icmp .eq 33, 3) := by decide +kernel
theorem d2_102 : decode method_2_code 102 = .ok (.iload_n 0, 1) := by decide +kernel
theorem d2_103 : decode method_2_code 103 = .ok (.bipush 94, 2) := by decide +kernel
theorem d2_105 : decode method_2_code 105 = .ok (.if_icmp .eq 27, 3) := by decide +kernel
theorem d2_108 : decode method_2_code 108 = .ok (.iload_n 0, 1) := by decide +kernel
theorem d2_109 : decode method_2_code 109 = .ok (.bipush 95, 2) := by decide +kernel
theorem d2_111 : decode method_2_code 111 = .ok (.if_icmp .eq 21, 3) := by decide +kernel
theorem d2_114 : decode method_2_code 114 = .ok (.iload_n 0, 1) := by decide +kernel
theorem d2_115 : decode method_2_code 115 = .ok (.bipush 96, 2) := by decide +kernel
theorem d2_117 : decode method_2_code 117 = .ok (.if_icmp .eq 15, 3) := by decide +kernel
theorem d2_120 : decode method_2_code 120 = .ok (.iload_n 0, 1) := by decide +kernel
theorem d2_121 : decode method_2_code 121 = .ok (.bipush 124, 2) := by decide +kernel
theorem d2_123 : decode method_2_code 123 = .ok (.if_icmp .eq 9, 3) := by decide +kernel
theorem d2_126 : decode method_2_code 126 = .ok (.iload_n 0, 1) := by decide +kernel
theorem d2_127 : decode method_2_code 127 = .ok (.bipush 126, 2) := by decide +kernel
theorem d2_129 : decode method_2_code 129 = .ok (.if_icmp .ne 7, 3) := by decide +kernel
theorem d2_136 : decode method_2_code 136 = .ok (.iconst 0, 1) := by decide +kernel
theorem d2_34 : decode method_2_code 34 = .ok (.iload_n 0, 1) := by decide +kernel
theorem d2_35 : decode method_2_code 35 = .ok (.bipush 90, 2) := by decide +kernel
theorem d2_37 : decode method_2_code 37 = .ok (.if_icmp .gt 5, 3) := by decide +kernel
theorem d2_40 : decode method_2_code 40 = .ok (.iconst 1, 1) := by decide +kernel
theorem d2_41 : decode method_2_code 41 = .ok (.ireturn, 1) := by decide +kernel
theorem d2_20 : decode method_2_code 20 = .ok (.iload_n 0, 1) := by decide +kernel
theorem d2_21 : decode method_2_code 21 = .ok (.bipush 122, 2) := by decide +kernel
theorem d2_23 : decode method_2_code 23 = .ok (.if_icmp .gt 5, 3) := by decide +kernel
theorem d2_26 : decode method_2_code 26 = .ok (.iconst 1, 1) := by decide +kernel
theorem d2_27 : decode method_2_code 27 = .ok (.ireturn, 1) := by decide +kernel
theorem d2_6 : decode method_2_code 6 = .ok (.iload_n 0, 1) := by decide +kernel
theorem d2_7 : decode method_2_code 7 = .ok (.bipush 57, 2) := by decide +kernel
theorem d2_9 : decode method_2_code 9 = .ok (.if_icmp .gt 5, 3) := by decide +kernel
theorem d2_12 : decode method_2_code 12 = .ok (.iconst 1, 1) := by decide +kernel
theorem d2_13 : decode method_2_code 13 = .ok (.ireturn, 1) := by decide +kernel
def f_tch (p0 : Int32)  : Int32 := (if p0 < (48 : Int32) then (if p0 < (97 : Int32) then (if p0 < (65 : Int32) then (if p0 = (33 : Int32) then nar .boolean (1 : Int32) else (if p0 = (35 : Int32) then nar .boolean (1 : Int32) else (if p0 = (36 : Int32) then nar .boolean (1 : Int32) else (if p0 = (37 : Int32) then nar .boolean (1 : Int32) else (if p0 = (38 : Int32) then nar .boolean (1 : Int32) else (if p0 = (39 : Int32) then nar .boolean (1 : Int32) else (if p0 = (42 : Int32) then nar .boolean (1 : Int32) else (if p0 = (43 : Int32) then nar .boolean (1 : Int32) else (if p0 = (45 : Int32) then nar .boolean (1 : Int32) else (if p0 = (46 : Int32) then nar .boolean (1 : Int32) else (if p0 = (94 : Int32) then nar .boolean (1 : Int32) else (if p0 = (95 : Int32) then nar .boolean (1 : Int32) else (if p0 = (96 : Int32) then nar .boolean (1 : Int32) else (if p0 = (124 : Int32) then nar .boolean (1 : Int32) else (if p0 = (126 : Int32) then nar .boolean (1 : Int32) else nar .boolean (0 : Int32)))))))))))))))) else (if (90 : Int32) < p0 then (if p0 = (33 : Int32) then nar .boolean (1 : Int32) else (if p0 = (35 : Int32) then nar .boolean (1 : Int32) else (if p0 = (36 : Int32) then nar .boolean (1 : Int32) else (if p0 = (37 : Int32) then nar .boolean (1 : Int32) else (if p0 = (38 : Int32) then nar .boolean (1 : Int32) else (if p0 = (39 : Int32) then nar .boolean (1 : Int32) else (if p0 = (42 : Int32) then nar .boolean (1 : Int32) else (if p0 = (43 : Int32) then nar .boolean (1 : Int32) else (if p0 = (45 : Int32) then nar .boolean (1 : Int32) else (if p0 = (46 : Int32) then nar .boolean (1 : Int32) else (if p0 = (94 : Int32) then nar .boolean (1 : Int32) else (if p0 = (95 : Int32) then nar .boolean (1 : Int32) else (if p0 = (96 : Int32) then nar .boolean (1 : Int32) else (if p0 = (124 : Int32) then nar .boolean (1 : Int32) else (if p0 = (126 : Int32) then nar .boolean (1 : Int32) else nar .boolean (0 : Int32)))))))))))))))) else nar .boolean (1 : Int32))) else (if (122 : Int32) < p0 then (if p0 < (65 : Int32) then (if p0 = (33 : Int32) then nar .boolean (1 : Int32) else (if p0 = (35 : Int32) then nar .boolean (1 : Int32) else (if p0 = (36 : Int32) then nar .boolean (1 : Int32) else (if p0 = (37 : Int32) then nar .boolean (1 : Int32) else (if p0 = (38 : Int32) then nar .boolean (1 : Int32) else (if p0 = (39 : Int32) then nar .boolean (1 : Int32) else (if p0 = (42 : Int32) then nar .boolean (1 : Int32) else (if p0 = (43 : Int32) then nar .boolean (1 : Int32) else (if p0 = (45 : Int32) then nar .boolean (1 : Int32) else (if p0 = (46 : Int32) then nar .boolean (1 : Int32) else (if p0 = (94 : Int32) then nar .boolean (1 : Int32) else (if p0 = (95 : Int32) then nar .boolean (1 : Int32) else (if p0 = (96 : Int32) then nar .boolean (1 : Int32) else (if p0 = (124 : Int32) then nar .boolean (1 : Int32) else (if p0 = (126 : Int32) then nar .boolean (1 : Int32) else nar .boolean (0 : Int32)))))))))))))))) else (if (90 : Int32) < p0 then (if p0 = (33 : Int32) then nar .boolean (1 : Int32) else (if p0 = (35 : Int32) then nar .boolean (1 : Int32) else (if p0 = (36 : Int32) then nar .boolean (1 : Int32) else (if p0 = (37 : Int32) then nar .boolean (1 : Int32) else (if p0 = (38 : Int32) then nar .boolean (1 : Int32) else (if p0 = (39 : Int32) then nar .boolean (1 : Int32) else (if p0 = (42 : Int32) then nar .boolean (1 : Int32) else (if p0 = (43 : Int32) then nar .boolean (1 : Int32) else (if p0 = (45 : Int32) then nar .boolean (1 : Int32) else (if p0 = (46 : Int32) then nar .boolean (1 : Int32) else (if p0 = (94 : Int32) then nar .boolean (1 : Int32) else (if p0 = (95 : Int32) then nar .boolean (1 : Int32) else (if p0 = (96 : Int32) then nar .boolean (1 : Int32) else (if p0 = (124 : Int32) then nar .boolean (1 : Int32) else (if p0 = (126 : Int32) then nar .boolean (1 : Int32) else nar .boolean (0 : Int32)))))))))))))))) else nar .boolean (1 : Int32))) else nar .boolean (1 : Int32))) else (if (57 : Int32) < p0 then (if p0 < (97 : Int32) then (if p0 < (65 : Int32) then (if p0 = (33 : Int32) then nar .boolean (1 : Int32) else (if p0 = (35 : Int32) then nar .boolean (1 : Int32) else (if p0 = (36 : Int32) then nar .boolean (1 : Int32) else (if p0 = (37 : Int32) then nar .boolean (1 : Int32) else (if p0 = (38 : Int32) then nar .boolean (1 : Int32) else (if p0 = (39 : Int32) then nar .boolean (1 : Int32) else (if p0 = (42 : Int32) then nar .boolean (1 : Int32) else (if p0 = (43 : Int32) then nar .boolean (1 : Int32) else (if p0 = (45 : Int32) then nar .boolean (1 : Int32) else (if p0 = (46 : Int32) then nar .boolean (1 : Int32) else (if p0 = (94 : Int32) then nar .boolean (1 : Int32) else (if p0 = (95 : Int32) then nar .boolean (1 : Int32) else (if p0 = (96 : Int32) then nar .boolean (1 : Int32) else (if p0 = (124 : Int32) then nar .boolean (1 : Int32) else (if p0 = (126 : Int32) then nar .boolean (1 : Int32) else nar .boolean (0 : Int32)))))))))))))))) else (if (90 : Int32) < p0 then (if p0 = (33 : Int32) then nar .boolean (1 : Int32) else (if p0 = (35 : Int32) then nar .boolean (1 : Int32) else (if p0 = (36 : Int32) then nar .boolean (1 : Int32) else (if p0 = (37 : Int32) then nar .boolean (1 : Int32) else (if p0 = (38 : Int32) then nar .boolean (1 : Int32) else (if p0 = (39 : Int32) then nar .boolean (1 : Int32) else (if p0 = (42 : Int32) then nar .boolean (1 : Int32) else (if p0 = (43 : Int32) then nar .boolean (1 : Int32) else (if p0 = (45 : Int32) then nar .boolean (1 : Int32) else (if p0 = (46 : Int32) then nar .boolean (1 : Int32) else (if p0 = (94 : Int32) then nar .boolean (1 : Int32) else (if p0 = (95 : Int32) then nar .boolean (1 : Int32) else (if p0 = (96 : Int32) then nar .boolean (1 : Int32) else (if p0 = (124 : Int32) then nar .boolean (1 : Int32) else (if p0 = (126 : Int32) then nar .boolean (1 : Int32) else nar .boolean (0 : Int32)))))))))))))))) else nar .boolean (1 : Int32))) else (if (122 : Int32) < p0 then (if p0 < (65 : Int32) then (if p0 = (33 : Int32) then nar .boolean (1 : Int32) else (if p0 = (35 : Int32) then nar .boolean (1 : Int32) else (if p0 = (36 : Int32) then nar .boolean (1 : Int32) else (if p0 = (37 : Int32) then nar .boolean (1 : Int32) else (if p0 = (38 : Int32) then nar .boolean (1 : Int32) else (if p0 = (39 : Int32) then nar .boolean (1 : Int32) else (if p0 = (42 : Int32) then nar .boolean (1 : Int32) else (if p0 = (43 : Int32) then nar .boolean (1 : Int32) else (if p0 = (45 : Int32) then nar .boolean (1 : Int32) else (if p0 = (46 : Int32) then nar .boolean (1 : Int32) else (if p0 = (94 : Int32) then nar .boolean (1 : Int32) else (if p0 = (95 : Int32) then nar .boolean (1 : Int32) else (if p0 = (96 : Int32) then nar .boolean (1 : Int32) else (if p0 = (124 : Int32) then nar .boolean (1 : Int32) else (if p0 = (126 : Int32) then nar .boolean (1 : Int32) else nar .boolean (0 : Int32)))))))))))))))) else (if (90 : Int32) < p0 then (if p0 = (33 : Int32) then nar .boolean (1 : Int32) else (if p0 = (35 : Int32) then nar .boolean (1 : Int32) else (if p0 = (36 : Int32) then nar .boolean (1 : Int32) else (if p0 = (37 : Int32) then nar .boolean (1 : Int32) else (if p0 = (38 : Int32) then nar .boolean (1 : Int32) else (if p0 = (39 : Int32) then nar .boolean (1 : Int32) else (if p0 = (42 : Int32) then nar .boolean (1 : Int32) else (if p0 = (43 : Int32) then nar .boolean (1 : Int32) else (if p0 = (45 : Int32) then nar .boolean (1 : Int32) else (if p0 = (46 : Int32) then nar .boolean (1 : Int32) else (if p0 = (94 : Int32) then nar .boolean (1 : Int32) else (if p0 = (95 : Int32) then nar .boolean (1 : Int32) else (if p0 = (96 : Int32) then nar .boolean (1 : Int32) else (if p0 = (124 : Int32) then nar .boolean (1 : Int32) else (if p0 = (126 : Int32) then nar .boolean (1 : Int32) else nar .boolean (0 : Int32)))))))))))))))) else nar .boolean (1 : Int32))) else nar .boolean (1 : Int32))) else nar .boolean (1 : Int32)))
theorem ef_2_f_tch (m : MethodId) (p0 : Int32) : entryFrame m #[(.int p0)] 1 = mkF m 0 #[.val (.int p0)] [] := by first | (simp [entryFrame, mkF, argsToLocals, Value.category]; done) | rfl
theorem pn_2 : plainFor (⟨"com/example/vetter/vetter/http/FieldSyntaxIsTokenCharacterPinLaw", "tchar", "(I)Z"⟩ : MethodName) = true := plainFor_of_name (by first | (simp [plainName, overriddenIn]; done) | decide +kernel)
set_option maxRecDepth 65536 in
set_option maxHeartbeats 40000000 in
theorem rm_f_tch (l : Launch) (Z : State) (a0 : Array Value) (hw : ∀ d ∈ tables_1, d.before a0 Z = true) (ws : List Jvm.Cond) (p0 : Int32) (h0 : Heap)  :
    OMet l (⟨"com/example/vetter/vetter/http/FieldSyntaxIsTokenCharacterPinLaw", "tchar", "(I)Z"⟩ : MethodName) method_2_code 1 (some .boolean) ws ({ frames := 0, cells := 0, slots := 0, locals := 0 } : Room) #[(.int p0)] Z h0 (fun v h L => v = some (Value.int (f_tch p0)) ∧ L = [] ∧ h = h0) := by
  refine OMet.of pn_2 (fun m => ef_2_f_tch m p0) ?_
  intro p e s m below meth c s₁ hx hby hml hown hnm hret hlk hZ X0 e0
  refine Owes.go ?_ fun t k => XS.iloadN X0.here hx rfl (hb hby d2_0) rfl k
  show Owes _ _ _ _ (s₁.setTop (mkF m 1 #[.val (.int p0)] [(.int p0)]))
  refine Owes.go ?_ fun t k => XS.bipush X0.here hx rfl (hb hby d2_1) k
  show Owes _ _ _ _ (s₁.setTop (mkF m 3 #[.val (.int p0)] [(.int (48 : Int32)), (.int p0)]))
  by_cases hc1 : p0 < (48 : Int32)
  · skip
    refine Owes.go ?_ fun t k => XS.icmpYes X0.here hx rfl (pc0 := 3) (pc' := 14) rfl (hb hby d2_3) rfl (tlt hc1).1 (by decide) (by decide) k
    show Owes _ _ _ _ (s₁.setTop (mkF m 14 #[.val (.int p0)] []))
    refine Owes.go ?_ fun t k => XS.iloadN X0.here hx rfl (hb hby d2_14) rfl k
    show Owes _ _ _ _ (s₁.setTop (mkF m 15 #[.val (.int p0)] [(.int p0)]))
    refine Owes.go ?_ fun t k => XS.bipush X0.here hx rfl (hb hby d2_15) k
    show Owes _ _ _ _ (s₁.setTop (mkF m 17 #[.val (.int p0)] [(.int (97 : Int32)), (.int p0)]))
    by_cases hc2 : p0 < (97 : Int32)
    · skip
      refine Owes.go ?_ fun t k => XS.icmpYes X0.here hx rfl (pc0 := 17) (pc' := 28) rfl (hb hby d2_17) rfl (tlt hc2).1 (by decide) (by decide) k
      show Owes _ _ _ _ (s₁.setTop (mkF m 28 #[.val (.int p0)] []))
      refine Owes.go ?_ fun t k => XS.iloadN X0.here hx rfl (hb hby d2_28) rfl k
      show Owes _ _ _ _ (s₁.setTop (mkF m 29 #[.val (.int p0)] [(.int p0)]))
      refine Owes.go ?_ fun t k => XS.bipush X0.here hx rfl (hb hby d2_29) k
      show Owes _ _ _ _ (s₁.setTop (mkF m 31 #[.val (.int p0)] [(.int (65 : Int32)), (.int p0)]))
      by_cases hc3 : p0 < (65 : Int32)
      · skip
        refine Owes.go ?_ fun t k => XS.icmpYes X0.here hx rfl (pc0 := 31) (pc' := 42) rfl (hb hby d2_31) rfl (tlt hc3).1 (by decide) (by decide) k
        show Owes _ _ _ _ (s₁.setTop (mkF m 42 #[.val (.int p0)] []))
        refine Owes.go ?_ fun t k => XS.iloadN X0.here hx rfl (hb hby d2_42) rfl k
        show Owes _ _ _ _ (s₁.setTop (mkF m 43 #[.val (.int p0)] [(.int p0)]))
        refine Owes.go ?_ fun t k => XS.bipush X0.here hx rfl (hb hby d2_43) k
        show Owes _ _ _ _ (s₁.setTop (mkF m 45 #[.val (.int p0)] [(.int (33 : Int32)), (.int p0)]))
        by_cases hc4 : p0 = (33 : Int32)
        · skip
          refine Owes.go ?_ fun t k => XS.icmpYes X0.here hx rfl (pc0 := 45) (pc' := 132) rfl (hb hby d2_45) rfl (teq hc4).1 (by decide) (by decide) k
          show Owes _ _ _ _ (s₁.setTop (mkF m 132 #[.val (.int p0)] []))
          refine Owes.go ?_ fun t k => XS.iconst X0.here hx rfl (hb hby d2_132) k
          show Owes _ _ _ _ (s₁.setTop (mkF m 133 #[.val (.int p0)] [(.int (1 : Int32))]))
          refine Owes.go ?_ fun t k => XS.goto X0.here hx rfl (pc0 := 133) (pc' := 137) rfl (hb hby d2_133) (by decide) (by decide) k
          show Owes _ _ _ _ (s₁.setTop (mkF m 137 #[.val (.int p0)] [(.int (1 : Int32))]))
          exact Owes.retN X0 hx hlk hret (by simp) (hb hby d2_137) (by decide) (by decide) ⟨congrArg (fun z => some (Value.int z)) (by unfold f_tch; rw [if_pos hc1, if_pos hc2, if_pos hc3, if_pos hc4]; first | done | rfl), rfl, e0⟩
        · skip
          refine Owes.go ?_ fun t k => XS.icmpNo X0.here hx rfl (hb hby d2_45) rfl (feq hc4).1 k
          show Owes _ _ _ _ (s₁.setTop (mkF m 48 #[.val (.int p0)] []))
          refine Owes.go ?_ fun t k => XS.iloadN X0.here hx rfl (hb hby d2_48) rfl k
          show Owes _ _ _ _ (s₁.setTop (mkF m 49 #[.val (.int p0)] [(.int p0)]))
          refine Owes.go ?_ fun t k => XS.bipush X0.here hx rfl (hb hby d2_49) k
          show Owes _ _ _ _ (s₁.setTop (mkF m 51 #[.val (.int p0)] [(.int (35 : Int32)), (.int p0)]))
          by_cases hc5 : p0 = (35 : Int32)
          · skip
            refine Owes.go ?_ fun t k => XS.icmpYes X0.here hx rfl (pc0 := 51) (pc' := 132) rfl (hb hby d2_51) rfl (teq hc5).1 (by decide) (by decide) k
            show Owes _ _ _ _ (s₁.setTop (mkF m 132 #[.val (.int p0)] []))
            refine Owes.go ?_ fun t k => XS.iconst X0.here hx rfl (hb hby d2_132) k
            show Owes _ _ _ _ (s₁.setTop (mkF m 133 #[.val (.int p0)] [(.int (1 : Int32))]))
            refine Owes.go ?_ fun t k => XS.goto X0.here hx rfl (pc0 := 133) (pc' := 137) rfl (hb hby d2_133) (by decide) (by decide) k
            show Owes _ _ _ _ (s₁.setTop (mkF m 137 #[.val (.int p0)] [(.int (1 : Int32))]))
            exact Owes.retN X0 hx hlk hret (by simp) (hb hby d2_137) (by decide) (by decide) ⟨congrArg (fun z => some (Value.int z)) (by unfold f_tch; rw [if_pos hc1, if_pos hc2, if_pos hc3, if_neg hc4, if_pos hc5]; first | done | rfl), rfl, e0⟩
          · skip
            refine Owes.go ?_ fun t k => XS.icmpNo X0.here hx rfl (hb hby d2_51) rfl (feq hc5).1 k
            show Owes _ _ _ _ (s₁.setTop (mkF m 54 #[.val (.int p0)] []))
            refine Owes.go ?_ fun t k => XS.iloadN X0.here hx rfl (hb hby d2_54) rfl k
            show Owes _ _ _ _ (s₁.setTop (mkF m 55 #[.val (.int p0)] [(.int p0)]))
            refine Owes.go ?_ fun t k => XS.bipush X0.here hx rfl (hb hby d2_55) k
            show Owes _ _ _ _ (s₁.setTop (mkF m 57 #[.val (.int p0)] [(.int (36 : Int32)), (.int p0)]))
            by_cases hc6 : p0 = (36 : Int32)
            · skip
              refine Owes.go ?_ fun t k => XS.icmpYes X0.here hx rfl (pc0 := 57) (pc' := 132) rfl (hb hby d2_57) rfl (teq hc6).1 (by decide) (by decide) k
              show Owes _ _ _ _ (s₁.setTop (mkF m 132 #[.val (.int p0)] []))
              refine Owes.go ?_ fun t k => XS.iconst X0.here hx rfl (hb hby d2_132) k
              show Owes _ _ _ _ (s₁.setTop (mkF m 133 #[.val (.int p0)] [(.int (1 : Int32))]))
              refine Owes.go ?_ fun t k => XS.goto X0.here hx rfl (pc0 := 133) (pc' := 137) rfl (hb hby d2_133) (by decide) (by decide) k
              show Owes _ _ _ _ (s₁.setTop (mkF m 137 #[.val (.int p0)] [(.int (1 : Int32))]))
              exact Owes.retN X0 hx hlk hret (by simp) (hb hby d2_137) (by decide) (by decide) ⟨congrArg (fun z => some (Value.int z)) (by unfold f_tch; rw [if_pos hc1, if_pos hc2, if_pos hc3, if_neg hc4, if_neg hc5, if_pos hc6]; first | done | rfl), rfl, e0⟩
            · skip
              refine Owes.go ?_ fun t k => XS.icmpNo X0.here hx rfl (hb hby d2_57) rfl (feq hc6).1 k
              show Owes _ _ _ _ (s₁.setTop (mkF m 60 #[.val (.int p0)] []))
              refine Owes.go ?_ fun t k => XS.iloadN X0.here hx rfl (hb hby d2_60) rfl k
              show Owes _ _ _ _ (s₁.setTop (mkF m 61 #[.val (.int p0)] [(.int p0)]))
              refine Owes.go ?_ fun t k => XS.bipush X0.here hx rfl (hb hby d2_61) k
              show Owes _ _ _ _ (s₁.setTop (mkF m 63 #[.val (.int p0)] [(.int (37 : Int32)), (.int p0)]))
              by_cases hc7 : p0 = (37 : Int32)
              · skip
                refine Owes.go ?_ fun t k => XS.icmpYes X0.here hx rfl (pc0 := 63) (pc' := 132) rfl (hb hby d2_63) rfl (teq hc7).1 (by decide) (by decide) k
                show Owes _ _ _ _ (s₁.setTop (mkF m 132 #[.val (.int p0)] []))
                refine Owes.go ?_ fun t k => XS.iconst X0.here hx rfl (hb hby d2_132) k
                show Owes _ _ _ _ (s₁.setTop (mkF m 133 #[.val (.int p0)] [(.int (1 : Int32))]))
                refine Owes.go ?_ fun t k => XS.goto X0.here hx rfl (pc0 := 133) (pc' := 137) rfl (hb hby d2_133) (by decide) (by decide) k
                show Owes _ _ _ _ (s₁.setTop (mkF m 137 #[.val (.int p0)] [(.int (1 : Int32))]))
                exact Owes.retN X0 hx hlk hret (by simp) (hb hby d2_137) (by decide) (by decide) ⟨congrArg (fun z => some (Value.int z)) (by unfold f_tch; rw [if_pos hc1, if_pos hc2, if_pos hc3, if_neg hc4, if_neg hc5, if_neg hc6, if_pos hc7]; first | done | rfl), rfl, e0⟩
              · skip
                refine Owes.go ?_ fun t k => XS.icmpNo X0.here hx rfl (hb hby d2_63) rfl (feq hc7).1 k
                show Owes _ _ _ _ (s₁.setTop (mkF m 66 #[.val (.int p0)] []))
                refine Owes.go ?_ fun t k => XS.iloadN X0.here hx rfl (hb hby d2_66) rfl k
                show Owes _ _ _ _ (s₁.setTop (mkF m 67 #[.val (.int p0)] [(.int p0)]))
                refine Owes.go ?_ fun t k => XS.bipush X0.here hx rfl (hb hby d2_67) k
                show Owes _ _ _ _ (s₁.setTop (mkF m 69 #[.val (.int p0)] [(.int (38 : Int32)), (.int p0)]))
                by_cases hc8 : p0 = (38 : Int32)
                · skip
                  refine Owes.go ?_ fun t k => XS.icmpYes X0.here hx rfl (pc0 := 69) (pc' := 132) rfl (hb hby d2_69) rfl (teq hc8).1 (by decide) (by decide) k
                  show Owes _ _ _ _ (s₁.setTop (mkF m 132 #[.val (.int p0)] []))
                  refine Owes.go ?_ fun t k => XS.iconst X0.here hx rfl (hb hby d2_132) k
                  show Owes _ _ _ _ (s₁.setTop (mkF m 133 #[.val (.int p0)] [(.int (1 : Int32))]))
                  refine Owes.go ?_ fun t k => XS.goto X0.here hx rfl (pc0 := 133) (pc' := 137) rfl (hb hby d2_133) (by decide) (by decide) k
                  show Owes _ _ _ _ (s₁.setTop (mkF m 137 #[.val (.int p0)] [(.int (1 : Int32))]))
                  exact Owes.retN X0 hx hlk hret (by simp) (hb hby d2_137) (by decide) (by decide) ⟨congrArg (fun z => some (Value.int z)) (by unfold f_tch; rw [if_pos hc1, if_pos hc2, if_pos hc3, if_neg hc4, if_neg hc5, if_neg hc6, if_neg hc7, if_pos hc8]; first | done | rfl), rfl, e0⟩
                · skip
                  refine Owes.go ?_ fun t k => XS.icmpNo X0.here hx rfl (hb hby d2_69) rfl (feq hc8).1 k
                  show Owes _ _ _ _ (s₁.setTop (mkF m 72 #[.val (.int p0)] []))
                  refine Owes.go ?_ fun t k => XS.iloadN X0.here hx rfl (hb hby d2_72) rfl k
                  show Owes _ _ _ _ (s₁.setTop (mkF m 73 #[.val (.int p0)] [(.int p0)]))
                  refine Owes.go ?_ fun t k => XS.bipush X0.here hx rfl (hb hby d2_73) k
                  show Owes _ _ _ _ (s₁.setTop (mkF m 75 #[.val (.int p0)] [(.int (39 : Int32)), (.int p0)]))
                  by_cases hc9 : p0 = (39 : Int32)
                  · skip
                    refine Owes.go ?_ fun t k => XS.icmpYes X0.here hx rfl (pc0 := 75) (pc' := 132) rfl (hb hby d2_75) rfl (teq hc9).1 (by decide) (by decide) k
                    show Owes _ _ _ _ (s₁.setTop (mkF m 132 #[.val (.int p0)] []))
                    refine Owes.go ?_ fun t k => XS.iconst X0.here hx rfl (hb hby d2_132) k
                    show Owes _ _ _ _ (s₁.setTop (mkF m 133 #[.val (.int p0)] [(.int (1 : Int32))]))
                    refine Owes.go ?_ fun t k => XS.goto X0.here hx rfl (pc0 := 133) (pc' := 137) rfl (hb hby d2_133) (by decide) (by decide) k
                    show Owes _ _ _ _ (s₁.setTop (mkF m 137 #[.val (.int p0)] [(.int (1 : Int32))]))
                    exact Owes.retN X0 hx hlk hret (by simp) (hb hby d2_137) (by decide) (by decide) ⟨congrArg (fun z => some (Value.int z)) (by unfold f_tch; rw [if_pos hc1, if_pos hc2, if_pos hc3, if_neg hc4, if_neg hc5, if_neg hc6, if_neg hc7, if_neg hc8, if_pos hc9]; first | done | rfl), rfl, e0⟩
                  · skip
                    refine Owes.go ?_ fun t k => XS.icmpNo X0.here hx rfl (hb hby d2_75) rfl (feq hc9).1 k
                    show Owes _ _ _ _ (s₁.setTop (mkF m 78 #[.val (.int p0)] []))
                    refine Owes.go ?_ fun t k => XS.iloadN X0.here hx rfl (hb hby d2_78) rfl k
                    show Owes _ _ _ _ (s₁.setTop (mkF m 79 #[.val (.int p0)] [(.int p0)]))
                    refine Owes.go ?_ fun t k => XS.bipush X0.here hx rfl (hb hby d2_79) k
                    show Owes _ _ _ _ (s₁.setTop (mkF m 81 #[.val (.int p0)] [(.int (42 : Int32)), (.int p0)]))
                    by_cases hc10 : p0 = (42 : Int32)
                    · skip
                      refine Owes.go ?_ fun t k => XS.icmpYes X0.here hx rfl (pc0 := 81) (pc' := 132) rfl (hb hby d2_81) rfl (teq hc10).1 (by decide) (by decide) k
                      show Owes _ _ _ _ (s₁.setTop (mkF m 132 #[.val (.int p0)] []))
                      refine Owes.go ?_ fun t k => XS.iconst X0.here hx rfl (hb hby d2_132) k
                      show Owes _ _ _ _ (s₁.setTop (mkF m 133 #[.val (.int p0)] [(.int (1 : Int32))]))
                      refine Owes.go ?_ fun t k => XS.goto X0.here hx rfl (pc0 := 133) (pc' := 137) rfl (hb hby d2_133) (by decide) (by decide) k
                      show Owes _ _ _ _ (s₁.setTop (mkF m 137 #[.val (.int p0)] [(.int (1 : Int32))]))
                      exact Owes.retN X0 hx hlk hret (by simp) (hb hby d2_137) (by decide) (by decide) ⟨congrArg (fun z => some (Value.int z)) (by unfold f_tch; rw [if_pos hc1, if_pos hc2, if_pos hc3, if_neg hc4, if_neg hc5, if_neg hc6, if_neg hc7, if_neg hc8, if_neg hc9, if_pos hc10]; first | done | rfl), rfl, e0⟩
                    · skip
                      refine Owes.go ?_ fun t k => XS.icmpNo X0.here hx rfl (hb hby d2_81) rfl (feq hc10).1 k
                      show Owes _ _ _ _ (s₁.setTop (mkF m 84 #[.val (.int p0)] []))
                      refine Owes.go ?_ fun t k => XS.iloadN X0.here hx rfl (hb hby d2_84) rfl k
                      show Owes _ _ _ _ (s₁.setTop (mkF m 85 #[.val (.int p0)] [(.int p0)]))
                      refine Owes.go ?_ fun t k => XS.bipush X0.here hx rfl (hb hby d2_85) k
                      show Owes _ _ _ _ (s₁.setTop (mkF m 87 #[.val (.int p0)] [(.int (43 : Int32)), (.int p0)]))
                      by_cases hc11 : p0 = (43 : Int32)
                      · skip
                        refine Owes.go ?_ fun t k => XS.icmpYes X0.here hx rfl (pc0 := 87) (pc' := 132) rfl (hb hby d2_87) rfl (teq hc11).1 (by decide) (by decide) k
                        show Owes _ _ _ _ (s₁.setTop (mkF m 132 #[.val (.int p0)] []))
                        refine Owes.go ?_ fun t k => XS.iconst X0.here hx rfl (hb hby d2_132) k
                        show Owes _ _ _ _ (s₁.setTop (mkF m 133 #[.val (.int p0)] [(.int (1 : Int32))]))
                        refine Owes.go ?_ fun t k => XS.goto X0.here hx rfl (pc0 := 133) (pc' := 137) rfl (hb hby d2_133) (by decide) (by decide) k
                        show Owes _ _ _ _ (s₁.setTop (mkF m 137 #[.val (.int p0)] [(.int (1 : Int32))]))
                        exact Owes.retN X0 hx hlk hret (by simp) (hb hby d2_137) (by decide) (by decide) ⟨congrArg (fun z => some (Value.int z)) (by unfold f_tch; rw [if_pos hc1, if_pos hc2, if_pos hc3, if_neg hc4, if_neg hc5, if_neg hc6, if_neg hc7, if_neg hc8, if_neg hc9, if_neg hc10, if_pos hc11]; first | done | rfl), rfl, e0⟩
                      · skip
                        refine Owes.go ?_ fun t k => XS.icmpNo X0.here hx rfl (hb hby d2_87) rfl (feq hc11).1 k
                        show Owes _ _ _ _ (s₁.setTop (mkF m 90 #[.val (.int p0)] []))
                        refine Owes.go ?_ fun t k => XS.iloadN X0.here hx rfl (hb hby d2_90) rfl k
                        show Owes _ _ _ _ (s₁.setTop (mkF m 91 #[.val (.int p0)] [(.int p0)]))
                        refine Owes.go ?_ fun t k => XS.bipush X0.here hx rfl (hb hby d2_91) k
                        show Owes _ _ _ _ (s₁.setTop (mkF m 93 #[.val (.int p0)] [(.int (45 : Int32)), (.int p0)]))
                        by_cases hc12 : p0 = (45 : Int32)
                        · skip
                          refine Owes.go ?_ fun t k => XS.icmpYes X0.here hx rfl (pc0 := 93) (pc' := 132) rfl (hb hby d2_93) rfl (teq hc12).1 (by decide) (by decide) k
                          show Owes _ _ _ _ (s₁.setTop (mkF m 132 #[.val (.int p0)] []))
                          refine Owes.go ?_ fun t k => XS.iconst X0.here hx rfl (hb hby d2_132) k
                          show Owes _ _ _ _ (s₁.setTop (mkF m 133 #[.val (.int p0)] [(.int (1 : Int32))]))
                          refine Owes.go ?_ fun t k => XS.goto X0.here hx rfl (pc0 := 133) (pc' := 137) rfl (hb hby d2_133) (by decide) (by decide) k
                          show Owes _ _ _ _ (s₁.setTop (mkF m 137 #[.val (.int p0)] [(.int (1 : Int32))]))
                          exact Owes.retN X0 hx hlk hret (by simp) (hb hby d2_137) (by decide) (by decide) ⟨congrArg (fun z => some (Value.int z)) (by unfold f_tch; rw [if_pos hc1, if_pos hc2, if_pos hc3, if_neg hc4, if_neg hc5, if_neg hc6, if_neg hc7, if_neg hc8, if_neg hc9, if_neg hc10, if_neg hc11, if_pos hc12]; first | done | rfl), rfl, e0⟩
                        · skip
                          refine Owes.go ?_ fun t k => XS.icmpNo X0.here hx rfl (hb hby d2_93) rfl (feq hc12).1 k
                          show Owes _ _ _ _ (s₁.setTop (mkF m 96 #[.val (.int p0)] []))
                          refine Owes.go ?_ fun t k => XS.iloadN X0.here hx rfl (hb hby d2_96) rfl k
                          show Owes _ _ _ _ (s₁.setTop (mkF m 97 #[.val (.int p0)] [(.int p0)]))
                          refine Owes.go ?_ fun t k => XS.bipush X0.here hx rfl (hb hby d2_97) k
                          show Owes _ _ _ _ (s₁.setTop (mkF m 99 #[.val (.int p0)] [(.int (46 : Int32)), (.int p0)]))
                          by_cases hc13 : p0 = (46 : Int32)
                          · skip
                            refine Owes.go ?_ fun t k => XS.icmpYes X0.here hx rfl (pc0 := 99) (pc' := 132) rfl (hb hby d2_99) rfl (teq hc13).1 (by decide) (by decide) k
                            show Owes _ _ _ _ (s₁.setTop (mkF m 132 #[.val (.int p0)] []))
                            refine Owes.go ?_ fun t k => XS.iconst X0.here hx rfl (hb hby d2_132) k
                            show Owes _ _ _ _ (s₁.setTop (mkF m 133 #[.val (.int p0)] [(.int (1 : Int32))]))
                            refine Owes.go ?_ fun t k => XS.goto X0.here hx rfl (pc0 := 133) (pc' := 137) rfl (hb hby d2_133) (by decide) (by decide) k
                            show Owes _ _ _ _ (s₁.setTop (mkF m 137 #[.val (.int p0)] [(.int (1 : Int32))]))
                            exact Owes.retN X0 hx hlk hret (by simp) (hb hby d2_137) (by decide) (by decide) ⟨congrArg (fun z => some (Value.int z)) (by unfold f_tch; rw [if_pos hc1, if_pos hc2, if_pos hc3, if_neg hc4, if_neg hc5, if_neg hc6, if_neg hc7, if_neg hc8, if_neg hc9, if_neg hc10, if_neg hc11, if_neg hc12, if_pos hc13]; first | done | rfl), rfl, e0⟩
                          · skip
                            refine Owes.go ?_ fun t k => XS.icmpNo X0.here hx rfl (hb hby d2_99) rfl (feq hc13).1 k
                            show Owes _ _ _ _ (s₁.setTop (mkF m 102 #[.val (.int p0)] []))
                            refine Owes.go ?_ fun t k => XS.iloadN X0.here hx rfl (hb hby d2_102) rfl k
                            show Owes _ _ _ _ (s₁.setTop (mkF m 103 #[.val (.int p0)] [(.int p0)]))
                            refine Owes.go ?_ fun t k => XS.bipush X0.here hx rfl (hb hby d2_103) k
                            show Owes _ _ _ _ (s₁.setTop (mkF m 105 #[.val (.int p0)] [(.int (94 : Int32)), (.int p0)]))
                            by_cases hc14 : p0 = (94 : Int32)
                            · skip
                              refine Owes.go ?_ fun t k => XS.icmpYes X0.here hx rfl (pc0 := 105) (pc' := 132) rfl (hb hby d2_105) rfl (teq hc14).1 (by decide) (by decide) k
                              show Owes _ _ _ _ (s₁.setTop (mkF m 132 #[.val (.int p0)] []))
                              refine Owes.go ?_ fun t k => XS.iconst X0.here hx rfl (hb hby d2_132) k
                              show Owes _ _ _ _ (s₁.setTop (mkF m 133 #[.val (.int p0)] [(.int (1 : Int32))]))
                              refine Owes.go ?_ fun t k => XS.goto X0.here hx rfl (pc0 := 133) (pc' := 137) rfl (hb hby d2_133) (by decide) (by decide) k
                              show Owes _ _ _ _ (s₁.setTop (mkF m 137 #[.val (.int p0)] [(.int (1 : Int32))]))
                              exact Owes.retN X0 hx hlk hret (by simp) (hb hby d2_137) (by decide) (by decide) ⟨congrArg (fun z => some (Value.int z)) (by unfold f_tch; rw [if_pos hc1, if_pos hc2, if_pos hc3, if_neg hc4, if_neg hc5, if_neg hc6, if_neg hc7, if_neg hc8, if_neg hc9, if_neg hc10, if_neg hc11, if_neg hc12, if_neg hc13, if_pos hc14]; first | done | rfl), rfl, e0⟩
                            · skip
                              refine Owes.go ?_ fun t k => XS.icmpNo X0.here hx rfl (hb hby d2_105) rfl (feq hc14).1 k
                              show Owes _ _ _ _ (s₁.setTop (mkF m 108 #[.val (.int p0)] []))
                              refine Owes.go ?_ fun t k => XS.iloadN X0.here hx rfl (hb hby d2_108) rfl k
                              show Owes _ _ _ _ (s₁.setTop (mkF m 109 #[.val (.int p0)] [(.int p0)]))
                              refine Owes.go ?_ fun t k => XS.bipush X0.here hx rfl (hb hby d2_109) k
                              show Owes _ _ _ _ (s₁.setTop (mkF m 111 #[.val (.int p0)] [(.int (95 : Int32)), (.int p0)]))
                              by_cases hc15 : p0 = (95 : Int32)
                              · skip
                                refine Owes.go ?_ fun t k => XS.icmpYes X0.here hx rfl (pc0 := 111) (pc' := 132) rfl (hb hby d2_111) rfl (teq hc15).1 (by decide) (by decide) k
                                show Owes _ _ _ _ (s₁.setTop (mkF m 132 #[.val (.int p0)] []))
                                refine Owes.go ?_ fun t k => XS.iconst X0.here hx rfl (hb hby d2_132) k
                                show Owes _ _ _ _ (s₁.setTop (mkF m 133 #[.val (.int p0)] [(.int (1 : Int32))]))
                                refine Owes.go ?_ fun t k => XS.goto X0.here hx rfl (pc0 := 133) (pc' := 137) rfl (hb hby d2_133) (by decide) (by decide) k
                                show Owes _ _ _ _ (s₁.setTop (mkF m 137 #[.val (.int p0)] [(.int (1 : Int32))]))
                                exact Owes.retN X0 hx hlk hret (by simp) (hb hby d2_137) (by decide) (by decide) ⟨congrArg (fun z => some (Value.int z)) (by unfold f_tch; rw [if_pos hc1, if_pos hc2, if_pos hc3, if_neg hc4, if_neg hc5, if_neg hc6, if_neg hc7, if_neg hc8, if_neg hc9, if_neg hc10, if_neg hc11, if_neg hc12, if_neg hc13, if_neg hc14, if_pos hc15]; first | done | rfl), rfl, e0⟩
                              · skip
                                refine Owes.go ?_ fun t k => XS.icmpNo X0.here hx rfl (hb hby d2_111) rfl (feq hc15).1 k
                                show Owes _ _ _ _ (s₁.setTop (mkF m 114 #[.val (.int p0)] []))
                                refine Owes.go ?_ fun t k => XS.iloadN X0.here hx rfl (hb hby d2_114) rfl k
                                show Owes _ _ _ _ (s₁.setTop (mkF m 115 #[.val (.int p0)] [(.int p0)]))
                                refine Owes.go ?_ fun t k => XS.bipush X0.here hx rfl (hb hby d2_115) k
                                show Owes _ _ _ _ (s₁.setTop (mkF m 117 #[.val (.int p0)] [(.int (96 : Int32)), (.int p0)]))
                                by_cases hc16 : p0 = (96 : Int32)
                                · skip
                                  refine Owes.go ?_ fun t k => XS.icmpYes X0.here hx rfl (pc0 := 117) (pc' := 132) rfl (hb hby d2_117) rfl (teq hc16).1 (by decide) (by decide) k
                                  show Owes _ _ _ _ (s₁.setTop (mkF m 132 #[.val (.int p0)] []))
                                  refine Owes.go ?_ fun t k => XS.iconst X0.here hx rfl (hb hby d2_132) k
                                  show Owes _ _ _ _ (s₁.setTop (mkF m 133 #[.val (.int p0)] [(.int (1 : Int32))]))
                                  refine Owes.go ?_ fun t k => XS.goto X0.here hx rfl (pc0 := 133) (pc' := 137) rfl (hb hby d2_133) (by decide) (by decide) k
                                  show Owes _ _ _ _ (s₁.setTop (mkF m 137 #[.val (.int p0)] [(.int (1 : Int32))]))
                                  exact Owes.retN X0 hx hlk hret (by simp) (hb hby d2_137) (by decide) (by decide) ⟨congrArg (fun z => some (Value.int z)) (by unfold f_tch; rw [if_pos hc1, if_pos hc2, if_pos hc3, if_neg hc4, if_neg hc5, if_neg hc6, if_neg hc7, if_neg hc8, if_neg hc9, if_neg hc10, if_neg hc11, if_neg hc12, if_neg hc13, if_neg hc14, if_neg hc15, if_pos hc16]; first | done | rfl), rfl, e0⟩
                                · skip
                                  refine Owes.go ?_ fun t k => XS.icmpNo X0.here hx rfl (hb hby d2_117) rfl (feq hc16).1 k
                                  show Owes _ _ _ _ (s₁.setTop (mkF m 120 #[.val (.int p0)] []))
                                  refine Owes.go ?_ fun t k => XS.iloadN X0.here hx rfl (hb hby d2_120) rfl k
                                  show Owes _ _ _ _ (s₁.setTop (mkF m 121 #[.val (.int p0)] [(.int p0)]))
                                  refine Owes.go ?_ fun t k => XS.bipush X0.here hx rfl (hb hby d2_121) k
                                  show Owes _ _ _ _ (s₁.setTop (mkF m 123 #[.val (.int p0)] [(.int (124 : Int32)), (.int p0)]))
                                  by_cases hc17 : p0 = (124 : Int32)
                                  · skip
                                    refine Owes.go ?_ fun t k => XS.icmpYes X0.here hx rfl (pc0 := 123) (pc' := 132) rfl (hb hby d2_123) rfl (teq hc17).1 (by decide) (by decide) k
                                    show Owes _ _ _ _ (s₁.setTop (mkF m 132 #[.val (.int p0)] []))
                                    refine Owes.go ?_ fun t k => XS.iconst X0.here hx rfl (hb hby d2_132) k
                                    show Owes _ _ _ _ (s₁.setTop (mkF m 133 #[.val (.int p0)] [(.int (1 : Int32))]))
                                    refine Owes.go ?_ fun t k => XS.goto X0.here hx rfl (pc0 := 133) (pc' := 137) rfl (hb hby d2_133) (by decide) (by decide) k
                                    show Owes _ _ _ _ (s₁.setTop (mkF m 137 #[.val (.int p0)] [(.int (1 : Int32))]))
                                    exact Owes.retN X0 hx hlk hret (by simp) (hb hby d2_137) (by decide) (by decide) ⟨congrArg (fun z => some (Value.int z)) (by unfold f_tch; rw [if_pos hc1, if_pos hc2, if_pos hc3, if_neg hc4, if_neg hc5, if_neg hc6, if_neg hc7, if_neg hc8, if_neg hc9, if_neg hc10, if_neg hc11, if_neg hc12, if_neg hc13, if_neg hc14, if_neg hc15, if_neg hc16, if_pos hc17]; first | done | rfl), rfl, e0⟩
                                  · skip
                                    refine Owes.go ?_ fun t k => XS.icmpNo X0.here hx rfl (hb hby d2_123) rfl (feq hc17).1 k
                                    show Owes _ _ _ _ (s₁.setTop (mkF m 126 #[.val (.int p0)] []))
                                    refine Owes.go ?_ fun t k => XS.iloadN X0.here hx rfl (hb hby d2_126) rfl k
                                    show Owes _ _ _ _ (s₁.setTop (mkF m 127 #[.val (.int p0)] [(.int p0)]))
                                    refine Owes.go ?_ fun t k => XS.bipush X0.here hx rfl (hb hby d2_127) k
                                    show Owes _ _ _ _ (s₁.setTop (mkF m 129 #[.val (.int p0)] [(.int (126 : Int32)), (.int p0)]))
                                    by_cases hc18 : p0 = (126 : Int32)
                                    · skip
                                      refine Owes.go ?_ fun t k => XS.icmpNo X0.here hx rfl (hb hby d2_129) rfl (teq hc18).2 k
                                      show Owes _ _ _ _ (s₁.setTop (mkF m 132 #[.val (.int p0)] []))
                                      refine Owes.go ?_ fun t k => XS.iconst X0.here hx rfl (hb hby d2_132) k
                                      show Owes _ _ _ _ (s₁.setTop (mkF m 133 #[.val (.int p0)] [(.int (1 : Int32))]))
                                      refine Owes.go ?_ fun t k => XS.goto X0.here hx rfl (pc0 := 133) (pc' := 137) rfl (hb hby d2_133) (by decide) (by decide) k
                                      show Owes _ _ _ _ (s₁.setTop (mkF m 137 #[.val (.int p0)] [(.int (1 : Int32))]))
                                      exact Owes.retN X0 hx hlk hret (by simp) (hb hby d2_137) (by decide) (by decide) ⟨congrArg (fun z => some (Value.int z)) (by unfold f_tch; rw [if_pos hc1, if_pos hc2, if_pos hc3, if_neg hc4, if_neg hc5, if_neg hc6, if_neg hc7, if_neg hc8, if_neg hc9, if_neg hc10, if_neg hc11, if_neg hc12, if_neg hc13, if_neg hc14, if_neg hc15, if_neg hc16, if_neg hc17, if_pos hc18]; first | done | rfl), rfl, e0⟩
                                    · skip
                                      refine Owes.go ?_ fun t k => XS.icmpYes X0.here hx rfl (pc0 := 129) (pc' := 136) rfl (hb hby d2_129) rfl (feq hc18).2 (by decide) (by decide) k
                                      show Owes _ _ _ _ (s₁.setTop (mkF m 136 #[.val (.int p0)] []))
                                      refine Owes.go ?_ fun t k => XS.iconst X0.here hx rfl (hb hby d2_136) k
                                      show Owes _ _ _ _ (s₁.setTop (mkF m 137 #[.val (.int p0)] [(.int (0 : Int32))]))
                                      exact Owes.retN X0 hx hlk hret (by simp) (hb hby d2_137) (by decide) (by decide) ⟨congrArg (fun z => some (Value.int z)) (by unfold f_tch; rw [if_pos hc1, if_pos hc2, if_pos hc3, if_neg hc4, if_neg hc5, if_neg hc6, if_neg hc7, if_neg hc8, if_neg hc9, if_neg hc10, if_neg hc11, if_neg hc12, if_neg hc13, if_neg hc14, if_neg hc15, if_neg hc16, if_neg hc17, if_neg hc18]; first | done | rfl), rfl, e0⟩
      · skip
        refine Owes.go ?_ fun t k => XS.icmpNo X0.here hx rfl (hb hby d2_31) rfl (flt hc3).1 k
        show Owes _ _ _ _ (s₁.setTop (mkF m 34 #[.val (.int p0)] []))
        refine Owes.go ?_ fun t k => XS.iloadN X0.here hx rfl (hb hby d2_34) rfl k
        show Owes _ _ _ _ (s₁.setTop (mkF m 35 #[.val (.int p0)] [(.int p0)]))
        refine Owes.go ?_ fun t k => XS.bipush X0.here hx rfl (hb hby d2_35) k
        show Owes _ _ _ _ (s₁.setTop (mkF m 37 #[.val (.int p0)] [(.int (90 : Int32)), (.int p0)]))
        by_cases hc19 : (90 : Int32) < p0
        · skip
          refine Owes.go ?_ fun t k => XS.icmpYes X0.here hx rfl (pc0 := 37) (pc' := 42) rfl (hb hby d2_37) rfl (tlt hc19).2.2.1 (by decide) (by decide) k
          show Owes _ _ _ _ (s₁.setTop (mkF m 42 #[.val (.int p0)] []))
          refine Owes.go ?_ fun t k => XS.iloadN X0.here hx rfl (hb hby d2_42) rfl k
          show Owes _ _ _ _ (s₁.setTop (mkF m 43 #[.val (.int p0)] [(.int p0)]))
          refine Owes.go ?_ fun t k => XS.bipush X0.here hx rfl (hb hby d2_43) k
          show Owes _ _ _ _ (s₁.setTop (mkF m 45 #[.val (.int p0)] [(.int (33 : Int32)), (.int p0)]))
          by_cases hc20 : p0 = (33 : Int32)
          · skip
            refine Owes.go ?_ fun t k => XS.icmpYes X0.here hx rfl (pc0 := 45) (pc' := 132) rfl (hb hby d2_45) rfl (teq hc20).1 (by decide) (by decide) k
            show Owes _ _ _ _ (s₁.setTop (mkF m 132 #[.val (.int p0)] []))
            refine Owes.go ?_ fun t k => XS.iconst X0.here hx rfl (hb hby d2_132) k
            show Owes _ _ _ _ (s₁.setTop (mkF m 133 #[.val (.int p0)] [(.int (1 : Int32))]))
            refine Owes.go ?_ fun t k => XS.goto X0.here hx rfl (pc0 := 133) (pc' := 137) rfl (hb hby d2_133) (by decide) (by decide) k
            show Owes _ _ _ _ (s₁.setTop (mkF m 137 #[.val (.int p0)] [(.int (1 : Int32))]))
            exact Owes.retN X0 hx hlk hret (by simp) (hb hby d2_137) (by decide) (by decide) ⟨congrArg (fun z => some (Value.int z)) (by unfold f_tch; rw [if_pos hc1, if_pos hc2, if_neg hc3, if_pos hc19, if_pos hc20]; first | done | rfl), rfl, e0⟩
          · skip
            refine Owes.go ?_ fun t k => XS.icmpNo X0.here hx rfl (hb hby d2_45) rfl (feq hc20).1 k
            show Owes _ _ _ _ (s₁.setTop (mkF m 48 #[.val (.int p0)] []))
            refine Owes.go ?_ fun t k => XS.iloadN X0.here hx rfl (hb hby d2_48) rfl k
            show Owes _ _ _ _ (s₁.setTop (mkF m 49 #[.val (.int p0)] [(.int p0)]))
            refine Owes.go ?_ fun t k => XS.bipush X0.here hx rfl (hb hby d2_49) k
            show Owes _ _ _ _ (s₁.setTop (mkF m 51 #[.val (.int p0)] [(.int (35 : Int32)), (.int p0)]))
            by_cases hc21 : p0 = (35 : Int32)
            · skip
              refine Owes.go ?_ fun t k => XS.icmpYes X0.here hx rfl (pc0 := 51) (pc' := 132) rfl (hb hby d2_51) rfl (teq hc21).1 (by decide) (by decide) k
              show Owes _ _ _ _ (s₁.setTop (mkF m 132 #[.val (.int p0)] []))
              refine Owes.go ?_ fun t k => XS.iconst X0.here hx rfl (hb hby d2_132) k
              show Owes _ _ _ _ (s₁.setTop (mkF m 133 #[.val (.int p0)] [(.int (1 : Int32))]))
              refine Owes.go ?_ fun t k => XS.goto X0.here hx rfl (pc0 := 133) (pc' := 137) rfl (hb hby d2_133) (by decide) (by decide) k
              show Owes _ _ _ _ (s₁.setTop (mkF m 137 #[.val (.int p0)] [(.int (1 : Int32))]))
              exact Owes.retN X0 hx hlk hret (by simp) (hb hby d2_137) (by decide) (by decide) ⟨congrArg (fun z => some (Value.int z)) (by unfold f_tch; rw [if_pos hc1, if_pos hc2, if_neg hc3, if_pos hc19, if_neg hc20, if_pos hc21]; first | done | rfl), rfl, e0⟩
            · skip
              refine Owes.go ?_ fun t k => XS.icmpNo X0.here hx rfl (hb hby d2_51) rfl (feq hc21).1 k
              show Owes _ _ _ _ (s₁.setTop (mkF m 54 #[.val (.int p0)] []))
              refine Owes.go ?_ fun t k => XS.iloadN X0.here hx rfl (hb hby d2_54) rfl k
              show Owes _ _ _ _ (s₁.setTop (mkF m 55 #[.val (.int p0)] [(.int p0)]))
              refine Owes.go ?_ fun t k => XS.bipush X0.here hx rfl (hb hby d2_55) k
              show Owes _ _ _ _ (s₁.setTop (mkF m 57 #[.val (.int p0)] [(.int (36 : Int32)), (.int p0)]))
              by_cases hc22 : p0 = (36 : Int32)
              · skip
                refine Owes.go ?_ fun t k => XS.icmpYes X0.here hx rfl (pc0 := 57) (pc' := 132) rfl (hb hby d2_57) rfl (teq hc22).1 (by decide) (by decide) k
                show Owes _ _ _ _ (s₁.setTop (mkF m 132 #[.val (.int p0)] []))
                refine Owes.go ?_ fun t k => XS.iconst X0.here hx rfl (hb hby d2_132) k
                show Owes _ _ _ _ (s₁.setTop (mkF m 133 #[.val (.int p0)] [(.int (1 : Int32))]))
                refine Owes.go ?_ fun t k => XS.goto X0.here hx rfl (pc0 := 133) (pc' := 137) rfl (hb hby d2_133) (by decide) (by decide) k
                show Owes _ _ _ _ (s₁.setTop (mkF m 137 #[.val (.int p0)] [(.int (1 : Int32))]))
                exact Owes.retN X0 hx hlk hret (by simp) (hb hby d2_137) (by decide) (by decide) ⟨congrArg (fun z => some (Value.int z)) (by unfold f_tch; rw [if_pos hc1, if_pos hc2, if_neg hc3, if_pos hc19, if_neg hc20, if_neg hc21, if_pos hc22]; first | done | rfl), rfl, e0⟩
              · skip
                refine Owes.go ?_ fun t k => XS.icmpNo X0.here hx rfl (hb hby d2_57) rfl (feq hc22).1 k
                show Owes _ _ _ _ (s₁.setTop (mkF m 60 #[.val (.int p0)] []))
                refine Owes.go ?_ fun t k => XS.iloadN X0.here hx rfl (hb hby d2_60) rfl k
                show Owes _ _ _ _ (s₁.setTop (mkF m 61 #[.val (.int p0)] [(.int p0)]))
                refine Owes.go ?_ fun t k => XS.bipush X0.here hx rfl (hb hby d2_61) k
                show Owes _ _ _ _ (s₁.setTop (mkF m 63 #[.val (.int p0)] [(.int (37 : Int32)), (.int p0)]))
                by_cases hc23 : p0 = (37 : Int32)
                · skip
                  refine Owes.go ?_ fun t k => XS.icmpYes X0.here hx rfl (pc0 := 63) (pc' := 132) rfl (hb hby d2_63) rfl (teq hc23).1 (by decide) (by decide) k
                  show Owes _ _ _ _ (s₁.setTop (mkF m 132 #[.val (.int p0)] []))
                  refine Owes.go ?_ fun t k => XS.iconst X0.here hx rfl (hb hby d2_132) k
                  show Owes _ _ _ _ (s₁.setTop (mkF m 133 #[.val (.int p0)] [(.int (1 : Int32))]))
                  refine Owes.go ?_ fun t k => XS.goto X0.here hx rfl (pc0 := 133) (pc' := 137) rfl (hb hby d2_133) (by decide) (by decide) k
                  show Owes _ _ _ _ (s₁.setTop (mkF m 137 #[.val (.int p0)] [(.int (1 : Int32))]))
                  exact Owes.retN X0 hx hlk hret (by simp) (hb hby d2_137) (by decide) (by decide) ⟨congrArg (fun z => some (Value.int z)) (by unfold f_tch; rw [if_pos hc1, if_pos hc2, if_neg hc3, if_pos hc19, if_neg hc20, if_neg hc21, if_neg hc22, if_pos hc23]; first | done | rfl), rfl, e0⟩
                · skip
                  refine Owes.go ?_ fun t k => XS.icmpNo X0.here hx rfl (hb hby d2_63) rfl (feq hc23).1 k
                  show Owes _ _ _ _ (s₁.setTop (mkF m 66 #[.val (.int p0)] []))
                  refine Owes.go ?_ fun t k => XS.iloadN X0.here hx rfl (hb hby d2_66) rfl k
                  show Owes _ _ _ _ (s₁.setTop (mkF m 67 #[.val (.int p0)] [(.int p0)]))
                  refine Owes.go ?_ fun t k => XS.bipush X0.here hx rfl (hb hby d2_67) k
                  show Owes _ _ _ _ (s₁.setTop (mkF m 69 #[.val (.int p0)] [(.int (38 : Int32)), (.int p0)]))
                  by_cases hc24 : p0 = (38 : Int32)
                  · skip
                    refine Owes.go ?_ fun t k => XS.icmpYes X0.here hx rfl (pc0 := 69) (pc' := 132) rfl (hb hby d2_69) rfl (teq hc24).1 (by decide) (by decide) k
                    show Owes _ _ _ _ (s₁.setTop (mkF m 132 #[.val (.int p0)] []))
                    refine Owes.go ?_ fun t k => XS.iconst X0.here hx rfl (hb hby d2_132) k
                    show Owes _ _ _ _ (s₁.setTop (mkF m 133 #[.val (.int p0)] [(.int (1 : Int32))]))
                    refine Owes.go ?_ fun t k => XS.goto X0.here hx rfl (pc0 := 133) (pc' := 137) rfl (hb hby d2_133) (by decide) (by decide) k
                    show Owes _ _ _ _ (s₁.setTop (mkF m 137 #[.val (.int p0)] [(.int (1 : Int32))]))
                    exact Owes.retN X0 hx hlk hret (by simp) (hb hby d2_137) (by decide) (by decide) ⟨congrArg (fun z => some (Value.int z)) (by unfold f_tch; rw [if_pos hc1, if_pos hc2, if_neg hc3, if_pos hc19, if_neg hc20, if_neg hc21, if_neg hc22, if_neg hc23, if_pos hc24]; first | done | rfl), rfl, e0⟩
                  · skip
                    refine Owes.go ?_ fun t k => XS.icmpNo X0.here hx rfl (hb hby d2_69) rfl (feq hc24).1 k
                    show Owes _ _ _ _ (s₁.setTop (mkF m 72 #[.val (.int p0)] []))
                    refine Owes.go ?_ fun t k => XS.iloadN X0.here hx rfl (hb hby d2_72) rfl k
                    show Owes _ _ _ _ (s₁.setTop (mkF m 73 #[.val (.int p0)] [(.int p0)]))
                    refine Owes.go ?_ fun t k => XS.bipush X0.here hx rfl (hb hby d2_73) k
                    show Owes _ _ _ _ (s₁.setTop (mkF m 75 #[.val (.int p0)] [(.int (39 : Int32)), (.int p0)]))
                    by_cases hc25 : p0 = (39 : Int32)
                    · skip
                      refine Owes.go ?_ fun t k => XS.icmpYes X0.here hx rfl (pc0 := 75) (pc' := 132) rfl (hb hby d2_75) rfl (teq hc25).1 (by decide) (by decide) k
                      show Owes _ _ _ _ (s₁.setTop (mkF m 132 #[.val (.int p0)] []))
                      refine Owes.go ?_ fun t k => XS.iconst X0.here hx rfl (hb hby d2_132) k
                      show Owes _ _ _ _ (s₁.setTop (mkF m 133 #[.val (.int p0)] [(.int (1 : Int32))]))
                      refine Owes.go ?_ fun t k => XS.goto X0.here hx rfl (pc0 := 133) (pc' := 137) rfl (hb hby d2_133) (by decide) (by decide) k
                      show Owes _ _ _ _ (s₁.setTop (mkF m 137 #[.val (.int p0)] [(.int (1 : Int32))]))
                      exact Owes.retN X0 hx hlk hret (by simp) (hb hby d2_137) (by decide) (by decide) ⟨congrArg (fun z => some (Value.int z)) (by unfold f_tch; rw [if_pos hc1, if_pos hc2, if_neg hc3, if_pos hc19, if_neg hc20, if_neg hc21, if_neg hc22, if_neg hc23, if_neg hc24, if_pos hc25]; first | done | rfl), rfl, e0⟩
                    · skip
                      refine Owes.go ?_ fun t k => XS.icmpNo X0.here hx rfl (hb hby d2_75) rfl (feq hc25).1 k
                      show Owes _ _ _ _ (s₁.setTop (mkF m 78 #[.val (.int p0)] []))
                      refine Owes.go ?_ fun t k => XS.iloadN X0.here hx rfl (hb hby d2_78) rfl k
                      show Owes _ _ _ _ (s₁.setTop (mkF m 79 #[.val (.int p0)] [(.int p0)]))
                      refine Owes.go ?_ fun t k => XS.bipush X0.here hx rfl (hb hby d2_79) k
                      show Owes _ _ _ _ (s₁.setTop (mkF m 81 #[.val (.int p0)] [(.int (42 : Int32)), (.int p0)]))
                      by_cases hc26 : p0 = (42 : Int32)
                      · skip
                        refine Owes.go ?_ fun t k => XS.icmpYes X0.here hx rfl (pc0 := 81) (pc' := 132) rfl (hb hby d2_81) rfl (teq hc26).1 (by decide) (by decide) k
                        show Owes _ _ _ _ (s₁.setTop (mkF m 132 #[.val (.int p0)] []))
                        refine Owes.go ?_ fun t k => XS.iconst X0.here hx rfl (hb hby d2_132) k
                        show Owes _ _ _ _ (s₁.setTop (mkF m 133 #[.val (.int p0)] [(.int (1 : Int32))]))
                        refine Owes.go ?_ fun t k => XS.goto X0.here hx rfl (pc0 := 133) (pc' := 137) rfl (hb hby d2_133) (by decide) (by decide) k
                        show Owes _ _ _ _ (s₁.setTop (mkF m 137 #[.val (.int p0)] [(.int (1 : Int32))]))
                        exact Owes.retN X0 hx hlk hret (by simp) (hb hby d2_137) (by decide) (by decide) ⟨congrArg (fun z => some (Value.int z)) (by unfold f_tch; rw [if_pos hc1, if_pos hc2, if_neg hc3, if_pos hc19, if_neg hc20, if_neg hc21, if_neg hc22, if_neg hc23, if_neg hc24, if_neg hc25, if_pos hc26]; first | done | rfl), rfl, e0⟩
                      · skip
                        refine Owes.go ?_ fun t k => XS.icmpNo X0.here hx rfl (hb hby d2_81) rfl (feq hc26).1 k
                        show Owes _ _ _ _ (s₁.setTop (mkF m 84 #[.val (.int p0)] []))
                        refine Owes.go ?_ fun t k => XS.iloadN X0.here hx rfl (hb hby d2_84) rfl k
                        show Owes _ _ _ _ (s₁.setTop (mkF m 85 #[.val (.int p0)] [(.int p0)]))
                        refine Owes.go ?_ fun t k => XS.bipush X0.here hx rfl (hb hby d2_85) k
                        show Owes _ _ _ _ (s₁.setTop (mkF m 87 #[.val (.int p0)] [(.int (43 : Int32)), (.int p0)]))
                        by_cases hc27 : p0 = (43 : Int32)
                        · skip
                          refine Owes.go ?_ fun t k => XS.icmpYes X0.here hx rfl (pc0 := 87) (pc' := 132) rfl (hb hby d2_87) rfl (teq hc27).1 (by decide) (by decide) k
                          show Owes _ _ _ _ (s₁.setTop (mkF m 132 #[.val (.int p0)] []))
                          refine Owes.go ?_ fun t k => XS.iconst X0.here hx rfl (hb hby d2_132) k
                          show Owes _ _ _ _ (s₁.setTop (mkF m 133 #[.val (.int p0)] [(.int (1 : Int32))]))
                          refine Owes.go ?_ fun t k => XS.goto X0.here hx rfl (pc0 := 133) (pc' := 137) rfl (hb hby d2_133) (by decide) (by decide) k
                          show Owes _ _ _ _ (s₁.setTop (mkF m 137 #[.val (.int p0)] [(.int (1 : Int32))]))
                          exact Owes.retN X0 hx hlk hret (by simp) (hb hby d2_137) (by decide) (by decide) ⟨congrArg (fun z => some (Value.int z)) (by unfold f_tch; rw [if_pos hc1, if_pos hc2, if_neg hc3, if_pos hc19, if_neg hc20, if_neg hc21, if_neg hc22, if_neg hc23, if_neg hc24, if_neg hc25, if_neg hc26, if_pos hc27]; first | done | rfl), rfl, e0⟩
                        · skip
                          refine Owes.go ?_ fun t k => XS.icmpNo X0.here hx rfl (hb hby d2_87) rfl (feq hc27).1 k
                          show Owes _ _ _ _ (s₁.setTop (mkF m 90 #[.val (.int p0)] []))
                          refine Owes.go ?_ fun t k => XS.iloadN X0.here hx rfl (hb hby d2_90) rfl k
                          show Owes _ _ _ _ (s₁.setTop (mkF m 91 #[.val (.int p0)] [(.int p0)]))
                          refine Owes.go ?_ fun t k => XS.bipush X0.here hx rfl (hb hby d2_91) k
                          show Owes _ _ _ _ (s₁.setTop (mkF m 93 #[.val (.int p0)] [(.int (45 : Int32)), (.int p0)]))
                          by_cases hc28 : p0 = (45 : Int32)
                          · skip
                            refine Owes.go ?_ fun t k => XS.icmpYes X0.here hx rfl (pc0 := 93) (pc' := 132) rfl (hb hby d2_93) rfl (teq hc28).1 (by decide) (by decide) k
                            show Owes _ _ _ _ (s₁.setTop (mkF m 132 #[.val (.int p0)] []))
                            refine Owes.go ?_ fun t k => XS.iconst X0.here hx rfl (hb hby d2_132) k
                            show Owes _ _ _ _ (s₁.setTop (mkF m 133 #[.val (.int p0)] [(.int (1 : Int32))]))
                            refine Owes.go ?_ fun t k => XS.goto X0.here hx rfl (pc0 := 133) (pc' := 137) rfl (hb hby d2_133) (by decide) (by decide) k
                            show Owes _ _ _ _ (s₁.setTop (mkF m 137 #[.val (.int p0)] [(.int (1 : Int32))]))
                            exact Owes.retN X0 hx hlk hret (by simp) (hb hby d2_137) (by decide) (by decide) ⟨congrArg (fun z => some (Value.int z)) (by unfold f_tch; rw [if_pos hc1, if_pos hc2, if_neg hc3, if_pos hc19, if_neg hc20, if_neg hc21, if_neg hc22, if_neg hc23, if_neg hc24, if_neg hc25, if_neg hc26, if_neg hc27, if_pos hc28]; first | done | rfl), rfl, e0⟩
                          · skip
                            refine Owes.go ?_ fun t k => XS.icmpNo X0.here hx rfl (hb hby d2_93) rfl (feq hc28).1 k
                            show Owes _ _ _ _ (s₁.setTop (mkF m 96 #[.val (.int p0)] []))
                            refine Owes.go ?_ fun t k => XS.iloadN X0.here hx rfl (hb hby d2_96) rfl k
                            show Owes _ _ _ _ (s₁.setTop (mkF m 97 #[.val (.int p0)] [(.int p0)]))
                            refine Owes.go ?_ fun t k => XS.bipush X0.here hx rfl (hb hby d2_97) k
                            show Owes _ _ _ _ (s₁.setTop (mkF m 99 #[.val (.int p0)] [(.int (46 : Int32)), (.int p0)]))
                            by_cases hc29 : p0 = (46 : Int32)
                            · skip
                              refine Owes.go ?_ fun t k => XS.icmpYes X0.here hx rfl (pc0 := 99) (pc' := 132) rfl (hb hby d2_99) rfl (teq hc29).1 (by decide) (by decide) k
                              show Owes _ _ _ _ (s₁.setTop (mkF m 132 #[.val (.int p0)] []))
                              refine Owes.go ?_ fun t k => XS.iconst X0.here hx rfl (hb hby d2_132) k
                              show Owes _ _ _ _ (s₁.setTop (mkF m 133 #[.val (.int p0)] [(.int (1 : Int32))]))
                              refine Owes.go ?_ fun t k => XS.goto X0.here hx rfl (pc0 := 133) (pc' := 137) rfl (hb hby d2_133) (by decide) (by decide) k
                              show Owes _ _ _ _ (s₁.setTop (mkF m 137 #[.val (.int p0)] [(.int (1 : Int32))]))
                              exact Owes.retN X0 hx hlk hret (by simp) (hb hby d2_137) (by decide) (by decide) ⟨congrArg (fun z => some (Value.int z)) (by unfold f_tch; rw [if_pos hc1, if_pos hc2, if_neg hc3, if_pos hc19, if_neg hc20, if_neg hc21, if_neg hc22, if_neg hc23, if_neg hc24, if_neg hc25, if_neg hc26, if_neg hc27, if_neg hc28, if_pos hc29]; first | done | rfl), rfl, e0⟩
                            · skip
                              refine Owes.go ?_ fun t k => XS.icmpNo X0.here hx rfl (hb hby d2_99) rfl (feq hc29).1 k
                              show Owes _ _ _ _ (s₁.setTop (mkF m 102 #[.val (.int p0)] []))
                              refine Owes.go ?_ fun t k => XS.iloadN X0.here hx rfl (hb hby d2_102) rfl k
                              show Owes _ _ _ _ (s₁.setTop (mkF m 103 #[.val (.int p0)] [(.int p0)]))
                              refine Owes.go ?_ fun t k => XS.bipush X0.here hx rfl (hb hby d2_103) k
                              show Owes _ _ _ _ (s₁.setTop (mkF m 105 #[.val (.int p0)] [(.int (94 : Int32)), (.int p0)]))
                              by_cases hc30 : p0 = (94 : Int32)
                              · skip
                                refine Owes.go ?_ fun t k => XS.icmpYes X0.here hx rfl (pc0 := 105) (pc' := 132) rfl (hb hby d2_105) rfl (teq hc30).1 (by decide) (by decide) k
                                show Owes _ _ _ _ (s₁.setTop (mkF m 132 #[.val (.int p0)] []))
                                refine Owes.go ?_ fun t k => XS.iconst X0.here hx rfl (hb hby d2_132) k
                                show Owes _ _ _ _ (s₁.setTop (mkF m 133 #[.val (.int p0)] [(.int (1 : Int32))]))
                                refine Owes.go ?_ fun t k => XS.goto X0.here hx rfl (pc0 := 133) (pc' := 137) rfl (hb hby d2_133) (by decide) (by decide) k
                                show Owes _ _ _ _ (s₁.setTop (mkF m 137 #[.val (.int p0)] [(.int (1 : Int32))]))
                                exact Owes.retN X0 hx hlk hret (by simp) (hb hby d2_137) (by decide) (by decide) ⟨congrArg (fun z => some (Value.int z)) (by unfold f_tch; rw [if_pos hc1, if_pos hc2, if_neg hc3, if_pos hc19, if_neg hc20, if_neg hc21, if_neg hc22, if_neg hc23, if_neg hc24, if_neg hc25, if_neg hc26, if_neg hc27, if_neg hc28, if_neg hc29, if_pos hc30]; first | done | rfl), rfl, e0⟩
                              · skip
                                refine Owes.go ?_ fun t k => XS.icmpNo X0.here hx rfl (hb hby d2_105) rfl (feq hc30).1 k
                                show Owes _ _ _ _ (s₁.setTop (mkF m 108 #[.val (.int p0)] []))
                                refine Owes.go ?_ fun t k => XS.iloadN X0.here hx rfl (hb hby d2_108) rfl k
                                show Owes _ _ _ _ (s₁.setTop (mkF m 109 #[.val (.int p0)] [(.int p0)]))
                                refine Owes.go ?_ fun t k => XS.bipush X0.here hx rfl (hb hby d2_109) k
                                show Owes _ _ _ _ (s₁.setTop (mkF m 111 #[.val (.int p0)] [(.int (95 : Int32)), (.int p0)]))
                                by_cases hc31 : p0 = (95 : Int32)
                                · skip
                                  refine Owes.go ?_ fun t k => XS.icmpYes X0.here hx rfl (pc0 := 111) (pc' := 132) rfl (hb hby d2_111) rfl (teq hc31).1 (by decide) (by decide) k
                                  show Owes _ _ _ _ (s₁.setTop (mkF m 132 #[.val (.int p0)] []))
                                  refine Owes.go ?_ fun t k => XS.iconst X0.here hx rfl (hb hby d2_132) k
                                  show Owes _ _ _ _ (s₁.setTop (mkF m 133 #[.val (.int p0)] [(.int (1 : Int32))]))
                                  refine Owes.go ?_ fun t k => XS.goto X0.here hx rfl (pc0 := 133) (pc' := 137) rfl (hb hby d2_133) (by decide) (by decide) k
                                  show Owes _ _ _ _ (s₁.setTop (mkF m 137 #[.val (.int p0)] [(.int (1 : Int32))]))
                                  exact Owes.retN X0 hx hlk hret (by simp) (hb hby d2_137) (by decide) (by decide) ⟨congrArg (fun z => some (Value.int z)) (by unfold f_tch; rw [if_pos hc1, if_pos hc2, if_neg hc3, if_pos hc19, if_neg hc20, if_neg hc21, if_neg hc22, if_neg hc23, if_neg hc24, if_neg hc25, if_neg hc26, if_neg hc27, if_neg hc28, if_neg hc29, if_neg hc30, if_pos hc31]; first | done | rfl), rfl, e0⟩
                                · skip
                                  refine Owes.go ?_ fun t k => XS.icmpNo X0.here hx rfl (hb hby d2_111) rfl (feq hc31).1 k
                                  show Owes _ _ _ _ (s₁.setTop (mkF m 114 #[.val (.int p0)] []))
                                  refine Owes.go ?_ fun t k => XS.iloadN X0.here hx rfl (hb hby d2_114) rfl k
                                  show Owes _ _ _ _ (s₁.setTop (mkF m 115 #[.val (.int p0)] [(.int p0)]))
                                  refine Owes.go ?_ fun t k => XS.bipush X0.here hx rfl (hb hby d2_115) k
                                  show Owes _ _ _ _ (s₁.setTop (mkF m 117 #[.val (.int p0)] [(.int (96 : Int32)), (.int p0)]))
                                  by_cases hc32 : p0 = (96 : Int32)
                                  · skip
                                    refine Owes.go ?_ fun t k => XS.icmpYes X0.here hx rfl (pc0 := 117) (pc' := 132) rfl (hb hby d2_117) rfl (teq hc32).1 (by decide) (by decide) k
                                    show Owes _ _ _ _ (s₁.setTop (mkF m 132 #[.val (.int p0)] []))
                                    refine Owes.go ?_ fun t k => XS.iconst X0.here hx rfl (hb hby d2_132) k
                                    show Owes _ _ _ _ (s₁.setTop (mkF m 133 #[.val (.int p0)] [(.int (1 : Int32))]))
                                    refine Owes.go ?_ fun t k => XS.goto X0.here hx rfl (pc0 := 133) (pc' := 137) rfl (hb hby d2_133) (by decide) (by decide) k
                                    show Owes _ _ _ _ (s₁.setTop (mkF m 137 #[.val (.int p0)] [(.int (1 : Int32))]))
                                    exact Owes.retN X0 hx hlk hret (by simp) (hb hby d2_137) (by decide) (by decide) ⟨congrArg (fun z => some (Value.int z)) (by unfold f_tch; rw [if_pos hc1, if_pos hc2, if_neg hc3, if_pos hc19, if_neg hc20, if_neg hc21, if_neg hc22, if_neg hc23, if_neg hc24, if_neg hc25, if_neg hc26, if_neg hc27, if_neg hc28, if_neg hc29, if_neg hc30, if_neg hc31, if_pos hc32]; first | done | rfl), rfl, e0⟩
                                  · skip
                                    refine Owes.go ?_ fun t k => XS.icmpNo X0.here hx rfl (hb hby d2_117) rfl (feq hc32).1 k
                                    show Owes _ _ _ _ (s₁.setTop (mkF m 120 #[.val (.int p0)] []))
                                    refine Owes.go ?_ fun t k => XS.iloadN X0.here hx rfl (hb hby d2_120) rfl k
                                    show Owes _ _ _ _ (s₁.setTop (mkF m 121 #[.val (.int p0)] [(.int p0)]))
                                    refine Owes.go ?_ fun t k => XS.bipush X0.here hx rfl (hb hby d2_121) k
                                    show Owes _ _ _ _ (s₁.setTop (mkF m 123 #[.val (.int p0)] [(.int (124 : Int32)), (.int p0)]))
                                    by_cases hc33 : p0 = (124 : Int32)
                                    · skip
                                      refine Owes.go ?_ fun t k => XS.icmpYes X0.here hx rfl (pc0 := 123) (pc' := 132) rfl (hb hby d2_123) rfl (teq hc33).1 (by decide) (by decide) k
                                      show Owes _ _ _ _ (s₁.setTop (mkF m 132 #[.val (.int p0)] []))
                                      refine Owes.go ?_ fun t k => XS.iconst X0.here hx rfl (hb hby d2_132) k
                                      show Owes _ _ _ _ (s₁.setTop (mkF m 133 #[.val (.int p0)] [(.int (1 : Int32))]))
                                      refine Owes.go ?_ fun t k => XS.goto X0.here hx rfl (pc0 := 133) (pc' := 137) rfl (hb hby d2_133) (by decide) (by decide) k
                                      show Owes _ _ _ _ (s₁.setTop (mkF m 137 #[.val (.int p0)] [(.int (1 : Int32))]))
                                      exact Owes.retN X0 hx hlk hret (by simp) (hb hby d2_137) (by decide) (by decide) ⟨congrArg (fun z => some (Value.int z)) (by unfold f_tch; rw [if_pos hc1, if_pos hc2, if_neg hc3, if_pos hc19, if_neg hc20, if_neg hc21, if_neg hc22, if_neg hc23, if_neg hc24, if_neg hc25, if_neg hc26, if_neg hc27, if_neg hc28, if_neg hc29, if_neg hc30, if_neg hc31, if_neg hc32, if_pos hc33]; first | done | rfl), rfl, e0⟩
                                    · skip
                                      refine Owes.go ?_ fun t k => XS.icmpNo X0.here hx rfl (hb hby d2_123) rfl (feq hc33).1 k
                                      show Owes _ _ _ _ (s₁.setTop (mkF m 126 #[.val (.int p0)] []))
                                      refine Owes.go ?_ fun t k => XS.iloadN X0.here hx rfl (hb hby d2_126) rfl k
                                      show Owes _ _ _ _ (s₁.setTop (mkF m 127 #[.val (.int p0)] [(.int p0)]))
                                      refine Owes.go ?_ fun t k => XS.bipush X0.here hx rfl (hb hby d2_127) k
                                      show Owes _ _ _ _ (s₁.setTop (mkF m 129 #[.val (.int p0)] [(.int (126 : Int32)), (.int p0)]))
                                      by_cases hc34 : p0 = (126 : Int32)
                                      · skip
                                        refine Owes.go ?_ fun t k => XS.icmpNo X0.here hx rfl (hb hby d2_129) rfl (teq hc34).2 k
                                        show Owes _ _ _ _ (s₁.setTop (mkF m 132 #[.val (.int p0)] []))
                                        refine Owes.go ?_ fun t k => XS.iconst X0.here hx rfl (hb hby d2_132) k
                                        show Owes _ _ _ _ (s₁.setTop (mkF m 133 #[.val (.int p0)] [(.int (1 : Int32))]))
                                        refine Owes.go ?_ fun t k => XS.goto X0.here hx rfl (pc0 := 133) (pc' := 137) rfl (hb hby d2_133) (by decide) (by decide) k
                                        show Owes _ _ _ _ (s₁.setTop (mkF m 137 #[.val (.int p0)] [(.int (1 : Int32))]))
                                        exact Owes.retN X0 hx hlk hret (by simp) (hb hby d2_137) (by decide) (by decide) ⟨congrArg (fun z => some (Value.int z)) (by unfold f_tch; rw [if_pos hc1, if_pos hc2, if_neg hc3, if_pos hc19, if_neg hc20, if_neg hc21, if_neg hc22, if_neg hc23, if_neg hc24, if_neg hc25, if_neg hc26, if_neg hc27, if_neg hc28, if_neg hc29, if_neg hc30, if_neg hc31, if_neg hc32, if_neg hc33, if_pos hc34]; first | done | rfl), rfl, e0⟩
                                      · skip
                                        refine Owes.go ?_ fun t k => XS.icmpYes X0.here hx rfl (pc0 := 129) (pc' := 136) rfl (hb hby d2_129) rfl (feq hc34).2 (by decide) (by decide) k
                                        show Owes _ _ _ _ (s₁.setTop (mkF m 136 #[.val (.int p0)] []))
                                        refine Owes.go ?_ fun t k => XS.iconst X0.here hx rfl (hb hby d2_136) k
                                        show Owes _ _ _ _ (s₁.setTop (mkF m 137 #[.val (.int p0)] [(.int (0 : Int32))]))
                                        exact Owes.retN X0 hx hlk hret (by simp) (hb hby d2_137) (by decide) (by decide) ⟨congrArg (fun z => some (Value.int z)) (by unfold f_tch; rw [if_pos hc1, if_pos hc2, if_neg hc3, if_pos hc19, if_neg hc20, if_neg hc21, if_neg hc22, if_neg hc23, if_neg hc24, if_neg hc25, if_neg hc26, if_neg hc27, if_neg hc28, if_neg hc29, if_neg hc30, if_neg hc31, if_neg hc32, if_neg hc33, if_neg hc34]; first | done | rfl), rfl, e0⟩
        · skip
          refine Owes.go ?_ fun t k => XS.icmpNo X0.here hx rfl (hb hby d2_37) rfl (flt hc19).2.2.1 k
          show Owes _ _ _ _ (s₁.setTop (mkF m 40 #[.val (.int p0)] []))
          refine Owes.go ?_ fun t k => XS.iconst X0.here hx rfl (hb hby d2_40) k
          show Owes _ _ _ _ (s₁.setTop (mkF m 41 #[.val (.int p0)] [(.int (1 : Int32))]))
          exact Owes.retN X0 hx hlk hret (by simp) (hb hby d2_41) (by decide) (by decide) ⟨congrArg (fun z => some (Value.int z)) (by unfold f_tch; rw [if_pos hc1, if_pos hc2, if_neg hc3, if_neg hc19]; first | done | rfl), rfl, e0⟩
    · skip
      refine Owes.go ?_ fun t k => XS.icmpNo X0.here hx rfl (hb hby d2_17) rfl (flt hc2).1 k
      show Owes _ _ _ _ (s₁.setTop (mkF m 20 #[.val (.int p0)] []))
      refine Owes.go ?_ fun t k => XS.iloadN X0.here hx rfl (hb hby d2_20) rfl k
      show Owes _ _ _ _ (s₁.setTop (mkF m 21 #[.val (.int p0)] [(.int p0)]))
      refine Owes.go ?_ fun t k => XS.bipush X0.here hx rfl (hb hby d2_21) k
      show Owes _ _ _ _ (s₁.setTop (mkF m 23 #[.val (.int p0)] [(.int (122 : Int32)), (.int p0)]))
      by_cases hc35 : (122 : Int32) < p0
      · skip
        refine Owes.go ?_ fun t k => XS.icmpYes X0.here hx rfl (pc0 := 23) (pc' := 28) rfl (hb hby d2_23) rfl (tlt hc35).2.2.1 (by decide) (by decide) k
        show Owes _ _ _ _ (s₁.setTop (mkF m 28 #[.val (.int p0)] []))
        refine Owes.go ?_ fun t k => XS.iloadN X0.here hx rfl (hb hby d2_28) rfl k
        show Owes _ _ _ _ (s₁.setTop (mkF m 29 #[.val (.int p0)] [(.int p0)]))
        refine Owes.go ?_ fun t k => XS.bipush X0.here hx rfl (hb hby d2_29) k
        show Owes _ _ _ _ (s₁.setTop (mkF m 31 #[.val (.int p0)] [(.int (65 : Int32)), (.int p0)]))
        by_cases hc36 : p0 < (65 : Int32)
        · skip
          refine Owes.go ?_ fun t k => XS.icmpYes X0.here hx rfl (pc0 := 31) (pc' := 42) rfl (hb hby d2_31) rfl (tlt hc36).1 (by decide) (by decide) k
          show Owes _ _ _ _ (s₁.setTop (mkF m 42 #[.val (.int p0)] []))
          refine Owes.go ?_ fun t k => XS.iloadN X0.here hx rfl (hb hby d2_42) rfl k
          show Owes _ _ _ _ (s₁.setTop (mkF m 43 #[.val (.int p0)] [(.int p0)]))
          refine Owes.go ?_ fun t k => XS.bipush X0.here hx rfl (hb hby d2_43) k
          show Owes _ _ _ _ (s₁.setTop (mkF m 45 #[.val (.int p0)] [(.int (33 : Int32)), (.int p0)]))
          by_cases hc37 : p0 = (33 : Int32)
          · skip
            refine Owes.go ?_ fun t k => XS.icmpYes X0.here hx rfl (pc0 := 45) (pc' := 132) rfl (hb hby d2_45) rfl (teq hc37).1 (by decide) (by decide) k
            show Owes _ _ _ _ (s₁.setTop (mkF m 132 #[.val (.int p0)] []))
            refine Owes.go ?_ fun t k => XS.iconst X0.here hx rfl (hb hby d2_132) k
            show Owes _ _ _ _ (s₁.setTop (mkF m 133 #[.val (.int p0)] [(.int (1 : Int32))]))
            refine Owes.go ?_ fun t k => XS.goto X0.here hx rfl (pc0 := 133) (pc' := 137) rfl (hb hby d2_133) (by decide) (by decide) k
            show Owes _ _ _ _ (s₁.setTop (mkF m 137 #[.val (.int p0)] [(.int (1 : Int32))]))
            exact Owes.retN X0 hx hlk hret (by simp) (hb hby d2_137) (by decide) (by decide) ⟨congrArg (fun z => some (Value.int z)) (by unfold f_tch; rw [if_pos hc1, if_neg hc2, if_pos hc35, if_pos hc36, if_pos hc37]; first | done | rfl), rfl, e0⟩
          · skip
            refine Owes.go ?_ fun t k => XS.icmpNo X0.here hx rfl (hb hby d2_45) rfl (feq hc37).1 k
            show Owes _ _ _ _ (s₁.setTop (mkF m 48 #[.val (.int p0)] []))
            refine Owes.go ?_ fun t k => XS.iloadN X0.here hx rfl (hb hby d2_48) rfl k
            show Owes _ _ _ _ (s₁.setTop (mkF m 49 #[.val (.int p0)] [(.int p0)]))
            refine Owes.go ?_ fun t k => XS.bipush X0.here hx rfl (hb hby d2_49) k
            show Owes _ _ _ _ (s₁.setTop (mkF m 51 #[.val (.int p0)] [(.int (35 : Int32)), (.int p0)]))
            by_cases hc38 : p0 = (35 : Int32)
            · skip
              refine Owes.go ?_ fun t k => XS.icmpYes X0.here hx rfl (pc0 := 51) (pc' := 132) rfl (hb hby d2_51) rfl (teq hc38).1 (by decide) (by decide) k
              show Owes _ _ _ _ (s₁.setTop (mkF m 132 #[.val (.int p0)] []))
              refine Owes.go ?_ fun t k => XS.iconst X0.here hx rfl (hb hby d2_132) k
              show Owes _ _ _ _ (s₁.setTop (mkF m 133 #[.val (.int p0)] [(.int (1 : Int32))]))
              refine Owes.go ?_ fun t k => XS.goto X0.here hx rfl (pc0 := 133) (pc' := 137) rfl (hb hby d2_133) (by decide) (by decide) k
              show Owes _ _ _ _ (s₁.setTop (mkF m 137 #[.val (.int p0)] [(.int (1 : Int32))]))
              exact Owes.retN X0 hx hlk hret (by simp) (hb hby d2_137) (by decide) (by decide) ⟨congrArg (fun z => some (Value.int z)) (by unfold f_tch; rw [if_pos hc1, if_neg hc2, if_pos hc35, if_pos hc36, if_neg hc37, if_pos hc38]; first | done | rfl), rfl, e0⟩
            · skip
              refine Owes.go ?_ fun t k => XS.icmpNo X0.here hx rfl (hb hby d2_51) rfl (feq hc38).1 k
              show Owes _ _ _ _ (s₁.setTop (mkF m 54 #[.val (.int p0)] []))
              refine Owes.go ?_ fun t k => XS.iloadN X0.here hx rfl (hb hby d2_54) rfl k
              show Owes _ _ _ _ (s₁.setTop (mkF m 55 #[.val (.int p0)] [(.int p0)]))
              refine Owes.go ?_ fun t k => XS.bipush X0.here hx rfl (hb hby d2_55) k
              show Owes _ _ _ _ (s₁.setTop (mkF m 57 #[.val (.int p0)] [(.int (36 : Int32)), (.int p0)]))
              by_cases hc39 : p0 = (36 : Int32)
              · skip
                refine Owes.go ?_ fun t k => XS.icmpYes X0.here hx rfl (pc0 := 57) (pc' := 132) rfl (hb hby d2_57) rfl (teq hc39).1 (by decide) (by decide) k
                show Owes _ _ _ _ (s₁.setTop (mkF m 132 #[.val (.int p0)] []))
                refine Owes.go ?_ fun t k => XS.iconst X0.here hx rfl (hb hby d2_132) k
                show Owes _ _ _ _ (s₁.setTop (mkF m 133 #[.val (.int p0)] [(.int (1 : Int32))]))
                refine Owes.go ?_ fun t k => XS.goto X0.here hx rfl (pc0 := 133) (pc' := 137) rfl (hb hby d2_133) (by decide) (by decide) k
                show Owes _ _ _ _ (s₁.setTop (mkF m 137 #[.val (.int p0)] [(.int (1 : Int32))]))
                exact Owes.retN X0 hx hlk hret (by simp) (hb hby d2_137) (by decide) (by decide) ⟨congrArg (fun z => some (Value.int z)) (by unfold f_tch; rw [if_pos hc1, if_neg hc2, if_pos hc35, if_pos hc36, if_neg hc37, if_neg hc38, if_pos hc39]; first | done | rfl), rfl, e0⟩
              · skip
                refine Owes.go ?_ fun t k => XS.icmpNo X0.here hx rfl (hb hby d2_57) rfl (feq hc39).1 k
                show Owes _ _ _ _ (s₁.setTop (mkF m 60 #[.val (.int p0)] []))
                refine Owes.go ?_ fun t k => XS.iloadN X0.here hx rfl (hb hby d2_60) rfl k
                show Owes _ _ _ _ (s₁.setTop (mkF m 61 #[.val (.int p0)] [(.int p0)]))
                refine Owes.go ?_ fun t k => XS.bipush X0.here hx rfl (hb hby d2_61) k
                show Owes _ _ _ _ (s₁.setTop (mkF m 63 #[.val (.int p0)] [(.int (37 : Int32)), (.int p0)]))
                by_cases hc40 : p0 = (37 : Int32)
                · skip
                  refine Owes.go ?_ fun t k => XS.icmpYes X0.here hx rfl (pc0 := 63) (pc' := 132) rfl (hb hby d2_63) rfl (teq hc40).1 (by decide) (by decide) k
                  show Owes _ _ _ _ (s₁.setTop (mkF m 132 #[.val (.int p0)] []))
                  refine Owes.go ?_ fun t k => XS.iconst X0.here hx rfl (hb hby d2_132) k
                  show Owes _ _ _ _ (s₁.setTop (mkF m 133 #[.val (.int p0)] [(.int (1 : Int32))]))
                  refine Owes.go ?_ fun t k => XS.goto X0.here hx rfl (pc0 := 133) (pc' := 137) rfl (hb hby d2_133) (by decide) (by decide) k
                  show Owes _ _ _ _ (s₁.setTop (mkF m 137 #[.val (.int p0)] [(.int (1 : Int32))]))
                  exact Owes.retN X0 hx hlk hret (by simp) (hb hby d2_137) (by decide) (by decide) ⟨congrArg (fun z => some (Value.int z)) (by unfold f_tch; rw [if_pos hc1, if_neg hc2, if_pos hc35, if_pos hc36, if_neg hc37, if_neg hc38, if_neg hc39, if_pos hc40]; first | done | rfl), rfl, e0⟩
                · skip
                  refine Owes.go ?_ fun t k => XS.icmpNo X0.here hx rfl (hb hby d2_63) rfl (feq hc40).1 k
                  show Owes _ _ _ _ (s₁.setTop (mkF m 66 #[.val (.int p0)] []))
                  refine Owes.go ?_ fun t k => XS.iloadN X0.here hx rfl (hb hby d2_66) rfl k
                  show Owes _ _ _ _ (s₁.setTop (mkF m 67 #[.val (.int p0)] [(.int p0)]))
                  refine Owes.go ?_ fun t k => XS.bipush X0.here hx rfl (hb hby d2_67) k
                  show Owes _ _ _ _ (s₁.setTop (mkF m 69 #[.val (.int p0)] [(.int (38 : Int32)), (.int p0)]))
                  by_cases hc41 : p0 = (38 : Int32)
                  · skip
                    refine Owes.go ?_ fun t k => XS.icmpYes X0.here hx rfl (pc0 := 69) (pc' := 132) rfl (hb hby d2_69) rfl (teq hc41).1 (by decide) (by decide) k
                    show Owes _ _ _ _ (s₁.setTop (mkF m 132 #[.val (.int p0)] []))
                    refine Owes.go ?_ fun t k => XS.iconst X0.here hx rfl (hb hby d2_132) k
                    show Owes _ _ _ _ (s₁.setTop (mkF m 133 #[.val (.int p0)] [(.int (1 : Int32))]))
                    refine Owes.go ?_ fun t k => XS.goto X0.here hx rfl (pc0 := 133) (pc' := 137) rfl (hb hby d2_133) (by decide) (by decide) k
                    show Owes _ _ _ _ (s₁.setTop (mkF m 137 #[.val (.int p0)] [(.int (1 : Int32))]))
                    exact Owes.retN X0 hx hlk hret (by simp) (hb hby d2_137) (by decide) (by decide) ⟨congrArg (fun z => some (Value.int z)) (by unfold f_tch; rw [if_pos hc1, if_neg hc2, if_pos hc35, if_pos hc36, if_neg hc37, if_neg hc38, if_neg hc39, if_neg hc40, if_pos hc41]; first | done | rfl), rfl, e0⟩
                  · skip
                    refine Owes.go ?_ fun t k => XS.icmpNo X0.here hx rfl (hb hby d2_69) rfl (feq hc41).1 k
                    show Owes _ _ _ _ (s₁.setTop (mkF m 72 #[.val (.int p0)] []))
                    refine Owes.go ?_ fun t k => XS.iloadN X0.here hx rfl (hb hby d2_72) rfl k
                    show Owes _ _ _ _ (s₁.setTop (mkF m 73 #[.val (.int p0)] [(.int p0)]))
                    refine Owes.go ?_ fun t k => XS.bipush X0.here hx rfl (hb hby d2_73) k
                    show Owes _ _ _ _ (s₁.setTop (mkF m 75 #[.val (.int p0)] [(.int (39 : Int32)), (.int p0)]))
                    by_cases hc42 : p0 = (39 : Int32)
                    · skip
                      refine Owes.go ?_ fun t k => XS.icmpYes X0.here hx rfl (pc0 := 75) (pc' := 132) rfl (hb hby d2_75) rfl (teq hc42).1 (by decide) (by decide) k
                      show Owes _ _ _ _ (s₁.setTop (mkF m 132 #[.val (.int p0)] []))
                      refine Owes.go ?_ fun t k => XS.iconst X0.here hx rfl (hb hby d2_132) k
                      show Owes _ _ _ _ (s₁.setTop (mkF m 133 #[.val (.int p0)] [(.int (1 : Int32))]))
                      refine Owes.go ?_ fun t k => XS.goto X0.here hx rfl (pc0 := 133) (pc' := 137) rfl (hb hby d2_133) (by decide) (by decide) k
                      show Owes _ _ _ _ (s₁.setTop (mkF m 137 #[.val (.int p0)] [(.int (1 : Int32))]))
                      exact Owes.retN X0 hx hlk hret (by simp) (hb hby d2_137) (by decide) (by decide) ⟨congrArg (fun z => some (Value.int z)) (by unfold f_tch; rw [if_pos hc1, if_neg hc2, if_pos hc35, if_pos hc36, if_neg hc37, if_neg hc38, if_neg hc39, if_neg hc40, if_neg hc41, if_pos hc42]; first | done | rfl), rfl, e0⟩
                    · skip
                      refine Owes.go ?_ fun t k => XS.icmpNo X0.here hx rfl (hb hby d2_75) rfl (feq hc42).1 k
                      show Owes _ _ _ _ (s₁.setTop (mkF m 78 #[.val (.int p0)] []))
                      refine Owes.go ?_ fun t k => XS.iloadN X0.here hx rfl (hb hby d2_78) rfl k
                      show Owes _ _ _ _ (s₁.setTop (mkF m 79 #[.val (.int p0)] [(.int p0)]))
                      refine Owes.go ?_ fun t k => XS.bipush X0.here hx rfl (hb hby d2_79) k
                      show Owes _ _ _ _ (s₁.setTop (mkF m 81 #[.val (.int p0)] [(.int (42 : Int32)), (.int p0)]))
                      by_cases hc43 : p0 = (42 : Int32)
                      · skip
                        refine Owes.go ?_ fun t k => XS.icmpYes X0.here hx rfl (pc0 := 81) (pc' := 132) rfl (hb hby d2_81) rfl (teq hc43).1 (by decide) (by decide) k
                        show Owes _ _ _ _ (s₁.setTop (mkF m 132 #[.val (.int p0)] []))
                        refine Owes.go ?_ fun t k => XS.iconst X0.here hx rfl (hb hby d2_132) k
                        show Owes _ _ _ _ (s₁.setTop (mkF m 133 #[.val (.int p0)] [(.int (1 : Int32))]))
                        refine Owes.go ?_ fun t k => XS.goto X0.here hx rfl (pc0 := 133) (pc' := 137) rfl (hb hby d2_133) (by decide) (by decide) k
                        show Owes _ _ _ _ (s₁.setTop (mkF m 137 #[.val (.int p0)] [(.int (1 : Int32))]))
                        exact Owes.retN X0 hx hlk hret (by simp) (hb hby d2_137) (by decide) (by decide) ⟨congrArg (fun z => some (Value.int z)) (by unfold f_tch; rw [if_pos hc1, if_neg hc2, if_pos hc35, if_pos hc36, if_neg hc37, if_neg hc38, if_neg hc39, if_neg hc40, if_neg hc41, if_neg hc42, if_pos hc43]; first | done | rfl), rfl, e0⟩
                      · skip
                        refine Owes.go ?_ fun t k => XS.icmpNo X0.here hx rfl (hb hby d2_81) rfl (feq hc43).1 k
                        show Owes _ _ _ _ (s₁.setTop (mkF m 84 #[.val (.int p0)] []))
                        refine Owes.go ?_ fun t k => XS.iloadN X0.here hx rfl (hb hby d2_84) rfl k
                        show Owes _ _ _ _ (s₁.setTop (mkF m 85 #[.val (.int p0)] [(.int p0)]))
                        refine Owes.go ?_ fun t k => XS.bipush X0.here hx rfl (hb hby d2_85) k
                        show Owes _ _ _ _ (s₁.setTop (mkF m 87 #[.val (.int p0)] [(.int (43 : Int32)), (.int p0)]))
                        by_cases hc44 : p0 = (43 : Int32)
                        · skip
                          refine Owes.go ?_ fun t k => XS.icmpYes X0.here hx rfl (pc0 := 87) (pc' := 132) rfl (hb hby d2_87) rfl (teq hc44).1 (by decide) (by decide) k
                          show Owes _ _ _ _ (s₁.setTop (mkF m 132 #[.val (.int p0)] []))
                          refine Owes.go ?_ fun t k => XS.iconst X0.here hx rfl (hb hby d2_132) k
                          show Owes _ _ _ _ (s₁.setTop (mkF m 133 #[.val (.int p0)] [(.int (1 : Int32))]))
                          refine Owes.go ?_ fun t k => XS.goto X0.here hx rfl (pc0 := 133) (pc' := 137) rfl (hb hby d2_133) (by decide) (by decide) k
                          show Owes _ _ _ _ (s₁.setTop (mkF m 137 #[.val (.int p0)] [(.int (1 : Int32))]))
                          exact Owes.retN X0 hx hlk hret (by simp) (hb hby d2_137) (by decide) (by decide) ⟨congrArg (fun z => some (Value.int z)) (by unfold f_tch; rw [if_pos hc1, if_neg hc2, if_pos hc35, if_pos hc36, if_neg hc37, if_neg hc38, if_neg hc39, if_neg hc40, if_neg hc41, if_neg hc42, if_neg hc43, if_pos hc44]; first | done | rfl), rfl, e0⟩
                        · skip
                          refine Owes.go ?_ fun t k => XS.icmpNo X0.here hx rfl (hb hby d2_87) rfl (feq hc44).1 k
                          show Owes _ _ _ _ (s₁.setTop (mkF m 90 #[.val (.int p0)] []))
                          refine Owes.go ?_ fun t k => XS.iloadN X0.here hx rfl (hb hby d2_90) rfl k
                          show Owes _ _ _ _ (s₁.setTop (mkF m 91 #[.val (.int p0)] [(.int p0)]))
                          refine Owes.go ?_ fun t k => XS.bipush X0.here hx rfl (hb hby d2_91) k
                          show Owes _ _ _ _ (s₁.setTop (mkF m 93 #[.val (.int p0)] [(.int (45 : Int32)), (.int p0)]))
                          by_cases hc45 : p0 = (45 : Int32)
                          · skip
                            refine Owes.go ?_ fun t k => XS.icmpYes X0.here hx rfl (pc0 := 93) (pc' := 132) rfl (hb hby d2_93) rfl (teq hc45).1 (by decide) (by decide) k
                            show Owes _ _ _ _ (s₁.setTop (mkF m 132 #[.val (.int p0)] []))
                            refine Owes.go ?_ fun t k => XS.iconst X0.here hx rfl (hb hby d2_132) k
                            show Owes _ _ _ _ (s₁.setTop (mkF m 133 #[.val (.int p0)] [(.int (1 : Int32))]))
                            refine Owes.go ?_ fun t k => XS.goto X0.here hx rfl (pc0 := 133) (pc' := 137) rfl (hb hby d2_133) (by decide) (by decide) k
                            show Owes _ _ _ _ (s₁.setTop (mkF m 137 #[.val (.int p0)] [(.int (1 : Int32))]))
                            exact Owes.retN X0 hx hlk hret (by simp) (hb hby d2_137) (by decide) (by decide) ⟨congrArg (fun z => some (Value.int z)) (by unfold f_tch; rw [if_pos hc1, if_neg hc2, if_pos hc35, if_pos hc36, if_neg hc37, if_neg hc38, if_neg hc39, if_neg hc40, if_neg hc41, if_neg hc42, if_neg hc43, if_neg hc44, if_pos hc45]; first | done | rfl), rfl, e0⟩
                          · skip
                            refine Owes.go ?_ fun t k => XS.icmpNo X0.here hx rfl (hb hby d2_93) rfl (feq hc45).1 k
                            show Owes _ _ _ _ (s₁.setTop (mkF m 96 #[.val (.int p0)] []))
                            refine Owes.go ?_ fun t k => XS.iloadN X0.here hx rfl (hb hby d2_96) rfl k
                            show Owes _ _ _ _ (s₁.setTop (mkF m 97 #[.val (.int p0)] [(.int p0)]))
                            refine Owes.go ?_ fun t k => XS.bipush X0.here hx rfl (hb hby d2_97) k
                            show Owes _ _ _ _ (s₁.setTop (mkF m 99 #[.val (.int p0)] [(.int (46 : Int32)), (.int p0)]))
                            by_cases hc46 : p0 = (46 : Int32)
                            · skip
                              refine Owes.go ?_ fun t k => XS.icmpYes X0.here hx rfl (pc0 := 99) (pc' := 132) rfl (hb hby d2_99) rfl (teq hc46).1 (by decide) (by decide) k
                              show Owes _ _ _ _ (s₁.setTop (mkF m 132 #[.val (.int p0)] []))
                              refine Owes.go ?_ fun t k => XS.iconst X0.here hx rfl (hb hby d2_132) k
                              show Owes _ _ _ _ (s₁.setTop (mkF m 133 #[.val (.int p0)] [(.int (1 : Int32))]))
                              refine Owes.go ?_ fun t k => XS.goto X0.here hx rfl (pc0 := 133) (pc' := 137) rfl (hb hby d2_133) (by decide) (by decide) k
                              show Owes _ _ _ _ (s₁.setTop (mkF m 137 #[.val (.int p0)] [(.int (1 : Int32))]))
                              exact Owes.retN X0 hx hlk hret (by simp) (hb hby d2_137) (by decide) (by decide) ⟨congrArg (fun z => some (Value.int z)) (by unfold f_tch; rw [if_pos hc1, if_neg hc2, if_pos hc35, if_pos hc36, if_neg hc37, if_neg hc38, if_neg hc39, if_neg hc40, if_neg hc41, if_neg hc42, if_neg hc43, if_neg hc44, if_neg hc45, if_pos hc46]; first | done | rfl), rfl, e0⟩
                            · skip
                              refine Owes.go ?_ fun t k => XS.icmpNo X0.here hx rfl (hb hby d2_99) rfl (feq hc46).1 k
                              show Owes _ _ _ _ (s₁.setTop (mkF m 102 #[.val (.int p0)] []))
                              refine Owes.go ?_ fun t k => XS.iloadN X0.here hx rfl (hb hby d2_102) rfl k
                              show Owes _ _ _ _ (s₁.setTop (mkF m 103 #[.val (.int p0)] [(.int p0)]))
                              refine Owes.go ?_ fun t k => XS.bipush X0.here hx rfl (hb hby d2_103) k
                              show Owes _ _ _ _ (s₁.setTop (mkF m 105 #[.val (.int p0)] [(.int (94 : Int32)), (.int p0)]))
                              by_cases hc47 : p0 = (94 : Int32)
                              · skip
                                refine Owes.go ?_ fun t k => XS.icmpYes X0.here hx rfl (pc0 := 105) (pc' := 132) rfl (hb hby d2_105) rfl (teq hc47).1 (by decide) (by decide) k
                                show Owes _ _ _ _ (s₁.setTop (mkF m 132 #[.val (.int p0)] []))
                                refine Owes.go ?_ fun t k => XS.iconst X0.here hx rfl (hb hby d2_132) k
                                show Owes _ _ _ _ (s₁.setTop (mkF m 133 #[.val (.int p0)] [(.int (1 : Int32))]))
                                refine Owes.go ?_ fun t k => XS.goto X0.here hx rfl (pc0 := 133) (pc' := 137) rfl (hb hby d2_133) (by decide) (by decide) k
                                show Owes _ _ _ _ (s₁.setTop (mkF m 137 #[.val (.int p0)] [(.int (1 : Int32))]))
                                exact Owes.retN X0 hx hlk hret (by simp) (hb hby d2_137) (by decide) (by decide) ⟨congrArg (fun z => some (Value.int z)) (by unfold f_tch; rw [if_pos hc1, if_neg hc2, if_pos hc35, if_pos hc36, if_neg hc37, if_neg hc38, if_neg hc39, if_neg hc40, if_neg hc41, if_neg hc42, if_neg hc43, if_neg hc44, if_neg hc45, if_neg hc46, if_pos hc47]; first | done | rfl), rfl, e0⟩
                              · skip
                                refine Owes.go ?_ fun t k => XS.icmpNo X0.here hx rfl (hb hby d2_105) rfl (feq hc47).1 k
                                show Owes _ _ _ _ (s₁.setTop (mkF m 108 #[.val (.int p0)] []))
                                refine Owes.go ?_ fun t k => XS.iloadN X0.here hx rfl (hb hby d2_108) rfl k
                                show Owes _ _ _ _ (s₁.setTop (mkF m 109 #[.val (.int p0)] [(.int p0)]))
                                refine Owes.go ?_ fun t k => XS.bipush X0.here hx rfl (hb hby d2_109) k
                                show Owes _ _ _ _ (s₁.setTop (mkF m 111 #[.val (.int p0)] [(.int (95 : Int32)), (.int p0)]))
                                by_cases hc48 : p0 = (95 : Int32)
                                · skip
                                  refine Owes.go ?_ fun t k => XS.icmpYes X0.here hx rfl (pc0 := 111) (pc' := 132) rfl (hb hby d2_111) rfl (teq hc48).1 (by decide) (by decide) k
                                  show Owes _ _ _ _ (s₁.setTop (mkF m 132 #[.val (.int p0)] []))
                                  refine Owes.go ?_ fun t k => XS.iconst X0.here hx rfl (hb hby d2_132) k
                                  show Owes _ _ _ _ (s₁.setTop (mkF m 133 #[.val (.int p0)] [(.int (1 : Int32))]))
                                  refine Owes.go ?_ fun t k => XS.goto X0.here hx rfl (pc0 := 133) (pc' := 137) rfl (hb hby d2_133) (by decide) (by decide) k
                                  show Owes _ _ _ _ (s₁.setTop (mkF m 137 #[.val (.int p0)] [(.int (1 : Int32))]))
                                  exact Owes.retN X0 hx hlk hret (by simp) (hb hby d2_137) (by decide) (by decide) ⟨congrArg (fun z => some (Value.int z)) (by unfold f_tch; rw [if_pos hc1, if_neg hc2, if_pos hc35, if_pos hc36, if_neg hc37, if_neg hc38, if_neg hc39, if_neg hc40, if_neg hc41, if_neg hc42, if_neg hc43, if_neg hc44, if_neg hc45, if_neg hc46, if_neg hc47, if_pos hc48]; first | done | rfl), rfl, e0⟩
                                · skip
                                  refine Owes.go ?_ fun t k => XS.icmpNo X0.here hx rfl (hb hby d2_111) rfl (feq hc48).1 k
                                  show Owes _ _ _ _ (s₁.setTop (mkF m 114 #[.val (.int p0)] []))
                                  refine Owes.go ?_ fun t k => XS.iloadN X0.here hx rfl (hb hby d2_114) rfl k
                                  show Owes _ _ _ _ (s₁.setTop (mkF m 115 #[.val (.int p0)] [(.int p0)]))
                                  refine Owes.go ?_ fun t k => XS.bipush X0.here hx rfl (hb hby d2_115) k
                                  show Owes _ _ _ _ (s₁.setTop (mkF m 117 #[.val (.int p0)] [(.int (96 : Int32)), (.int p0)]))
                                  by_cases hc49 : p0 = (96 : Int32)
                                  · skip
                                    refine Owes.go ?_ fun t k => XS.icmpYes X0.here hx rfl (pc0 := 117) (pc' := 132) rfl (hb hby d2_117) rfl (teq hc49).1 (by decide) (by decide) k
                                    show Owes _ _ _ _ (s₁.setTop (mkF m 132 #[.val (.int p0)] []))
                                    refine Owes.go ?_ fun t k => XS.iconst X0.here hx rfl (hb hby d2_132) k
                                    show Owes _ _ _ _ (s₁.setTop (mkF m 133 #[.val (.int p0)] [(.int (1 : Int32))]))
                                    refine Owes.go ?_ fun t k => XS.goto X0.here hx rfl (pc0 := 133) (pc' := 137) rfl (hb hby d2_133) (by decide) (by decide) k
                                    show Owes _ _ _ _ (s₁.setTop (mkF m 137 #[.val (.int p0)] [(.int (1 : Int32))]))
                                    exact Owes.retN X0 hx hlk hret (by simp) (hb hby d2_137) (by decide) (by decide) ⟨congrArg (fun z => some (Value.int z)) (by unfold f_tch; rw [if_pos hc1, if_neg hc2, if_pos hc35, if_pos hc36, if_neg hc37, if_neg hc38, if_neg hc39, if_neg hc40, if_neg hc41, if_neg hc42, if_neg hc43, if_neg hc44, if_neg hc45, if_neg hc46, if_neg hc47, if_neg hc48, if_pos hc49]; first | done | rfl), rfl, e0⟩
                                  · skip
                                    refine Owes.go ?_ fun t k => XS.icmpNo X0.here hx rfl (hb hby d2_117) rfl (feq hc49).1 k
                                    show Owes _ _ _ _ (s₁.setTop (mkF m 120 #[.val (.int p0)] []))
                                    refine Owes.go ?_ fun t k => XS.iloadN X0.here hx rfl (hb hby d2_120) rfl k
                                    show Owes _ _ _ _ (s₁.setTop (mkF m 121 #[.val (.int p0)] [(.int p0)]))
                                    refine Owes.go ?_ fun t k => XS.bipush X0.here hx rfl (hb hby d2_121) k
                                    show Owes _ _ _ _ (s₁.setTop (mkF m 123 #[.val (.int p0)] [(.int (124 : Int32)), (.int p0)]))
                                    by_cases hc50 : p0 = (124 : Int32)
                                    · skip
                                      refine Owes.go ?_ fun t k => XS.icmpYes X0.here hx rfl (pc0 := 123) (pc' := 132) rfl (hb hby d2_123) rfl (teq hc50).1 (by decide) (by decide) k
                                      show Owes _ _ _ _ (s₁.setTop (mkF m 132 #[.val (.int p0)] []))
                                      refine Owes.go ?_ fun t k => XS.iconst X0.here hx rfl (hb hby d2_132) k
                                      show Owes _ _ _ _ (s₁.setTop (mkF m 133 #[.val (.int p0)] [(.int (1 : Int32))]))
                                      refine Owes.go ?_ fun t k => XS.goto X0.here hx rfl (pc0 := 133) (pc' := 137) rfl (hb hby d2_133) (by decide) (by decide) k
                                      show Owes _ _ _ _ (s₁.setTop (mkF m 137 #[.val (.int p0)] [(.int (1 : Int32))]))
                                      exact Owes.retN X0 hx hlk hret (by simp) (hb hby d2_137) (by decide) (by decide) ⟨congrArg (fun z => some (Value.int z)) (by unfold f_tch; rw [if_pos hc1, if_neg hc2, if_pos hc35, if_pos hc36, if_neg hc37, if_neg hc38, if_neg hc39, if_neg hc40, if_neg hc41, if_neg hc42, if_neg hc43, if_neg hc44, if_neg hc45, if_neg hc46, if_neg hc47, if_neg hc48, if_neg hc49, if_pos hc50]; first | done | rfl), rfl, e0⟩
                                    · skip
                                      refine Owes.go ?_ fun t k => XS.icmpNo X0.here hx rfl (hb hby d2_123) rfl (feq hc50).1 k
                                      show Owes _ _ _ _ (s₁.setTop (mkF m 126 #[.val (.int p0)] []))
                                      refine Owes.go ?_ fun t k => XS.iloadN X0.here hx rfl (hb hby d2_126) rfl k
                                      show Owes _ _ _ _ (s₁.setTop (mkF m 127 #[.val (.int p0)] [(.int p0)]))
                                      refine Owes.go ?_ fun t k => XS.bipush X0.here hx rfl (hb hby d2_127) k
                                      show Owes _ _ _ _ (s₁.setTop (mkF m 129 #[.val (.int p0)] [(.int (126 : Int32)), (.int p0)]))
                                      by_cases hc51 : p0 = (126 : Int32)
                                      · skip
                                        refine Owes.go ?_ fun t k => XS.icmpNo X0.here hx rfl (hb hby d2_129) rfl (teq hc51).2 k
                                        show Owes _ _ _ _ (s₁.setTop (mkF m 132 #[.val (.int p0)] []))
                                        refine Owes.go ?_ fun t k => XS.iconst X0.here hx rfl (hb hby d2_132) k
                                        show Owes _ _ _ _ (s₁.setTop (mkF m 133 #[.val (.int p0)] [(.int (1 : Int32))]))
                                        refine Owes.go ?_ fun t k => XS.goto X0.here hx rfl (pc0 := 133) (pc' := 137) rfl (hb hby d2_133) (by decide) (by decide) k
                                        show Owes _ _ _ _ (s₁.setTop (mkF m 137 #[.val (.int p0)] [(.int (1 : Int32))]))
                                        exact Owes.retN X0 hx hlk hret (by simp) (hb hby d2_137) (by decide) (by decide) ⟨congrArg (fun z => some (Value.int z)) (by unfold f_tch; rw [if_pos hc1, if_neg hc2, if_pos hc35, if_pos hc36, if_neg hc37, if_neg hc38, if_neg hc39, if_neg hc40, if_neg hc41, if_neg hc42, if_neg hc43, if_neg hc44, if_neg hc45, if_neg hc46, if_neg hc47, if_neg hc48, if_neg hc49, if_neg hc50, if_pos hc51]; first | done | rfl), rfl, e0⟩
                                      · skip
                                        refine Owes.go ?_ fun t k => XS.icmpYes X0.here hx rfl (pc0 := 129) (pc' := 136) rfl (hb hby d2_129) rfl (feq hc51).2 (by decide) (by decide) k
                                        show Owes _ _ _ _ (s₁.setTop (mkF m 136 #[.val (.int p0)] []))
                                        refine Owes.go ?_ fun t k => XS.iconst X0.here hx rfl (hb hby d2_136) k
                                        show Owes _ _ _ _ (s₁.setTop (mkF m 137 #[.val (.int p0)] [(.int (0 : Int32))]))
                                        exact Owes.retN X0 hx hlk hret (by simp) (hb hby d2_137) (by decide) (by decide) ⟨congrArg (fun z => some (Value.int z)) (by unfold f_tch; rw [if_pos hc1, if_neg hc2, if_pos hc35, if_pos hc36, if_neg hc37, if_neg hc38, if_neg hc39, if_neg hc40, if_neg hc41, if_neg hc42, if_neg hc43, if_neg hc44, if_neg hc45, if_neg hc46, if_neg hc47, if_neg hc48, if_neg hc49, if_neg hc50, if_neg hc51]; first | done | rfl), rfl, e0⟩
        · skip
          refine Owes.go ?_ fun t k => XS.icmpNo X0.here hx rfl (hb hby d2_31) rfl (flt hc36).1 k
          show Owes _ _ _ _ (s₁.setTop (mkF m 34 #[.val (.int p0)] []))
          refine Owes.go ?_ fun t k => XS.iloadN X0.here hx rfl (hb hby d2_34) rfl k
          show Owes _ _ _ _ (s₁.setTop (mkF m 35 #[.val (.int p0)] [(.int p0)]))
          refine Owes.go ?_ fun t k => XS.bipush X0.here hx rfl (hb hby d2_35) k
          show Owes _ _ _ _ (s₁.setTop (mkF m 37 #[.val (.int p0)] [(.int (90 : Int32)), (.int p0)]))
          by_cases hc52 : (90 : Int32) < p0
          · skip
            refine Owes.go ?_ fun t k => XS.icmpYes X0.here hx rfl (pc0 := 37) (pc' := 42) rfl (hb hby d2_37) rfl (tlt hc52).2.2.1 (by decide) (by decide) k
            show Owes _ _ _ _ (s₁.setTop (mkF m 42 #[.val (.int p0)] []))
            refine Owes.go ?_ fun t k => XS.iloadN X0.here hx rfl (hb hby d2_42) rfl k
            show Owes _ _ _ _ (s₁.setTop (mkF m 43 #[.val (.int p0)] [(.int p0)]))
            refine Owes.go ?_ fun t k => XS.bipush X0.here hx rfl (hb hby d2_43) k
            show Owes _ _ _ _ (s₁.setTop (mkF m 45 #[.val (.int p0)] [(.int (33 : Int32)), (.int p0)]))
            by_cases hc53 : p0 = (33 : Int32)
            · skip
              refine Owes.go ?_ fun t k => XS.icmpYes X0.here hx rfl (pc0 := 45) (pc' := 132) rfl (hb hby d2_45) rfl (teq hc53).1 (by decide) (by decide) k
              show Owes _ _ _ _ (s₁.setTop (mkF m 132 #[.val (.int p0)] []))
              refine Owes.go ?_ fun t k => XS.iconst X0.here hx rfl (hb hby d2_132) k
              show Owes _ _ _ _ (s₁.setTop (mkF m 133 #[.val (.int p0)] [(.int (1 : Int32))]))
              refine Owes.go ?_ fun t k => XS.goto X0.here hx rfl (pc0 := 133) (pc' := 137) rfl (hb hby d2_133) (by decide) (by decide) k
              show Owes _ _ _ _ (s₁.setTop (mkF m 137 #[.val (.int p0)] [(.int (1 : Int32))]))
              exact Owes.retN X0 hx hlk hret (by simp) (hb hby d2_137) (by decide) (by decide) ⟨congrArg (fun z => some (Value.int z)) (by unfold f_tch; rw [if_pos hc1, if_neg hc2, if_pos hc35, if_neg hc36, if_pos hc52, if_pos hc53]; first | done | rfl), rfl, e0⟩
            · skip
              refine Owes.go ?_ fun t k => XS.icmpNo X0.here hx rfl (hb hby d2_45) rfl (feq hc53).1 k
              show Owes _ _ _ _ (s₁.setTop (mkF m 48 #[.val (.int p0)] []))
              refine Owes.go ?_ fun t k => XS.iloadN X0.here hx rfl (hb hby d2_48) rfl k
              show Owes _ _ _ _ (s₁.setTop (mkF m 49 #[.val (.int p0)] [(.int p0)]))
              refine Owes.go ?_ fun t k => XS.bipush X0.here hx rfl (hb hby d2_49) k
              show Owes _ _ _ _ (s₁.setTop (mkF m 51 #[.val (.int p0)] [(.int (35 : Int32)), (.int p0)]))
              by_cases hc54 : p0 = (35 : Int32)
              · skip
                refine Owes.go ?_ fun t k => XS.icmpYes X0.here hx rfl (pc0 := 51) (pc' := 132) rfl (hb hby d2_51) rfl (teq hc54).1 (by decide) (by decide) k
                show Owes _ _ _ _ (s₁.setTop (mkF m 132 #[.val (.int p0)] []))
                refine Owes.go ?_ fun t k => XS.iconst X0.here hx rfl (hb hby d2_132) k
                show Owes _ _ _ _ (s₁.setTop (mkF m 133 #[.val (.int p0)] [(.int (1 : Int32))]))
                refine Owes.go ?_ fun t k => XS.goto X0.here hx rfl (pc0 := 133) (pc' := 137) rfl (hb hby d2_133) (by decide) (by decide) k
                show Owes _ _ _ _ (s₁.setTop (mkF m 137 #[.val (.int p0)] [(.int (1 : Int32))]))
                exact Owes.retN X0 hx hlk hret (by simp) (hb hby d2_137) (by decide) (by decide) ⟨congrArg (fun z => some (Value.int z)) (by unfold f_tch; rw [if_pos hc1, if_neg hc2, if_pos hc35, if_neg hc36, if_pos hc52, if_neg hc53, if_pos hc54]; first | done | rfl), rfl, e0⟩
              · skip
                refine Owes.go ?_ fun t k => XS.icmpNo X0.here hx rfl (hb hby d2_51) rfl (feq hc54).1 k
                show Owes _ _ _ _ (s₁.setTop (mkF m 54 #[.val (.int p0)] []))
                refine Owes.go ?_ fun t k => XS.iloadN X0.here hx rfl (hb hby d2_54) rfl k
                show Owes _ _ _ _ (s₁.setTop (mkF m 55 #[.val (.int p0)] [(.int p0)]))
                refine Owes.go ?_ fun t k => XS.bipush X0.here hx rfl (hb hby d2_55) k
                show Owes _ _ _ _ (s₁.setTop (mkF m 57 #[.val (.int p0)] [(.int (36 : Int32)), (.int p0)]))
                by_cases hc55 : p0 = (36 : Int32)
                · skip
                  refine Owes.go ?_ fun t k => XS.icmpYes X0.here hx rfl (pc0 := 57) (pc' := 132) rfl (hb hby d2_57) rfl (teq hc55).1 (by decide) (by decide) k
                  show Owes _ _ _ _ (s₁.setTop (mkF m 132 #[.val (.int p0)] []))
                  refine Owes.go ?_ fun t k => XS.iconst X0.here hx rfl (hb hby d2_132) k
                  show Owes _ _ _ _ (s₁.setTop (mkF m 133 #[.val (.int p0)] [(.int (1 : Int32))]))
                  refine Owes.go ?_ fun t k => XS.goto X0.here hx rfl (pc0 := 133) (pc' := 137) rfl (hb hby d2_133) (by decide) (by decide) k
                  show Owes _ _ _ _ (s₁.setTop (mkF m 137 #[.val (.int p0)] [(.int (1 : Int32))]))
                  exact Owes.retN X0 hx hlk hret (by simp) (hb hby d2_137) (by decide) (by decide) ⟨congrArg (fun z => some (Value.int z)) (by unfold f_tch; rw [if_pos hc1, if_neg hc2, if_pos hc35, if_neg hc36, if_pos hc52, if_neg hc53, if_neg hc54, if_pos hc55]; first | done | rfl), rfl, e0⟩
                · skip
                  refine Owes.go ?_ fun t k => XS.icmpNo X0.here hx rfl (hb hby d2_57) rfl (feq hc55).1 k
                  show Owes _ _ _ _ (s₁.setTop (mkF m 60 #[.val (.int p0)] []))
                  refine Owes.go ?_ fun t k => XS.iloadN X0.here hx rfl (hb hby d2_60) rfl k
                  show Owes _ _ _ _ (s₁.setTop (mkF m 61 #[.val (.int p0)] [(.int p0)]))
                  refine Owes.go ?_ fun t k => XS.bipush X0.here hx rfl (hb hby d2_61) k
                  show Owes _ _ _ _ (s₁.setTop (mkF m 63 #[.val (.int p0)] [(.int (37 : Int32)), (.int p0)]))
                  by_cases hc56 : p0 = (37 : Int32)
                  · skip
                    refine Owes.go ?_ fun t k => XS.icmpYes X0.here hx rfl (pc0 := 63) (pc' := 132) rfl (hb hby d2_63) rfl (teq hc56).1 (by decide) (by decide) k
                    show Owes _ _ _ _ (s₁.setTop (mkF m 132 #[.val (.int p0)] []))
                    refine Owes.go ?_ fun t k => XS.iconst X0.here hx rfl (hb hby d2_132) k
                    show Owes _ _ _ _ (s₁.setTop (mkF m 133 #[.val (.int p0)] [(.int (1 : Int32))]))
                    refine Owes.go ?_ fun t k => XS.goto X0.here hx rfl (pc0 := 133) (pc' := 137) rfl (hb hby d2_133) (by decide) (by decide) k
                    show Owes _ _ _ _ (s₁.setTop (mkF m 137 #[.val (.int p0)] [(.int (1 : Int32))]))
                    exact Owes.retN X0 hx hlk hret (by simp) (hb hby d2_137) (by decide) (by decide) ⟨congrArg (fun z => some (Value.int z)) (by unfold f_tch; rw [if_pos hc1, if_neg hc2, if_pos hc35, if_neg hc36, if_pos hc52, if_neg hc53, if_neg hc54, if_neg hc55, if_pos hc56]; first | done | rfl), rfl, e0⟩
                  · skip
                    refine Owes.go ?_ fun t k => XS.icmpNo X0.here hx rfl (hb hby d2_63) rfl (feq hc56).1 k
                    show Owes _ _ _ _ (s₁.setTop (mkF m 66 #[.val (.int p0)] []))
                    refine Owes.go ?_ fun t k => XS.iloadN X0.here hx rfl (hb hby d2_66) rfl k
                    show Owes _ _ _ _ (s₁.setTop (mkF m 67 #[.val (.int p0)] [(.int p0)]))
                    refine Owes.go ?_ fun t k => XS.bipush X0.here hx rfl (hb hby d2_67) k
                    show Owes _ _ _ _ (s₁.setTop (mkF m 69 #[.val (.int p0)] [(.int (38 : Int32)), (.int p0)]))
                    by_cases hc57 : p0 = (38 : Int32)
                    · skip
                      refine Owes.go ?_ fun t k => XS.icmpYes X0.here hx rfl (pc0 := 69) (pc' := 132) rfl (hb hby d2_69) rfl (teq hc57).1 (by decide) (by decide) k
                      show Owes _ _ _ _ (s₁.setTop (mkF m 132 #[.val (.int p0)] []))
                      refine Owes.go ?_ fun t k => XS.iconst X0.here hx rfl (hb hby d2_132) k
                      show Owes _ _ _ _ (s₁.setTop (mkF m 133 #[.val (.int p0)] [(.int (1 : Int32))]))
                      refine Owes.go ?_ fun t k => XS.goto X0.here hx rfl (pc0 := 133) (pc' := 137) rfl (hb hby d2_133) (by decide) (by decide) k
                      show Owes _ _ _ _ (s₁.setTop (mkF m 137 #[.val (.int p0)] [(.int (1 : Int32))]))
                      exact Owes.retN X0 hx hlk hret (by simp) (hb hby d2_137) (by decide) (by decide) ⟨congrArg (fun z => some (Value.int z)) (by unfold f_tch; rw [if_pos hc1, if_neg hc2, if_pos hc35, if_neg hc36, if_pos hc52, if_neg hc53, if_neg hc54, if_neg hc55, if_neg hc56, if_pos hc57]; first | done | rfl), rfl, e0⟩
                    · skip
                      refine Owes.go ?_ fun t k => XS.icmpNo X0.here hx rfl (hb hby d2_69) rfl (feq hc57).1 k
                      show Owes _ _ _ _ (s₁.setTop (mkF m 72 #[.val (.int p0)] []))
                      refine Owes.go ?_ fun t k => XS.iloadN X0.here hx rfl (hb hby d2_72) rfl k
                      show Owes _ _ _ _ (s₁.setTop (mkF m 73 #[.val (.int p0)] [(.int p0)]))
                      refine Owes.go ?_ fun t k => XS.bipush X0.here hx rfl (hb hby d2_73) k
                      show Owes _ _ _ _ (s₁.setTop (mkF m 75 #[.val (.int p0)] [(.int (39 : Int32)), (.int p0)]))
                      by_cases hc58 : p0 = (39 : Int32)
                      · skip
                        refine Owes.go ?_ fun t k => XS.icmpYes X0.here hx rfl (pc0 := 75) (pc' := 132) rfl (hb hby d2_75) rfl (teq hc58).1 (by decide) (by decide) k
                        show Owes _ _ _ _ (s₁.setTop (mkF m 132 #[.val (.int p0)] []))
                        refine Owes.go ?_ fun t k => XS.iconst X0.here hx rfl (hb hby d2_132) k
                        show Owes _ _ _ _ (s₁.setTop (mkF m 133 #[.val (.int p0)] [(.int (1 : Int32))]))
                        refine Owes.go ?_ fun t k => XS.goto X0.here hx rfl (pc0 := 133) (pc' := 137) rfl (hb hby d2_133) (by decide) (by decide) k
                        show Owes _ _ _ _ (s₁.setTop (mkF m 137 #[.val (.int p0)] [(.int (1 : Int32))]))
                        exact Owes.retN X0 hx hlk hret (by simp) (hb hby d2_137) (by decide) (by decide) ⟨congrArg (fun z => some (Value.int z)) (by unfold f_tch; rw [if_pos hc1, if_neg hc2, if_pos hc35, if_neg hc36, if_pos hc52, if_neg hc53, if_neg hc54, if_neg hc55, if_neg hc56, if_neg hc57, if_pos hc58]; first | done | rfl), rfl, e0⟩
                      · skip
                        refine Owes.go ?_ fun t k => XS.icmpNo X0.here hx rfl (hb hby d2_75) rfl (feq hc58).1 k
                        show Owes _ _ _ _ (s₁.setTop (mkF m 78 #[.val (.int p0)] []))
                        refine Owes.go ?_ fun t k => XS.iloadN X0.here hx rfl (hb hby d2_78) rfl k
                        show Owes _ _ _ _ (s₁.setTop (mkF m 79 #[.val (.int p0)] [(.int p0)]))
                        refine Owes.go ?_ fun t k => XS.bipush X0.here hx rfl (hb hby d2_79) k
                        show Owes _ _ _ _ (s₁.setTop (mkF m 81 #[.val (.int p0)] [(.int (42 : Int32)), (.int p0)]))
                        by_cases hc59 : p0 = (42 : Int32)
                        · skip
                          refine Owes.go ?_ fun t k => XS.icmpYes X0.here hx rfl (pc0 := 81) (pc' := 132) rfl (hb hby d2_81) rfl (teq hc59).1 (by decide) (by decide) k
                          show Owes _ _ _ _ (s₁.setTop (mkF m 132 #[.val (.int p0)] []))
                          refine Owes.go ?_ fun t k => XS.iconst X0.here hx rfl (hb hby d2_132) k
                          show Owes _ _ _ _ (s₁.setTop (mkF m 133 #[.val (.int p0)] [(.int (1 : Int32))]))
                          refine Owes.go ?_ fun t k => XS.goto X0.here hx rfl (pc0 := 133) (pc' := 137) rfl (hb hby d2_133) (by decide) (by decide) k
                          show Owes _ _ _ _ (s₁.setTop (mkF m 137 #[.val (.int p0)] [(.int (1 : Int32))]))
                          exact Owes.retN X0 hx hlk hret (by simp) (hb hby d2_137) (by decide) (by decide) ⟨congrArg (fun z => some (Value.int z)) (by unfold f_tch; rw [if_pos hc1, if_neg hc2, if_pos hc35, if_neg hc36, if_pos hc52, if_neg hc53, if_neg hc54, if_neg hc55, if_neg hc56, if_neg hc57, if_neg hc58, if_pos hc59]; first | done | rfl), rfl, e0⟩
                        · skip
                          refine Owes.go ?_ fun t k => XS.icmpNo X0.here hx rfl (hb hby d2_81) rfl (feq hc59).1 k
                          show Owes _ _ _ _ (s₁.setTop (mkF m 84 #[.val (.int p0)] []))
                          refine Owes.go ?_ fun t k => XS.iloadN X0.here hx rfl (hb hby d2_84) rfl k
                          show Owes _ _ _ _ (s₁.setTop (mkF m 85 #[.val (.int p0)] [(.int p0)]))
                          refine Owes.go ?_ fun t k => XS.bipush X0.here hx rfl (hb hby d2_85) k
                          show Owes _ _ _ _ (s₁.setTop (mkF m 87 #[.val (.int p0)] [(.int (43 : Int32)), (.int p0)]))
                          by_cases hc60 : p0 = (43 : Int32)
                          · skip
                            refine Owes.go ?_ fun t k => XS.icmpYes X0.here hx rfl (pc0 := 87) (pc' := 132) rfl (hb hby d2_87) rfl (teq hc60).1 (by decide) (by decide) k
                            show Owes _ _ _ _ (s₁.setTop (mkF m 132 #[.val (.int p0)] []))
                            refine Owes.go ?_ fun t k => XS.iconst X0.here hx rfl (hb hby d2_132) k
                            show Owes _ _ _ _ (s₁.setTop (mkF m 133 #[.val (.int p0)] [(.int (1 : Int32))]))
                            refine Owes.go ?_ fun t k => XS.goto X0.here hx rfl (pc0 := 133) (pc' := 137) rfl (hb hby d2_133) (by decide) (by decide) k
                            show Owes _ _ _ _ (s₁.setTop (mkF m 137 #[.val (.int p0)] [(.int (1 : Int32))]))
                            exact Owes.retN X0 hx hlk hret (by simp) (hb hby d2_137) (by decide) (by decide) ⟨congrArg (fun z => some (Value.int z)) (by unfold f_tch; rw [if_pos hc1, if_neg hc2, if_pos hc35, if_neg hc36, if_pos hc52, if_neg hc53, if_neg hc54, if_neg hc55, if_neg hc56, if_neg hc57, if_neg hc58, if_neg hc59, if_pos hc60]; first | done | rfl), rfl, e0⟩
                          · skip
                            refine Owes.go ?_ fun t k => XS.icmpNo X0.here hx rfl (hb hby d2_87) rfl (feq hc60).1 k
                            show Owes _ _ _ _ (s₁.setTop (mkF m 90 #[.val (.int p0)] []))
                            refine Owes.go ?_ fun t k => XS.iloadN X0.here hx rfl (hb hby d2_90) rfl k
                            show Owes _ _ _ _ (s₁.setTop (mkF m 91 #[.val (.int p0)] [(.int p0)]))
                            refine Owes.go ?_ fun t k => XS.bipush X0.here hx rfl (hb hby d2_91) k
                            show Owes _ _ _ _ (s₁.setTop (mkF m 93 #[.val (.int p0)] [(.int (45 : Int32)), (.int p0)]))
                            by_cases hc61 : p0 = (45 : Int32)
                            · skip
                              refine Owes.go ?_ fun t k => XS.icmpYes X0.here hx rfl (pc0 := 93) (pc' := 132) rfl (hb hby d2_93) rfl (teq hc61).1 (by decide) (by decide) k
                              show Owes _ _ _ _ (s₁.setTop (mkF m 132 #[.val (.int p0)] []))
                              refine Owes.go ?_ fun t k => XS.iconst X0.here hx rfl (hb hby d2_132) k
                              show Owes _ _ _ _ (s₁.setTop (mkF m 133 #[.val (.int p0)] [(.int (1 : Int32))]))
                              refine Owes.go ?_ fun t k => XS.goto X0.here hx rfl (pc0 := 133) (pc' := 137) rfl (hb hby d2_133) (by decide) (by decide) k
                              show Owes _ _ _ _ (s₁.setTop (mkF m 137 #[.val (.int p0)] [(.int (1 : Int32))]))
                              exact Owes.retN X0 hx hlk hret (by simp) (hb hby d2_137) (by decide) (by decide) ⟨congrArg (fun z => some (Value.int z)) (by unfold f_tch; rw [if_pos hc1, if_neg hc2, if_pos hc35, if_neg hc36, if_pos hc52, if_neg hc53, if_neg hc54, if_neg hc55, if_neg hc56, if_neg hc57, if_neg hc58, if_neg hc59, if_neg hc60, if_pos hc61]; first | done | rfl), rfl, e0⟩
                            · skip
                              refine Owes.go ?_ fun t k => XS.icmpNo X0.here hx rfl (hb hby d2_93) rfl (feq hc61).1 k
                              show Owes _ _ _ _ (s₁.setTop (mkF m 96 #[.val (.int p0)] []))
                              refine Owes.go ?_ fun t k => XS.iloadN X0.here hx rfl (hb hby d2_96) rfl k
                              show Owes _ _ _ _ (s₁.setTop (mkF m 97 #[.val (.int p0)] [(.int p0)]))
                              refine Owes.go ?_ fun t k => XS.bipush X0.here hx rfl (hb hby d2_97) k
                              show Owes _ _ _ _ (s₁.setTop (mkF m 99 #[.val (.int p0)] [(.int (46 : Int32)), (.int p0)]))
                              by_cases hc62 : p0 = (46 : Int32)
                              · skip
                                refine Owes.go ?_ fun t k => XS.icmpYes X0.here hx rfl (pc0 := 99) (pc' := 132) rfl (hb hby d2_99) rfl (teq hc62).1 (by decide) (by decide) k
                                show Owes _ _ _ _ (s₁.setTop (mkF m 132 #[.val (.int p0)] []))
                                refine Owes.go ?_ fun t k => XS.iconst X0.here hx rfl (hb hby d2_132) k
                                show Owes _ _ _ _ (s₁.setTop (mkF m 133 #[.val (.int p0)] [(.int (1 : Int32))]))
                                refine Owes.go ?_ fun t k => XS.goto X0.here hx rfl (pc0 := 133) (pc' := 137) rfl (hb hby d2_133) (by decide) (by decide) k
                                show Owes _ _ _ _ (s₁.setTop (mkF m 137 #[.val (.int p0)] [(.int (1 : Int32))]))
                                exact Owes.retN X0 hx hlk hret (by simp) (hb hby d2_137) (by decide) (by decide) ⟨congrArg (fun z => some (Value.int z)) (by unfold f_tch; rw [if_pos hc1, if_neg hc2, if_pos hc35, if_neg hc36, if_pos hc52, if_neg hc53, if_neg hc54, if_neg hc55, if_neg hc56, if_neg hc57, if_neg hc58, if_neg hc59, if_neg hc60, if_neg hc61, if_pos hc62]; first | done | rfl), rfl, e0⟩
                              · skip
                                refine Owes.go ?_ fun t k => XS.icmpNo X0.here hx rfl (hb hby d2_99) rfl (feq hc62).1 k
                                show Owes _ _ _ _ (s₁.setTop (mkF m 102 #[.val (.int p0)] []))
                                refine Owes.go ?_ fun t k => XS.iloadN X0.here hx rfl (hb hby d2_102) rfl k
                                show Owes _ _ _ _ (s₁.setTop (mkF m 103 #[.val (.int p0)] [(.int p0)]))
                                refine Owes.go ?_ fun t k => XS.bipush X0.here hx rfl (hb hby d2_103) k
                                show Owes _ _ _ _ (s₁.setTop (mkF m 105 #[.val (.int p0)] [(.int (94 : Int32)), (.int p0)]))
                                by_cases hc63 : p0 = (94 : Int32)
                                · skip
                                  refine Owes.go ?_ fun t k => XS.icmpYes X0.here hx rfl (pc0 := 105) (pc' := 132) rfl (hb hby d2_105) rfl (teq hc63).1 (by decide) (by decide) k
                                  show Owes _ _ _ _ (s₁.setTop (mkF m 132 #[.val (.int p0)] []))
                                  refine Owes.go ?_ fun t k => XS.iconst X0.here hx rfl (hb hby d2_132) k
                                  show Owes _ _ _ _ (s₁.setTop (mkF m 133 #[.val (.int p0)] [(.int (1 : Int32))]))
                                  refine Owes.go ?_ fun t k => XS.goto X0.here hx rfl (pc0 := 133) (pc' := 137) rfl (hb hby d2_133) (by decide) (by decide) k
                                  show Owes _ _ _ _ (s₁.setTop (mkF m 137 #[.val (.int p0)] [(.int (1 : Int32))]))
                                  exact Owes.retN X0 hx hlk hret (by simp) (hb hby d2_137) (by decide) (by decide) ⟨congrArg (fun z => some (Value.int z)) (by unfold f_tch; rw [if_pos hc1, if_neg hc2, if_pos hc35, if_neg hc36, if_pos hc52, if_neg hc53, if_neg hc54, if_neg hc55, if_neg hc56, if_neg hc57, if_neg hc58, if_neg hc59, if_neg hc60, if_neg hc61, if_neg hc62, if_pos hc63]; first | done | rfl), rfl, e0⟩
                                · skip
                                  refine Owes.go ?_ fun t k => XS.icmpNo X0.here hx rfl (hb hby d2_105) rfl (feq hc63).1 k
                                  show Owes _ _ _ _ (s₁.setTop (mkF m 108 #[.val (.int p0)] []))
                                  refine Owes.go ?_ fun t k => XS.iloadN X0.here hx rfl (hb hby d2_108) rfl k
                                  show Owes _ _ _ _ (s₁.setTop (mkF m 109 #[.val (.int p0)] [(.int p0)]))
                                  refine Owes.go ?_ fun t k => XS.bipush X0.here hx rfl (hb hby d2_109) k
                                  show Owes _ _ _ _ (s₁.setTop (mkF m 111 #[.val (.int p0)] [(.int (95 : Int32)), (.int p0)]))
                                  by_cases hc64 : p0 = (95 : Int32)
                                  · skip
                                    refine Owes.go ?_ fun t k => XS.icmpYes X0.here hx rfl (pc0 := 111) (pc' := 132) rfl (hb hby d2_111) rfl (teq hc64).1 (by decide) (by decide) k
                                    show Owes _ _ _ _ (s₁.setTop (mkF m 132 #[.val (.int p0)] []))
                                    refine Owes.go ?_ fun t k => XS.iconst X0.here hx rfl (hb hby d2_132) k
                                    show Owes _ _ _ _ (s₁.setTop (mkF m 133 #[.val (.int p0)] [(.int (1 : Int32))]))
                                    refine Owes.go ?_ fun t k => XS.goto X0.here hx rfl (pc0 := 133) (pc' := 137) rfl (hb hby d2_133) (by decide) (by decide) k
                                    show Owes _ _ _ _ (s₁.setTop (mkF m 137 #[.val (.int p0)] [(.int (1 : Int32))]))
                                    exact Owes.retN X0 hx hlk hret (by simp) (hb hby d2_137) (by decide) (by decide) ⟨congrArg (fun z => some (Value.int z)) (by unfold f_tch; rw [if_pos hc1, if_neg hc2, if_pos hc35, if_neg hc36, if_pos hc52, if_neg hc53, if_neg hc54, if_neg hc55, if_neg hc56, if_neg hc57, if_neg hc58, if_neg hc59, if_neg hc60, if_neg hc61, if_neg hc62, if_neg hc63, if_pos hc64]; first | done | rfl), rfl, e0⟩
                                  · skip
                                    refine Owes.go ?_ fun t k => XS.icmpNo X0.here hx rfl (hb hby d2_111) rfl (feq hc64).1 k
                                    show Owes _ _ _ _ (s₁.setTop (mkF m 114 #[.val (.int p0)] []))
                                    refine Owes.go ?_ fun t k => XS.iloadN X0.here hx rfl (hb hby d2_114) rfl k
                                    show Owes _ _ _ _ (s₁.setTop (mkF m 115 #[.val (.int p0)] [(.int p0)]))
                                    refine Owes.go ?_ fun t k => XS.bipush X0.here hx rfl (hb hby d2_115) k
                                    show Owes _ _ _ _ (s₁.setTop (mkF m 117 #[.val (.int p0)] [(.int (96 : Int32)), (.int p0)]))
                                    by_cases hc65 : p0 = (96 : Int32)
                                    · skip
                                      refine Owes.go ?_ fun t k => XS.icmpYes X0.here hx rfl (pc0 := 117) (pc' := 132) rfl (hb hby d2_117) rfl (teq hc65).1 (by decide) (by decide) k
                                      show Owes _ _ _ _ (s₁.setTop (mkF m 132 #[.val (.int p0)] []))
                                      refine Owes.go ?_ fun t k => XS.iconst X0.here hx rfl (hb hby d2_132) k
                                      show Owes _ _ _ _ (s₁.setTop (mkF m 133 #[.val (.int p0)] [(.int (1 : Int32))]))
                                      refine Owes.go ?_ fun t k => XS.goto X0.here hx rfl (pc0 := 133) (pc' := 137) rfl (hb hby d2_133) (by decide) (by decide) k
                                      show Owes _ _ _ _ (s₁.setTop (mkF m 137 #[.val (.int p0)] [(.int (1 : Int32))]))
                                      exact Owes.retN X0 hx hlk hret (by simp) (hb hby d2_137) (by decide) (by decide) ⟨congrArg (fun z => some (Value.int z)) (by unfold f_tch; rw [if_pos hc1, if_neg hc2, if_pos hc35, if_neg hc36, if_pos hc52, if_neg hc53, if_neg hc54, if_neg hc55, if_neg hc56, if_neg hc57, if_neg hc58, if_neg hc59, if_neg hc60, if_neg hc61, if_neg hc62, if_neg hc63, if_neg hc64, if_pos hc65]; first | done | rfl), rfl, e0⟩
                                    · skip
                                      refine Owes.go ?_ fun t k => XS.icmpNo X0.here hx rfl (hb hby d2_117) rfl (feq hc65).1 k
                                      show Owes _ _ _ _ (s₁.setTop (mkF m 120 #[.val (.int p0)] []))
                                      refine Owes.go ?_ fun t k => XS.iloadN X0.here hx rfl (hb hby d2_120) rfl k
                                      show Owes _ _ _ _ (s₁.setTop (mkF m 121 #[.val (.int p0)] [(.int p0)]))
                                      refine Owes.go ?_ fun t k => XS.bipush X0.here hx rfl (hb hby d2_121) k
                                      show Owes _ _ _ _ (s₁.setTop (mkF m 123 #[.val (.int p0)] [(.int (124 : Int32)), (.int p0)]))
                                      by_cases hc66 : p0 = (124 : Int32)
                                      · skip
                                        refine Owes.go ?_ fun t k => XS.icmpYes X0.here hx rfl (pc0 := 123) (pc' := 132) rfl (hb hby d2_123) rfl (teq hc66).1 (by decide) (by decide) k
                                        show Owes _ _ _ _ (s₁.setTop (mkF m 132 #[.val (.int p0)] []))
                                        refine Owes.go ?_ fun t k => XS.iconst X0.here hx rfl (hb hby d2_132) k
                                        show Owes _ _ _ _ (s₁.setTop (mkF m 133 #[.val (.int p0)] [(.int (1 : Int32))]))
                                        refine Owes.go ?_ fun t k => XS.goto X0.here hx rfl (pc0 := 133) (pc' := 137) rfl (hb hby d2_133) (by decide) (by decide) k
                                        show Owes _ _ _ _ (s₁.setTop (mkF m 137 #[.val (.int p0)] [(.int (1 : Int32))]))
                                        exact Owes.retN X0 hx hlk hret (by simp) (hb hby d2_137) (by decide) (by decide) ⟨congrArg (fun z => some (Value.int z)) (by unfold f_tch; rw [if_pos hc1, if_neg hc2, if_pos hc35, if_neg hc36, if_pos hc52, if_neg hc53, if_neg hc54, if_neg hc55, if_neg hc56, if_neg hc57, if_neg hc58, if_neg hc59, if_neg hc60, if_neg hc61, if_neg hc62, if_neg hc63, if_neg hc64, if_neg hc65, if_pos hc66]; first | done | rfl), rfl, e0⟩
                                      · skip
                                        refine Owes.go ?_ fun t k => XS.icmpNo X0.here hx rfl (hb hby d2_123) rfl (feq hc66).1 k
                                        show Owes _ _ _ _ (s₁.setTop (mkF m 126 #[.val (.int p0)] []))
                                        refine Owes.go ?_ fun t k => XS.iloadN X0.here hx rfl (hb hby d2_126) rfl k
                                        show Owes _ _ _ _ (s₁.setTop (mkF m 127 #[.val (.int p0)] [(.int p0)]))
                                        refine Owes.go ?_ fun t k => XS.bipush X0.here hx rfl (hb hby d2_127) k
                                        show Owes _ _ _ _ (s₁.setTop (mkF m 129 #[.val (.int p0)] [(.int (126 : Int32)), (.int p0)]))
                                        by_cases hc67 : p0 = (126 : Int32)
                                        · skip
                                          refine Owes.go ?_ fun t k => XS.icmpNo X0.here hx rfl (hb hby d2_129) rfl (teq hc67).2 k
                                          show Owes _ _ _ _ (s₁.setTop (mkF m 132 #[.val (.int p0)] []))
                                          refine Owes.go ?_ fun t k => XS.iconst X0.here hx rfl (hb hby d2_132) k
                                          show Owes _ _ _ _ (s₁.setTop (mkF m 133 #[.val (.int p0)] [(.int (1 : Int32))]))
                                          refine Owes.go ?_ fun t k => XS.goto X0.here hx rfl (pc0 := 133) (pc' := 137) rfl (hb hby d2_133) (by decide) (by decide) k
                                          show Owes _ _ _ _ (s₁.setTop (mkF m 137 #[.val (.int p0)] [(.int (1 : Int32))]))
                                          exact Owes.retN X0 hx hlk hret (by simp) (hb hby d2_137) (by decide) (by decide) ⟨congrArg (fun z => some (Value.int z)) (by unfold f_tch; rw [if_pos hc1, if_neg hc2, if_pos hc35, if_neg hc36, if_pos hc52, if_neg hc53, if_neg hc54, if_neg hc55, if_neg hc56, if_neg hc57, if_neg hc58, if_neg hc59, if_neg hc60, if_neg hc61, if_neg hc62, if_neg hc63, if_neg hc64, if_neg hc65, if_neg hc66, if_pos hc67]; first | done | rfl), rfl, e0⟩
                                        · skip
                                          refine Owes.go ?_ fun t k => XS.icmpYes X0.here hx rfl (pc0 := 129) (pc' := 136) rfl (hb hby d2_129) rfl (feq hc67).2 (by decide) (by decide) k
                                          show Owes _ _ _ _ (s₁.setTop (mkF m 136 #[.val (.int p0)] []))
                                          refine Owes.go ?_ fun t k => XS.iconst X0.here hx rfl (hb hby d2_136) k
                                          show Owes _ _ _ _ (s₁.setTop (mkF m 137 #[.val (.int p0)] [(.int (0 : Int32))]))
                                          exact Owes.retN X0 hx hlk hret (by simp) (hb hby d2_137) (by decide) (by decide) ⟨congrArg (fun z => some (Value.int z)) (by unfold f_tch; rw [if_pos hc1, if_neg hc2, if_pos hc35, if_neg hc36, if_pos hc52, if_neg hc53, if_neg hc54, if_neg hc55, if_neg hc56, if_neg hc57, if_neg hc58, if_neg hc59, if_neg hc60, if_neg hc61, if_neg hc62, if_neg hc63, if_neg hc64, if_neg hc65, if_neg hc66, if_neg hc67]; first | done | rfl), rfl, e0⟩
          · skip
            refine Owes.go ?_ fun t k => XS.icmpNo X0.here hx rfl (hb hby d2_37) rfl (flt hc52).2.2.1 k
            show Owes _ _ _ _ (s₁.setTop (mkF m 40 #[.val (.int p0)] []))
            refine Owes.go ?_ fun t k => XS.iconst X0.here hx rfl (hb hby d2_40) k
            show Owes _ _ _ _ (s₁.setTop (mkF m 41 #[.val (.int p0)] [(.int (1 : Int32))]))
            exact Owes.retN X0 hx hlk hret (by simp) (hb hby d2_41) (by decide) (by decide) ⟨congrArg (fun z => some (Value.int z)) (by unfold f_tch; rw [if_pos hc1, if_neg hc2, if_pos hc35, if_neg hc36, if_neg hc52]; first | done | rfl), rfl, e0⟩
      · skip
        refine Owes.go ?_ fun t k => XS.icmpNo X0.here hx rfl (hb hby d2_23) rfl (flt hc35).2.2.1 k
        show Owes _ _ _ _ (s₁.setTop (mkF m 26 #[.val (.int p0)] []))
        refine Owes.go ?_ fun t k => XS.iconst X0.here hx rfl (hb hby d2_26) k
        show Owes _ _ _ _ (s₁.setTop (mkF m 27 #[.val (.int p0)] [(.int (1 : Int32))]))
        exact Owes.retN X0 hx hlk hret (by simp) (hb hby d2_27) (by decide) (by decide) ⟨congrArg (fun z => some (Value.int z)) (by unfold f_tch; rw [if_pos hc1, if_neg hc2, if_neg hc35]; first | done | rfl), rfl, e0⟩
  · skip
    refine Owes.go ?_ fun t k => XS.icmpNo X0.here hx rfl (hb hby d2_3) rfl (flt hc1).1 k
    show Owes _ _ _ _ (s₁.setTop (mkF m 6 #[.val (.int p0)] []))
    refine Owes.go ?_ fun t k => XS.iloadN X0.here hx rfl (hb hby d2_6) rfl k
    show Owes _ _ _ _ (s₁.setTop (mkF m 7 #[.val (.int p0)] [(.int p0)]))
    refine Owes.go ?_ fun t k => XS.bipush X0.here hx rfl (hb hby d2_7) k
    show Owes _ _ _ _ (s₁.setTop (mkF m 9 #[.val (.int p0)] [(.int (57 : Int32)), (.int p0)]))
    by_cases hc68 : (57 : Int32) < p0
    · skip
      refine Owes.go ?_ fun t k => XS.icmpYes X0.here hx rfl (pc0 := 9) (pc' := 14) rfl (hb hby d2_9) rfl (tlt hc68).2.2.1 (by decide) (by decide) k
      show Owes _ _ _ _ (s₁.setTop (mkF m 14 #[.val (.int p0)] []))
      refine Owes.go ?_ fun t k => XS.iloadN X0.here hx rfl (hb hby d2_14) rfl k
      show Owes _ _ _ _ (s₁.setTop (mkF m 15 #[.val (.int p0)] [(.int p0)]))
      refine Owes.go ?_ fun t k => XS.bipush X0.here hx rfl (hb hby d2_15) k
      show Owes _ _ _ _ (s₁.setTop (mkF m 17 #[.val (.int p0)] [(.int (97 : Int32)), (.int p0)]))
      by_cases hc69 : p0 < (97 : Int32)
      · skip
        refine Owes.go ?_ fun t k => XS.icmpYes X0.here hx rfl (pc0 := 17) (pc' := 28) rfl (hb hby d2_17) rfl (tlt hc69).1 (by decide) (by decide) k
        show Owes _ _ _ _ (s₁.setTop (mkF m 28 #[.val (.int p0)] []))
        refine Owes.go ?_ fun t k => XS.iloadN X0.here hx rfl (hb hby d2_28) rfl k
        show Owes _ _ _ _ (s₁.setTop (mkF m 29 #[.val (.int p0)] [(.int p0)]))
        refine Owes.go ?_ fun t k => XS.bipush X0.here hx rfl (hb hby d2_29) k
        show Owes _ _ _ _ (s₁.setTop (mkF m 31 #[.val (.int p0)] [(.int (65 : Int32)), (.int p0)]))
        by_cases hc70 : p0 < (65 : Int32)
        · skip
          refine Owes.go ?_ fun t k => XS.icmpYes X0.here hx rfl (pc0 := 31) (pc' := 42) rfl (hb hby d2_31) rfl (tlt hc70).1 (by decide) (by decide) k
          show Owes _ _ _ _ (s₁.setTop (mkF m 42 #[.val (.int p0)] []))
          refine Owes.go ?_ fun t k => XS.iloadN X0.here hx rfl (hb hby d2_42) rfl k
          show Owes _ _ _ _ (s₁.setTop (mkF m 43 #[.val (.int p0)] [(.int p0)]))
          refine Owes.go ?_ fun t k => XS.bipush X0.here hx rfl (hb hby d2_43) k
          show Owes _ _ _ _ (s₁.setTop (mkF m 45 #[.val (.int p0)] [(.int (33 : Int32)), (.int p0)]))
          by_cases hc71 : p0 = (33 : Int32)
          · skip
            refine Owes.go ?_ fun t k => XS.icmpYes X0.here hx rfl (pc0 := 45) (pc' := 132) rfl (hb hby d2_45) rfl (teq hc71).1 (by decide) (by decide) k
            show Owes _ _ _ _ (s₁.setTop (mkF m 132 #[.val (.int p0)] []))
            refine Owes.go ?_ fun t k => XS.iconst X0.here hx rfl (hb hby d2_132) k
            show Owes _ _ _ _ (s₁.setTop (mkF m 133 #[.val (.int p0)] [(.int (1 : Int32))]))
            refine Owes.go ?_ fun t k => XS.goto X0.here hx rfl (pc0 := 133) (pc' := 137) rfl (hb hby d2_133) (by decide) (by decide) k
            show Owes _ _ _ _ (s₁.setTop (mkF m 137 #[.val (.int p0)] [(.int (1 : Int32))]))
            exact Owes.retN X0 hx hlk hret (by simp) (hb hby d2_137) (by decide) (by decide) ⟨congrArg (fun z => some (Value.int z)) (by unfold f_tch; rw [if_neg hc1, if_pos hc68, if_pos hc69, if_pos hc70, if_pos hc71]; first | done | rfl), rfl, e0⟩
          · skip
            refine Owes.go ?_ fun t k => XS.icmpNo X0.here hx rfl (hb hby d2_45) rfl (feq hc71).1 k
            show Owes _ _ _ _ (s₁.setTop (mkF m 48 #[.val (.int p0)] []))
            refine Owes.go ?_ fun t k => XS.iloadN X0.here hx rfl (hb hby d2_48) rfl k
            show Owes _ _ _ _ (s₁.setTop (mkF m 49 #[.val (.int p0)] [(.int p0)]))
            refine Owes.go ?_ fun t k => XS.bipush X0.here hx rfl (hb hby d2_49) k
            show Owes _ _ _ _ (s₁.setTop (mkF m 51 #[.val (.int p0)] [(.int (35 : Int32)), (.int p0)]))
            by_cases hc72 : p0 = (35 : Int32)
            · skip
              refine Owes.go ?_ fun t k => XS.icmpYes X0.here hx rfl (pc0 := 51) (pc' := 132) rfl (hb hby d2_51) rfl (teq hc72).1 (by decide) (by decide) k
              show Owes _ _ _ _ (s₁.setTop (mkF m 132 #[.val (.int p0)] []))
              refine Owes.go ?_ fun t k => XS.iconst X0.here hx rfl (hb hby d2_132) k
              show Owes _ _ _ _ (s₁.setTop (mkF m 133 #[.val (.int p0)] [(.int (1 : Int32))]))
              refine Owes.go ?_ fun t k => XS.goto X0.here hx rfl (pc0 := 133) (pc' := 137) rfl (hb hby d2_133) (by decide) (by decide) k
              show Owes _ _ _ _ (s₁.setTop (mkF m 137 #[.val (.int p0)] [(.int (1 : Int32))]))
              exact Owes.retN X0 hx hlk hret (by simp) (hb hby d2_137) (by decide) (by decide) ⟨congrArg (fun z => some (Value.int z)) (by unfold f_tch; rw [if_neg hc1, if_pos hc68, if_pos hc69, if_pos hc70, if_neg hc71, if_pos hc72]; first | done | rfl), rfl, e0⟩
            · skip
              refine Owes.go ?_ fun t k => XS.icmpNo X0.here hx rfl (hb hby d2_51) rfl (feq hc72).1 k
              show Owes _ _ _ _ (s₁.setTop (mkF m 54 #[.val (.int p0)] []))
              refine Owes.go ?_ fun t k => XS.iloadN X0.here hx rfl (hb hby d2_54) rfl k
              show Owes _ _ _ _ (s₁.setTop (mkF m 55 #[.val (.int p0)] [(.int p0)]))
              refine Owes.go ?_ fun t k => XS.bipush X0.here hx rfl (hb hby d2_55) k
              show Owes _ _ _ _ (s₁.setTop (mkF m 57 #[.val (.int p0)] [(.int (36 : Int32)), (.int p0)]))
              by_cases hc73 : p0 = (36 : Int32)
              · skip
                refine Owes.go ?_ fun t k => XS.icmpYes X0.here hx rfl (pc0 := 57) (pc' := 132) rfl (hb hby d2_57) rfl (teq hc73).1 (by decide) (by decide) k
                show Owes _ _ _ _ (s₁.setTop (mkF m 132 #[.val (.int p0)] []))
                refine Owes.go ?_ fun t k => XS.iconst X0.here hx rfl (hb hby d2_132) k
                show Owes _ _ _ _ (s₁.setTop (mkF m 133 #[.val (.int p0)] [(.int (1 : Int32))]))
                refine Owes.go ?_ fun t k => XS.goto X0.here hx rfl (pc0 := 133) (pc' := 137) rfl (hb hby d2_133) (by decide) (by decide) k
                show Owes _ _ _ _ (s₁.setTop (mkF m 137 #[.val (.int p0)] [(.int (1 : Int32))]))
                exact Owes.retN X0 hx hlk hret (by simp) (hb hby d2_137) (by decide) (by decide) ⟨congrArg (fun z => some (Value.int z)) (by unfold f_tch; rw [if_neg hc1, if_pos hc68, if_pos hc69, if_pos hc70, if_neg hc71, if_neg hc72, if_pos hc73]; first | done | rfl), rfl, e0⟩
              · skip
                refine Owes.go ?_ fun t k => XS.icmpNo X0.here hx rfl (hb hby d2_57) rfl (feq hc73).1 k
                show Owes _ _ _ _ (s₁.setTop (mkF m 60 #[.val (.int p0)] []))
                refine Owes.go ?_ fun t k => XS.iloadN X0.here hx rfl (hb hby d2_60) rfl k
                show Owes _ _ _ _ (s₁.setTop (mkF m 61 #[.val (.int p0)] [(.int p0)]))
                refine Owes.go ?_ fun t k => XS.bipush X0.here hx rfl (hb hby d2_61) k
                show Owes _ _ _ _ (s₁.setTop (mkF m 63 #[.val (.int p0)] [(.int (37 : Int32)), (.int p0)]))
                by_cases hc74 : p0 = (37 : Int32)
                · skip
                  refine Owes.go ?_ fun t k => XS.icmpYes X0.here hx rfl (pc0 := 63) (pc' := 132) rfl (hb hby d2_63) rfl (teq hc74).1 (by decide) (by decide) k
                  show Owes _ _ _ _ (s₁.setTop (mkF m 132 #[.val (.int p0)] []))
                  refine Owes.go ?_ fun t k => XS.iconst X0.here hx rfl (hb hby d2_132) k
                  show Owes _ _ _ _ (s₁.setTop (mkF m 133 #[.val (.int p0)] [(.int (1 : Int32))]))
                  refine Owes.go ?_ fun t k => XS.goto X0.here hx rfl (pc0 := 133) (pc' := 137) rfl (hb hby d2_133) (by decide) (by decide) k
                  show Owes _ _ _ _ (s₁.setTop (mkF m 137 #[.val (.int p0)] [(.int (1 : Int32))]))
                  exact Owes.retN X0 hx hlk hret (by simp) (hb hby d2_137) (by decide) (by decide) ⟨congrArg (fun z => some (Value.int z)) (by unfold f_tch; rw [if_neg hc1, if_pos hc68, if_pos hc69, if_pos hc70, if_neg hc71, if_neg hc72, if_neg hc73, if_pos hc74]; first | done | rfl), rfl, e0⟩
                · skip
                  refine Owes.go ?_ fun t k => XS.icmpNo X0.here hx rfl (hb hby d2_63) rfl (feq hc74).1 k
                  show Owes _ _ _ _ (s₁.setTop (mkF m 66 #[.val (.int p0)] []))
                  refine Owes.go ?_ fun t k => XS.iloadN X0.here hx rfl (hb hby d2_66) rfl k
                  show Owes _ _ _ _ (s₁.setTop (mkF m 67 #[.val (.int p0)] [(.int p0)]))
                  refine Owes.go ?_ fun t k => XS.bipush X0.here hx rfl (hb hby d2_67) k
                  show Owes _ _ _ _ (s₁.setTop (mkF m 69 #[.val (.int p0)] [(.int (38 : Int32)), (.int p0)]))
                  by_cases hc75 : p0 = (38 : Int32)
                  · skip
                    refine Owes.go ?_ fun t k => XS.icmpYes X0.here hx rfl (pc0 := 69) (pc' := 132) rfl (hb hby d2_69) rfl (teq hc75).1 (by decide) (by decide) k
                    show Owes _ _ _ _ (s₁.setTop (mkF m 132 #[.val (.int p0)] []))
                    refine Owes.go ?_ fun t k => XS.iconst X0.here hx rfl (hb hby d2_132) k
                    show Owes _ _ _ _ (s₁.setTop (mkF m 133 #[.val (.int p0)] [(.int (1 : Int32))]))
                    refine Owes.go ?_ fun t k => XS.goto X0.here hx rfl (pc0 := 133) (pc' := 137) rfl (hb hby d2_133) (by decide) (by decide) k
                    show Owes _ _ _ _ (s₁.setTop (mkF m 137 #[.val (.int p0)] [(.int (1 : Int32))]))
                    exact Owes.retN X0 hx hlk hret (by simp) (hb hby d2_137) (by decide) (by decide) ⟨congrArg (fun z => some (Value.int z)) (by unfold f_tch; rw [if_neg hc1, if_pos hc68, if_pos hc69, if_pos hc70, if_neg hc71, if_neg hc72, if_neg hc73, if_neg hc74, if_pos hc75]; first | done | rfl), rfl, e0⟩
                  · skip
                    refine Owes.go ?_ fun t k => XS.icmpNo X0.here hx rfl (hb hby d2_69) rfl (feq hc75).1 k
                    show Owes _ _ _ _ (s₁.setTop (mkF m 72 #[.val (.int p0)] []))
                    refine Owes.go ?_ fun t k => XS.iloadN X0.here hx rfl (hb hby d2_72) rfl k
                    show Owes _ _ _ _ (s₁.setTop (mkF m 73 #[.val (.int p0)] [(.int p0)]))
                    refine Owes.go ?_ fun t k => XS.bipush X0.here hx rfl (hb hby d2_73) k
                    show Owes _ _ _ _ (s₁.setTop (mkF m 75 #[.val (.int p0)] [(.int (39 : Int32)), (.int p0)]))
                    by_cases hc76 : p0 = (39 : Int32)
                    · skip
                      refine Owes.go ?_ fun t k => XS.icmpYes X0.here hx rfl (pc0 := 75) (pc' := 132) rfl (hb hby d2_75) rfl (teq hc76).1 (by decide) (by decide) k
                      show Owes _ _ _ _ (s₁.setTop (mkF m 132 #[.val (.int p0)] []))
                      refine Owes.go ?_ fun t k => XS.iconst X0.here hx rfl (hb hby d2_132) k
                      show Owes _ _ _ _ (s₁.setTop (mkF m 133 #[.val (.int p0)] [(.int (1 : Int32))]))
                      refine Owes.go ?_ fun t k => XS.goto X0.here hx rfl (pc0 := 133) (pc' := 137) rfl (hb hby d2_133) (by decide) (by decide) k
                      show Owes _ _ _ _ (s₁.setTop (mkF m 137 #[.val (.int p0)] [(.int (1 : Int32))]))
                      exact Owes.retN X0 hx hlk hret (by simp) (hb hby d2_137) (by decide) (by decide) ⟨congrArg (fun z => some (Value.int z)) (by unfold f_tch; rw [if_neg hc1, if_pos hc68, if_pos hc69, if_pos hc70, if_neg hc71, if_neg hc72, if_neg hc73, if_neg hc74, if_neg hc75, if_pos hc76]; first | done | rfl), rfl, e0⟩
                    · skip
                      refine Owes.go ?_ fun t k => XS.icmpNo X0.here hx rfl (hb hby d2_75) rfl (feq hc76).1 k
                      show Owes _ _ _ _ (s₁.setTop (mkF m 78 #[.val (.int p0)] []))
                      refine Owes.go ?_ fun t k => XS.iloadN X0.here hx rfl (hb hby d2_78) rfl k
                      show Owes _ _ _ _ (s₁.setTop (mkF m 79 #[.val (.int p0)] [(.int p0)]))
                      refine Owes.go ?_ fun t k => XS.bipush X0.here hx rfl (hb hby d2_79) k
                      show Owes _ _ _ _ (s₁.setTop (mkF m 81 #[.val (.int p0)] [(.int (42 : Int32)), (.int p0)]))
                      by_cases hc77 : p0 = (42 : Int32)
                      · skip
                        refine Owes.go ?_ fun t k => XS.icmpYes X0.here hx rfl (pc0 := 81) (pc' := 132) rfl (hb hby d2_81) rfl (teq hc77).1 (by decide) (by decide) k
                        show Owes _ _ _ _ (s₁.setTop (mkF m 132 #[.val (.int p0)] []))
                        refine Owes.go ?_ fun t k => XS.iconst X0.here hx rfl (hb hby d2_132) k
                        show Owes _ _ _ _ (s₁.setTop (mkF m 133 #[.val (.int p0)] [(.int (1 : Int32))]))
                        refine Owes.go ?_ fun t k => XS.goto X0.here hx rfl (pc0 := 133) (pc' := 137) rfl (hb hby d2_133) (by decide) (by decide) k
                        show Owes _ _ _ _ (s₁.setTop (mkF m 137 #[.val (.int p0)] [(.int (1 : Int32))]))
                        exact Owes.retN X0 hx hlk hret (by simp) (hb hby d2_137) (by decide) (by decide) ⟨congrArg (fun z => some (Value.int z)) (by unfold f_tch; rw [if_neg hc1, if_pos hc68, if_pos hc69, if_pos hc70, if_neg hc71, if_neg hc72, if_neg hc73, if_neg hc74, if_neg hc75, if_neg hc76, if_pos hc77]; first | done | rfl), rfl, e0⟩
                      · skip
                        refine Owes.go ?_ fun t k => XS.icmpNo X0.here hx rfl (hb hby d2_81) rfl (feq hc77).1 k
                        show Owes _ _ _ _ (s₁.setTop (mkF m 84 #[.val (.int p0)] []))
                        refine Owes.go ?_ fun t k => XS.iloadN X0.here hx rfl (hb hby d2_84) rfl k
                        show Owes _ _ _ _ (s₁.setTop (mkF m 85 #[.val (.int p0)] [(.int p0)]))
                        refine Owes.go ?_ fun t k => XS.bipush X0.here hx rfl (hb hby d2_85) k
                        show Owes _ _ _ _ (s₁.setTop (mkF m 87 #[.val (.int p0)] [(.int (43 : Int32)), (.int p0)]))
                        by_cases hc78 : p0 = (43 : Int32)
                        · skip
                          refine Owes.go ?_ fun t k => XS.icmpYes X0.here hx rfl (pc0 := 87) (pc' := 132) rfl (hb hby d2_87) rfl (teq hc78).1 (by decide) (by decide) k
                          show Owes _ _ _ _ (s₁.setTop (mkF m 132 #[.val (.int p0)] []))
                          refine Owes.go ?_ fun t k => XS.iconst X0.here hx rfl (hb hby d2_132) k
                          show Owes _ _ _ _ (s₁.setTop (mkF m 133 #[.val (.int p0)] [(.int (1 : Int32))]))
                          refine Owes.go ?_ fun t k => XS.goto X0.here hx rfl (pc0 := 133) (pc' := 137) rfl (hb hby d2_133) (by decide) (by decide) k
                          show Owes _ _ _ _ (s₁.setTop (mkF m 137 #[.val (.int p0)] [(.int (1 : Int32))]))
                          exact Owes.retN X0 hx hlk hret (by simp) (hb hby d2_137) (by decide) (by decide) ⟨congrArg (fun z => some (Value.int z)) (by unfold f_tch; rw [if_neg hc1, if_pos hc68, if_pos hc69, if_pos hc70, if_neg hc71, if_neg hc72, if_neg hc73, if_neg hc74, if_neg hc75, if_neg hc76, if_neg hc77, if_pos hc78]; first | done | rfl), rfl, e0⟩
                        · skip
                          refine Owes.go ?_ fun t k => XS.icmpNo X0.here hx rfl (hb hby d2_87) rfl (feq hc78).1 k
                          show Owes _ _ _ _ (s₁.setTop (mkF m 90 #[.val (.int p0)] []))
                          refine Owes.go ?_ fun t k => XS.iloadN X0.here hx rfl (hb hby d2_90) rfl k
                          show Owes _ _ _ _ (s₁.setTop (mkF m 91 #[.val (.int p0)] [(.int p0)]))
                          refine Owes.go ?_ fun t k => XS.bipush X0.here hx rfl (hb hby d2_91) k
                          show Owes _ _ _ _ (s₁.setTop (mkF m 93 #[.val (.int p0)] [(.int (45 : Int32)), (.int p0)]))
                          by_cases hc79 : p0 = (45 : Int32)
                          · skip
                            refine Owes.go ?_ fun t k => XS.icmpYes X0.here hx rfl (pc0 := 93) (pc' := 132) rfl (hb hby d2_93) rfl (teq hc79).1 (by decide) (by decide) k
                            show Owes _ _ _ _ (s₁.setTop (mkF m 132 #[.val (.int p0)] []))
                            refine Owes.go ?_ fun t k => XS.iconst X0.here hx rfl (hb hby d2_132) k
                            show Owes _ _ _ _ (s₁.setTop (mkF m 133 #[.val (.int p0)] [(.int (1 : Int32))]))
                            refine Owes.go ?_ fun t k => XS.goto X0.here hx rfl (pc0 := 133) (pc' := 137) rfl (hb hby d2_133) (by decide) (by decide) k
                            show Owes _ _ _ _ (s₁.setTop (mkF m 137 #[.val (.int p0)] [(.int (1 : Int32))]))
                            exact Owes.retN X0 hx hlk hret (by simp) (hb hby d2_137) (by decide) (by decide) ⟨congrArg (fun z => some (Value.int z)) (by unfold f_tch; rw [if_neg hc1, if_pos hc68, if_pos hc69, if_pos hc70, if_neg hc71, if_neg hc72, if_neg hc73, if_neg hc74, if_neg hc75, if_neg hc76, if_neg hc77, if_neg hc78, if_pos hc79]; first | done | rfl), rfl, e0⟩
                          · skip
                            refine Owes.go ?_ fun t k => XS.icmpNo X0.here hx rfl (hb hby d2_93) rfl (feq hc79).1 k
                            show Owes _ _ _ _ (s₁.setTop (mkF m 96 #[.val (.int p0)] []))
                            refine Owes.go ?_ fun t k => XS.iloadN X0.here hx rfl (hb hby d2_96) rfl k
                            show Owes _ _ _ _ (s₁.setTop (mkF m 97 #[.val (.int p0)] [(.int p0)]))
                            refine Owes.go ?_ fun t k => XS.bipush X0.here hx rfl (hb hby d2_97) k
                            show Owes _ _ _ _ (s₁.setTop (mkF m 99 #[.val (.int p0)] [(.int (46 : Int32)), (.int p0)]))
                            by_cases hc80 : p0 = (46 : Int32)
                            · skip
                              refine Owes.go ?_ fun t k => XS.icmpYes X0.here hx rfl (pc0 := 99) (pc' := 132) rfl (hb hby d2_99) rfl (teq hc80).1 (by decide) (by decide) k
                              show Owes _ _ _ _ (s₁.setTop (mkF m 132 #[.val (.int p0)] []))
                              refine Owes.go ?_ fun t k => XS.iconst X0.here hx rfl (hb hby d2_132) k
                              show Owes _ _ _ _ (s₁.setTop (mkF m 133 #[.val (.int p0)] [(.int (1 : Int32))]))
                              refine Owes.go ?_ fun t k => XS.goto X0.here hx rfl (pc0 := 133) (pc' := 137) rfl (hb hby d2_133) (by decide) (by decide) k
                              show Owes _ _ _ _ (s₁.setTop (mkF m 137 #[.val (.int p0)] [(.int (1 : Int32))]))
                              exact Owes.retN X0 hx hlk hret (by simp) (hb hby d2_137) (by decide) (by decide) ⟨congrArg (fun z => some (Value.int z)) (by unfold f_tch; rw [if_neg hc1, if_pos hc68, if_pos hc69, if_pos hc70, if_neg hc71, if_neg hc72, if_neg hc73, if_neg hc74, if_neg hc75, if_neg hc76, if_neg hc77, if_neg hc78, if_neg hc79, if_pos hc80]; first | done | rfl), rfl, e0⟩
                            · skip
                              refine Owes.go ?_ fun t k => XS.icmpNo X0.here hx rfl (hb hby d2_99) rfl (feq hc80).1 k
                              show Owes _ _ _ _ (s₁.setTop (mkF m 102 #[.val (.int p0)] []))
                              refine Owes.go ?_ fun t k => XS.iloadN X0.here hx rfl (hb hby d2_102) rfl k
                              show Owes _ _ _ _ (s₁.setTop (mkF m 103 #[.val (.int p0)] [(.int p0)]))
                              refine Owes.go ?_ fun t k => XS.bipush X0.here hx rfl (hb hby d2_103) k
                              show Owes _ _ _ _ (s₁.setTop (mkF m 105 #[.val (.int p0)] [(.int (94 : Int32)), (.int p0)]))
                              by_cases hc81 : p0 = (94 : Int32)
                              · skip
                                refine Owes.go ?_ fun t k => XS.icmpYes X0.here hx rfl (pc0 := 105) (pc' := 132) rfl (hb hby d2_105) rfl (teq hc81).1 (by decide) (by decide) k
                                show Owes _ _ _ _ (s₁.setTop (mkF m 132 #[.val (.int p0)] []))
                                refine Owes.go ?_ fun t k => XS.iconst X0.here hx rfl (hb hby d2_132) k
                                show Owes _ _ _ _ (s₁.setTop (mkF m 133 #[.val (.int p0)] [(.int (1 : Int32))]))
                                refine Owes.go ?_ fun t k => XS.goto X0.here hx rfl (pc0 := 133) (pc' := 137) rfl (hb hby d2_133) (by decide) (by decide) k
                                show Owes _ _ _ _ (s₁.setTop (mkF m 137 #[.val (.int p0)] [(.int (1 : Int32))]))
                                exact Owes.retN X0 hx hlk hret (by simp) (hb hby d2_137) (by decide) (by decide) ⟨congrArg (fun z => some (Value.int z)) (by unfold f_tch; rw [if_neg hc1, if_pos hc68, if_pos hc69, if_pos hc70, if_neg hc71, if_neg hc72, if_neg hc73, if_neg hc74, if_neg hc75, if_neg hc76, if_neg hc77, if_neg hc78, if_neg hc79, if_neg hc80, if_pos hc81]; first | done | rfl), rfl, e0⟩
                              · skip
                                refine Owes.go ?_ fun t k => XS.icmpNo X0.here hx rfl (hb hby d2_105) rfl (feq hc81).1 k
                                show Owes _ _ _ _ (s₁.setTop (mkF m 108 #[.val (.int p0)] []))
                                refine Owes.go ?_ fun t k => XS.iloadN X0.here hx rfl (hb hby d2_108) rfl k
                                show Owes _ _ _ _ (s₁.setTop (mkF m 109 #[.val (.int p0)] [(.int p0)]))
                                refine Owes.go ?_ fun t k => XS.bipush X0.here hx rfl (hb hby d2_109) k
                                show Owes _ _ _ _ (s₁.setTop (mkF m 111 #[.val (.int p0)] [(.int (95 : Int32)), (.int p0)]))
                                by_cases hc82 : p0 = (95 : Int32)
                                · skip
                                  refine Owes.go ?_ fun t k => XS.icmpYes X0.here hx rfl (pc0 := 111) (pc' := 132) rfl (hb hby d2_111) rfl (teq hc82).1 (by decide) (by decide) k
                                  show Owes _ _ _ _ (s₁.setTop (mkF m 132 #[.val (.int p0)] []))
                                  refine Owes.go ?_ fun t k => XS.iconst X0.here hx rfl (hb hby d2_132) k
                                  show Owes _ _ _ _ (s₁.setTop (mkF m 133 #[.val (.int p0)] [(.int (1 : Int32))]))
                                  refine Owes.go ?_ fun t k => XS.goto X0.here hx rfl (pc0 := 133) (pc' := 137) rfl (hb hby d2_133) (by decide) (by decide) k
                                  show Owes _ _ _ _ (s₁.setTop (mkF m 137 #[.val (.int p0)] [(.int (1 : Int32))]))
                                  exact Owes.retN X0 hx hlk hret (by simp) (hb hby d2_137) (by decide) (by decide) ⟨congrArg (fun z => some (Value.int z)) (by unfold f_tch; rw [if_neg hc1, if_pos hc68, if_pos hc69, if_pos hc70, if_neg hc71, if_neg hc72, if_neg hc73, if_neg hc74, if_neg hc75, if_neg hc76, if_neg hc77, if_neg hc78, if_neg hc79, if_neg hc80, if_neg hc81, if_pos hc82]; first | done | rfl), rfl, e0⟩
                                · skip
                                  refine Owes.go ?_ fun t k => XS.icmpNo X0.here hx rfl (hb hby d2_111) rfl (feq hc82).1 k
                                  show Owes _ _ _ _ (s₁.setTop (mkF m 114 #[.val (.int p0)] []))
                                  refine Owes.go ?_ fun t k => XS.iloadN X0.here hx rfl (hb hby d2_114) rfl k
                                  show Owes _ _ _ _ (s₁.setTop (mkF m 115 #[.val (.int p0)] [(.int p0)]))
                                  refine Owes.go ?_ fun t k => XS.bipush X0.here hx rfl (hb hby d2_115) k
                                  show Owes _ _ _ _ (s₁.setTop (mkF m 117 #[.val (.int p0)] [(.int (96 : Int32)), (.int p0)]))
                                  by_cases hc83 : p0 = (96 : Int32)
                                  · skip
                                    refine Owes.go ?_ fun t k => XS.icmpYes X0.here hx rfl (pc0 := 117) (pc' := 132) rfl (hb hby d2_117) rfl (teq hc83).1 (by decide) (by decide) k
                                    show Owes _ _ _ _ (s₁.setTop (mkF m 132 #[.val (.int p0)] []))
                                    refine Owes.go ?_ fun t k => XS.iconst X0.here hx rfl (hb hby d2_132) k
                                    show Owes _ _ _ _ (s₁.setTop (mkF m 133 #[.val (.int p0)] [(.int (1 : Int32))]))
                                    refine Owes.go ?_ fun t k => XS.goto X0.here hx rfl (pc0 := 133) (pc' := 137) rfl (hb hby d2_133) (by decide) (by decide) k
                                    show Owes _ _ _ _ (s₁.setTop (mkF m 137 #[.val (.int p0)] [(.int (1 : Int32))]))
                                    exact Owes.retN X0 hx hlk hret (by simp) (hb hby d2_137) (by decide) (by decide) ⟨congrArg (fun z => some (Value.int z)) (by unfold f_tch; rw [if_neg hc1, if_pos hc68, if_pos hc69, if_pos hc70, if_neg hc71, if_neg hc72, if_neg hc73, if_neg hc74, if_neg hc75, if_neg hc76, if_neg hc77, if_neg hc78, if_neg hc79, if_neg hc80, if_neg hc81, if_neg hc82, if_pos hc83]; first | done | rfl), rfl, e0⟩
                                  · skip
                                    refine Owes.go ?_ fun t k => XS.icmpNo X0.here hx rfl (hb hby d2_117) rfl (feq hc83).1 k
                                    show Owes _ _ _ _ (s₁.setTop (mkF m 120 #[.val (.int p0)] []))
                                    refine Owes.go ?_ fun t k => XS.iloadN X0.here hx rfl (hb hby d2_120) rfl k
                                    show Owes _ _ _ _ (s₁.setTop (mkF m 121 #[.val (.int p0)] [(.int p0)]))
                                    refine Owes.go ?_ fun t k => XS.bipush X0.here hx rfl (hb hby d2_121) k
                                    show Owes _ _ _ _ (s₁.setTop (mkF m 123 #[.val (.int p0)] [(.int (124 : Int32)), (.int p0)]))
                                    by_cases hc84 : p0 = (124 : Int32)
                                    · skip
                                      refine Owes.go ?_ fun t k => XS.icmpYes X0.here hx rfl (pc0 := 123) (pc' := 132) rfl (hb hby d2_123) rfl (teq hc84).1 (by decide) (by decide) k
                                      show Owes _ _ _ _ (s₁.setTop (mkF m 132 #[.val (.int p0)] []))
                                      refine Owes.go ?_ fun t k => XS.iconst X0.here hx rfl (hb hby d2_132) k
                                      show Owes _ _ _ _ (s₁.setTop (mkF m 133 #[.val (.int p0)] [(.int (1 : Int32))]))
                                      refine Owes.go ?_ fun t k => XS.goto X0.here hx rfl (pc0 := 133) (pc' := 137) rfl (hb hby d2_133) (by decide) (by decide) k
                                      show Owes _ _ _ _ (s₁.setTop (mkF m 137 #[.val (.int p0)] [(.int (1 : Int32))]))
                                      exact Owes.retN X0 hx hlk hret (by simp) (hb hby d2_137) (by decide) (by decide) ⟨congrArg (fun z => some (Value.int z)) (by unfold f_tch; rw [if_neg hc1, if_pos hc68, if_pos hc69, if_pos hc70, if_neg hc71, if_neg hc72, if_neg hc73, if_neg hc74, if_neg hc75, if_neg hc76, if_neg hc77, if_neg hc78, if_neg hc79, if_neg hc80, if_neg hc81, if_neg hc82, if_neg hc83, if_pos hc84]; first | done | rfl), rfl, e0⟩
                                    · skip
                                      refine Owes.go ?_ fun t k => XS.icmpNo X0.here hx rfl (hb hby d2_123) rfl (feq hc84).1 k
                                      show Owes _ _ _ _ (s₁.setTop (mkF m 126 #[.val (.int p0)] []))
                                      refine Owes.go ?_ fun t k => XS.iloadN X0.here hx rfl (hb hby d2_126) rfl k
                                      show Owes _ _ _ _ (s₁.setTop (mkF m 127 #[.val (.int p0)] [(.int p0)]))
                                      refine Owes.go ?_ fun t k => XS.bipush X0.here hx rfl (hb hby d2_127) k
                                      show Owes _ _ _ _ (s₁.setTop (mkF m 129 #[.val (.int p0)] [(.int (126 : Int32)), (.int p0)]))
                                      by_cases hc85 : p0 = (126 : Int32)
                                      · skip
                                        refine Owes.go ?_ fun t k => XS.icmpNo X0.here hx rfl (hb hby d2_129) rfl (teq hc85).2 k
                                        show Owes _ _ _ _ (s₁.setTop (mkF m 132 #[.val (.int p0)] []))
                                        refine Owes.go ?_ fun t k => XS.iconst X0.here hx rfl (hb hby d2_132) k
                                        show Owes _ _ _ _ (s₁.setTop (mkF m 133 #[.val (.int p0)] [(.int (1 : Int32))]))
                                        refine Owes.go ?_ fun t k => XS.goto X0.here hx rfl (pc0 := 133) (pc' := 137) rfl (hb hby d2_133) (by decide) (by decide) k
                                        show Owes _ _ _ _ (s₁.setTop (mkF m 137 #[.val (.int p0)] [(.int (1 : Int32))]))
                                        exact Owes.retN X0 hx hlk hret (by simp) (hb hby d2_137) (by decide) (by decide) ⟨congrArg (fun z => some (Value.int z)) (by unfold f_tch; rw [if_neg hc1, if_pos hc68, if_pos hc69, if_pos hc70, if_neg hc71, if_neg hc72, if_neg hc73, if_neg hc74, if_neg hc75, if_neg hc76, if_neg hc77, if_neg hc78, if_neg hc79, if_neg hc80, if_neg hc81, if_neg hc82, if_neg hc83, if_neg hc84, if_pos hc85]; first | done | rfl), rfl, e0⟩
                                      · skip
                                        refine Owes.go ?_ fun t k => XS.icmpYes X0.here hx rfl (pc0 := 129) (pc' := 136) rfl (hb hby d2_129) rfl (feq hc85).2 (by decide) (by decide) k
                                        show Owes _ _ _ _ (s₁.setTop (mkF m 136 #[.val (.int p0)] []))
                                        refine Owes.go ?_ fun t k => XS.iconst X0.here hx rfl (hb hby d2_136) k
                                        show Owes _ _ _ _ (s₁.setTop (mkF m 137 #[.val (.int p0)] [(.int (0 : Int32))]))
                                        exact Owes.retN X0 hx hlk hret (by simp) (hb hby d2_137) (by decide) (by decide) ⟨congrArg (fun z => some (Value.int z)) (by unfold f_tch; rw [if_neg hc1, if_pos hc68, if_pos hc69, if_pos hc70, if_neg hc71, if_neg hc72, if_neg hc73, if_neg hc74, if_neg hc75, if_neg hc76, if_neg hc77, if_neg hc78, if_neg hc79, if_neg hc80, if_neg hc81, if_neg hc82, if_neg hc83, if_neg hc84, if_neg hc85]; first | done | rfl), rfl, e0⟩
        · skip
          refine Owes.go ?_ fun t k => XS.icmpNo X0.here hx rfl (hb hby d2_31) rfl (flt hc70).1 k
          show Owes _ _ _ _ (s₁.setTop (mkF m 34 #[.val (.int p0)] []))
          refine Owes.go ?_ fun t k => XS.iloadN X0.here hx rfl (hb hby d2_34) rfl k
          show Owes _ _ _ _ (s₁.setTop (mkF m 35 #[.val (.int p0)] [(.int p0)]))
          refine Owes.go ?_ fun t k => XS.bipush X0.here hx rfl (hb hby d2_35) k
          show Owes _ _ _ _ (s₁.setTop (mkF m 37 #[.val (.int p0)] [(.int (90 : Int32)), (.int p0)]))
          by_cases hc86 : (90 : Int32) < p0
          · skip
            refine Owes.go ?_ fun t k => XS.icmpYes X0.here hx rfl (pc0 := 37) (pc' := 42) rfl (hb hby d2_37) rfl (tlt hc86).2.2.1 (by decide) (by decide) k
            show Owes _ _ _ _ (s₁.setTop (mkF m 42 #[.val (.int p0)] []))
            refine Owes.go ?_ fun t k => XS.iloadN X0.here hx rfl (hb hby d2_42) rfl k
            show Owes _ _ _ _ (s₁.setTop (mkF m 43 #[.val (.int p0)] [(.int p0)]))
            refine Owes.go ?_ fun t k => XS.bipush X0.here hx rfl (hb hby d2_43) k
            show Owes _ _ _ _ (s₁.setTop (mkF m 45 #[.val (.int p0)] [(.int (33 : Int32)), (.int p0)]))
            by_cases hc87 : p0 = (33 : Int32)
            · skip
              refine Owes.go ?_ fun t k => XS.icmpYes X0.here hx rfl (pc0 := 45) (pc' := 132) rfl (hb hby d2_45) rfl (teq hc87).1 (by decide) (by decide) k
              show Owes _ _ _ _ (s₁.setTop (mkF m 132 #[.val (.int p0)] []))
              refine Owes.go ?_ fun t k => XS.iconst X0.here hx rfl (hb hby d2_132) k
              show Owes _ _ _ _ (s₁.setTop (mkF m 133 #[.val (.int p0)] [(.int (1 : Int32))]))
              refine Owes.go ?_ fun t k => XS.goto X0.here hx rfl (pc0 := 133) (pc' := 137) rfl (hb hby d2_133) (by decide) (by decide) k
              show Owes _ _ _ _ (s₁.setTop (mkF m 137 #[.val (.int p0)] [(.int (1 : Int32))]))
              exact Owes.retN X0 hx hlk hret (by simp) (hb hby d2_137) (by decide) (by decide) ⟨congrArg (fun z => some (Value.int z)) (by unfold f_tch; rw [if_neg hc1, if_pos hc68, if_pos hc69, if_neg hc70, if_pos hc86, if_pos hc87]; first | done | rfl), rfl, e0⟩
            · skip
              refine Owes.go ?_ fun t k => XS.icmpNo X0.here hx rfl (hb hby d2_45) rfl (feq hc87).1 k
              show Owes _ _ _ _ (s₁.setTop (mkF m 48 #[.val (.int p0)] []))
              refine Owes.go ?_ fun t k => XS.iloadN X0.here hx rfl (hb hby d2_48) rfl k
              show Owes _ _ _ _ (s₁.setTop (mkF m 49 #[.val (.int p0)] [(.int p0)]))
              refine Owes.go ?_ fun t k => XS.bipush X0.here hx rfl (hb hby d2_49) k
              show Owes _ _ _ _ (s₁.setTop (mkF m 51 #[.val (.int p0)] [(.int (35 : Int32)), (.int p0)]))
              by_cases hc88 : p0 = (35 : Int32)
              · skip
                refine Owes.go ?_ fun t k => XS.icmpYes X0.here hx rfl (pc0 := 51) (pc' := 132) rfl (hb hby d2_51) rfl (teq hc88).1 (by decide) (by decide) k
                show Owes _ _ _ _ (s₁.setTop (mkF m 132 #[.val (.int p0)] []))
                refine Owes.go ?_ fun t k => XS.iconst X0.here hx rfl (hb hby d2_132) k
                show Owes _ _ _ _ (s₁.setTop (mkF m 133 #[.val (.int p0)] [(.int (1 : Int32))]))
                refine Owes.go ?_ fun t k => XS.goto X0.here hx rfl (pc0 := 133) (pc' := 137) rfl (hb hby d2_133) (by decide) (by decide) k
                show Owes _ _ _ _ (s₁.setTop (mkF m 137 #[.val (.int p0)] [(.int (1 : Int32))]))
                exact Owes.retN X0 hx hlk hret (by simp) (hb hby d2_137) (by decide) (by decide) ⟨congrArg (fun z => some (Value.int z)) (by unfold f_tch; rw [if_neg hc1, if_pos hc68, if_pos hc69, if_neg hc70, if_pos hc86, if_neg hc87, if_pos hc88]; first | done | rfl), rfl, e0⟩
              · skip
                refine Owes.go ?_ fun t k => XS.icmpNo X0.here hx rfl (hb hby d2_51) rfl (feq hc88).1 k
                show Owes _ _ _ _ (s₁.setTop (mkF m 54 #[.val (.int p0)] []))
                refine Owes.go ?_ fun t k => XS.iloadN X0.here hx rfl (hb hby d2_54) rfl k
                show Owes _ _ _ _ (s₁.setTop (mkF m 55 #[.val (.int p0)] [(.int p0)]))
                refine Owes.go ?_ fun t k => XS.bipush X0.here hx rfl (hb hby d2_55) k
                show Owes _ _ _ _ (s₁.setTop (mkF m 57 #[.val (.int p0)] [(.int (36 : Int32)), (.int p0)]))
                by_cases hc89 : p0 = (36 : Int32)
                · skip
                  refine Owes.go ?_ fun t k => XS.icmpYes X0.here hx rfl (pc0 := 57) (pc' := 132) rfl (hb hby d2_57) rfl (teq hc89).1 (by decide) (by decide) k
                  show Owes _ _ _ _ (s₁.setTop (mkF m 132 #[.val (.int p0)] []))
                  refine Owes.go ?_ fun t k => XS.iconst X0.here hx rfl (hb hby d2_132) k
                  show Owes _ _ _ _ (s₁.setTop (mkF m 133 #[.val (.int p0)] [(.int (1 : Int32))]))
                  refine Owes.go ?_ fun t k => XS.goto X0.here hx rfl (pc0 := 133) (pc' := 137) rfl (hb hby d2_133) (by decide) (by decide) k
                  show Owes _ _ _ _ (s₁.setTop (mkF m 137 #[.val (.int p0)] [(.int (1 : Int32))]))
                  exact Owes.retN X0 hx hlk hret (by simp) (hb hby d2_137) (by decide) (by decide) ⟨congrArg (fun z => some (Value.int z)) (by unfold f_tch; rw [if_neg hc1, if_pos hc68, if_pos hc69, if_neg hc70, if_pos hc86, if_neg hc87, if_neg hc88, if_pos hc89]; first | done | rfl), rfl, e0⟩
                · skip
                  refine Owes.go ?_ fun t k => XS.icmpNo X0.here hx rfl (hb hby d2_57) rfl (feq hc89).1 k
                  show Owes _ _ _ _ (s₁.setTop (mkF m 60 #[.val (.int p0)] []))
                  refine Owes.go ?_ fun t k => XS.iloadN X0.here hx rfl (hb hby d2_60) rfl k
                  show Owes _ _ _ _ (s₁.setTop (mkF m 61 #[.val (.int p0)] [(.int p0)]))
                  refine Owes.go ?_ fun t k => XS.bipush X0.here hx rfl (hb hby d2_61) k
                  show Owes _ _ _ _ (s₁.setTop (mkF m 63 #[.val (.int p0)] [(.int (37 : Int32)), (.int p0)]))
                  by_cases hc90 : p0 = (37 : Int32)
                  · skip
                    refine Owes.go ?_ fun t k => XS.icmpYes X0.here hx rfl (pc0 := 63) (pc' := 132) rfl (hb hby d2_63) rfl (teq hc90).1 (by decide) (by decide) k
                    show Owes _ _ _ _ (s₁.setTop (mkF m 132 #[.val (.int p0)] []))
                    refine Owes.go ?_ fun t k => XS.iconst X0.here hx rfl (hb hby d2_132) k
                    show Owes _ _ _ _ (s₁.setTop (mkF m 133 #[.val (.int p0)] [(.int (1 : Int32))]))
                    refine Owes.go ?_ fun t k => XS.goto X0.here hx rfl (pc0 := 133) (pc' := 137) rfl (hb hby d2_133) (by decide) (by decide) k
                    show Owes _ _ _ _ (s₁.setTop (mkF m 137 #[.val (.int p0)] [(.int (1 : Int32))]))
                    exact Owes.retN X0 hx hlk hret (by simp) (hb hby d2_137) (by decide) (by decide) ⟨congrArg (fun z => some (Value.int z)) (by unfold f_tch; rw [if_neg hc1, if_pos hc68, if_pos hc69, if_neg hc70, if_pos hc86, if_neg hc87, if_neg hc88, if_neg hc89, if_pos hc90]; first | done | rfl), rfl, e0⟩
                  · skip
                    refine Owes.go ?_ fun t k => XS.icmpNo X0.here hx rfl (hb hby d2_63) rfl (feq hc90).1 k
                    show Owes _ _ _ _ (s₁.setTop (mkF m 66 #[.val (.int p0)] []))
                    refine Owes.go ?_ fun t k => XS.iloadN X0.here hx rfl (hb hby d2_66) rfl k
                    show Owes _ _ _ _ (s₁.setTop (mkF m 67 #[.val (.int p0)] [(.int p0)]))
                    refine Owes.go ?_ fun t k => XS.bipush X0.here hx rfl (hb hby d2_67) k
                    show Owes _ _ _ _ (s₁.setTop (mkF m 69 #[.val (.int p0)] [(.int (38 : Int32)), (.int p0)]))
                    by_cases hc91 : p0 = (38 : Int32)
                    · skip
                      refine Owes.go ?_ fun t k => XS.icmpYes X0.here hx rfl (pc0 := 69) (pc' := 132) rfl (hb hby d2_69) rfl (teq hc91).1 (by decide) (by decide) k
                      show Owes _ _ _ _ (s₁.setTop (mkF m 132 #[.val (.int p0)] []))
                      refine Owes.go ?_ fun t k => XS.iconst X0.here hx rfl (hb hby d2_132) k
                      show Owes _ _ _ _ (s₁.setTop (mkF m 133 #[.val (.int p0)] [(.int (1 : Int32))]))
                      refine Owes.go ?_ fun t k => XS.goto X0.here hx rfl (pc0 := 133) (pc' := 137) rfl (hb hby d2_133) (by decide) (by decide) k
                      show Owes _ _ _ _ (s₁.setTop (mkF m 137 #[.val (.int p0)] [(.int (1 : Int32))]))
                      exact Owes.retN X0 hx hlk hret (by simp) (hb hby d2_137) (by decide) (by decide) ⟨congrArg (fun z => some (Value.int z)) (by unfold f_tch; rw [if_neg hc1, if_pos hc68, if_pos hc69, if_neg hc70, if_pos hc86, if_neg hc87, if_neg hc88, if_neg hc89, if_neg hc90, if_pos hc91]; first | done | rfl), rfl, e0⟩
                    · skip
                      refine Owes.go ?_ fun t k => XS.icmpNo X0.here hx rfl (hb hby d2_69) rfl (feq hc91).1 k
                      show Owes _ _ _ _ (s₁.setTop (mkF m 72 #[.val (.int p0)] []))
                      refine Owes.go ?_ fun t k => XS.iloadN X0.here hx rfl (hb hby d2_72) rfl k
                      show Owes _ _ _ _ (s₁.setTop (mkF m 73 #[.val (.int p0)] [(.int p0)]))
                      refine Owes.go ?_ fun t k => XS.bipush X0.here hx rfl (hb hby d2_73) k
                      show Owes _ _ _ _ (s₁.setTop (mkF m 75 #[.val (.int p0)] [(.int (39 : Int32)), (.int p0)]))
                      by_cases hc92 : p0 = (39 : Int32)
                      · skip
                        refine Owes.go ?_ fun t k => XS.icmpYes X0.here hx rfl (pc0 := 75) (pc' := 132) rfl (hb hby d2_75) rfl (teq hc92).1 (by decide) (by decide) k
                        show Owes _ _ _ _ (s₁.setTop (mkF m 132 #[.val (.int p0)] []))
                        refine Owes.go ?_ fun t k => XS.iconst X0.here hx rfl (hb hby d2_132) k
                        show Owes _ _ _ _ (s₁.setTop (mkF m 133 #[.val (.int p0)] [(.int (1 : Int32))]))
                        refine Owes.go ?_ fun t k => XS.goto X0.here hx rfl (pc0 := 133) (pc' := 137) rfl (hb hby d2_133) (by decide) (by decide) k
                        show Owes _ _ _ _ (s₁.setTop (mkF m 137 #[.val (.int p0)] [(.int (1 : Int32))]))
                        exact Owes.retN X0 hx hlk hret (by simp) (hb hby d2_137) (by decide) (by decide) ⟨congrArg (fun z => some (Value.int z)) (by unfold f_tch; rw [if_neg hc1, if_pos hc68, if_pos hc69, if_neg hc70, if_pos hc86, if_neg hc87, if_neg hc88, if_neg hc89, if_neg hc90, if_neg hc91, if_pos hc92]; first | done | rfl), rfl, e0⟩
                      · skip
                        refine Owes.go ?_ fun t k => XS.icmpNo X0.here hx rfl (hb hby d2_75) rfl (feq hc92).1 k
                        show Owes _ _ _ _ (s₁.setTop (mkF m 78 #[.val (.int p0)] []))
                        refine Owes.go ?_ fun t k => XS.iloadN X0.here hx rfl (hb hby d2_78) rfl k
                        show Owes _ _ _ _ (s₁.setTop (mkF m 79 #[.val (.int p0)] [(.int p0)]))
                        refine Owes.go ?_ fun t k => XS.bipush X0.here hx rfl (hb hby d2_79) k
                        show Owes _ _ _ _ (s₁.setTop (mkF m 81 #[.val (.int p0)] [(.int (42 : Int32)), (.int p0)]))
                        by_cases hc93 : p0 = (42 : Int32)
                        · skip
                          refine Owes.go ?_ fun t k => XS.icmpYes X0.here hx rfl (pc0 := 81) (pc' := 132) rfl (hb hby d2_81) rfl (teq hc93).1 (by decide) (by decide) k
                          show Owes _ _ _ _ (s₁.setTop (mkF m 132 #[.val (.int p0)] []))
                          refine Owes.go ?_ fun t k => XS.iconst X0.here hx rfl (hb hby d2_132) k
                          show Owes _ _ _ _ (s₁.setTop (mkF m 133 #[.val (.int p0)] [(.int (1 : Int32))]))
                          refine Owes.go ?_ fun t k => XS.goto X0.here hx rfl (pc0 := 133) (pc' := 137) rfl (hb hby d2_133) (by decide) (by decide) k
                          show Owes _ _ _ _ (s₁.setTop (mkF m 137 #[.val (.int p0)] [(.int (1 : Int32))]))
                          exact Owes.retN X0 hx hlk hret (by simp) (hb hby d2_137) (by decide) (by decide) ⟨congrArg (fun z => some (Value.int z)) (by unfold f_tch; rw [if_neg hc1, if_pos hc68, if_pos hc69, if_neg hc70, if_pos hc86, if_neg hc87, if_neg hc88, if_neg hc89, if_neg hc90, if_neg hc91, if_neg hc92, if_pos hc93]; first | done | rfl), rfl, e0⟩
                        · skip
                          refine Owes.go ?_ fun t k => XS.icmpNo X0.here hx rfl (hb hby d2_81) rfl (feq hc93).1 k
                          show Owes _ _ _ _ (s₁.setTop (mkF m 84 #[.val (.int p0)] []))
                          refine Owes.go ?_ fun t k => XS.iloadN X0.here hx rfl (hb hby d2_84) rfl k
                          show Owes _ _ _ _ (s₁.setTop (mkF m 85 #[.val (.int p0)] [(.int p0)]))
                          refine Owes.go ?_ fun t k => XS.bipush X0.here hx rfl (hb hby d2_85) k
                          show Owes _ _ _ _ (s₁.setTop (mkF m 87 #[.val (.int p0)] [(.int (43 : Int32)), (.int p0)]))
                          by_cases hc94 : p0 = (43 : Int32)
                          · skip
                            refine Owes.go ?_ fun t k => XS.icmpYes X0.here hx rfl (pc0 := 87) (pc' := 132) rfl (hb hby d2_87) rfl (teq hc94).1 (by decide) (by decide) k
                            show Owes _ _ _ _ (s₁.setTop (mkF m 132 #[.val (.int p0)] []))
                            refine Owes.go ?_ fun t k => XS.iconst X0.here hx rfl (hb hby d2_132) k
                            show Owes _ _ _ _ (s₁.setTop (mkF m 133 #[.val (.int p0)] [(.int (1 : Int32))]))
                            refine Owes.go ?_ fun t k => XS.goto X0.here hx rfl (pc0 := 133) (pc' := 137) rfl (hb hby d2_133) (by decide) (by decide) k
                            show Owes _ _ _ _ (s₁.setTop (mkF m 137 #[.val (.int p0)] [(.int (1 : Int32))]))
                            exact Owes.retN X0 hx hlk hret (by simp) (hb hby d2_137) (by decide) (by decide) ⟨congrArg (fun z => some (Value.int z)) (by unfold f_tch; rw [if_neg hc1, if_pos hc68, if_pos hc69, if_neg hc70, if_pos hc86, if_neg hc87, if_neg hc88, if_neg hc89, if_neg hc90, if_neg hc91, if_neg hc92, if_neg hc93, if_pos hc94]; first | done | rfl), rfl, e0⟩
                          · skip
                            refine Owes.go ?_ fun t k => XS.icmpNo X0.here hx rfl (hb hby d2_87) rfl (feq hc94).1 k
                            show Owes _ _ _ _ (s₁.setTop (mkF m 90 #[.val (.int p0)] []))
                            refine Owes.go ?_ fun t k => XS.iloadN X0.here hx rfl (hb hby d2_90) rfl k
                            show Owes _ _ _ _ (s₁.setTop (mkF m 91 #[.val (.int p0)] [(.int p0)]))
                            refine Owes.go ?_ fun t k => XS.bipush X0.here hx rfl (hb hby d2_91) k
                            show Owes _ _ _ _ (s₁.setTop (mkF m 93 #[.val (.int p0)] [(.int (45 : Int32)), (.int p0)]))
                            by_cases hc95 : p0 = (45 : Int32)
                            · skip
                              refine Owes.go ?_ fun t k => XS.icmpYes X0.here hx rfl (pc0 := 93) (pc' := 132) rfl (hb hby d2_93) rfl (teq hc95).1 (by decide) (by decide) k
                              show Owes _ _ _ _ (s₁.setTop (mkF m 132 #[.val (.int p0)] []))
                              refine Owes.go ?_ fun t k => XS.iconst X0.here hx rfl (hb hby d2_132) k
                              show Owes _ _ _ _ (s₁.setTop (mkF m 133 #[.val (.int p0)] [(.int (1 : Int32))]))
                              refine Owes.go ?_ fun t k => XS.goto X0.here hx rfl (pc0 := 133) (pc' := 137) rfl (hb hby d2_133) (by decide) (by decide) k
                              show Owes _ _ _ _ (s₁.setTop (mkF m 137 #[.val (.int p0)] [(.int (1 : Int32))]))
                              exact Owes.retN X0 hx hlk hret (by simp) (hb hby d2_137) (by decide) (by decide) ⟨congrArg (fun z => some (Value.int z)) (by unfold f_tch; rw [if_neg hc1, if_pos hc68, if_pos hc69, if_neg hc70, if_pos hc86, if_neg hc87, if_neg hc88, if_neg hc89, if_neg hc90, if_neg hc91, if_neg hc92, if_neg hc93, if_neg hc94, if_pos hc95]; first | done | rfl), rfl, e0⟩
                            · skip
                              refine Owes.go ?_ fun t k => XS.icmpNo X0.here hx rfl (hb hby d2_93) rfl (feq hc95).1 k
                              show Owes _ _ _ _ (s₁.setTop (mkF m 96 #[.val (.int p0)] []))
                              refine Owes.go ?_ fun t k => XS.iloadN X0.here hx rfl (hb hby d2_96) rfl k
                              show Owes _ _ _ _ (s₁.setTop (mkF m 97 #[.val (.int p0)] [(.int p0)]))
                              refine Owes.go ?_ fun t k => XS.bipush X0.here hx rfl (hb hby d2_97) k
                              show Owes _ _ _ _ (s₁.setTop (mkF m 99 #[.val (.int p0)] [(.int (46 : Int32)), (.int p0)]))
                              by_cases hc96 : p0 = (46 : Int32)
                              · skip
                                refine Owes.go ?_ fun t k => XS.icmpYes X0.here hx rfl (pc0 := 99) (pc' := 132) rfl (hb hby d2_99) rfl (teq hc96).1 (by decide) (by decide) k
                                show Owes _ _ _ _ (s₁.setTop (mkF m 132 #[.val (.int p0)] []))
                                refine Owes.go ?_ fun t k => XS.iconst X0.here hx rfl (hb hby d2_132) k
                                show Owes _ _ _ _ (s₁.setTop (mkF m 133 #[.val (.int p0)] [(.int (1 : Int32))]))
                                refine Owes.go ?_ fun t k => XS.goto X0.here hx rfl (pc0 := 133) (pc' := 137) rfl (hb hby d2_133) (by decide) (by decide) k
                                show Owes _ _ _ _ (s₁.setTop (mkF m 137 #[.val (.int p0)] [(.int (1 : Int32))]))
                                exact Owes.retN X0 hx hlk hret (by simp) (hb hby d2_137) (by decide) (by decide) ⟨congrArg (fun z => some (Value.int z)) (by unfold f_tch; rw [if_neg hc1, if_pos hc68, if_pos hc69, if_neg hc70, if_pos hc86, if_neg hc87, if_neg hc88, if_neg hc89, if_neg hc90, if_neg hc91, if_neg hc92, if_neg hc93, if_neg hc94, if_neg hc95, if_pos hc96]; first | done | rfl), rfl, e0⟩
                              · skip
                                refine Owes.go ?_ fun t k => XS.icmpNo X0.here hx rfl (hb hby d2_99) rfl (feq hc96).1 k
                                show Owes _ _ _ _ (s₁.setTop (mkF m 102 #[.val (.int p0)] []))
                                refine Owes.go ?_ fun t k => XS.iloadN X0.here hx rfl (hb hby d2_102) rfl k
                                show Owes _ _ _ _ (s₁.setTop (mkF m 103 #[.val (.int p0)] [(.int p0)]))
                                refine Owes.go ?_ fun t k => XS.bipush X0.here hx rfl (hb hby d2_103) k
                                show Owes _ _ _ _ (s₁.setTop (mkF m 105 #[.val (.int p0)] [(.int (94 : Int32)), (.int p0)]))
                                by_cases hc97 : p0 = (94 : Int32)
                                · skip
                                  refine Owes.go ?_ fun t k => XS.icmpYes X0.here hx rfl (pc0 := 105) (pc' := 132) rfl (hb hby d2_105) rfl (teq hc97).1 (by decide) (by decide) k
                                  show Owes _ _ _ _ (s₁.setTop (mkF m 132 #[.val (.int p0)] []))
                                  refine Owes.go ?_ fun t k => XS.iconst X0.here hx rfl (hb hby d2_132) k
                                  show Owes _ _ _ _ (s₁.setTop (mkF m 133 #[.val (.int p0)] [(.int (1 : Int32))]))
                                  refine Owes.go ?_ fun t k => XS.goto X0.here hx rfl (pc0 := 133) (pc' := 137) rfl (hb hby d2_133) (by decide) (by decide) k
                                  show Owes _ _ _ _ (s₁.setTop (mkF m 137 #[.val (.int p0)] [(.int (1 : Int32))]))
                                  exact Owes.retN X0 hx hlk hret (by simp) (hb hby d2_137) (by decide) (by decide) ⟨congrArg (fun z => some (Value.int z)) (by unfold f_tch; rw [if_neg hc1, if_pos hc68, if_pos hc69, if_neg hc70, if_pos hc86, if_neg hc87, if_neg hc88, if_neg hc89, if_neg hc90, if_neg hc91, if_neg hc92, if_neg hc93, if_neg hc94, if_neg hc95, if_neg hc96, if_pos hc97]; first | done | rfl), rfl, e0⟩
                                · skip
                                  refine Owes.go ?_ fun t k => XS.icmpNo X0.here hx rfl (hb hby d2_105) rfl (feq hc97).1 k
                                  show Owes _ _ _ _ (s₁.setTop (mkF m 108 #[.val (.int p0)] []))
                                  refine Owes.go ?_ fun t k => XS.iloadN X0.here hx rfl (hb hby d2_108) rfl k
                                  show Owes _ _ _ _ (s₁.setTop (mkF m 109 #[.val (.int p0)] [(.int p0)]))
                                  refine Owes.go ?_ fun t k => XS.bipush X0.here hx rfl (hb hby d2_109) k
                                  show Owes _ _ _ _ (s₁.setTop (mkF m 111 #[.val (.int p0)] [(.int (95 : Int32)), (.int p0)]))
                                  by_cases hc98 : p0 = (95 : Int32)
                                  · skip
                                    refine Owes.go ?_ fun t k => XS.icmpYes X0.here hx rfl (pc0 := 111) (pc' := 132) rfl (hb hby d2_111) rfl (teq hc98).1 (by decide) (by decide) k
                                    show Owes _ _ _ _ (s₁.setTop (mkF m 132 #[.val (.int p0)] []))
                                    refine Owes.go ?_ fun t k => XS.iconst X0.here hx rfl (hb hby d2_132) k
                                    show Owes _ _ _ _ (s₁.setTop (mkF m 133 #[.val (.int p0)] [(.int (1 : Int32))]))
                                    refine Owes.go ?_ fun t k => XS.goto X0.here hx rfl (pc0 := 133) (pc' := 137) rfl (hb hby d2_133) (by decide) (by decide) k
                                    show Owes _ _ _ _ (s₁.setTop (mkF m 137 #[.val (.int p0)] [(.int (1 : Int32))]))
                                    exact Owes.retN X0 hx hlk hret (by simp) (hb hby d2_137) (by decide) (by decide) ⟨congrArg (fun z => some (Value.int z)) (by unfold f_tch; rw [if_neg hc1, if_pos hc68, if_pos hc69, if_neg hc70, if_pos hc86, if_neg hc87, if_neg hc88, if_neg hc89, if_neg hc90, if_neg hc91, if_neg hc92, if_neg hc93, if_neg hc94, if_neg hc95, if_neg hc96, if_neg hc97, if_pos hc98]; first | done | rfl), rfl, e0⟩
                                  · skip
                                    refine Owes.go ?_ fun t k => XS.icmpNo X0.here hx rfl (hb hby d2_111) rfl (feq hc98).1 k
                                    show Owes _ _ _ _ (s₁.setTop (mkF m 114 #[.val (.int p0)] []))
                                    refine Owes.go ?_ fun t k => XS.iloadN X0.here hx rfl (hb hby d2_114) rfl k
                                    show Owes _ _ _ _ (s₁.setTop (mkF m 115 #[.val (.int p0)] [(.int p0)]))
                                    refine Owes.go ?_ fun t k => XS.bipush X0.here hx rfl (hb hby d2_115) k
                                    show Owes _ _ _ _ (s₁.setTop (mkF m 117 #[.val (.int p0)] [(.int (96 : Int32)), (.int p0)]))
                                    by_cases hc99 : p0 = (96 : Int32)
                                    · skip
                                      refine Owes.go ?_ fun t k => XS.icmpYes X0.here hx rfl (pc0 := 117) (pc' := 132) rfl (hb hby d2_117) rfl (teq hc99).1 (by decide) (by decide) k
                                      show Owes _ _ _ _ (s₁.setTop (mkF m 132 #[.val (.int p0)] []))
                                      refine Owes.go ?_ fun t k => XS.iconst X0.here hx rfl (hb hby d2_132) k
                                      show Owes _ _ _ _ (s₁.setTop (mkF m 133 #[.val (.int p0)] [(.int (1 : Int32))]))
                                      refine Owes.go ?_ fun t k => XS.goto X0.here hx rfl (pc0 := 133) (pc' := 137) rfl (hb hby d2_133) (by decide) (by decide) k
                                      show Owes _ _ _ _ (s₁.setTop (mkF m 137 #[.val (.int p0)] [(.int (1 : Int32))]))
                                      exact Owes.retN X0 hx hlk hret (by simp) (hb hby d2_137) (by decide) (by decide) ⟨congrArg (fun z => some (Value.int z)) (by unfold f_tch; rw [if_neg hc1, if_pos hc68, if_pos hc69, if_neg hc70, if_pos hc86, if_neg hc87, if_neg hc88, if_neg hc89, if_neg hc90, if_neg hc91, if_neg hc92, if_neg hc93, if_neg hc94, if_neg hc95, if_neg hc96, if_neg hc97, if_neg hc98, if_pos hc99]; first | done | rfl), rfl, e0⟩
                                    · skip
                                      refine Owes.go ?_ fun t k => XS.icmpNo X0.here hx rfl (hb hby d2_117) rfl (feq hc99).1 k
                                      show Owes _ _ _ _ (s₁.setTop (mkF m 120 #[.val (.int p0)] []))
                                      refine Owes.go ?_ fun t k => XS.iloadN X0.here hx rfl (hb hby d2_120) rfl k
                                      show Owes _ _ _ _ (s₁.setTop (mkF m 121 #[.val (.int p0)] [(.int p0)]))
                                      refine Owes.go ?_ fun t k => XS.bipush X0.here hx rfl (hb hby d2_121) k
                                      show Owes _ _ _ _ (s₁.setTop (mkF m 123 #[.val (.int p0)] [(.int (124 : Int32)), (.int p0)]))
                                      by_cases hc100 : p0 = (124 : Int32)
                                      · skip
                                        refine Owes.go ?_ fun t k => XS.icmpYes X0.here hx rfl (pc0 := 123) (pc' := 132) rfl (hb hby d2_123) rfl (teq hc100).1 (by decide) (by decide) k
                                        show Owes _ _ _ _ (s₁.setTop (mkF m 132 #[.val (.int p0)] []))
                                        refine Owes.go ?_ fun t k => XS.iconst X0.here hx rfl (hb hby d2_132) k
                                        show Owes _ _ _ _ (s₁.setTop (mkF m 133 #[.val (.int p0)] [(.int (1 : Int32))]))
                                        refine Owes.go ?_ fun t k => XS.goto X0.here hx rfl (pc0 := 133) (pc' := 137) rfl (hb hby d2_133) (by decide) (by decide) k
                                        show Owes _ _ _ _ (s₁.setTop (mkF m 137 #[.val (.int p0)] [(.int (1 : Int32))]))
                                        exact Owes.retN X0 hx hlk hret (by simp) (hb hby d2_137) (by decide) (by decide) ⟨congrArg (fun z => some (Value.int z)) (by unfold f_tch; rw [if_neg hc1, if_pos hc68, if_pos hc69, if_neg hc70, if_pos hc86, if_neg hc87, if_neg hc88, if_neg hc89, if_neg hc90, if_neg hc91, if_neg hc92, if_neg hc93, if_neg hc94, if_neg hc95, if_neg hc96, if_neg hc97, if_neg hc98, if_neg hc99, if_pos hc100]; first | done | rfl), rfl, e0⟩
                                      · skip
                                        refine Owes.go ?_ fun t k => XS.icmpNo X0.here hx rfl (hb hby d2_123) rfl (feq hc100).1 k
                                        show Owes _ _ _ _ (s₁.setTop (mkF m 126 #[.val (.int p0)] []))
                                        refine Owes.go ?_ fun t k => XS.iloadN X0.here hx rfl (hb hby d2_126) rfl k
                                        show Owes _ _ _ _ (s₁.setTop (mkF m 127 #[.val (.int p0)] [(.int p0)]))
                                        refine Owes.go ?_ fun t k => XS.bipush X0.here hx rfl (hb hby d2_127) k
                                        show Owes _ _ _ _ (s₁.setTop (mkF m 129 #[.val (.int p0)] [(.int (126 : Int32)), (.int p0)]))
                                        by_cases hc101 : p0 = (126 : Int32)
                                        · skip
                                          refine Owes.go ?_ fun t k => XS.icmpNo X0.here hx rfl (hb hby d2_129) rfl (teq hc101).2 k
                                          show Owes _ _ _ _ (s₁.setTop (mkF m 132 #[.val (.int p0)] []))
                                          refine Owes.go ?_ fun t k => XS.iconst X0.here hx rfl (hb hby d2_132) k
                                          show Owes _ _ _ _ (s₁.setTop (mkF m 133 #[.val (.int p0)] [(.int (1 : Int32))]))
                                          refine Owes.go ?_ fun t k => XS.goto X0.here hx rfl (pc0 := 133) (pc' := 137) rfl (hb hby d2_133) (by decide) (by decide) k
                                          show Owes _ _ _ _ (s₁.setTop (mkF m 137 #[.val (.int p0)] [(.int (1 : Int32))]))
                                          exact Owes.retN X0 hx hlk hret (by simp) (hb hby d2_137) (by decide) (by decide) ⟨congrArg (fun z => some (Value.int z)) (by unfold f_tch; rw [if_neg hc1, if_pos hc68, if_pos hc69, if_neg hc70, if_pos hc86, if_neg hc87, if_neg hc88, if_neg hc89, if_neg hc90, if_neg hc91, if_neg hc92, if_neg hc93, if_neg hc94, if_neg hc95, if_neg hc96, if_neg hc97, if_neg hc98, if_neg hc99, if_neg hc100, if_pos hc101]; first | done | rfl), rfl, e0⟩
                                        · skip
                                          refine Owes.go ?_ fun t k => XS.icmpYes X0.here hx rfl (pc0 := 129) (pc' := 136) rfl (hb hby d2_129) rfl (feq hc101).2 (by decide) (by decide) k
                                          show Owes _ _ _ _ (s₁.setTop (mkF m 136 #[.val (.int p0)] []))
                                          refine Owes.go ?_ fun t k => XS.iconst X0.here hx rfl (hb hby d2_136) k
                                          show Owes _ _ _ _ (s₁.setTop (mkF m 137 #[.val (.int p0)] [(.int (0 : Int32))]))
                                          exact Owes.retN X0 hx hlk hret (by simp) (hb hby d2_137) (by decide) (by decide) ⟨congrArg (fun z => some (Value.int z)) (by unfold f_tch; rw [if_neg hc1, if_pos hc68, if_pos hc69, if_neg hc70, if_pos hc86, if_neg hc87, if_neg hc88, if_neg hc89, if_neg hc90, if_neg hc91, if_neg hc92, if_neg hc93, if_neg hc94, if_neg hc95, if_neg hc96, if_neg hc97, if_neg hc98, if_neg hc99, if_neg hc100, if_neg hc101]; first | done | rfl), rfl, e0⟩
          · skip
            refine Owes.go ?_ fun t k => XS.icmpNo X0.here hx rfl (hb hby d2_37) rfl (flt hc86).2.2.1 k
            show Owes _ _ _ _ (s₁.setTop (mkF m 40 #[.val (.int p0)] []))
            refine Owes.go ?_ fun t k => XS.iconst X0.here hx rfl (hb hby d2_40) k
            show Owes _ _ _ _ (s₁.setTop (mkF m 41 #[.val (.int p0)] [(.int (1 : Int32))]))
            exact Owes.retN X0 hx hlk hret (by simp) (hb hby d2_41) (by decide) (by decide) ⟨congrArg (fun z => some (Value.int z)) (by unfold f_tch; rw [if_neg hc1, if_pos hc68, if_pos hc69, if_neg hc70, if_neg hc86]; first | done | rfl), rfl, e0⟩
      · skip
        refine Owes.go ?_ fun t k => XS.icmpNo X0.here hx rfl (hb hby d2_17) rfl (flt hc69).1 k
        show Owes _ _ _ _ (s₁.setTop (mkF m 20 #[.val (.int p0)] []))
        refine Owes.go ?_ fun t k => XS.iloadN X0.here hx rfl (hb hby d2_20) rfl k
        show Owes _ _ _ _ (s₁.setTop (mkF m 21 #[.val (.int p0)] [(.int p0)]))
        refine Owes.go ?_ fun t k => XS.bipush X0.here hx rfl (hb hby d2_21) k
        show Owes _ _ _ _ (s₁.setTop (mkF m 23 #[.val (.int p0)] [(.int (122 : Int32)), (.int p0)]))
        by_cases hc102 : (122 : Int32) < p0
        · skip
          refine Owes.go ?_ fun t k => XS.icmpYes X0.here hx rfl (pc0 := 23) (pc' := 28) rfl (hb hby d2_23) rfl (tlt hc102).2.2.1 (by decide) (by decide) k
          show Owes _ _ _ _ (s₁.setTop (mkF m 28 #[.val (.int p0)] []))
          refine Owes.go ?_ fun t k => XS.iloadN X0.here hx rfl (hb hby d2_28) rfl k
          show Owes _ _ _ _ (s₁.setTop (mkF m 29 #[.val (.int p0)] [(.int p0)]))
          refine Owes.go ?_ fun t k => XS.bipush X0.here hx rfl (hb hby d2_29) k
          show Owes _ _ _ _ (s₁.setTop (mkF m 31 #[.val (.int p0)] [(.int (65 : Int32)), (.int p0)]))
          by_cases hc103 : p0 < (65 : Int32)
          · skip
            refine Owes.go ?_ fun t k => XS.icmpYes X0.here hx rfl (pc0 := 31) (pc' := 42) rfl (hb hby d2_31) rfl (tlt hc103).1 (by decide) (by decide) k
            show Owes _ _ _ _ (s₁.setTop (mkF m 42 #[.val (.int p0)] []))
            refine Owes.go ?_ fun t k => XS.iloadN X0.here hx rfl (hb hby d2_42) rfl k
            show Owes _ _ _ _ (s₁.setTop (mkF m 43 #[.val (.int p0)] [(.int p0)]))
            refine Owes.go ?_ fun t k => XS.bipush X0.here hx rfl (hb hby d2_43) k
            show Owes _ _ _ _ (s₁.setTop (mkF m 45 #[.val (.int p0)] [(.int (33 : Int32)), (.int p0)]))
            by_cases hc104 : p0 = (33 : Int32)
            · skip
              refine Owes.go ?_ fun t k => XS.icmpYes X0.here hx rfl (pc0 := 45) (pc' := 132) rfl (hb hby d2_45) rfl (teq hc104).1 (by decide) (by decide) k
              show Owes _ _ _ _ (s₁.setTop (mkF m 132 #[.val (.int p0)] []))
              refine Owes.go ?_ fun t k => XS.iconst X0.here hx rfl (hb hby d2_132) k
              show Owes _ _ _ _ (s₁.setTop (mkF m 133 #[.val (.int p0)] [(.int (1 : Int32))]))
              refine Owes.go ?_ fun t k => XS.goto X0.here hx rfl (pc0 := 133) (pc' := 137) rfl (hb hby d2_133) (by decide) (by decide) k
              show Owes _ _ _ _ (s₁.setTop (mkF m 137 #[.val (.int p0)] [(.int (1 : Int32))]))
              exact Owes.retN X0 hx hlk hret (by simp) (hb hby d2_137) (by decide) (by decide) ⟨congrArg (fun z => some (Value.int z)) (by unfold f_tch; rw [if_neg hc1, if_pos hc68, if_neg hc69, if_pos hc102, if_pos hc103, if_pos hc104]; first | done | rfl), rfl, e0⟩
            · skip
              refine Owes.go ?_ fun t k => XS.icmpNo X0.here hx rfl (hb hby d2_45) rfl (feq hc104).1 k
              show Owes _ _ _ _ (s₁.setTop (mkF m 48 #[.val (.int p0)] []))
              refine Owes.go ?_ fun t k => XS.iloadN X0.here hx rfl (hb hby d2_48) rfl k
              show Owes _ _ _ _ (s₁.setTop (mkF m 49 #[.val (.int p0)] [(.int p0)]))
              refine Owes.go ?_ fun t k => XS.bipush X0.here hx rfl (hb hby d2_49) k
              show Owes _ _ _ _ (s₁.setTop (mkF m 51 #[.val (.int p0)] [(.int (35 : Int32)), (.int p0)]))
              by_cases hc105 : p0 = (35 : Int32)
              · skip
                refine Owes.go ?_ fun t k => XS.icmpYes X0.here hx rfl (pc0 := 51) (pc' := 132) rfl (hb hby d2_51) rfl (teq hc105).1 (by decide) (by decide) k
                show Owes _ _ _ _ (s₁.setTop (mkF m 132 #[.val (.int p0)] []))
                refine Owes.go ?_ fun t k => XS.iconst X0.here hx rfl (hb hby d2_132) k
                show Owes _ _ _ _ (s₁.setTop (mkF m 133 #[.val (.int p0)] [(.int (1 : Int32))]))
                refine Owes.go ?_ fun t k => XS.goto X0.here hx rfl (pc0 := 133) (pc' := 137) rfl (hb hby d2_133) (by decide) (by decide) k
                show Owes _ _ _ _ (s₁.setTop (mkF m 137 #[.val (.int p0)] [(.int (1 : Int32))]))
                exact Owes.retN X0 hx hlk hret (by simp) (hb hby d2_137) (by decide) (by decide) ⟨congrArg (fun z => some (Value.int z)) (by unfold f_tch; rw [if_neg hc1, if_pos hc68, if_neg hc69, if_pos hc102, if_pos hc103, if_neg hc104, if_pos hc105]; first | done | rfl), rfl, e0⟩
              · skip
                refine Owes.go ?_ fun t k => XS.icmpNo X0.here hx rfl (hb hby d2_51) rfl (feq hc105).1 k
                show Owes _ _ _ _ (s₁.setTop (mkF m 54 #[.val (.int p0)] []))
                refine Owes.go ?_ fun t k => XS.iloadN X0.here hx rfl (hb hby d2_54) rfl k
                show Owes _ _ _ _ (s₁.setTop (mkF m 55 #[.val (.int p0)] [(.int p0)]))
                refine Owes.go ?_ fun t k => XS.bipush X0.here hx rfl (hb hby d2_55) k
                show Owes _ _ _ _ (s₁.setTop (mkF m 57 #[.val (.int p0)] [(.int (36 : Int32)), (.int p0)]))
                by_cases hc106 : p0 = (36 : Int32)
                · skip
                  refine Owes.go ?_ fun t k => XS.icmpYes X0.here hx rfl (pc0 := 57) (pc' := 132) rfl (hb hby d2_57) rfl (teq hc106).1 (by decide) (by decide) k
                  show Owes _ _ _ _ (s₁.setTop (mkF m 132 #[.val (.int p0)] []))
                  refine Owes.go ?_ fun t k => XS.iconst X0.here hx rfl (hb hby d2_132) k
                  show Owes _ _ _ _ (s₁.setTop (mkF m 133 #[.val (.int p0)] [(.int (1 : Int32))]))
                  refine Owes.go ?_ fun t k => XS.goto X0.here hx rfl (pc0 := 133) (pc' := 137) rfl (hb hby d2_133) (by decide) (by decide) k
                  show Owes _ _ _ _ (s₁.setTop (mkF m 137 #[.val (.int p0)] [(.int (1 : Int32))]))
                  exact Owes.retN X0 hx hlk hret (by simp) (hb hby d2_137) (by decide) (by decide) ⟨congrArg (fun z => some (Value.int z)) (by unfold f_tch; rw [if_neg hc1, if_pos hc68, if_neg hc69, if_pos hc102, if_pos hc103, if_neg hc104, if_neg hc105, if_pos hc106]; first | done | rfl), rfl, e0⟩
                · skip
                  refine Owes.go ?_ fun t k => XS.icmpNo X0.here hx rfl (hb hby d2_57) rfl (feq hc106).1 k
                  show Owes _ _ _ _ (s₁.setTop (mkF m 60 #[.val (.int p0)] []))
                  refine Owes.go ?_ fun t k => XS.iloadN X0.here hx rfl (hb hby d2_60) rfl k
                  show Owes _ _ _ _ (s₁.setTop (mkF m 61 #[.val (.int p0)] [(.int p0)]))
                  refine Owes.go ?_ fun t k => XS.bipush X0.here hx rfl (hb hby d2_61) k
                  show Owes _ _ _ _ (s₁.setTop (mkF m 63 #[.val (.int p0)] [(.int (37 : Int32)), (.int p0)]))
                  by_cases hc107 : p0 = (37 : Int32)
                  · skip
                    refine Owes.go ?_ fun t k => XS.icmpYes X0.here hx rfl (pc0 := 63) (pc' := 132) rfl (hb hby d2_63) rfl (teq hc107).1 (by decide) (by decide) k
                    show Owes _ _ _ _ (s₁.setTop (mkF m 132 #[.val (.int p0)] []))
                    refine Owes.go ?_ fun t k => XS.iconst X0.here hx rfl (hb hby d2_132) k
                    show Owes _ _ _ _ (s₁.setTop (mkF m 133 #[.val (.int p0)] [(.int (1 : Int32))]))
                    refine Owes.go ?_ fun t k => XS.goto X0.here hx rfl (pc0 := 133) (pc' := 137) rfl (hb hby d2_133) (by decide) (by decide) k
                    show Owes _ _ _ _ (s₁.setTop (mkF m 137 #[.val (.int p0)] [(.int (1 : Int32))]))
                    exact Owes.retN X0 hx hlk hret (by simp) (hb hby d2_137) (by decide) (by decide) ⟨congrArg (fun z => some (Value.int z)) (by unfold f_tch; rw [if_neg hc1, if_pos hc68, if_neg hc69, if_pos hc102, if_pos hc103, if_neg hc104, if_neg hc105, if_neg hc106, if_pos hc107]; first | done | rfl), rfl, e0⟩
                  · skip
                    refine Owes.go ?_ fun t k => XS.icmpNo X0.here hx rfl (hb hby d2_63) rfl (feq hc107).1 k
                    show Owes _ _ _ _ (s₁.setTop (mkF m 66 #[.val (.int p0)] []))
                    refine Owes.go ?_ fun t k => XS.iloadN X0.here hx rfl (hb hby d2_66) rfl k
                    show Owes _ _ _ _ (s₁.setTop (mkF m 67 #[.val (.int p0)] [(.int p0)]))
                    refine Owes.go ?_ fun t k => XS.bipush X0.here hx rfl (hb hby d2_67) k
                    show Owes _ _ _ _ (s₁.setTop (mkF m 69 #[.val (.int p0)] [(.int (38 : Int32)), (.int p0)]))
                    by_cases hc108 : p0 = (38 : Int32)
                    · skip
                      refine Owes.go ?_ fun t k => XS.icmpYes X0.here hx rfl (pc0 := 69) (pc' := 132) rfl (hb hby d2_69) rfl (teq hc108).1 (by decide) (by decide) k
                      show Owes _ _ _ _ (s₁.setTop (mkF m 132 #[.val (.int p0)] []))
                      refine Owes.go ?_ fun t k => XS.iconst X0.here hx rfl (hb hby d2_132) k
                      show Owes _ _ _ _ (s₁.setTop (mkF m 133 #[.val (.int p0)] [(.int (1 : Int32))]))
                      refine Owes.go ?_ fun t k => XS.goto X0.here hx rfl (pc0 := 133) (pc' := 137) rfl (hb hby d2_133) (by decide) (by decide) k
                      show Owes _ _ _ _ (s₁.setTop (mkF m 137 #[.val (.int p0)] [(.int (1 : Int32))]))
                      exact Owes.retN X0 hx hlk hret (by simp) (hb hby d2_137) (by decide) (by decide) ⟨congrArg (fun z => some (Value.int z)) (by unfold f_tch; rw [if_neg hc1, if_pos hc68, if_neg hc69, if_pos hc102, if_pos hc103, if_neg hc104, if_neg hc105, if_neg hc106, if_neg hc107, if_pos hc108]; first | done | rfl), rfl, e0⟩
                    · skip
                      refine Owes.go ?_ fun t k => XS.icmpNo X0.here hx rfl (hb hby d2_69) rfl (feq hc108).1 k
                      show Owes _ _ _ _ (s₁.setTop (mkF m 72 #[.val (.int p0)] []))
                      refine Owes.go ?_ fun t k => XS.iloadN X0.here hx rfl (hb hby d2_72) rfl k
                      show Owes _ _ _ _ (s₁.setTop (mkF m 73 #[.val (.int p0)] [(.int p0)]))
                      refine Owes.go ?_ fun t k => XS.bipush X0.here hx rfl (hb hby d2_73) k
                      show Owes _ _ _ _ (s₁.setTop (mkF m 75 #[.val (.int p0)] [(.int (39 : Int32)), (.int p0)]))
                      by_cases hc109 : p0 = (39 : Int32)
                      · skip
                        refine Owes.go ?_ fun t k => XS.icmpYes X0.here hx rfl (pc0 := 75) (pc' := 132) rfl (hb hby d2_75) rfl (teq hc109).1 (by decide) (by decide) k
                        show Owes _ _ _ _ (s₁.setTop (mkF m 132 #[.val (.int p0)] []))
                        refine Owes.go ?_ fun t k => XS.iconst X0.here hx rfl (hb hby d2_132) k
                        show Owes _ _ _ _ (s₁.setTop (mkF m 133 #[.val (.int p0)] [(.int (1 : Int32))]))
                        refine Owes.go ?_ fun t k => XS.goto X0.here hx rfl (pc0 := 133) (pc' := 137) rfl (hb hby d2_133) (by decide) (by decide) k
                        show Owes _ _ _ _ (s₁.setTop (mkF m 137 #[.val (.int p0)] [(.int (1 : Int32))]))
                        exact Owes.retN X0 hx hlk hret (by simp) (hb hby d2_137) (by decide) (by decide) ⟨congrArg (fun z => some (Value.int z)) (by unfold f_tch; rw [if_neg hc1, if_pos hc68, if_neg hc69, if_pos hc102, if_pos hc103, if_neg hc104, if_neg hc105, if_neg hc106, if_neg hc107, if_neg hc108, if_pos hc109]; first | done | rfl), rfl, e0⟩
                      · skip
                        refine Owes.go ?_ fun t k => XS.icmpNo X0.here hx rfl (hb hby d2_75) rfl (feq hc109).1 k
                        show Owes _ _ _ _ (s₁.setTop (mkF m 78 #[.val (.int p0)] []))
                        refine Owes.go ?_ fun t k => XS.iloadN X0.here hx rfl (hb hby d2_78) rfl k
                        show Owes _ _ _ _ (s₁.setTop (mkF m 79 #[.val (.int p0)] [(.int p0)]))
                        refine Owes.go ?_ fun t k => XS.bipush X0.here hx rfl (hb hby d2_79) k
                        show Owes _ _ _ _ (s₁.setTop (mkF m 81 #[.val (.int p0)] [(.int (42 : Int32)), (.int p0)]))
                        by_cases hc110 : p0 = (42 : Int32)
                        · skip
                          refine Owes.go ?_ fun t k => XS.icmpYes X0.here hx rfl (pc0 := 81) (pc' := 132) rfl (hb hby d2_81) rfl (teq hc110).1 (by decide) (by decide) k
                          show Owes _ _ _ _ (s₁.setTop (mkF m 132 #[.val (.int p0)] []))
                          refine Owes.go ?_ fun t k => XS.iconst X0.here hx rfl (hb hby d2_132) k
                          show Owes _ _ _ _ (s₁.setTop (mkF m 133 #[.val (.int p0)] [(.int (1 : Int32))]))
                          refine Owes.go ?_ fun t k => XS.goto X0.here hx rfl (pc0 := 133) (pc' := 137) rfl (hb hby d2_133) (by decide) (by decide) k
                          show Owes _ _ _ _ (s₁.setTop (mkF m 137 #[.val (.int p0)] [(.int (1 : Int32))]))
                          exact Owes.retN X0 hx hlk hret (by simp) (hb hby d2_137) (by decide) (by decide) ⟨congrArg (fun z => some (Value.int z)) (by unfold f_tch; rw [if_neg hc1, if_pos hc68, if_neg hc69, if_pos hc102, if_pos hc103, if_neg hc104, if_neg hc105, if_neg hc106, if_neg hc107, if_neg hc108, if_neg hc109, if_pos hc110]; first | done | rfl), rfl, e0⟩
                        · skip
                          refine Owes.go ?_ fun t k => XS.icmpNo X0.here hx rfl (hb hby d2_81) rfl (feq hc110).1 k
                          show Owes _ _ _ _ (s₁.setTop (mkF m 84 #[.val (.int p0)] []))
                          refine Owes.go ?_ fun t k => XS.iloadN X0.here hx rfl (hb hby d2_84) rfl k
                          show Owes _ _ _ _ (s₁.setTop (mkF m 85 #[.val (.int p0)] [(.int p0)]))
                          refine Owes.go ?_ fun t k => XS.bipush X0.here hx rfl (hb hby d2_85) k
                          show Owes _ _ _ _ (s₁.setTop (mkF m 87 #[.val (.int p0)] [(.int (43 : Int32)), (.int p0)]))
                          by_cases hc111 : p0 = (43 : Int32)
                          · skip
                            refine Owes.go ?_ fun t k => XS.icmpYes X0.here hx rfl (pc0 := 87) (pc' := 132) rfl (hb hby d2_87) rfl (teq hc111).1 (by decide) (by decide) k
                            show Owes _ _ _ _ (s₁.setTop (mkF m 132 #[.val (.int p0)] []))
                            refine Owes.go ?_ fun t k => XS.iconst X0.here hx rfl (hb hby d2_132) k
                            show Owes _ _ _ _ (s₁.setTop (mkF m 133 #[.val (.int p0)] [(.int (1 : Int32))]))
                            refine Owes.go ?_ fun t k => XS.goto X0.here hx rfl (pc0 := 133) (pc' := 137) rfl (hb hby d2_133) (by decide) (by decide) k
                            show Owes _ _ _ _ (s₁.setTop (mkF m 137 #[.val (.int p0)] [(.int (1 : Int32))]))
                            exact Owes.retN X0 hx hlk hret (by simp) (hb hby d2_137) (by decide) (by decide) ⟨congrArg (fun z => some (Value.int z)) (by unfold f_tch; rw [if_neg hc1, if_pos hc68, if_neg hc69, if_pos hc102, if_pos hc103, if_neg hc104, if_neg hc105, if_neg hc106, if_neg hc107, if_neg hc108, if_neg hc109, if_neg hc110, if_pos hc111]; first | done | rfl), rfl, e0⟩
                          · skip
                            refine Owes.go ?_ fun t k => XS.icmpNo X0.here hx rfl (hb hby d2_87) rfl (feq hc111).1 k
                            show Owes _ _ _ _ (s₁.setTop (mkF m 90 #[.val (.int p0)] []))
                            refine Owes.go ?_ fun t k => XS.iloadN X0.here hx rfl (hb hby d2_90) rfl k
                            show Owes _ _ _ _ (s₁.setTop (mkF m 91 #[.val (.int p0)] [(.int p0)]))
                            refine Owes.go ?_ fun t k => XS.bipush X0.here hx rfl (hb hby d2_91) k
                            show Owes _ _ _ _ (s₁.setTop (mkF m 93 #[.val (.int p0)] [(.int (45 : Int32)), (.int p0)]))
                            by_cases hc112 : p0 = (45 : Int32)
                            · skip
                              refine Owes.go ?_ fun t k => XS.icmpYes X0.here hx rfl (pc0 := 93) (pc' := 132) rfl (hb hby d2_93) rfl (teq hc112).1 (by decide) (by decide) k
                              show Owes _ _ _ _ (s₁.setTop (mkF m 132 #[.val (.int p0)] []))
                              refine Owes.go ?_ fun t k => XS.iconst X0.here hx rfl (hb hby d2_132) k
                              show Owes _ _ _ _ (s₁.setTop (mkF m 133 #[.val (.int p0)] [(.int (1 : Int32))]))
                              refine Owes.go ?_ fun t k => XS.goto X0.here hx rfl (pc0 := 133) (pc' := 137) rfl (hb hby d2_133) (by decide) (by decide) k
                              show Owes _ _ _ _ (s₁.setTop (mkF m 137 #[.val (.int p0)] [(.int (1 : Int32))]))
                              exact Owes.retN X0 hx hlk hret (by simp) (hb hby d2_137) (by decide) (by decide) ⟨congrArg (fun z => some (Value.int z)) (by unfold f_tch; rw [if_neg hc1, if_pos hc68, if_neg hc69, if_pos hc102, if_pos hc103, if_neg hc104, if_neg hc105, if_neg hc106, if_neg hc107, if_neg hc108, if_neg hc109, if_neg hc110, if_neg hc111, if_pos hc112]; first | done | rfl), rfl, e0⟩
                            · skip
                              refine Owes.go ?_ fun t k => XS.icmpNo X0.here hx rfl (hb hby d2_93) rfl (feq hc112).1 k
                              show Owes _ _ _ _ (s₁.setTop (mkF m 96 #[.val (.int p0)] []))
                              refine Owes.go ?_ fun t k => XS.iloadN X0.here hx rfl (hb hby d2_96) rfl k
                              show Owes _ _ _ _ (s₁.setTop (mkF m 97 #[.val (.int p0)] [(.int p0)]))
                              refine Owes.go ?_ fun t k => XS.bipush X0.here hx rfl (hb hby d2_97) k
                              show Owes _ _ _ _ (s₁.setTop (mkF m 99 #[.val (.int p0)] [(.int (46 : Int32)), (.int p0)]))
                              by_cases hc113 : p0 = (46 : Int32)
                              · skip
                                refine Owes.go ?_ fun t k => XS.icmpYes X0.here hx rfl (pc0 := 99) (pc' := 132) rfl (hb hby d2_99) rfl (teq hc113).1 (by decide) (by decide) k
                                show Owes _ _ _ _ (s₁.setTop (mkF m 132 #[.val (.int p0)] []))
                                refine Owes.go ?_ fun t k => XS.iconst X0.here hx rfl (hb hby d2_132) k
                                show Owes _ _ _ _ (s₁.setTop (mkF m 133 #[.val (.int p0)] [(.int (1 : Int32))]))
                                refine Owes.go ?_ fun t k => XS.goto X0.here hx rfl (pc0 := 133) (pc' := 137) rfl (hb hby d2_133) (by decide) (by decide) k
                                show Owes _ _ _ _ (s₁.setTop (mkF m 137 #[.val (.int p0)] [(.int (1 : Int32))]))
                                exact Owes.retN X0 hx hlk hret (by simp) (hb hby d2_137) (by decide) (by decide) ⟨congrArg (fun z => some (Value.int z)) (by unfold f_tch; rw [if_neg hc1, if_pos hc68, if_neg hc69, if_pos hc102, if_pos hc103, if_neg hc104, if_neg hc105, if_neg hc106, if_neg hc107, if_neg hc108, if_neg hc109, if_neg hc110, if_neg hc111, if_neg hc112, if_pos hc113]; first | done | rfl), rfl, e0⟩
                              · skip
                                refine Owes.go ?_ fun t k => XS.icmpNo X0.here hx rfl (hb hby d2_99) rfl (feq hc113).1 k
                                show Owes _ _ _ _ (s₁.setTop (mkF m 102 #[.val (.int p0)] []))
                                refine Owes.go ?_ fun t k => XS.iloadN X0.here hx rfl (hb hby d2_102) rfl k
                                show Owes _ _ _ _ (s₁.setTop (mkF m 103 #[.val (.int p0)] [(.int p0)]))
                                refine Owes.go ?_ fun t k => XS.bipush X0.here hx rfl (hb hby d2_103) k
                                show Owes _ _ _ _ (s₁.setTop (mkF m 105 #[.val (.int p0)] [(.int (94 : Int32)), (.int p0)]))
                                by_cases hc114 : p0 = (94 : Int32)
                                · skip
                                  refine Owes.go ?_ fun t k => XS.icmpYes X0.here hx rfl (pc0 := 105) (pc' := 132) rfl (hb hby d2_105) rfl (teq hc114).1 (by decide) (by decide) k
                                  show Owes _ _ _ _ (s₁.setTop (mkF m 132 #[.val (.int p0)] []))
                                  refine Owes.go ?_ fun t k => XS.iconst X0.here hx rfl (hb hby d2_132) k
                                  show Owes _ _ _ _ (s₁.setTop (mkF m 133 #[.val (.int p0)] [(.int (1 : Int32))]))
                                  refine Owes.go ?_ fun t k => XS.goto X0.here hx rfl (pc0 := 133) (pc' := 137) rfl (hb hby d2_133) (by decide) (by decide) k
                                  show Owes _ _ _ _ (s₁.setTop (mkF m 137 #[.val (.int p0)] [(.int (1 : Int32))]))
                                  exact Owes.retN X0 hx hlk hret (by simp) (hb hby d2_137) (by decide) (by decide) ⟨congrArg (fun z => some (Value.int z)) (by unfold f_tch; rw [if_neg hc1, if_pos hc68, if_neg hc69, if_pos hc102, if_pos hc103, if_neg hc104, if_neg hc105, if_neg hc106, if_neg hc107, if_neg hc108, if_neg hc109, if_neg hc110, if_neg hc111, if_neg hc112, if_neg hc113, if_pos hc114]; first | done | rfl), rfl, e0⟩
                                · skip
                                  refine Owes.go ?_ fun t k => XS.icmpNo X0.here hx rfl (hb hby d2_105) rfl (feq hc114).1 k
                                  show Owes _ _ _ _ (s₁.setTop (mkF m 108 #[.val (.int p0)] []))
                                  refine Owes.go ?_ fun t k => XS.iloadN X0.here hx rfl (hb hby d2_108) rfl k
                                  show Owes _ _ _ _ (s₁.setTop (mkF m 109 #[.val (.int p0)] [(.int p0)]))
                                  refine Owes.go ?_ fun t k => XS.bipush X0.here hx rfl (hb hby d2_109) k
                                  show Owes _ _ _ _ (s₁.setTop (mkF m 111 #[.val (.int p0)] [(.int (95 : Int32)), (.int p0)]))
                                  by_cases hc115 : p0 = (95 : Int32)
                                  · skip
                                    refine Owes.go ?_ fun t k => XS.icmpYes X0.here hx rfl (pc0 := 111) (pc' := 132) rfl (hb hby d2_111) rfl (teq hc115).1 (by decide) (by decide) k
                                    show Owes _ _ _ _ (s₁.setTop (mkF m 132 #[.val (.int p0)] []))
                                    refine Owes.go ?_ fun t k => XS.iconst X0.here hx rfl (hb hby d2_132) k
                                    show Owes _ _ _ _ (s₁.setTop (mkF m 133 #[.val (.int p0)] [(.int (1 : Int32))]))
                                    refine Owes.go ?_ fun t k => XS.goto X0.here hx rfl (pc0 := 133) (pc' := 137) rfl (hb hby d2_133) (by decide) (by decide) k
                                    show Owes _ _ _ _ (s₁.setTop (mkF m 137 #[.val (.int p0)] [(.int (1 : Int32))]))
                                    exact Owes.retN X0 hx hlk hret (by simp) (hb hby d2_137) (by decide) (by decide) ⟨congrArg (fun z => some (Value.int z)) (by unfold f_tch; rw [if_neg hc1, if_pos hc68, if_neg hc69, if_pos hc102, if_pos hc103, if_neg hc104, if_neg hc105, if_neg hc106, if_neg hc107, if_neg hc108, if_neg hc109, if_neg hc110, if_neg hc111, if_neg hc112, if_neg hc113, if_neg hc114, if_pos hc115]; first | done | rfl), rfl, e0⟩
                                  · skip
                                    refine Owes.go ?_ fun t k => XS.icmpNo X0.here hx rfl (hb hby d2_111) rfl (feq hc115).1 k
                                    show Owes _ _ _ _ (s₁.setTop (mkF m 114 #[.val (.int p0)] []))
                                    refine Owes.go ?_ fun t k => XS.iloadN X0.here hx rfl (hb hby d2_114) rfl k
                                    show Owes _ _ _ _ (s₁.setTop (mkF m 115 #[.val (.int p0)] [(.int p0)]))
                                    refine Owes.go ?_ fun t k => XS.bipush X0.here hx rfl (hb hby d2_115) k
                                    show Owes _ _ _ _ (s₁.setTop (mkF m 117 #[.val (.int p0)] [(.int (96 : Int32)), (.int p0)]))
                                    by_cases hc116 : p0 = (96 : Int32)
                                    · skip
                                      refine Owes.go ?_ fun t k => XS.icmpYes X0.here hx rfl (pc0 := 117) (pc' := 132) rfl (hb hby d2_117) rfl (teq hc116).1 (by decide) (by decide) k
                                      show Owes _ _ _ _ (s₁.setTop (mkF m 132 #[.val (.int p0)] []))
                                      refine Owes.go ?_ fun t k => XS.iconst X0.here hx rfl (hb hby d2_132) k
                                      show Owes _ _ _ _ (s₁.setTop (mkF m 133 #[.val (.int p0)] [(.int (1 : Int32))]))
                                      refine Owes.go ?_ fun t k => XS.goto X0.here hx rfl (pc0 := 133) (pc' := 137) rfl (hb hby d2_133) (by decide) (by decide) k
                                      show Owes _ _ _ _ (s₁.setTop (mkF m 137 #[.val (.int p0)] [(.int (1 : Int32))]))
                                      exact Owes.retN X0 hx hlk hret (by simp) (hb hby d2_137) (by decide) (by decide) ⟨congrArg (fun z => some (Value.int z)) (by unfold f_tch; rw [if_neg hc1, if_pos hc68, if_neg hc69, if_pos hc102, if_pos hc103, if_neg hc104, if_neg hc105, if_neg hc106, if_neg hc107, if_neg hc108, if_neg hc109, if_neg hc110, if_neg hc111, if_neg hc112, if_neg hc113, if_neg hc114, if_neg hc115, if_pos hc116]; first | done | rfl), rfl, e0⟩
                                    · skip
                                      refine Owes.go ?_ fun t k => XS.icmpNo X0.here hx rfl (hb hby d2_117) rfl (feq hc116).1 k
                                      show Owes _ _ _ _ (s₁.setTop (mkF m 120 #[.val (.int p0)] []))
                                      refine Owes.go ?_ fun t k => XS.iloadN X0.here hx rfl (hb hby d2_120) rfl k
                                      show Owes _ _ _ _ (s₁.setTop (mkF m 121 #[.val (.int p0)] [(.int p0)]))
                                      refine Owes.go ?_ fun t k => XS.bipush X0.here hx rfl (hb hby d2_121) k
                                      show Owes _ _ _ _ (s₁.setTop (mkF m 123 #[.val (.int p0)] [(.int (124 : Int32)), (.int p0)]))
                                      by_cases hc117 : p0 = (124 : Int32)
                                      · skip
                                        refine Owes.go ?_ fun t k => XS.icmpYes X0.here hx rfl (pc0 := 123) (pc' := 132) rfl (hb hby d2_123) rfl (teq hc117).1 (by decide) (by decide) k
                                        show Owes _ _ _ _ (s₁.setTop (mkF m 132 #[.val (.int p0)] []))
                                        refine Owes.go ?_ fun t k => XS.iconst X0.here hx rfl (hb hby d2_132) k
                                        show Owes _ _ _ _ (s₁.setTop (mkF m 133 #[.val (.int p0)] [(.int (1 : Int32))]))
                                        refine Owes.go ?_ fun t k => XS.goto X0.here hx rfl (pc0 := 133) (pc' := 137) rfl (hb hby d2_133) (by decide) (by decide) k
                                        show Owes _ _ _ _ (s₁.setTop (mkF m 137 #[.val (.int p0)] [(.int (1 : Int32))]))
                                        exact Owes.retN X0 hx hlk hret (by simp) (hb hby d2_137) (by decide) (by decide) ⟨congrArg (fun z => some (Value.int z)) (by unfold f_tch; rw [if_neg hc1, if_pos hc68, if_neg hc69, if_pos hc102, if_pos hc103, if_neg hc104, if_neg hc105, if_neg hc106, if_neg hc107, if_neg hc108, if_neg hc109, if_neg hc110, if_neg hc111, if_neg hc112, if_neg hc113, if_neg hc114, if_neg hc115, if_neg hc116, if_pos hc117]; first | done | rfl), rfl, e0⟩
                                      · skip
                                        refine Owes.go ?_ fun t k => XS.icmpNo X0.here hx rfl (hb hby d2_123) rfl (feq hc117).1 k
                                        show Owes _ _ _ _ (s₁.setTop (mkF m 126 #[.val (.int p0)] []))
                                        refine Owes.go ?_ fun t k => XS.iloadN X0.here hx rfl (hb hby d2_126) rfl k
                                        show Owes _ _ _ _ (s₁.setTop (mkF m 127 #[.val (.int p0)] [(.int p0)]))
                                        refine Owes.go ?_ fun t k => XS.bipush X0.here hx rfl (hb hby d2_127) k
                                        show Owes _ _ _ _ (s₁.setTop (mkF m 129 #[.val (.int p0)] [(.int (126 : Int32)), (.int p0)]))
                                        by_cases hc118 : p0 = (126 : Int32)
                                        · skip
                                          refine Owes.go ?_ fun t k => XS.icmpNo X0.here hx rfl (hb hby d2_129) rfl (teq hc118).2 k
                                          show Owes _ _ _ _ (s₁.setTop (mkF m 132 #[.val (.int p0)] []))
                                          refine Owes.go ?_ fun t k => XS.iconst X0.here hx rfl (hb hby d2_132) k
                                          show Owes _ _ _ _ (s₁.setTop (mkF m 133 #[.val (.int p0)] [(.int (1 : Int32))]))
                                          refine Owes.go ?_ fun t k => XS.goto X0.here hx rfl (pc0 := 133) (pc' := 137) rfl (hb hby d2_133) (by decide) (by decide) k
                                          show Owes _ _ _ _ (s₁.setTop (mkF m 137 #[.val (.int p0)] [(.int (1 : Int32))]))
                                          exact Owes.retN X0 hx hlk hret (by simp) (hb hby d2_137) (by decide) (by decide) ⟨congrArg (fun z => some (Value.int z)) (by unfold f_tch; rw [if_neg hc1, if_pos hc68, if_neg hc69, if_pos hc102, if_pos hc103, if_neg hc104, if_neg hc105, if_neg hc106, if_neg hc107, if_neg hc108, if_neg hc109, if_neg hc110, if_neg hc111, if_neg hc112, if_neg hc113, if_neg hc114, if_neg hc115, if_neg hc116, if_neg hc117, if_pos hc118]; first | done | rfl), rfl, e0⟩
                                        · skip
                                          refine Owes.go ?_ fun t k => XS.icmpYes X0.here hx rfl (pc0 := 129) (pc' := 136) rfl (hb hby d2_129) rfl (feq hc118).2 (by decide) (by decide) k
                                          show Owes _ _ _ _ (s₁.setTop (mkF m 136 #[.val (.int p0)] []))
                                          refine Owes.go ?_ fun t k => XS.iconst X0.here hx rfl (hb hby d2_136) k
                                          show Owes _ _ _ _ (s₁.setTop (mkF m 137 #[.val (.int p0)] [(.int (0 : Int32))]))
                                          exact Owes.retN X0 hx hlk hret (by simp) (hb hby d2_137) (by decide) (by decide) ⟨congrArg (fun z => some (Value.int z)) (by unfold f_tch; rw [if_neg hc1, if_pos hc68, if_neg hc69, if_pos hc102, if_pos hc103, if_neg hc104, if_neg hc105, if_neg hc106, if_neg hc107, if_neg hc108, if_neg hc109, if_neg hc110, if_neg hc111, if_neg hc112, if_neg hc113, if_neg hc114, if_neg hc115, if_neg hc116, if_neg hc117, if_neg hc118]; first | done | rfl), rfl, e0⟩
          · skip
            refine Owes.go ?_ fun t k => XS.icmpNo X0.here hx rfl (hb hby d2_31) rfl (flt hc103).1 k
            show Owes _ _ _ _ (s₁.setTop (mkF m 34 #[.val (.int p0)] []))
            refine Owes.go ?_ fun t k => XS.iloadN X0.here hx rfl (hb hby d2_34) rfl k
            show Owes _ _ _ _ (s₁.setTop (mkF m 35 #[.val (.int p0)] [(.int p0)]))
            refine Owes.go ?_ fun t k => XS.bipush X0.here hx rfl (hb hby d2_35) k
            show Owes _ _ _ _ (s₁.setTop (mkF m 37 #[.val (.int p0)] [(.int (90 : Int32)), (.int p0)]))
            by_cases hc119 : (90 : Int32) < p0
            · skip
              refine Owes.go ?_ fun t k => XS.icmpYes X0.here hx rfl (pc0 := 37) (pc' := 42) rfl (hb hby d2_37) rfl (tlt hc119).2.2.1 (by decide) (by decide) k
              show Owes _ _ _ _ (s₁.setTop (mkF m 42 #[.val (.int p0)] []))
              refine Owes.go ?_ fun t k => XS.iloadN X0.here hx rfl (hb hby d2_42) rfl k
              show Owes _ _ _ _ (s₁.setTop (mkF m 43 #[.val (.int p0)] [(.int p0)]))
              refine Owes.go ?_ fun t k => XS.bipush X0.here hx rfl (hb hby d2_43) k
              show Owes _ _ _ _ (s₁.setTop (mkF m 45 #[.val (.int p0)] [(.int (33 : Int32)), (.int p0)]))
              by_cases hc120 : p0 = (33 : Int32)
              · skip
                refine Owes.go ?_ fun t k => XS.icmpYes X0.here hx rfl (pc0 := 45) (pc' := 132) rfl (hb hby d2_45) rfl (teq hc120).1 (by decide) (by decide) k
                show Owes _ _ _ _ (s₁.setTop (mkF m 132 #[.val (.int p0)] []))
                refine Owes.go ?_ fun t k => XS.iconst X0.here hx rfl (hb hby d2_132) k
                show Owes _ _ _ _ (s₁.setTop (mkF m 133 #[.val (.int p0)] [(.int (1 : Int32))]))
                refine Owes.go ?_ fun t k => XS.goto X0.here hx rfl (pc0 := 133) (pc' := 137) rfl (hb hby d2_133) (by decide) (by decide) k
                show Owes _ _ _ _ (s₁.setTop (mkF m 137 #[.val (.int p0)] [(.int (1 : Int32))]))
                exact Owes.retN X0 hx hlk hret (by simp) (hb hby d2_137) (by decide) (by decide) ⟨congrArg (fun z => some (Value.int z)) (by unfold f_tch; rw [if_neg hc1, if_pos hc68, if_neg hc69, if_pos hc102, if_neg hc103, if_pos hc119, if_pos hc120]; first | done | rfl), rfl, e0⟩
              · skip
                refine Owes.go ?_ fun t k => XS.icmpNo X0.here hx rfl (hb hby d2_45) rfl (feq hc120).1 k
                show Owes _ _ _ _ (s₁.setTop (mkF m 48 #[.val (.int p0)] []))
                refine Owes.go ?_ fun t k => XS.iloadN X0.here hx rfl (hb hby d2_48) rfl k
                show Owes _ _ _ _ (s₁.setTop (mkF m 49 #[.val (.int p0)] [(.int p0)]))
                refine Owes.go ?_ fun t k => XS.bipush X0.here hx rfl (hb hby d2_49) k
                show Owes _ _ _ _ (s₁.setTop (mkF m 51 #[.val (.int p0)] [(.int (35 : Int32)), (.int p0)]))
                by_cases hc121 : p0 = (35 : Int32)
                · skip
                  refine Owes.go ?_ fun t k => XS.icmpYes X0.here hx rfl (pc0 := 51) (pc' := 132) rfl (hb hby d2_51) rfl (teq hc121).1 (by decide) (by decide) k
                  show Owes _ _ _ _ (s₁.setTop (mkF m 132 #[.val (.int p0)] []))
                  refine Owes.go ?_ fun t k => XS.iconst X0.here hx rfl (hb hby d2_132) k
                  show Owes _ _ _ _ (s₁.setTop (mkF m 133 #[.val (.int p0)] [(.int (1 : Int32))]))
                  refine Owes.go ?_ fun t k => XS.goto X0.here hx rfl (pc0 := 133) (pc' := 137) rfl (hb hby d2_133) (by decide) (by decide) k
                  show Owes _ _ _ _ (s₁.setTop (mkF m 137 #[.val (.int p0)] [(.int (1 : Int32))]))
                  exact Owes.retN X0 hx hlk hret (by simp) (hb hby d2_137) (by decide) (by decide) ⟨congrArg (fun z => some (Value.int z)) (by unfold f_tch; rw [if_neg hc1, if_pos hc68, if_neg hc69, if_pos hc102, if_neg hc103, if_pos hc119, if_neg hc120, if_pos hc121]; first | done | rfl), rfl, e0⟩
                · skip
                  refine Owes.go ?_ fun t k => XS.icmpNo X0.here hx rfl (hb hby d2_51) rfl (feq hc121).1 k
                  show Owes _ _ _ _ (s₁.setTop (mkF m 54 #[.val (.int p0)] []))
                  refine Owes.go ?_ fun t k => XS.iloadN X0.here hx rfl (hb hby d2_54) rfl k
                  show Owes _ _ _ _ (s₁.setTop (mkF m 55 #[.val (.int p0)] [(.int p0)]))
                  refine Owes.go ?_ fun t k => XS.bipush X0.here hx rfl (hb hby d2_55) k
                  show Owes _ _ _ _ (s₁.setTop (mkF m 57 #[.val (.int p0)] [(.int (36 : Int32)), (.int p0)]))
                  by_cases hc122 : p0 = (36 : Int32)
                  · skip
                    refine Owes.go ?_ fun t k => XS.icmpYes X0.here hx rfl (pc0 := 57) (pc' := 132) rfl (hb hby d2_57) rfl (teq hc122).1 (by decide) (by decide) k
                    show Owes _ _ _ _ (s₁.setTop (mkF m 132 #[.val (.int p0)] []))
                    refine Owes.go ?_ fun t k => XS.iconst X0.here hx rfl (hb hby d2_132) k
                    show Owes _ _ _ _ (s₁.setTop (mkF m 133 #[.val (.int p0)] [(.int (1 : Int32))]))
                    refine Owes.go ?_ fun t k => XS.goto X0.here hx rfl (pc0 := 133) (pc' := 137) rfl (hb hby d2_133) (by decide) (by decide) k
                    show Owes _ _ _ _ (s₁.setTop (mkF m 137 #[.val (.int p0)] [(.int (1 : Int32))]))
                    exact Owes.retN X0 hx hlk hret (by simp) (hb hby d2_137) (by decide) (by decide) ⟨congrArg (fun z => some (Value.int z)) (by unfold f_tch; rw [if_neg hc1, if_pos hc68, if_neg hc69, if_pos hc102, if_neg hc103, if_pos hc119, if_neg hc120, if_neg hc121, if_pos hc122]; first | done | rfl), rfl, e0⟩
                  · skip
                    refine Owes.go ?_ fun t k => XS.icmpNo X0.here hx rfl (hb hby d2_57) rfl (feq hc122).1 k
                    show Owes _ _ _ _ (s₁.setTop (mkF m 60 #[.val (.int p0)] []))
                    refine Owes.go ?_ fun t k => XS.iloadN X0.here hx rfl (hb hby d2_60) rfl k
                    show Owes _ _ _ _ (s₁.setTop (mkF m 61 #[.val (.int p0)] [(.int p0)]))
                    refine Owes.go ?_ fun t k => XS.bipush X0.here hx rfl (hb hby d2_61) k
                    show Owes _ _ _ _ (s₁.setTop (mkF m 63 #[.val (.int p0)] [(.int (37 : Int32)), (.int p0)]))
                    by_cases hc123 : p0 = (37 : Int32)
                    · skip
                      refine Owes.go ?_ fun t k => XS.icmpYes X0.here hx rfl (pc0 := 63) (pc' := 132) rfl (hb hby d2_63) rfl (teq hc123).1 (by decide) (by decide) k
                      show Owes _ _ _ _ (s₁.setTop (mkF m 132 #[.val (.int p0)] []))
                      refine Owes.go ?_ fun t k => XS.iconst X0.here hx rfl (hb hby d2_132) k
                      show Owes _ _ _ _ (s₁.setTop (mkF m 133 #[.val (.int p0)] [(.int (1 : Int32))]))
                      refine Owes.go ?_ fun t k => XS.goto X0.here hx rfl (pc0 := 133) (pc' := 137) rfl (hb hby d2_133) (by decide) (by decide) k
                      show Owes _ _ _ _ (s₁.setTop (mkF m 137 #[.val (.int p0)] [(.int (1 : Int32))]))
                      exact Owes.retN X0 hx hlk hret (by simp) (hb hby d2_137) (by decide) (by decide) ⟨congrArg (fun z => some (Value.int z)) (by unfold f_tch; rw [if_neg hc1, if_pos hc68, if_neg hc69, if_pos hc102, if_neg hc103, if_pos hc119, if_neg hc120, if_neg hc121, if_neg hc122, if_pos hc123]; first | done | rfl), rfl, e0⟩
                    · skip
                      refine Owes.go ?_ fun t k => XS.icmpNo X0.here hx rfl (hb hby d2_63) rfl (feq hc123).1 k
                      show Owes _ _ _ _ (s₁.setTop (mkF m 66 #[.val (.int p0)] []))
                      refine Owes.go ?_ fun t k => XS.iloadN X0.here hx rfl (hb hby d2_66) rfl k
                      show Owes _ _ _ _ (s₁.setTop (mkF m 67 #[.val (.int p0)] [(.int p0)]))
                      refine Owes.go ?_ fun t k => XS.bipush X0.here hx rfl (hb hby d2_67) k
                      show Owes _ _ _ _ (s₁.setTop (mkF m 69 #[.val (.int p0)] [(.int (38 : Int32)), (.int p0)]))
                      by_cases hc124 : p0 = (38 : Int32)
                      · skip
                        refine Owes.go ?_ fun t k => XS.icmpYes X0.here hx rfl (pc0 := 69) (pc' := 132) rfl (hb hby d2_69) rfl (teq hc124).1 (by decide) (by decide) k
                        show Owes _ _ _ _ (s₁.setTop (mkF m 132 #[.val (.int p0)] []))
                        refine Owes.go ?_ fun t k => XS.iconst X0.here hx rfl (hb hby d2_132) k
                        show Owes _ _ _ _ (s₁.setTop (mkF m 133 #[.val (.int p0)] [(.int (1 : Int32))]))
                        refine Owes.go ?_ fun t k => XS.goto X0.here hx rfl (pc0 := 133) (pc' := 137) rfl (hb hby d2_133) (by decide) (by decide) k
                        show Owes _ _ _ _ (s₁.setTop (mkF m 137 #[.val (.int p0)] [(.int (1 : Int32))]))
                        exact Owes.retN X0 hx hlk hret (by simp) (hb hby d2_137) (by decide) (by decide) ⟨congrArg (fun z => some (Value.int z)) (by unfold f_tch; rw [if_neg hc1, if_pos hc68, if_neg hc69, if_pos hc102, if_neg hc103, if_pos hc119, if_neg hc120, if_neg hc121, if_neg hc122, if_neg hc123, if_pos hc124]; first | done | rfl), rfl, e0⟩
                      · skip
                        refine Owes.go ?_ fun t k => XS.icmpNo X0.here hx rfl (hb hby d2_69) rfl (feq hc124).1 k
                        show Owes _ _ _ _ (s₁.setTop (mkF m 72 #[.val (.int p0)] []))
                        refine Owes.go ?_ fun t k => XS.iloadN X0.here hx rfl (hb hby d2_72) rfl k
                        show Owes _ _ _ _ (s₁.setTop (mkF m 73 #[.val (.int p0)] [(.int p0)]))
                        refine Owes.go ?_ fun t k => XS.bipush X0.here hx rfl (hb hby d2_73) k
                        show Owes _ _ _ _ (s₁.setTop (mkF m 75 #[.val (.int p0)] [(.int (39 : Int32)), (.int p0)]))
                        by_cases hc125 : p0 = (39 : Int32)
                        · skip
                          refine Owes.go ?_ fun t k => XS.icmpYes X0.here hx rfl (pc0 := 75) (pc' := 132) rfl (hb hby d2_75) rfl (teq hc125).1 (by decide) (by decide) k
                          show Owes _ _ _ _ (s₁.setTop (mkF m 132 #[.val (.int p0)] []))
                          refine Owes.go ?_ fun t k => XS.iconst X0.here hx rfl (hb hby d2_132) k
                          show Owes _ _ _ _ (s₁.setTop (mkF m 133 #[.val (.int p0)] [(.int (1 : Int32))]))
                          refine Owes.go ?_ fun t k => XS.goto X0.here hx rfl (pc0 := 133) (pc' := 137) rfl (hb hby d2_133) (by decide) (by decide) k
                          show Owes _ _ _ _ (s₁.setTop (mkF m 137 #[.val (.int p0)] [(.int (1 : Int32))]))
                          exact Owes.retN X0 hx hlk hret (by simp) (hb hby d2_137) (by decide) (by decide) ⟨congrArg (fun z => some (Value.int z)) (by unfold f_tch; rw [if_neg hc1, if_pos hc68, if_neg hc69, if_pos hc102, if_neg hc103, if_pos hc119, if_neg hc120, if_neg hc121, if_neg hc122, if_neg hc123, if_neg hc124, if_pos hc125]; first | done | rfl), rfl, e0⟩
                        · skip
                          refine Owes.go ?_ fun t k => XS.icmpNo X0.here hx rfl (hb hby d2_75) rfl (feq hc125).1 k
                          show Owes _ _ _ _ (s₁.setTop (mkF m 78 #[.val (.int p0)] []))
                          refine Owes.go ?_ fun t k => XS.iloadN X0.here hx rfl (hb hby d2_78) rfl k
                          show Owes _ _ _ _ (s₁.setTop (mkF m 79 #[.val (.int p0)] [(.int p0)]))
                          refine Owes.go ?_ fun t k => XS.bipush X0.here hx rfl (hb hby d2_79) k
                          show Owes _ _ _ _ (s₁.setTop (mkF m 81 #[.val (.int p0)] [(.int (42 : Int32)), (.int p0)]))
                          by_cases hc126 : p0 = (42 : Int32)
                          · skip
                            refine Owes.go ?_ fun t k => XS.icmpYes X0.here hx rfl (pc0 := 81) (pc' := 132) rfl (hb hby d2_81) rfl (teq hc126).1 (by decide) (by decide) k
                            show Owes _ _ _ _ (s₁.setTop (mkF m 132 #[.val (.int p0)] []))
                            refine Owes.go ?_ fun t k => XS.iconst X0.here hx rfl (hb hby d2_132) k
                            show Owes _ _ _ _ (s₁.setTop (mkF m 133 #[.val (.int p0)] [(.int (1 : Int32))]))
                            refine Owes.go ?_ fun t k => XS.goto X0.here hx rfl (pc0 := 133) (pc' := 137) rfl (hb hby d2_133) (by decide) (by decide) k
                            show Owes _ _ _ _ (s₁.setTop (mkF m 137 #[.val (.int p0)] [(.int (1 : Int32))]))
                            exact Owes.retN X0 hx hlk hret (by simp) (hb hby d2_137) (by decide) (by decide) ⟨congrArg (fun z => some (Value.int z)) (by unfold f_tch; rw [if_neg hc1, if_pos hc68, if_neg hc69, if_pos hc102, if_neg hc103, if_pos hc119, if_neg hc120, if_neg hc121, if_neg hc122, if_neg hc123, if_neg hc124, if_neg hc125, if_pos hc126]; first | done | rfl), rfl, e0⟩
                          · skip
                            refine Owes.go ?_ fun t k => XS.icmpNo X0.here hx rfl (hb hby d2_81) rfl (feq hc126).1 k
                            show Owes _ _ _ _ (s₁.setTop (mkF m 84 #[.val (.int p0)] []))
                            refine Owes.go ?_ fun t k => XS.iloadN X0.here hx rfl (hb hby d2_84) rfl k
                            show Owes _ _ _ _ (s₁.setTop (mkF m 85 #[.val (.int p0)] [(.int p0)]))
                            refine Owes.go ?_ fun t k => XS.bipush X0.here hx rfl (hb hby d2_85) k
                            show Owes _ _ _ _ (s₁.setTop (mkF m 87 #[.val (.int p0)] [(.int (43 : Int32)), (.int p0)]))
                            by_cases hc127 : p0 = (43 : Int32)
                            · skip
                              refine Owes.go ?_ fun t k => XS.icmpYes X0.here hx rfl (pc0 := 87) (pc' := 132) rfl (hb hby d2_87) rfl (teq hc127).1 (by decide) (by decide) k
                              show Owes _ _ _ _ (s₁.setTop (mkF m 132 #[.val (.int p0)] []))
                              refine Owes.go ?_ fun t k => XS.iconst X0.here hx rfl (hb hby d2_132) k
                              show Owes _ _ _ _ (s₁.setTop (mkF m 133 #[.val (.int p0)] [(.int (1 : Int32))]))
                              refine Owes.go ?_ fun t k => XS.goto X0.here hx rfl (pc0 := 133) (pc' := 137) rfl (hb hby d2_133) (by decide) (by decide) k
                              show Owes _ _ _ _ (s₁.setTop (mkF m 137 #[.val (.int p0)] [(.int (1 : Int32))]))
                              exact Owes.retN X0 hx hlk hret (by simp) (hb hby d2_137) (by decide) (by decide) ⟨congrArg (fun z => some (Value.int z)) (by unfold f_tch; rw [if_neg hc1, if_pos hc68, if_neg hc69, if_pos hc102, if_neg hc103, if_pos hc119, if_neg hc120, if_neg hc121, if_neg hc122, if_neg hc123, if_neg hc124, if_neg hc125, if_neg hc126, if_pos hc127]; first | done | rfl), rfl, e0⟩
                            · skip
                              refine Owes.go ?_ fun t k => XS.icmpNo X0.here hx rfl (hb hby d2_87) rfl (feq hc127).1 k
                              show Owes _ _ _ _ (s₁.setTop (mkF m 90 #[.val (.int p0)] []))
                              refine Owes.go ?_ fun t k => XS.iloadN X0.here hx rfl (hb hby d2_90) rfl k
                              show Owes _ _ _ _ (s₁.setTop (mkF m 91 #[.val (.int p0)] [(.int p0)]))
                              refine Owes.go ?_ fun t k => XS.bipush X0.here hx rfl (hb hby d2_91) k
                              show Owes _ _ _ _ (s₁.setTop (mkF m 93 #[.val (.int p0)] [(.int (45 : Int32)), (.int p0)]))
                              by_cases hc128 : p0 = (45 : Int32)
                              · skip
                                refine Owes.go ?_ fun t k => XS.icmpYes X0.here hx rfl (pc0 := 93) (pc' := 132) rfl (hb hby d2_93) rfl (teq hc128).1 (by decide) (by decide) k
                                show Owes _ _ _ _ (s₁.setTop (mkF m 132 #[.val (.int p0)] []))
                                refine Owes.go ?_ fun t k => XS.iconst X0.here hx rfl (hb hby d2_132) k
                                show Owes _ _ _ _ (s₁.setTop (mkF m 133 #[.val (.int p0)] [(.int (1 : Int32))]))
                                refine Owes.go ?_ fun t k => XS.goto X0.here hx rfl (pc0 := 133) (pc' := 137) rfl (hb hby d2_133) (by decide) (by decide) k
                                show Owes _ _ _ _ (s₁.setTop (mkF m 137 #[.val (.int p0)] [(.int (1 : Int32))]))
                                exact Owes.retN X0 hx hlk hret (by simp) (hb hby d2_137) (by decide) (by decide) ⟨congrArg (fun z => some (Value.int z)) (by unfold f_tch; rw [if_neg hc1, if_pos hc68, if_neg hc69, if_pos hc102, if_neg hc103, if_pos hc119, if_neg hc120, if_neg hc121, if_neg hc122, if_neg hc123, if_neg hc124, if_neg hc125, if_neg hc126, if_neg hc127, if_pos hc128]; first | done | rfl), rfl, e0⟩
                              · skip
                                refine Owes.go ?_ fun t k => XS.icmpNo X0.here hx rfl (hb hby d2_93) rfl (feq hc128).1 k
                                show Owes _ _ _ _ (s₁.setTop (mkF m 96 #[.val (.int p0)] []))
                                refine Owes.go ?_ fun t k => XS.iloadN X0.here hx rfl (hb hby d2_96) rfl k
                                show Owes _ _ _ _ (s₁.setTop (mkF m 97 #[.val (.int p0)] [(.int p0)]))
                                refine Owes.go ?_ fun t k => XS.bipush X0.here hx rfl (hb hby d2_97) k
                                show Owes _ _ _ _ (s₁.setTop (mkF m 99 #[.val (.int p0)] [(.int (46 : Int32)), (.int p0)]))
                                by_cases hc129 : p0 = (46 : Int32)
                                · skip
                                  refine Owes.go ?_ fun t k => XS.icmpYes X0.here hx rfl (pc0 := 99) (pc' := 132) rfl (hb hby d2_99) rfl (teq hc129).1 (by decide) (by decide) k
                                  show Owes _ _ _ _ (s₁.setTop (mkF m 132 #[.val (.int p0)] []))
                                  refine Owes.go ?_ fun t k => XS.iconst X0.here hx rfl (hb hby d2_132) k
                                  show Owes _ _ _ _ (s₁.setTop (mkF m 133 #[.val (.int p0)] [(.int (1 : Int32))]))
                                  refine Owes.go ?_ fun t k => XS.goto X0.here hx rfl (pc0 := 133) (pc' := 137) rfl (hb hby d2_133) (by decide) (by decide) k
                                  show Owes _ _ _ _ (s₁.setTop (mkF m 137 #[.val (.int p0)] [(.int (1 : Int32))]))
                                  exact Owes.retN X0 hx hlk hret (by simp) (hb hby d2_137) (by decide) (by decide) ⟨congrArg (fun z => some (Value.int z)) (by unfold f_tch; rw [if_neg hc1, if_pos hc68, if_neg hc69, if_pos hc102, if_neg hc103, if_pos hc119, if_neg hc120, if_neg hc121, if_neg hc122, if_neg hc123, if_neg hc124, if_neg hc125, if_neg hc126, if_neg hc127, if_neg hc128, if_pos hc129]; first | done | rfl), rfl, e0⟩
                                · skip
                                  refine Owes.go ?_ fun t k => XS.icmpNo X0.here hx rfl (hb hby d2_99) rfl (feq hc129).1 k
                                  show Owes _ _ _ _ (s₁.setTop (mkF m 102 #[.val (.int p0)] []))
                                  refine Owes.go ?_ fun t k => XS.iloadN X0.here hx rfl (hb hby d2_102) rfl k
                                  show Owes _ _ _ _ (s₁.setTop (mkF m 103 #[.val (.int p0)] [(.int p0)]))
                                  refine Owes.go ?_ fun t k => XS.bipush X0.here hx rfl (hb hby d2_103) k
                                  show Owes _ _ _ _ (s₁.setTop (mkF m 105 #[.val (.int p0)] [(.int (94 : Int32)), (.int p0)]))
                                  by_cases hc130 : p0 = (94 : Int32)
                                  · skip
                                    refine Owes.go ?_ fun t k => XS.icmpYes X0.here hx rfl (pc0 := 105) (pc' := 132) rfl (hb hby d2_105) rfl (teq hc130).1 (by decide) (by decide) k
                                    show Owes _ _ _ _ (s₁.setTop (mkF m 132 #[.val (.int p0)] []))
                                    refine Owes.go ?_ fun t k => XS.iconst X0.here hx rfl (hb hby d2_132) k
                                    show Owes _ _ _ _ (s₁.setTop (mkF m 133 #[.val (.int p0)] [(.int (1 : Int32))]))
                                    refine Owes.go ?_ fun t k => XS.goto X0.here hx rfl (pc0 := 133) (pc' := 137) rfl (hb hby d2_133) (by decide) (by decide) k
                                    show Owes _ _ _ _ (s₁.setTop (mkF m 137 #[.val (.int p0)] [(.int (1 : Int32))]))
                                    exact Owes.retN X0 hx hlk hret (by simp) (hb hby d2_137) (by decide) (by decide) ⟨congrArg (fun z => some (Value.int z)) (by unfold f_tch; rw [if_neg hc1, if_pos hc68, if_neg hc69, if_pos hc102, if_neg hc103, if_pos hc119, if_neg hc120, if_neg hc121, if_neg hc122, if_neg hc123, if_neg hc124, if_neg hc125, if_neg hc126, if_neg hc127, if_neg hc128, if_neg hc129, if_pos hc130]; first | done | rfl), rfl, e0⟩
                                  · skip
                                    refine Owes.go ?_ fun t k => XS.icmpNo X0.here hx rfl (hb hby d2_105) rfl (feq hc130).1 k
                                    show Owes _ _ _ _ (s₁.setTop (mkF m 108 #[.val (.int p0)] []))
                                    refine Owes.go ?_ fun t k => XS.iloadN X0.here hx rfl (hb hby d2_108) rfl k
                                    show Owes _ _ _ _ (s₁.setTop (mkF m 109 #[.val (.int p0)] [(.int p0)]))
                                    refine Owes.go ?_ fun t k => XS.bipush X0.here hx rfl (hb hby d2_109) k
                                    show Owes _ _ _ _ (s₁.setTop (mkF m 111 #[.val (.int p0)] [(.int (95 : Int32)), (.int p0)]))
                                    by_cases hc131 : p0 = (95 : Int32)
                                    · skip
                                      refine Owes.go ?_ fun t k => XS.icmpYes X0.here hx rfl (pc0 := 111) (pc' := 132) rfl (hb hby d2_111) rfl (teq hc131).1 (by decide) (by decide) k
                                      show Owes _ _ _ _ (s₁.setTop (mkF m 132 #[.val (.int p0)] []))
                                      refine Owes.go ?_ fun t k => XS.iconst X0.here hx rfl (hb hby d2_132) k
                                      show Owes _ _ _ _ (s₁.setTop (mkF m 133 #[.val (.int p0)] [(.int (1 : Int32))]))
                                      refine Owes.go ?_ fun t k => XS.goto X0.here hx rfl (pc0 := 133) (pc' := 137) rfl (hb hby d2_133) (by decide) (by decide) k
                                      show Owes _ _ _ _ (s₁.setTop (mkF m 137 #[.val (.int p0)] [(.int (1 : Int32))]))
                                      exact Owes.retN X0 hx hlk hret (by simp) (hb hby d2_137) (by decide) (by decide) ⟨congrArg (fun z => some (Value.int z)) (by unfold f_tch; rw [if_neg hc1, if_pos hc68, if_neg hc69, if_pos hc102, if_neg hc103, if_pos hc119, if_neg hc120, if_neg hc121, if_neg hc122, if_neg hc123, if_neg hc124, if_neg hc125, if_neg hc126, if_neg hc127, if_neg hc128, if_neg hc129, if_neg hc130, if_pos hc131]; first | done | rfl), rfl, e0⟩
                                    · skip
                                      refine Owes.go ?_ fun t k => XS.icmpNo X0.here hx rfl (hb hby d2_111) rfl (feq hc131).1 k
                                      show Owes _ _ _ _ (s₁.setTop (mkF m 114 #[.val (.int p0)] []))
                                      refine Owes.go ?_ fun t k => XS.iloadN X0.here hx rfl (hb hby d2_114) rfl k
                                      show Owes _ _ _ _ (s₁.setTop (mkF m 115 #[.val (.int p0)] [(.int p0)]))
                                      refine Owes.go ?_ fun t k => XS.bipush X0.here hx rfl (hb hby d2_115) k
                                      show Owes _ _ _ _ (s₁.setTop (mkF m 117 #[.val (.int p0)] [(.int (96 : Int32)), (.int p0)]))
                                      by_cases hc132 : p0 = (96 : Int32)
                                      · skip
                                        refine Owes.go ?_ fun t k => XS.icmpYes X0.here hx rfl (pc0 := 117) (pc' := 132) rfl (hb hby d2_117) rfl (teq hc132).1 (by decide) (by decide) k
                                        show Owes _ _ _ _ (s₁.setTop (mkF m 132 #[.val (.int p0)] []))
                                        refine Owes.go ?_ fun t k => XS.iconst X0.here hx rfl (hb hby d2_132) k
                                        show Owes _ _ _ _ (s₁.setTop (mkF m 133 #[.val (.int p0)] [(.int (1 : Int32))]))
                                        refine Owes.go ?_ fun t k => XS.goto X0.here hx rfl (pc0 := 133) (pc' := 137) rfl (hb hby d2_133) (by decide) (by decide) k
                                        show Owes _ _ _ _ (s₁.setTop (mkF m 137 #[.val (.int p0)] [(.int (1 : Int32))]))
                                        exact Owes.retN X0 hx hlk hret (by simp) (hb hby d2_137) (by decide) (by decide) ⟨congrArg (fun z => some (Value.int z)) (by unfold f_tch; rw [if_neg hc1, if_pos hc68, if_neg hc69, if_pos hc102, if_neg hc103, if_pos hc119, if_neg hc120, if_neg hc121, if_neg hc122, if_neg hc123, if_neg hc124, if_neg hc125, if_neg hc126, if_neg hc127, if_neg hc128, if_neg hc129, if_neg hc130, if_neg hc131, if_pos hc132]; first | done | rfl), rfl, e0⟩
                                      · skip
                                        refine Owes.go ?_ fun t k => XS.icmpNo X0.here hx rfl (hb hby d2_117) rfl (feq hc132).1 k
                                        show Owes _ _ _ _ (s₁.setTop (mkF m 120 #[.val (.int p0)] []))
                                        refine Owes.go ?_ fun t k => XS.iloadN X0.here hx rfl (hb hby d2_120) rfl k
                                        show Owes _ _ _ _ (s₁.setTop (mkF m 121 #[.val (.int p0)] [(.int p0)]))
                                        refine Owes.go ?_ fun t k => XS.bipush X0.here hx rfl (hb hby d2_121) k
                                        show Owes _ _ _ _ (s₁.setTop (mkF m 123 #[.val (.int p0)] [(.int (124 : Int32)), (.int p0)]))
                                        by_cases hc133 : p0 = (124 : Int32)
                                        · skip
                                          refine Owes.go ?_ fun t k => XS.icmpYes X0.here hx rfl (pc0 := 123) (pc' := 132) rfl (hb hby d2_123) rfl (teq hc133).1 (by decide) (by decide) k
                                          show Owes _ _ _ _ (s₁.setTop (mkF m 132 #[.val (.int p0)] []))
                                          refine Owes.go ?_ fun t k => XS.iconst X0.here hx rfl (hb hby d2_132) k
                                          show Owes _ _ _ _ (s₁.setTop (mkF m 133 #[.val (.int p0)] [(.int (1 : Int32))]))
                                          refine Owes.go ?_ fun t k => XS.goto X0.here hx rfl (pc0 := 133) (pc' := 137) rfl (hb hby d2_133) (by decide) (by decide) k
                                          show Owes _ _ _ _ (s₁.setTop (mkF m 137 #[.val (.int p0)] [(.int (1 : Int32))]))
                                          exact Owes.retN X0 hx hlk hret (by simp) (hb hby d2_137) (by decide) (by decide) ⟨congrArg (fun z => some (Value.int z)) (by unfold f_tch; rw [if_neg hc1, if_pos hc68, if_neg hc69, if_pos hc102, if_neg hc103, if_pos hc119, if_neg hc120, if_neg hc121, if_neg hc122, if_neg hc123, if_neg hc124, if_neg hc125, if_neg hc126, if_neg hc127, if_neg hc128, if_neg hc129, if_neg hc130, if_neg hc131, if_neg hc132, if_pos hc133]; first | done | rfl), rfl, e0⟩
                                        · skip
                                          refine Owes.go ?_ fun t k => XS.icmpNo X0.here hx rfl (hb hby d2_123) rfl (feq hc133).1 k
                                          show Owes _ _ _ _ (s₁.setTop (mkF m 126 #[.val (.int p0)] []))
                                          refine Owes.go ?_ fun t k => XS.iloadN X0.here hx rfl (hb hby d2_126) rfl k
                                          show Owes _ _ _ _ (s₁.setTop (mkF m 127 #[.val (.int p0)] [(.int p0)]))
                                          refine Owes.go ?_ fun t k => XS.bipush X0.here hx rfl (hb hby d2_127) k
                                          show Owes _ _ _ _ (s₁.setTop (mkF m 129 #[.val (.int p0)] [(.int (126 : Int32)), (.int p0)]))
                                          by_cases hc134 : p0 = (126 : Int32)
                                          · skip
                                            refine Owes.go ?_ fun t k => XS.icmpNo X0.here hx rfl (hb hby d2_129) rfl (teq hc134).2 k
                                            show Owes _ _ _ _ (s₁.setTop (mkF m 132 #[.val (.int p0)] []))
                                            refine Owes.go ?_ fun t k => XS.iconst X0.here hx rfl (hb hby d2_132) k
                                            show Owes _ _ _ _ (s₁.setTop (mkF m 133 #[.val (.int p0)] [(.int (1 : Int32))]))
                                            refine Owes.go ?_ fun t k => XS.goto X0.here hx rfl (pc0 := 133) (pc' := 137) rfl (hb hby d2_133) (by decide) (by decide) k
                                            show Owes _ _ _ _ (s₁.setTop (mkF m 137 #[.val (.int p0)] [(.int (1 : Int32))]))
                                            exact Owes.retN X0 hx hlk hret (by simp) (hb hby d2_137) (by decide) (by decide) ⟨congrArg (fun z => some (Value.int z)) (by unfold f_tch; rw [if_neg hc1, if_pos hc68, if_neg hc69, if_pos hc102, if_neg hc103, if_pos hc119, if_neg hc120, if_neg hc121, if_neg hc122, if_neg hc123, if_neg hc124, if_neg hc125, if_neg hc126, if_neg hc127, if_neg hc128, if_neg hc129, if_neg hc130, if_neg hc131, if_neg hc132, if_neg hc133, if_pos hc134]; first | done | rfl), rfl, e0⟩
                                          · skip
                                            refine Owes.go ?_ fun t k => XS.icmpYes X0.here hx rfl (pc0 := 129) (pc' := 136) rfl (hb hby d2_129) rfl (feq hc134).2 (by decide) (by decide) k
                                            show Owes _ _ _ _ (s₁.setTop (mkF m 136 #[.val (.int p0)] []))
                                            refine Owes.go ?_ fun t k => XS.iconst X0.here hx rfl (hb hby d2_136) k
                                            show Owes _ _ _ _ (s₁.setTop (mkF m 137 #[.val (.int p0)] [(.int (0 : Int32))]))
                                            exact Owes.retN X0 hx hlk hret (by simp) (hb hby d2_137) (by decide) (by decide) ⟨congrArg (fun z => some (Value.int z)) (by unfold f_tch; rw [if_neg hc1, if_pos hc68, if_neg hc69, if_pos hc102, if_neg hc103, if_pos hc119, if_neg hc120, if_neg hc121, if_neg hc122, if_neg hc123, if_neg hc124, if_neg hc125, if_neg hc126, if_neg hc127, if_neg hc128, if_neg hc129, if_neg hc130, if_neg hc131, if_neg hc132, if_neg hc133, if_neg hc134]; first | done | rfl), rfl, e0⟩
            · skip
              refine Owes.go ?_ fun t k => XS.icmpNo X0.here hx rfl (hb hby d2_37) rfl (flt hc119).2.2.1 k
              show Owes _ _ _ _ (s₁.setTop (mkF m 40 #[.val (.int p0)] []))
              refine Owes.go ?_ fun t k => XS.iconst X0.here hx rfl (hb hby d2_40) k
              show Owes _ _ _ _ (s₁.setTop (mkF m 41 #[.val (.int p0)] [(.int (1 : Int32))]))
              exact Owes.retN X0 hx hlk hret (by simp) (hb hby d2_41) (by decide) (by decide) ⟨congrArg (fun z => some (Value.int z)) (by unfold f_tch; rw [if_neg hc1, if_pos hc68, if_neg hc69, if_pos hc102, if_neg hc103, if_neg hc119]; first | done | rfl), rfl, e0⟩
        · skip
          refine Owes.go ?_ fun t k => XS.icmpNo X0.here hx rfl (hb hby d2_23) rfl (flt hc102).2.2.1 k
          show Owes _ _ _ _ (s₁.setTop (mkF m 26 #[.val (.int p0)] []))
          refine Owes.go ?_ fun t k => XS.iconst X0.here hx rfl (hb hby d2_26) k
          show Owes _ _ _ _ (s₁.setTop (mkF m 27 #[.val (.int p0)] [(.int (1 : Int32))]))
          exact Owes.retN X0 hx hlk hret (by simp) (hb hby d2_27) (by decide) (by decide) ⟨congrArg (fun z => some (Value.int z)) (by unfold f_tch; rw [if_neg hc1, if_pos hc68, if_neg hc69, if_neg hc102]; first | done | rfl), rfl, e0⟩
    · skip
      refine Owes.go ?_ fun t k => XS.icmpNo X0.here hx rfl (hb hby d2_9) rfl (flt hc68).2.2.1 k
      show Owes _ _ _ _ (s₁.setTop (mkF m 12 #[.val (.int p0)] []))
      refine Owes.go ?_ fun t k => XS.iconst X0.here hx rfl (hb hby d2_12) k
      show Owes _ _ _ _ (s₁.setTop (mkF m 13 #[.val (.int p0)] [(.int (1 : Int32))]))
      exact Owes.retN X0 hx hlk hret (by simp) (hb hby d2_13) (by decide) (by decide) ⟨congrArg (fun z => some (Value.int z)) (by unfold f_tch; rw [if_neg hc1, if_neg hc68]; first | done | rfl), rfl, e0⟩
def TokT (cl : Cell) : Prop := (∀ j : Int32, ¬ j < 0 → j < 256 → j < 33 → atv cl j = 0) ∧ atv cl 33 = 1 ∧ atv cl 34 = 0 ∧ (∀ j : Int32, ¬ j < 0 → j < 256 → ¬ j < 35 → j < 40 → atv cl j = 1) ∧ atv cl 40 = 0 ∧ atv cl 41 = 0 ∧ atv cl 42 = 1 ∧ atv cl 43 = 1 ∧ atv cl 44 = 0 ∧ atv cl 45 = 1 ∧ atv cl 46 = 1 ∧ atv cl 47 = 0 ∧ (∀ j : Int32, ¬ j < 0 → j < 256 → ¬ j < 48 → j < 58 → atv cl j = 1) ∧ (∀ j : Int32, ¬ j < 0 → j < 256 → ¬ j < 58 → j < 65 → atv cl j = 0) ∧ (∀ j : Int32, ¬ j < 0 → j < 256 → ¬ j < 65 → j < 91 → atv cl j = 1) ∧ atv cl 91 = 0 ∧ atv cl 92 = 0 ∧ atv cl 93 = 0 ∧ (∀ j : Int32, ¬ j < 0 → j < 256 → ¬ j < 94 → j < 123 → atv cl j = 1) ∧ atv cl 123 = 0 ∧ atv cl 124 = 1 ∧ atv cl 125 = 0 ∧ atv cl 126 = 1 ∧ (∀ j : Int32, ¬ j < 0 → j < 256 → ¬ j < 127 → j < 256 → atv cl j = 0)
theorem own_len {s : State} {args : Array Value} {rT : Addr} {cl : Cell} {t : Term} {ty : FieldType} (eT : t.eval args s none [] s = some (.ref rT)) (Ar : Arr s s.heap rT cl ty) (q : (Jvm.Cond.eq (.length t) (.int 256)).value args s none s [] = some true) : cl.slots.size < 2 ^ 31 ∧ cl.slots.size.toInt32 = 256 := by
  have h := own_eqI q
  have hA : s.arrayAt? rT = some cl := Ar.fin (Vm.Alike.refl _)
  simp only [Term.eval, eT, Option.bind_eq_bind, Option.bind_some, hA] at h
  split at h
  · rename_i hlt
    exact ⟨hlt, Value.int.inj (Option.some.inj h)⟩
  · cases h
theorem own_one {s : State} {args : Array Value} {rT : Addr} {cl : Cell} {t : Term} {ty : FieldType} (eT : t.eval args s none [] s = some (.ref rT)) (Ar : Arr s s.heap rT cl ty) {k v : Int32} (hk : ¬ k < 0) (q : (Jvm.Cond.eq (.elem t (.int k)) (.int v)).value args s none s [] = some true) : atv cl k = v := by
  have h := own_eqI q
  rw [elem_f eT (Term.int_eval k) (Ar.fin (Vm.Alike.refl _)) hk] at h
  exact atv_of h
theorem own_in' {s : State} {rT : Addr} {cl : Cell} {ty : FieldType} (TB : Tab s s.heap rT cl ty 256) {j : Int32} (h0 : ¬ j < 0) (h1 : j < 256) : ¬ (j < 0 ∨ cl.slots.size ≤ j.toNatClampNeg) := own_in TB.2.1 h0 h1
theorem own_el {s : State} {args : Array Value} {rT : Addr} {cl : Cell} {t : Term} {ty : FieldType} (TB : Tab s s.heap rT cl ty 256) (eT : ∀ idx, t.eval args s none idx s = some (.ref rT)) {j v : Int32} (h0 : ¬ j < 0) (h1 : j < 256) :
    (Jvm.Cond.eq (.elem t (.index 0)) (.int v)).value args s none s [j.toNatClampNeg] = some (decide (atv cl j = v)) := by
  have h : (Term.elem t (.index 0)).eval args s none [j.toNatClampNeg] s = some (.int (atv cl j)) := (elem_f (eT _) (idx_at h0) (TB.1.fin (Vm.Alike.refl _)) h0).trans (TB.2.2.2 j (own_in' TB h0 h1))
  simp only [Cond.value, h, Term.int_eval]
theorem own_all {s : State} {args : Array Value} {rT : Addr} {cl : Cell} {t : Term} {ty : FieldType} {X : Jvm.Cond} (TB : Tab s s.heap rT cl ty 256) (eT : ∀ idx, t.eval args s none idx s = some (.ref rT)) (q : (Jvm.Cond.all t X).value args s none s [] = some true) {j : Int32} (h0 : ¬ j < 0) (h1 : j < 256) :
    X.value args s none s [j.toNatClampNeg] = some true :=
  Jvm.Example.Scan.all_true (eT _) (TB.1.fin (Vm.Alike.refl _)) q _ (Nat.lt_of_not_le fun z => own_in' TB h0 h1 (Or.inr z))
theorem own_ix {s : State} {args : Array Value} {j k : Int32} (h0 : ¬ j < 0) : (Jvm.Cond.le (.int k) (.index 0)).value args s none s [j.toNatClampNeg] = some (decide (k ≤ j)) := by
  have h : (Term.index 0).eval args s none [j.toNatClampNeg] s = some (.int j) := idx_at h0
  simp [Cond.value, h, Term.int_eval]
theorem own_ixl {s : State} {args : Array Value} {j k : Int32} (h0 : ¬ j < 0) : (Jvm.Cond.lt (.index 0) (.int k)).value args s none s [j.toNatClampNeg] = some (decide (j < k)) := by
  have h : (Term.index 0).eval args s none [j.toNatClampNeg] s = some (.int j) := idx_at h0
  simp [Cond.value, h, Term.int_eval]
theorem own_lo {s : State} {args : Array Value} {rT : Addr} {cl : Cell} {t : Term} {ty : FieldType} (TB : Tab s s.heap rT cl ty 256) (eT : ∀ idx, t.eval args s none idx s = some (.ref rT)) {k v : Int32}
    (q : (Jvm.Cond.all t (.or (.le (.int k) (.index 0)) (.eq (.elem t (.index 0)) (.int v)))).value args s none s [] = some true) (j : Int32) (h0 : ¬ j < 0) (h1 : j < 256) (h2 : j < k) : atv cl j = v := by
  have h := own_all TB eT q h0 h1
  rw [Cond.or_of_right (nay (own_ix h0) (Int32.not_le.mpr h2))] at h
  exact gotT (own_el TB eT h0 h1) h
theorem own_mid {s : State} {args : Array Value} {rT : Addr} {cl : Cell} {t : Term} {ty : FieldType} (TB : Tab s s.heap rT cl ty 256) (eT : ∀ idx, t.eval args s none idx s = some (.ref rT)) {a k v : Int32}
    (q : (Jvm.Cond.all t (.or (.lt (.index 0) (.int a)) (.or (.le (.int k) (.index 0)) (.eq (.elem t (.index 0)) (.int v))))).value args s none s [] = some true) (j : Int32) (h0 : ¬ j < 0) (h1 : j < 256) (h3 : ¬ j < a) (h2 : j < k) : atv cl j = v := by
  have h := own_all TB eT q h0 h1
  rw [Cond.or_of_right (nay (own_ixl h0) h3), Cond.or_of_right (nay (own_ix h0) (Int32.not_le.mpr h2))] at h
  exact gotT (own_el TB eT h0 h1) h
theorem own_hi {s : State} {args : Array Value} {rT : Addr} {cl : Cell} {t : Term} {ty : FieldType} (TB : Tab s s.heap rT cl ty 256) (eT : ∀ idx, t.eval args s none idx s = some (.ref rT)) {a v : Int32}
    (q : (Jvm.Cond.all t (.or (.lt (.index 0) (.int a)) (.eq (.elem t (.index 0)) (.int v)))).value args s none s [] = some true) (j : Int32) (h0 : ¬ j < 0) (h1 : j < 256) (h3 : ¬ j < a) (_ : j < 256) : atv cl j = v := by
  have h := own_all TB eT q h0 h1
  rw [Cond.or_of_right (nay (own_ixl h0) h3)] at h
  exact gotT (own_el TB eT h0 h1) h
theorem own_pt {j k k' : Int32} (h : ¬ j < k) (h' : j < k') (e : k'.toInt = k.toInt + 1) : j = k := by
  apply Int32.toInt_inj.mp
  rw [Int32.lt_iff_toInt_lt] at h h'
  omega
def tabv (j : Int32) : Int32 := (if j < (33 : Int32) then 0 else (if j < (34 : Int32) then 1 else (if j < (35 : Int32) then 0 else (if j < (40 : Int32) then 1 else (if j < (41 : Int32) then 0 else (if j < (42 : Int32) then 0 else (if j < (43 : Int32) then 1 else (if j < (44 : Int32) then 1 else (if j < (45 : Int32) then 0 else (if j < (46 : Int32) then 1 else (if j < (47 : Int32) then 1 else (if j < (48 : Int32) then 0 else (if j < (58 : Int32) then 1 else (if j < (65 : Int32) then 0 else (if j < (91 : Int32) then 1 else (if j < (92 : Int32) then 0 else (if j < (93 : Int32) then 0 else (if j < (94 : Int32) then 0 else (if j < (123 : Int32) then 1 else (if j < (124 : Int32) then 0 else (if j < (125 : Int32) then 1 else (if j < (126 : Int32) then 0 else (if j < (127 : Int32) then 1 else (if j < (256 : Int32) then 0 else 0))))))))))))))))))))))))
theorem own_tab (cl : Cell) (h : TokT cl) (j : Int32) (h0 : ¬ j < 0) (h1 : j < 256) : atv cl j = tabv j := by
  obtain ⟨t2, t3, t4, t5, t6, t7, t8, t9, t10, t11, t12, t13, t14, t15, t16, t17, t18, t19, t20, t21, t22, t23, t24, t25⟩ := h
  unfold tabv
  by_cases c2 : j < (33 : Int32)
  · rw [if_pos c2]; exact t2 j h0 h1 c2
  rw [if_neg c2]
  by_cases c3 : j < (34 : Int32)
  · rw [if_pos c3, own_pt (k := 33) (k' := 34) c2 c3 (by decide)]; exact t3
  rw [if_neg c3]
  by_cases c4 : j < (35 : Int32)
  · rw [if_pos c4, own_pt (k := 34) (k' := 35) c3 c4 (by decide)]; exact t4
  rw [if_neg c4]
  by_cases c5 : j < (40 : Int32)
  · rw [if_pos c5]; exact t5 j h0 h1 c4 c5
  rw [if_neg c5]
  by_cases c6 : j < (41 : Int32)
  · rw [if_pos c6, own_pt (k := 40) (k' := 41) c5 c6 (by decide)]; exact t6
  rw [if_neg c6]
  by_cases c7 : j < (42 : Int32)
  · rw [if_pos c7, own_pt (k := 41) (k' := 42) c6 c7 (by decide)]; exact t7
  rw [if_neg c7]
  by_cases c8 : j < (43 : Int32)
  · rw [if_pos c8, own_pt (k := 42) (k' := 43) c7 c8 (by decide)]; exact t8
  rw [if_neg c8]
  by_cases c9 : j < (44 : Int32)
  · rw [if_pos c9, own_pt (k := 43) (k' := 44) c8 c9 (by decide)]; exact t9
  rw [if_neg c9]
  by_cases c10 : j < (45 : Int32)
  · rw [if_pos c10, own_pt (k := 44) (k' := 45) c9 c10 (by decide)]; exact t10
  rw [if_neg c10]
  by_cases c11 : j < (46 : Int32)
  · rw [if_pos c11, own_pt (k := 45) (k' := 46) c10 c11 (by decide)]; exact t11
  rw [if_neg c11]
  by_cases c12 : j < (47 : Int32)
  · rw [if_pos c12, own_pt (k := 46) (k' := 47) c11 c12 (by decide)]; exact t12
  rw [if_neg c12]
  by_cases c13 : j < (48 : Int32)
  · rw [if_pos c13, own_pt (k := 47) (k' := 48) c12 c13 (by decide)]; exact t13
  rw [if_neg c13]
  by_cases c14 : j < (58 : Int32)
  · rw [if_pos c14]; exact t14 j h0 h1 c13 c14
  rw [if_neg c14]
  by_cases c15 : j < (65 : Int32)
  · rw [if_pos c15]; exact t15 j h0 h1 c14 c15
  rw [if_neg c15]
  by_cases c16 : j < (91 : Int32)
  · rw [if_pos c16]; exact t16 j h0 h1 c15 c16
  rw [if_neg c16]
  by_cases c17 : j < (92 : Int32)
  · rw [if_pos c17, own_pt (k := 91) (k' := 92) c16 c17 (by decide)]; exact t17
  rw [if_neg c17]
  by_cases c18 : j < (93 : Int32)
  · rw [if_pos c18, own_pt (k := 92) (k' := 93) c17 c18 (by decide)]; exact t18
  rw [if_neg c18]
  by_cases c19 : j < (94 : Int32)
  · rw [if_pos c19, own_pt (k := 93) (k' := 94) c18 c19 (by decide)]; exact t19
  rw [if_neg c19]
  by_cases c20 : j < (123 : Int32)
  · rw [if_pos c20]; exact t20 j h0 h1 c19 c20
  rw [if_neg c20]
  by_cases c21 : j < (124 : Int32)
  · rw [if_pos c21, own_pt (k := 123) (k' := 124) c20 c21 (by decide)]; exact t21
  rw [if_neg c21]
  by_cases c22 : j < (125 : Int32)
  · rw [if_pos c22, own_pt (k := 124) (k' := 125) c21 c22 (by decide)]; exact t22
  rw [if_neg c22]
  by_cases c23 : j < (126 : Int32)
  · rw [if_pos c23, own_pt (k := 125) (k' := 126) c22 c23 (by decide)]; exact t23
  rw [if_neg c23]
  by_cases c24 : j < (127 : Int32)
  · rw [if_pos c24, own_pt (k := 126) (k' := 127) c23 c24 (by decide)]; exact t24
  rw [if_neg c24]
  by_cases c25 : j < (256 : Int32)
  · rw [if_pos c25]; exact t25 j h0 h1 c24 c25
  rw [if_neg c25]
  exact absurd h1 c25
set_option maxRecDepth 65536 in
theorem own_fin : ∀ n : Fin 256, f_tch (Int32.ofInt (n.1 : Int)) = (if tabv (Int32.ofInt (n.1 : Int)) = (0 : Int32) then nar .boolean (0 : Int32) else nar .boolean (1 : Int32)) := by decide +kernel
theorem own_neg (p : Int32) (h : p < (0 : Int32)) : f_tch p = nar .boolean (0 : Int32) := by
  have a48 : p < (48 : Int32) := Int32.lt_trans h (by decide)
  have a97 : p < (97 : Int32) := Int32.lt_trans h (by decide)
  have a65 : p < (65 : Int32) := Int32.lt_trans h (by decide)
  have e33 : ¬ (p = (33 : Int32)) := fun q => by rw [q] at h; exact absurd h (by decide)
  have e35 : ¬ (p = (35 : Int32)) := fun q => by rw [q] at h; exact absurd h (by decide)
  have e36 : ¬ (p = (36 : Int32)) := fun q => by rw [q] at h; exact absurd h (by decide)
  have e37 : ¬ (p = (37 : Int32)) := fun q => by rw [q] at h; exact absurd h (by decide)
  have e38 : ¬ (p = (38 : Int32)) := fun q => by rw [q] at h; exact absurd h (by decide)
  have e39 : ¬ (p = (39 : Int32)) := fun q => by rw [q] at h; exact absurd h (by decide)
  have e42 : ¬ (p = (42 : Int32)) := fun q => by rw [q] at h; exact absurd h (by decide)
  have e43 : ¬ (p = (43 : Int32)) := fun q => by rw [q] at h; exact absurd h (by decide)
  have e45 : ¬ (p = (45 : Int32)) := fun q => by rw [q] at h; exact absurd h (by decide)
  have e46 : ¬ (p = (46 : Int32)) := fun q => by rw [q] at h; exact absurd h (by decide)
  have e94 : ¬ (p = (94 : Int32)) := fun q => by rw [q] at h; exact absurd h (by decide)
  have e95 : ¬ (p = (95 : Int32)) := fun q => by rw [q] at h; exact absurd h (by decide)
  have e96 : ¬ (p = (96 : Int32)) := fun q => by rw [q] at h; exact absurd h (by decide)
  have e124 : ¬ (p = (124 : Int32)) := fun q => by rw [q] at h; exact absurd h (by decide)
  have e126 : ¬ (p = (126 : Int32)) := fun q => by rw [q] at h; exact absurd h (by decide)
  unfold f_tch
  rw [if_pos a48, if_pos a97, if_pos a65, if_neg e33, if_neg e35, if_neg e36, if_neg e37, if_neg e38, if_neg e39, if_neg e42, if_neg e43, if_neg e45, if_neg e46, if_neg e94, if_neg e95, if_neg e96, if_neg e124, if_neg e126]
theorem own_big (p : Int32) (h : ¬ p < (256 : Int32)) : f_tch p = nar .boolean (0 : Int32) := by
  have h' := Int32.not_lt.mp h
  have a48 : ¬ p < (48 : Int32) := fun q => h (Int32.lt_trans q (by decide))
  have a97 : ¬ p < (97 : Int32) := fun q => h (Int32.lt_trans q (by decide))
  have a65 : ¬ p < (65 : Int32) := fun q => h (Int32.lt_trans q (by decide))
  have b57 : (57 : Int32) < p := Int32.lt_of_lt_of_le (by decide) h'
  have b122 : (122 : Int32) < p := Int32.lt_of_lt_of_le (by decide) h'
  have b90 : (90 : Int32) < p := Int32.lt_of_lt_of_le (by decide) h'
  have e33 : ¬ (p = (33 : Int32)) := fun q => by rw [q] at h; exact absurd h (by decide)
  have e35 : ¬ (p = (35 : Int32)) := fun q => by rw [q] at h; exact absurd h (by decide)
  have e36 : ¬ (p = (36 : Int32)) := fun q => by rw [q] at h; exact absurd h (by decide)
  have e37 : ¬ (p = (37 : Int32)) := fun q => by rw [q] at h; exact absurd h (by decide)
  have e38 : ¬ (p = (38 : Int32)) := fun q => by rw [q] at h; exact absurd h (by decide)
  have e39 : ¬ (p = (39 : Int32)) := fun q => by rw [q] at h; exact absurd h (by decide)
  have e42 : ¬ (p = (42 : Int32)) := fun q => by rw [q] at h; exact absurd h (by decide)
  have e43 : ¬ (p = (43 : Int32)) := fun q => by rw [q] at h; exact absurd h (by decide)
  have e45 : ¬ (p = (45 : Int32)) := fun q => by rw [q] at h; exact absurd h (by decide)
  have e46 : ¬ (p = (46 : Int32)) := fun q => by rw [q] at h; exact absurd h (by decide)
  have e94 : ¬ (p = (94 : Int32)) := fun q => by rw [q] at h; exact absurd h (by decide)
  have e95 : ¬ (p = (95 : Int32)) := fun q => by rw [q] at h; exact absurd h (by decide)
  have e96 : ¬ (p = (96 : Int32)) := fun q => by rw [q] at h; exact absurd h (by decide)
  have e124 : ¬ (p = (124 : Int32)) := fun q => by rw [q] at h; exact absurd h (by decide)
  have e126 : ¬ (p = (126 : Int32)) := fun q => by rw [q] at h; exact absurd h (by decide)
  unfold f_tch
  rw [if_neg a48, if_pos b57, if_neg a97, if_pos b122, if_neg a65, if_pos b90, if_neg e33, if_neg e35, if_neg e36, if_neg e37, if_neg e38, if_neg e39, if_neg e42, if_neg e43, if_neg e45, if_neg e46, if_neg e94, if_neg e95, if_neg e96, if_neg e124, if_neg e126]
theorem own_tok (cl : Cell) (h : TokT cl) (p : Int32) : f_tok p cl = f_tch p := by
  unfold f_tok
  by_cases h0 : p < (0 : Int32)
  · rw [if_pos h0, own_neg p h0]
  rw [if_neg h0]
  by_cases h1 : p < (256 : Int32)
  · rw [if_pos h1, own_tab cl h p h0 h1]
    rw [Int32.lt_iff_toInt_lt] at h0 h1
    have e0 : (0 : Int32).toInt = 0 := by decide
    have e1 : (256 : Int32).toInt = 256 := by decide
    rw [e0] at h0
    rw [e1] at h1
    have e : Int32.ofInt ((p.toInt.toNat : Nat) : Int) = p := by rw [Int.toNat_of_nonneg (by omega)]; exact Int32.ofInt_toInt p
    have q := own_fin ⟨p.toInt.toNat, by omega⟩
    rw [e] at q
    exact q.symm
  · rw [if_neg h1, own_big p h1]
theorem pd_0 : parseMethodDescriptor "(I)Z" = some ⟨[.int], some .boolean⟩ := by decide +kernel
def QL (n0 : Nat) (v : Option Value) (h : Heap) (L : List Loc) : Prop := v = some (.int 1) ∧ Fr n0 L
theorem ef_0 (m : MethodId) (p0 : Int32) : entryFrame m #[(.int p0)] maxLocals = mkF m 0 #[.val (.int p0), .unset, .unset, .unset] [] := by first | (simp [entryFrame, mkF, argsToLocals, Value.category, maxLocals]; done) | rfl
theorem pn_0 : plainFor (⟨"com/example/vetter/vetter/http/FieldSyntaxIsTokenCharacterPinLaw", "law", "(I)Z"⟩ : MethodName) = true := plainFor_of_name (by first | (simp [plainName, overriddenIn]; done) | decide +kernel)
set_option maxRecDepth 65536 in
set_option maxHeartbeats 40000000 in
theorem rm0 (l : Launch) (Z : State) (a0 : Array Value) (hw : ∀ d ∈ tables_1, d.before a0 Z = true) (ws : List Jvm.Cond) (p0 : Int32) (h0 : Heap) (n0 : Nat) (Z0 : n0 ≤ h0.size) (rT : Addr) (cl : Cell) (S_T : Sta Z h0 "com/example/vetter/vetter/http/FieldSyntax" "TOKEN" "[Z" (.ref rT)) (TB : Tab Z h0 rT cl .boolean 256) (hT : TokT cl) :
    OMet l x code maxLocals ret ws room_1 #[(.int p0)] Z h0 (QL n0) := by
  have N0 := Fr.nil n0
  refine OMet.of pn_0 (fun m => ef_0 m p0) ?_
  intro p e s m below meth c s₁ hx hby hml hown hnm hret hlk hZ X0 e0
  refine Owes.go ?_ fun t k => XS.iloadN X0.here hx rfl (hb hby at_0) rfl k
  show Owes _ _ _ _ (s₁.setTop (mkF m 1 #[.val (.int p0), .unset, .unset, .unset] [(.int p0)]))
  refine Owes.go ?_ fun t k => XS.sipush X0.here hx rfl (hb hby at_1) k
  show Owes _ _ _ _ (s₁.setTop (mkF m 4 #[.val (.int p0), .unset, .unset, .unset] [(.int (255 : Int32)), (.int p0)]))
  refine Owes.go ?_ fun t k => XS.iand X0.here hx rfl (hb hby at_4) rfl k
  show Owes _ _ _ _ (s₁.setTop (mkF m 5 #[.val (.int p0), .unset, .unset, .unset] [(.int (p0 &&& (255 : Int32)))]))
  refine Owes.go ?_ fun t k => XS.istoreN X0.here hx rfl (hb hby at_5) rfl (l' := #[.val (.int p0), .val (.int (p0 &&& (255 : Int32))), .unset, .unset]) rfl k
  show Owes _ _ _ _ (s₁.setTop (mkF m 6 #[.val (.int p0), .val (.int (p0 &&& (255 : Int32))), .unset, .unset] []))
  refine Owes.go ?_ fun t k => XS.iloadN X0.here hx rfl (hb hby at_6) rfl k
  show Owes _ _ _ _ (s₁.setTop (mkF m 7 #[.val (.int p0), .val (.int (p0 &&& (255 : Int32))), .unset, .unset] [(.int p0)]))
  refine Owes.callS X0 hx hZ hown (hw _ (List.mem_of_getElem? (i := 0) rfl)) (hw _ (List.mem_of_getElem? (i := 1) rfl)) (hw _ (List.mem_of_getElem? (i := 2) rfl)) (hw _ (List.mem_of_getElem? (i := 3) rfl)) (by decide) (argsL := [(.int p0)]) (rest := []) (rm_f_tok l Z a0 hw [] p0 h0 rT cl S_T TB) e0 (by rw [hml]; rfl) pd_0 rfl rfl (hb hby at_7) (by decide) (Nat.le_of_ble_eq_true rfl) (by decide) (by decide) ?_
  rintro T3 _ _ X3 ⟨rfl, rfl, e3⟩
  rw [List.append_nil] at X3
  show Owes _ _ _ _ (T3.setTop (mkF m 10 #[.val (.int p0), .val (.int (p0 &&& (255 : Int32))), .unset, .unset] [(.int (f_tok p0 cl))]))
  refine Owes.go ?_ fun t k => XS.iloadN X3.here hx rfl (hb hby at_10) rfl k
  show Owes _ _ _ _ (T3.setTop (mkF m 11 #[.val (.int p0), .val (.int (p0 &&& (255 : Int32))), .unset, .unset] [(.int p0), (.int (f_tok p0 cl))]))
  refine Owes.callS X3 hx hZ hown (hw _ (List.mem_of_getElem? (i := 6) rfl)) (hw _ (List.mem_of_getElem? (i := 7) rfl)) (hw _ (List.mem_of_getElem? (i := 8) rfl)) (hw _ (List.mem_of_getElem? (i := 9) rfl)) (by decide) (argsL := [(.int p0)]) (rest := [(.int (f_tok p0 cl))]) (rm_f_tch l Z a0 hw [] p0 h0 ) e3 (by rw [hml]; rfl) pd_0 rfl rfl (hb hby at_11) (by decide) (Nat.le_of_ble_eq_true rfl) (by decide) (by decide) ?_
  rintro T4 _ _ X4 ⟨rfl, rfl, e4⟩
  rw [List.append_nil] at X4
  show Owes _ _ _ _ (T4.setTop (mkF m 14 #[.val (.int p0), .val (.int (p0 &&& (255 : Int32))), .unset, .unset] [(.int (f_tch p0)), (.int (f_tok p0 cl))]))
  refine Owes.go ?_ fun t k => XS.icmpNo X4.here hx rfl (hb hby at_14) rfl (teq (own_tok cl hT _)).2 k
  show Owes _ _ _ _ (T4.setTop (mkF m 17 #[.val (.int p0), .val (.int (p0 &&& (255 : Int32))), .unset, .unset] []))
  refine Owes.go ?_ fun t k => XS.iconst X4.here hx rfl (hb hby at_17) k
  show Owes _ _ _ _ (T4.setTop (mkF m 18 #[.val (.int p0), .val (.int (p0 &&& (255 : Int32))), .unset, .unset] [(.int (1 : Int32))]))
  refine Owes.go ?_ fun t k => XS.goto X4.here hx rfl (pc0 := 18) (pc' := 22) rfl (hb hby at_18) (by decide) (by decide) k
  show Owes _ _ _ _ (T4.setTop (mkF m 22 #[.val (.int p0), .val (.int (p0 &&& (255 : Int32))), .unset, .unset] [(.int (1 : Int32))]))
  refine Owes.go ?_ fun t k => XS.istoreN X4.here hx rfl (hb hby at_22) rfl (l' := #[.val (.int p0), .val (.int (p0 &&& (255 : Int32))), .val (.int (1 : Int32)), .unset]) rfl k
  show Owes _ _ _ _ (T4.setTop (mkF m 23 #[.val (.int p0), .val (.int (p0 &&& (255 : Int32))), .val (.int (1 : Int32)), .unset] []))
  refine Owes.go ?_ fun t k => XS.iloadN X4.here hx rfl (hb hby at_23) rfl k
  show Owes _ _ _ _ (T4.setTop (mkF m 24 #[.val (.int p0), .val (.int (p0 &&& (255 : Int32))), .val (.int (1 : Int32)), .unset] [(.int (p0 &&& (255 : Int32)))]))
  refine Owes.callS X4 hx hZ hown (hw _ (List.mem_of_getElem? (i := 0) rfl)) (hw _ (List.mem_of_getElem? (i := 1) rfl)) (hw _ (List.mem_of_getElem? (i := 2) rfl)) (hw _ (List.mem_of_getElem? (i := 3) rfl)) (by decide) (argsL := [(.int (p0 &&& (255 : Int32)))]) (rest := []) (rm_f_tok l Z a0 hw [] (p0 &&& (255 : Int32)) h0 rT cl S_T TB) e4 (by rw [hml]; rfl) pd_0 rfl rfl (hb hby at_24) (by decide) (Nat.le_of_ble_eq_true rfl) (by decide) (by decide) ?_
  rintro T5 _ _ X5 ⟨rfl, rfl, e5⟩
  rw [List.append_nil] at X5
  show Owes _ _ _ _ (T5.setTop (mkF m 27 #[.val (.int p0), .val (.int (p0 &&& (255 : Int32))), .val (.int (1 : Int32)), .unset] [(.int (f_tok (p0 &&& (255 : Int32)) cl))]))
  refine Owes.go ?_ fun t k => XS.iloadN X5.here hx rfl (hb hby at_27) rfl k
  show Owes _ _ _ _ (T5.setTop (mkF m 28 #[.val (.int p0), .val (.int (p0 &&& (255 : Int32))), .val (.int (1 : Int32)), .unset] [(.int (p0 &&& (255 : Int32))), (.int (f_tok (p0 &&& (255 : Int32)) cl))]))
  refine Owes.callS X5 hx hZ hown (hw _ (List.mem_of_getElem? (i := 6) rfl)) (hw _ (List.mem_of_getElem? (i := 7) rfl)) (hw _ (List.mem_of_getElem? (i := 8) rfl)) (hw _ (List.mem_of_getElem? (i := 9) rfl)) (by decide) (argsL := [(.int (p0 &&& (255 : Int32)))]) (rest := [(.int (f_tok (p0 &&& (255 : Int32)) cl))]) (rm_f_tch l Z a0 hw [] (p0 &&& (255 : Int32)) h0 ) e5 (by rw [hml]; rfl) pd_0 rfl rfl (hb hby at_28) (by decide) (Nat.le_of_ble_eq_true rfl) (by decide) (by decide) ?_
  rintro T6 _ _ X6 ⟨rfl, rfl, e6⟩
  rw [List.append_nil] at X6
  show Owes _ _ _ _ (T6.setTop (mkF m 31 #[.val (.int p0), .val (.int (p0 &&& (255 : Int32))), .val (.int (1 : Int32)), .unset] [(.int (f_tch (p0 &&& (255 : Int32)))), (.int (f_tok (p0 &&& (255 : Int32)) cl))]))
  refine Owes.go ?_ fun t k => XS.icmpNo X6.here hx rfl (hb hby at_31) rfl (teq (own_tok cl hT _)).2 k
  show Owes _ _ _ _ (T6.setTop (mkF m 34 #[.val (.int p0), .val (.int (p0 &&& (255 : Int32))), .val (.int (1 : Int32)), .unset] []))
  refine Owes.go ?_ fun t k => XS.iconst X6.here hx rfl (hb hby at_34) k
  show Owes _ _ _ _ (T6.setTop (mkF m 35 #[.val (.int p0), .val (.int (p0 &&& (255 : Int32))), .val (.int (1 : Int32)), .unset] [(.int (1 : Int32))]))
  refine Owes.go ?_ fun t k => XS.goto X6.here hx rfl (pc0 := 35) (pc' := 39) rfl (hb hby at_35) (by decide) (by decide) k
  show Owes _ _ _ _ (T6.setTop (mkF m 39 #[.val (.int p0), .val (.int (p0 &&& (255 : Int32))), .val (.int (1 : Int32)), .unset] [(.int (1 : Int32))]))
  refine Owes.go ?_ fun t k => XS.istoreN X6.here hx rfl (hb hby at_39) rfl (l' := #[.val (.int p0), .val (.int (p0 &&& (255 : Int32))), .val (.int (1 : Int32)), .val (.int (1 : Int32))]) rfl k
  show Owes _ _ _ _ (T6.setTop (mkF m 40 #[.val (.int p0), .val (.int (p0 &&& (255 : Int32))), .val (.int (1 : Int32)), .val (.int (1 : Int32))] []))
  refine Owes.go ?_ fun t k => XS.iloadN X6.here hx rfl (hb hby at_40) rfl k
  show Owes _ _ _ _ (T6.setTop (mkF m 41 #[.val (.int p0), .val (.int (p0 &&& (255 : Int32))), .val (.int (1 : Int32)), .val (.int (1 : Int32))] [(.int (1 : Int32))]))
  refine Owes.go ?_ fun t k => XS.ifNo X6.here hx rfl (hb hby at_41) rfl ((if0 _ _).trans (feq (by decide : ¬ ((1 : Int32) = (0 : Int32)))).1) k
  show Owes _ _ _ _ (T6.setTop (mkF m 44 #[.val (.int p0), .val (.int (p0 &&& (255 : Int32))), .val (.int (1 : Int32)), .val (.int (1 : Int32))] []))
  refine Owes.go ?_ fun t k => XS.iloadN X6.here hx rfl (hb hby at_44) rfl k
  show Owes _ _ _ _ (T6.setTop (mkF m 45 #[.val (.int p0), .val (.int (p0 &&& (255 : Int32))), .val (.int (1 : Int32)), .val (.int (1 : Int32))] [(.int (1 : Int32))]))
  refine Owes.go ?_ fun t k => XS.ifNo X6.here hx rfl (hb hby at_45) rfl ((if0 _ _).trans (feq (by decide : ¬ ((1 : Int32) = (0 : Int32)))).1) k
  show Owes _ _ _ _ (T6.setTop (mkF m 48 #[.val (.int p0), .val (.int (p0 &&& (255 : Int32))), .val (.int (1 : Int32)), .val (.int (1 : Int32))] []))
  refine Owes.go ?_ fun t k => XS.iconst X6.here hx rfl (hb hby at_48) k
  show Owes _ _ _ _ (T6.setTop (mkF m 49 #[.val (.int p0), .val (.int (p0 &&& (255 : Int32))), .val (.int (1 : Int32)), .val (.int (1 : Int32))] [(.int (1 : Int32))]))
  refine Owes.go ?_ fun t k => XS.goto X6.here hx rfl (pc0 := 49) (pc' := 53) rfl (hb hby at_49) (by decide) (by decide) k
  show Owes _ _ _ _ (T6.setTop (mkF m 53 #[.val (.int p0), .val (.int (p0 &&& (255 : Int32))), .val (.int (1 : Int32)), .val (.int (1 : Int32))] [(.int (1 : Int32))]))
  exact Owes.retN X6 hx hlk hret (by simp) (hb hby at_53) (by decide) (by decide) ⟨rfl, N0⟩
set_option maxRecDepth 65536 in
set_option maxHeartbeats 40000000 in
theorem comes_1 {Post : Tables → Env → Array Value → State → Outcome → State → Prop} (hpost : ∀ tb e args s v u, (limb_1_1.after args s (.returned v) u = true ∧ limb_1_2.after args s (.returned v) u = true ∧ True) → FrameEnd s (.returned v) u (Jvm.fieldLocs frame_1_writes args s ++ Jvm.arrayLocs frame_1_arrays args s ++ Jvm.staticLocs frame_1_statics s) 0 0 → Post tb e args s (.returned v) u) :
    ArmFor flags0 classFile x code maxLocals ret World_1 tables_1 room_1 Calls_1 rest_1 Pre_1 Post := by
  intro l hfl _ _ p e ha hc hk s m args below hf hA hF happ hP
  obtain ⟨hcalls, hrest, hpre⟩ := hP
  obtain ⟨-, -, -, hnamed, -, -, -, hat⟩ := (Spec.applies_iff hf).mp happ
  obtain ⟨hg, hn⟩ := and_e (Cond.before_iff.mp (show (Jvm.Cond.and given_1 narrow_1).before args s = true from hpre))
  obtain ⟨g1, g2⟩ := and_e hg
  obtain ⟨w0, rfl⟩ : ∃ w0 : Value, args = #[w0] := by
    have hs : args.size = 1 := by simpa [Cond.value, given_1] using g1
    obtain ⟨L⟩ := args
    match L, hs with
    | [w0], _ => exact ⟨w0, rfl⟩
  have hw := fun d (hd : d ∈ tables_1) => atoms_spec (ws := Jvm.Cond.code x code maxLocals ret :: tables_1) hat d (List.mem_cons_of_mem _ hd)
  have hfit : Fit s := fun {y c} hc i hi => by
    obtain ⟨ha, rfl⟩ := Array.getElem?_eq_some_iff.mp hc
    have q := List.all_eq_true.mp ((Array.all_eq_true_iff_forall_mem.mp hF) _ (Array.getElem_mem ha)) i (List.mem_range.mpr hi)
    simpa [Array.getElem?_eq_getElem hi] using q
  obtain ⟨i0, ei0⟩ := is_v g2
  obtain rfl : w0 = (.int i0) := Option.some.inj ei0
  obtain ⟨n0, n'⟩ := and_e hn
  obtain ⟨n1, n'⟩ := and_e n'
  obtain ⟨n2, n'⟩ := and_e n'
  obtain ⟨n3, n'⟩ := and_e n'
  obtain ⟨n4, n'⟩ := and_e n'
  obtain ⟨n5, n'⟩ := and_e n'
  obtain ⟨n6, n'⟩ := and_e n'
  obtain ⟨n7, n'⟩ := and_e n'
  obtain ⟨n8, n'⟩ := and_e n'
  obtain ⟨n9, n'⟩ := and_e n'
  obtain ⟨n10, n'⟩ := and_e n'
  obtain ⟨n11, n'⟩ := and_e n'
  obtain ⟨n12, n'⟩ := and_e n'
  obtain ⟨n13, n'⟩ := and_e n'
  obtain ⟨n14, n'⟩ := and_e n'
  obtain ⟨n15, n'⟩ := and_e n'
  obtain ⟨n16, n'⟩ := and_e n'
  obtain ⟨n17, n'⟩ := and_e n'
  obtain ⟨n18, n'⟩ := and_e n'
  obtain ⟨n19, n'⟩ := and_e n'
  obtain ⟨n20, n'⟩ := and_e n'
  obtain ⟨n21, n'⟩ := and_e n'
  obtain ⟨n22, n'⟩ := and_e n'
  obtain ⟨n23, n'⟩ := and_e n'
  obtain ⟨n24, n'⟩ := and_e n'
  obtain ⟨rT, eT⟩ := arr_v n0
  obtain ⟨cl, Ar⟩ := Arr.start eT n0
  have S_T := Sta.start eT (Or.inr ⟨(hw _ (List.mem_of_getElem? (i := 2) rfl)), (hw _ (List.mem_of_getElem? (i := 5) rfl))⟩)
  obtain ⟨hl31, hl256⟩ := own_len eT Ar n1
  have TB : Tab s s.heap rT cl .boolean 256 := Tab.start hfit Ar (by simp) hl31 hl256 (by decide)
  have t2 := own_lo TB (fun _ => eT) (k := 33) (v := 0) n2
  have t3 := own_one eT Ar (k := 33) (v := 1) (by decide) n3
  have t4 := own_one eT Ar (k := 34) (v := 0) (by decide) n4
  have t5 := own_mid TB (fun _ => eT) (a := 35) (k := 40) (v := 1) n5
  have t6 := own_one eT Ar (k := 40) (v := 0) (by decide) n6
  have t7 := own_one eT Ar (k := 41) (v := 0) (by decide) n7
  have t8 := own_one eT Ar (k := 42) (v := 1) (by decide) n8
  have t9 := own_one eT Ar (k := 43) (v := 1) (by decide) n9
  have t10 := own_one eT Ar (k := 44) (v := 0) (by decide) n10
  have t11 := own_one eT Ar (k := 45) (v := 1) (by decide) n11
  have t12 := own_one eT Ar (k := 46) (v := 1) (by decide) n12
  have t13 := own_one eT Ar (k := 47) (v := 0) (by decide) n13
  have t14 := own_mid TB (fun _ => eT) (a := 48) (k := 58) (v := 1) n14
  have t15 := own_mid TB (fun _ => eT) (a := 58) (k := 65) (v := 0) n15
  have t16 := own_mid TB (fun _ => eT) (a := 65) (k := 91) (v := 1) n16
  have t17 := own_one eT Ar (k := 91) (v := 0) (by decide) n17
  have t18 := own_one eT Ar (k := 92) (v := 0) (by decide) n18
  have t19 := own_one eT Ar (k := 93) (v := 0) (by decide) n19
  have t20 := own_mid TB (fun _ => eT) (a := 94) (k := 123) (v := 1) n20
  have t21 := own_one eT Ar (k := 123) (v := 0) (by decide) n21
  have t22 := own_one eT Ar (k := 124) (v := 1) (by decide) n22
  have t23 := own_one eT Ar (k := 125) (v := 0) (by decide) n23
  have t24 := own_one eT Ar (k := 126) (v := 1) (by decide) n24
  have t25 := own_hi TB (fun _ => eT) (a := 127) (v := 0) n'
  obtain ⟨n, o, h1, h2, h3, _, L, rfl, ⟨rfl, N⟩, hq⟩ := rm0 l s _ hw tables_1 i0 s.heap s.heap.size (Nat.le_refl _) rT cl S_T TB ⟨t2, t3, t4, t5, t6, t7, t8, t9, t10, t11, t12, t13, t14, t15, t16, t17, t18, t19, t20, t21, t22, t23, t24, t25⟩ p e ha hc hk s m _ below hf ((Spec.applies_iff_loose hf).mp happ).1 ⟨rfl, State.Warmed39.refl s, rfl⟩ trivial
  refine ⟨n, _, h1, h2, h3, hpost _ _ _ _ _ _ ⟨Cond.after_iff.mpr rfl, Cond.after_iff.mpr (eq_i res_at (Term.int_eval (1)) rfl), trivial⟩ ⟨hq.1, hq.2.1, (hq.2.2.sift fun y hy => Or.inr (N y hy)).mono (by decide) (by decide)⟩⟩
theorem main_1_1 : Claimed_1_1 := comes_1 fun _ _ _ _ _ _ h hF => ⟨h.1, hF⟩
theorem main_1_2 : Claimed_1_2 := comes_1 fun _ _ _ _ _ _ h hF => ⟨h.2.1, hF⟩
end Jvm.Pilot.@@N@@
namespace Jvm.Pilot.@@N@@
open Jvm Jvm.ClassFile Sem Op Lib Jvm.Free Jvm.Stand Jvm.Pilot.@@N@@.Jvm.D
/-! MADE BY PROGRAM (witnessworld.py) out of the Statement's table words and the real class files: 11 classes; the members and pool entries that the words name. The judged class is class 1, her method 2. -/
namespace start1
open Jvm.ClassFile
def u (s : String) : CpInfo := .utf8 (stringToUtf16 s)
/-- a pool by its gaps: so many unusable entries, then the entry; so many at the end -/
def gap : Nat → List CpInfo → List CpInfo
  | 0, r => r
  | n + 1, r => .unusable :: gap n r
def poolList (es : List (Nat × CpInfo)) (last : Nat) : List CpInfo := es.foldr (fun e r => gap e.1 (e.2 :: r)) (gap last [])
def pool (es : List (Nat × CpInfo)) (last : Nat) : Array CpInfo := ⟨poolList es last⟩
def fileOf (pool : Array CpInfo) (this : Nat) (attrs : Array Attribute := #[]) (ms : Array MethodInfo := #[]) (fl : Nat := 33) (sup : Nat := 0) (ifs : Array Nat := #[]) (fds : Array FieldInfo := #[]) : ClassFile where
  minorVersion := 0
  majorVersion := 65
  constantPool := pool
  accessFlags := fl
  thisClass := this
  superClass := sup
  interfaces := ifs
  fields := fds
  methods := ms
  attributes := attrs
def plain (name : String) (sup : Option ClassId) : Class where
  name := name
  kind := .ordinary
  loader := none
  accessFlags := 33
  super := sup
  interfaces := #[]
  cf := none
  fields := #[]
  methods := #[]
  instanceTypes := #[]
  staticTypes := #[]
  resolved := #[]
  callSites := []
  init := .initialized
  statics := none
  mirror := none

def pool0 : Array CpInfo := pool [(5, u "<init>"), (0, u "()V"), (1, .class_ 10), (1, u "java/lang/Object")] 113

def k0m0 : Method := { name := "<init>", desc := "()V", sig := { parameters := [], returnType := none }, accessFlags := 1, code := none }
/-- java/lang/Object -/
def k0 : Class := { plain "java/lang/Object" none with
  accessFlags := 33
  interfaces := #[]
  cf := some (fileOf pool0 8 #[] #[{ accessFlags := 1, nameIndex := 5, descriptorIndex := 6, attributes := #[] }] 33 0 #[] #[])
  fields := #[]
  methods := #[k0m0]
  instanceTypes := #[]
  staticTypes := #[]
  resolved := Array.replicate 124 none
  statics := none }

def pool1 : Array CpInfo := pool [(2, .class_ 4), (1, u "java/lang/Object"), (0, u "<init>"), (0, u "()V"), (0, .methodref 8 9), (0, .class_ 10), (0, .nameAndType 11 12), (0, u "com/example/vetter/vetter/http/FieldSyntax"), (0, u "isTokenCharacter"), (0, u "(I)Z"), (0, .methodref 14 15), (0, .class_ 16), (0, .nameAndType 17 12), (0, u "com/example/vetter/vetter/http/FieldSyntaxIsTokenCharacterPinLaw"), (0, u "tchar"), (3, u "law")] 2

def k1m0 : Method := { name := "<init>", desc := "()V", sig := { parameters := [], returnType := none }, accessFlags := 2, code := none }
def k1c1 : Code := { maxStack := 2, maxLocals := 1, code := method_2_code, exceptionTable := #[], attributes := #[] }
def k1m1 : Method := { name := "tchar", desc := "(I)Z", sig := { parameters := [.int], returnType := some .boolean }, accessFlags := 10, code := some k1c1 }
def k1c2 : Code := { maxStack := 2, maxLocals := 4, code := code, exceptionTable := #[], attributes := #[] }
def k1m2 : Method := { name := "law", desc := "(I)Z", sig := { parameters := [.int], returnType := some .boolean }, accessFlags := 9, code := some k1c2 }
/-- com/example/vetter/vetter/http/FieldSyntaxIsTokenCharacterPinLaw -/
def k1 : Class := { plain "com/example/vetter/vetter/http/FieldSyntaxIsTokenCharacterPinLaw" (some 0) with
  accessFlags := 49
  interfaces := #[]
  cf := some (fileOf pool1 14 #[] #[{ accessFlags := 2, nameIndex := 5, descriptorIndex := 6, attributes := #[] }, { accessFlags := 10, nameIndex := 17, descriptorIndex := 12, attributes := #[] }, { accessFlags := 9, nameIndex := 21, descriptorIndex := 12, attributes := #[] }] 49 2 #[] #[])
  fields := #[]
  methods := #[k1m0, k1m1, k1m2]
  instanceTypes := #[]
  staticTypes := #[]
  resolved := Array.replicate 24 none
  statics := none }

def pool2 : Array CpInfo := pool [(2, .class_ 4), (1, u "java/lang/Object"), (0, u "<init>"), (0, u "()V"), (0, .fieldref 8 9), (0, .class_ 10), (0, .nameAndType 11 12), (0, u "com/example/vetter/vetter/http/FieldSyntax"), (0, u "TOKEN"), (0, u "[Z"), (20, u "isTokenCharacter"), (0, u "(I)Z")] 8

def k2m0 : Method := { name := "<init>", desc := "()V", sig := { parameters := [], returnType := none }, accessFlags := 2, code := none }
def k2c1 : Code := { maxStack := 2, maxLocals := 1, code := prog_12_method_2_code, exceptionTable := #[], attributes := #[] }
def k2m1 : Method := { name := "isTokenCharacter", desc := "(I)Z", sig := { parameters := [.int], returnType := some .boolean }, accessFlags := 8, code := some k2c1 }
/-- com/example/vetter/vetter/http/FieldSyntax -/
def k2 : Class := { plain "com/example/vetter/vetter/http/FieldSyntax" (some 0) with
  accessFlags := 32
  interfaces := #[]
  cf := some (fileOf pool2 8 #[] #[{ accessFlags := 2, nameIndex := 5, descriptorIndex := 6, attributes := #[] }, { accessFlags := 8, nameIndex := 33, descriptorIndex := 34, attributes := #[] }] 32 2 #[] #[{ accessFlags := 26, nameIndex := 11, descriptorIndex := 12, attributes := #[] }])
  fields := #[{ name := "TOKEN", type := (.array .boolean), accessFlags := 26, slot := 0, constantValue := 0 }]
  methods := #[k2m0, k2m1]
  instanceTypes := #[]
  staticTypes := #[(.array .boolean)]
  resolved := Array.replicate 43 none
  statics := some 0 }

def pool3 : Array CpInfo := pool [(1, u "java/lang/Cloneable"), (0, .class_ 1), (0, u "java/lang/Object"), (0, .class_ 3)] 3

/-- java/lang/Cloneable -/
def k3 : Class := { plain "java/lang/Cloneable" (some 0) with
  accessFlags := 1537
  interfaces := #[]
  cf := some (fileOf pool3 2 #[] #[] 1537 4 #[] #[])
  fields := #[]
  methods := #[]
  instanceTypes := #[]
  staticTypes := #[]
  resolved := Array.replicate 8 none
  statics := none }

def pool4 : Array CpInfo := pool [(1, u "java/io/Serializable"), (0, .class_ 1), (0, u "java/lang/Object"), (0, .class_ 3)] 3

/-- java/io/Serializable -/
def k4 : Class := { plain "java/io/Serializable" (some 0) with
  accessFlags := 1537
  interfaces := #[]
  cf := some (fileOf pool4 2 #[] #[] 1537 4 #[] #[])
  fields := #[]
  methods := #[]
  instanceTypes := #[]
  staticTypes := #[]
  resolved := Array.replicate 8 none
  statics := none }

/-- the primitive boolean -/
def k5 : Class := { plain "boolean" none with kind := .primitive 'Z', accessFlags := 0x411 }
/-- [Z -/
def k6 : Class := { plain "[Z" (some 0) with kind := .array 5 .boolean, interfaces := #[3, 4], accessFlags := 1041 }

/-- the primitive byte -/
def k7 : Class := { plain "byte" none with kind := .primitive 'B', accessFlags := 0x411 }
/-- [B -/
def k8 : Class := { plain "[B" (some 0) with kind := .array 7 .byte, interfaces := #[3, 4], accessFlags := 1041 }

/-- the primitive int -/
def k9 : Class := { plain "int" none with kind := .primitive 'I', accessFlags := 0x411 }
/-- [I -/
def k10 : Class := { plain "[I" (some 0) with kind := .array 9 .int, interfaces := #[3, 4], accessFlags := 1041 }

def heap : Heap := #[{ cls := 2, slots := #[.ref 1], vm := .statics 2 },
  { cls := 6, slots := #[.int 0, .int 0, .int 0, .int 0, .int 0, .int 0, .int 0, .int 0, .int 0, .int 0, .int 0, .int 0, .int 0, .int 0, .int 0, .int 0, .int 0, .int 0, .int 0, .int 0, .int 0, .int 0, .int 0, .int 0, .int 0, .int 0, .int 0, .int 0, .int 0, .int 0, .int 0, .int 0, .int 0, .int 1, .int 0, .int 1, .int 1, .int 1, .int 1, .int 1, .int 0, .int 0, .int 1, .int 1, .int 0, .int 1, .int 1, .int 0, .int 1, .int 1, .int 1, .int 1, .int 1, .int 1, .int 1, .int 1, .int 1, .int 1, .int 0, .int 0, .int 0, .int 0, .int 0, .int 0, .int 0, .int 1, .int 1, .int 1, .int 1, .int 1, .int 1, .int 1, .int 1, .int 1, .int 1, .int 1, .int 1, .int 1, .int 1, .int 1, .int 1, .int 1, .int 1, .int 1, .int 1, .int 1, .int 1, .int 1, .int 1, .int 1, .int 1, .int 0, .int 0, .int 0, .int 1, .int 1, .int 1, .int 1, .int 1, .int 1, .int 1, .int 1, .int 1, .int 1, .int 1, .int 1, .int 1, .int 1, .int 1, .int 1, .int 1, .int 1, .int 1, .int 1, .int 1, .int 1, .int 1, .int 1, .int 1, .int 1, .int 1, .int 1, .int 1, .int 0, .int 1, .int 0, .int 1, .int 0, .int 0, .int 0, .int 0, .int 0, .int 0, .int 0, .int 0, .int 0, .int 0, .int 0, .int 0, .int 0, .int 0, .int 0, .int 0, .int 0, .int 0, .int 0, .int 0, .int 0, .int 0, .int 0, .int 0, .int 0, .int 0, .int 0, .int 0, .int 0, .int 0, .int 0, .int 0, .int 0, .int 0, .int 0, .int 0, .int 0, .int 0, .int 0, .int 0, .int 0, .int 0, .int 0, .int 0, .int 0, .int 0, .int 0, .int 0, .int 0, .int 0, .int 0, .int 0, .int 0, .int 0, .int 0, .int 0, .int 0, .int 0, .int 0, .int 0, .int 0, .int 0, .int 0, .int 0, .int 0, .int 0, .int 0, .int 0, .int 0, .int 0, .int 0, .int 0, .int 0, .int 0, .int 0, .int 0, .int 0, .int 0, .int 0, .int 0, .int 0, .int 0, .int 0, .int 0, .int 0, .int 0, .int 0, .int 0, .int 0, .int 0, .int 0, .int 0, .int 0, .int 0, .int 0, .int 0, .int 0, .int 0, .int 0, .int 0, .int 0, .int 0, .int 0, .int 0, .int 0, .int 0, .int 0, .int 0, .int 0, .int 0, .int 0, .int 0, .int 0, .int 0, .int 0, .int 0, .int 0, .int 0, .int 0, .int 0, .int 0, .int 0, .int 0, .int 0, .int 0, .int 0, .int 0, .int 0, .int 0], vm := .none }]
def classes : Array Class := #[k0, k1, k2, k3, k4, k5, k6, k7, k8, k9, k10]
def interned : List (Array UInt16 × Addr) := []
def slotsUsed : Nat := 257
def theMethod : MethodId := ⟨1, 2⟩
def args0 : Array Value := #[.int 65]
def aboutOver (below : List Frame) : State where
  vm := { classes := classes, interned := interned.toArray }
  heap := heap
  slotsUsed := slotsUsed
  threads := #[{ frames := .invoking theMethod args0 :: below }]
def below0 : List Frame := [.native { method := ⟨0, 0⟩, args := #[] }]
def about1 : State := aboutOver below0
def p0 : Program := .bare "" "" ""
def e0 : Env := launch0.env 0 0 0
theorem w_frames : about1.frames = Frame.invoking theMethod args0 :: below0 := rfl
set_option maxRecDepth 65536 in
theorem w_args : argsFit about1.vm theMethod args0 = true := by decide +kernel
set_option maxRecDepth 65536 in
theorem w_heap : heapFits about1 = true := by decide +kernel
set_option maxRecDepth 65536 in
theorem w_runnable : about1.curStatus? = some .runnable := by decide +kernel
set_option maxRecDepth 65536 in
theorem w_alone : about1.alone = true := by decide +kernel
set_option maxRecDepth 65536 in
theorem w_named : about1.methodNamed? x = some theMethod := by decide +kernel
set_option maxRecDepth 65536 in
theorem w_hears : about1.hears theMethod below0 = true := by decide +kernel
set_option maxRecDepth 65536 in
theorem w_ripe : about1.ripe theMethod args0 below0 = true := by decide +kernel
theorem w_running : about1.status = .running := rfl
set_option maxRecDepth 65536 in
theorem w_room : about1.hasRoom e0.platform room_1 = true :=
  launch0.hasRoom_least _ room_1 (by decide +kernel) (by decide +kernel) (by decide +kernel) (by decide +kernel) (by decide +kernel) (by decide +kernel)
theorem allAtoms_all (ts : List Jvm.Cond) (a : Array Jvm.Value) (st : Jvm.State) : (allAtoms ts).before a st = ts.all (fun c => c.before a st) := by
  induction ts with
  | nil => rfl
  | cons c t ih =>
    show (Jvm.Cond.and c (allAtoms t)).before a st = _
    rw [Jvm.Cond.before_and, ih, List.all_cons]
def words1 : List Jvm.Cond := Jvm.Cond.code x code maxLocals ret :: tables_1
/-- a 'code' word, met by the world's own term for the bytes: nothing is compared byte by byte -/
theorem code_word {y : MethodName} {bytes : ByteArray} {mx : Nat} {rt : Option FieldType} {a : Array Value} {s : State} {m : MethodId} {meth : Method} {c : Code} (h1 : s.methodNamed? y = some m) (h2 : s.vm.method? m = some meth) (h3 : meth.code = some c) (h4 : c.code = bytes)
    (h5 : (c.maxLocals == mx && c.exceptionTable.isEmpty && decide (c.maxStack ≤ mostOperands) && decide (meth.sig.returnType = rt) && !meth.locks && decide (parseMethodDescriptor y.desc = some meth.sig)) = true) : (Jvm.Cond.code y bytes mx rt).before a s = true := by
  simp only [Bool.and_eq_true, beq_iff_eq, Bool.not_eq_true', decide_eq_true_eq] at h5
  obtain ⟨⟨⟨⟨⟨g1, g2⟩, g3⟩, g4⟩, g5⟩, g6⟩ := h5
  simp [Cond.before, Cond.holds, Cond.value, h1, h2, h3, h4, g1, g2, g3, g4, g5, g6]
def isCode : Jvm.Cond → Bool
  | .code _ _ _ _ => true
  | _ => false
theorem all_split {L : List Jvm.Cond} {P : Jvm.Cond → Bool} (h1 : L.all (fun c => isCode c || P c) = true) (h2 : ∀ c ∈ L.filter isCode, P c = true) : L.all P = true := by
  refine List.all_eq_true.mpr fun c hc => ?_
  have h := List.all_eq_true.mp h1 c hc
  rcases Bool.eq_false_or_eq_true (isCode c) with hi | hi
  · exact h2 c (List.mem_filter.mpr ⟨hc, hi⟩)
  · simpa [hi] using h
set_option maxRecDepth 65536 in
theorem w_c0 : (Jvm.Cond.code x code maxLocals ret).before args0 about1 = true := code_word (m := ⟨1, 2⟩) (meth := k1m2) (c := k1c2) (by decide +kernel) rfl rfl rfl (by decide +kernel)
set_option maxRecDepth 65536 in
theorem w_c1 : (Jvm.Cond.code ({ cls := "com/example/vetter/vetter/http/FieldSyntax", name := "isTokenCharacter", desc := "(I)Z" } : Jvm.MethodName) prog_12_method_2_code (1 : Nat) (Option.some Jvm.ClassFile.FieldType.boolean)).before args0 about1 = true := code_word (m := ⟨2, 1⟩) (meth := k2m1) (c := k2c1) (by decide +kernel) rfl rfl rfl (by decide +kernel)
set_option maxRecDepth 65536 in
theorem w_c2 : (Jvm.Cond.code ({ cls := "com/example/vetter/vetter/http/FieldSyntaxIsTokenCharacterPinLaw", name := "tchar", desc := "(I)Z" } : Jvm.MethodName) method_2_code (1 : Nat) (Option.some Jvm.ClassFile.FieldType.boolean)).before args0 about1 = true := code_word (m := ⟨1, 1⟩) (meth := k1m1) (c := k1c1) (by decide +kernel) rfl rfl rfl (by decide +kernel)
def codes1 : List Jvm.Cond := [Jvm.Cond.code x code maxLocals ret, Jvm.Cond.code ({ cls := "com/example/vetter/vetter/http/FieldSyntax", name := "isTokenCharacter", desc := "(I)Z" } : Jvm.MethodName) prog_12_method_2_code (1 : Nat) (Option.some Jvm.ClassFile.FieldType.boolean), Jvm.Cond.code ({ cls := "com/example/vetter/vetter/http/FieldSyntaxIsTokenCharacterPinLaw", name := "tchar", desc := "(I)Z" } : Jvm.MethodName) method_2_code (1 : Nat) (Option.some Jvm.ClassFile.FieldType.boolean)]
set_option maxRecDepth 65536 in
theorem codes_eq : words1.filter isCode = codes1 := rfl
theorem w_codes : ∀ c ∈ words1.filter isCode, c.before args0 about1 = true := by
  rw [codes_eq]
  intro c hc
  simp only [codes1, List.mem_cons, List.not_mem_nil, or_false] at hc
  rcases hc with rfl | rfl | rfl
  · exact w_c0
  · exact w_c1
  · exact w_c2
set_option maxRecDepth 65536 in
theorem w_t1 : words1.all (fun c => isCode c || c.before args0 about1) = true := by decide +kernel
theorem w_tables : (allAtoms (Jvm.Cond.code x code maxLocals ret :: tables_1)).before args0 about1 = true := by
  rw [allAtoms_all]
  show words1.all (fun c => c.before args0 about1) = true
  refine all_split ?_ w_codes
  rw [w_t1]
set_option maxRecDepth 65536 in
theorem w_case : (Jvm.Cond.and given_1 narrow_1).before args0 about1 = true := by decide +kernel
theorem w_applies : (headSpec (Jvm.Cond.code x code maxLocals ret :: tables_1) room_1).applies x e0.platform about1 = true :=
  (Spec.applies_iff w_frames).mpr ⟨w_running, w_runnable, w_alone, w_named, w_hears, w_ripe, w_room, w_tables⟩
theorem atStart : AtStart classFile x code maxLocals ret World_1 tables_1 room_1 Calls_1 rest_1 Pre_1 launch0 p0 e0 about1 theMethod args0 below0 :=
  ⟨lists_1, trivial, launch0.admits_env _ _ _, launch0.least_env, fairChoices_fair.cas, fairChoices_fair.clock, w_frames, w_args, w_heap, w_applies, trivial, trivial, w_case⟩
end start1
theorem witness_1 : WitnessClaimed_1 := ⟨start1.p0, start1.e0, start1.about1, start1.theMethod, start1.args0, start1.below0, start1.atStart⟩
end Jvm.Pilot.@@N@@
