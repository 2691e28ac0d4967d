import JvmDerived
import JvmDerived.Pilot.@@N@@Statement
import JvmDerived.Pilot.@@N@@Code
set_option linter.unusedVariables false
set_option linter.unusedSimpArgs false
set_option maxRecDepth 65536
namespace Jvm.Pilot.@@N@@
open Jvm Jvm.ClassFile Sem Op Lib Jvm.Free Jvm.Stand Jvm.LawKit Jvm.RoadKit Bundle Jvm.Pilot.@@N@@.Jvm.D
section Own
variable {p : Program} {l : Launch} {e : Env} {R : Room} {s : State} {m : MethodId} {args : Array Value} {below : List Frame} {meth : Method} {c : Code} {T : State} {locs : List Loc} {cells slots : Nat} {Z : State} {a0 : Array Value} {h : Heap}
variable {Q : Option Value → Heap → List Loc → Prop} {F : Outcome → State → Prop} {C N : Nat} {A B : State}
/-- how a body ends: it returns v, Q holds of what it returned, of the heap and of the places written; nothing else is written (EndW: String constants may have been interned) -/
def EndN (s : State) (Q : Option Value → Heap → List Loc → Prop) (C N : Nat) (o : Outcome) (t : State) : Prop := ∃ v L, o = .returned v ∧ Q v t.heap L ∧ FrameEnd s o t L C N
/-- what a body owes from a point of its walk: it comes to its end, and F holds there -/
def Owes (p : Program) (e : Env) (below : List Frame) (F : Outcome → State → Prop) (A : State) : Prop :=
  ∃ s₂ o, Steps p.tables e below A s₂ ∧ s₂.status = .running ∧ Ended s₂ below o ∧ F o s₂
theorem Owes.go (k : Owes p e below F B) (f : ∀ t, Steps p.tables e below B t → Steps p.tables e below A t) : Owes p e below F A := by
  obtain ⟨s₂, o, h1, r⟩ := k
  exact ⟨s₂, o, f _ h1, r⟩
theorem Owes.tr (k : Owes p e below F B) (st : Steps p.tables e below A B) : Owes p e below F A := by
  obtain ⟨s₂, o, h1, r⟩ := k
  exact ⟨s₂, o, st.trans h1, r⟩
theorem Owes.mono {Q' : Option Value → Heap → List Loc → Prop} (k : Owes p e below (EndN s Q C N) A) (f : ∀ v h L, Q v h L → Q' v h L) : Owes p e below (EndN s Q' C N) A := by
  obtain ⟨s₂, o, h1, h2, h3, v, L, h4, h5, h6⟩ := k
  exact ⟨s₂, o, h1, h2, h3, v, L, h4, f _ _ _ h5, h6⟩
/-- a body's contract at given arguments and a given heap -/
def OMet (l : Launch) (y : MethodName) (bytes : ByteArray) (maxL : Nat) (ret : Option FieldType) (ws : List Jvm.Cond) (rm : Room) (as' : Array Value) (Z : State) (h0 : Heap) (Q : Option Value → Heap → List Loc → Prop) : Prop :=
  MetFree l y (head1 (Jvm.Cond.code y bytes maxL ret :: ws) rm) (fun a U => a = as' ∧ Z.Warmed39 U.vm ∧ U.heap = h0) (fun _ _ _ _ _ => True) (fun _ U o U' => ∃ v L, o = .returned v ∧ Q v U'.heap L ∧ FrameEnd U o U' L rm.cells rm.slots)
theorem OMet.of {y : MethodName} {bytes : ByteArray} {maxL : Nat} {ret : Option FieldType} {ws : List Jvm.Cond} {rm : Room} {as' : Array Value} {h0 : Heap} (hpl : plainFor y = true) {Ls : Array Slot} (ef : ∀ m, entryFrame m as' maxL = mkF m 0 Ls [])
    (body : ∀ (p : Program) (e : Env) (s : State) (m : MethodId) (below : List Frame) (meth : Method) (c : Code) (s₁ : State), p.tables.exec = Jvm.exec → c.code = bytes → c.maxLocals = maxL → s.vm.findClass y.cls = some m.cls → meth.name = y.name → meth.sig.returnType = ret → meth.locks = false → Z.Warmed39 s.vm →
      Stand p l e rm s m as' below meth c s₁ [] 0 0 → s₁.heap = h0 → Owes p e below (EndN s Q rm.cells rm.slots) (s₁.setTop (mkF m 0 Ls []))) : OMet l y bytes maxL ret ws rm as' Z h0 Q := by
  refine MetFree.of_bodySF hpl hisR ?_
  intro p e s m args below meth c s₁ Bd hml0 hP hK
  obtain ⟨rfl, hZ, hh⟩ := hP
  have hlk : meth.locks = false := BodyLoose.notSynchronized Bd
  have X0 : Stand p l e rm s m args below meth c s₁ [] 0 0 := Stand.of_body Bd
  have e0 : s₁.heap = h0 := by rw [← hh, Bd.state]; rfl
  obtain ⟨s₂, o, h1, h2, h3, h4⟩ := body p e s m below meth c s₁ Bd.exec Bd.bytes hml0 (findClass_of_methodNamed Bd.named) (name_of_methodNamed Bd.named Bd.method).1 Bd.returns hlk hZ X0 e0
  exact ⟨s₂, o, castTop (ef m) h1, h2, h3, h4⟩
theorem OMet.mono {y : MethodName} {bytes : ByteArray} {maxL : Nat} {ret : Option FieldType} {ws : List Jvm.Cond} {rm : Room} {as' : Array Value} {h0 : Heap} {Q' : Option Value → Heap → List Loc → Prop} (M : OMet l y bytes maxL ret ws rm as' Z h0 Q) (f : ∀ v h L, Q v h L → Q' v h L) : OMet l y bytes maxL ret ws rm as' Z h0 Q' := by
  intro p e ha hc hk s m args below hf happ hP hK
  obtain ⟨n, o, h1, h2, h3, v, L, h4, h5, h6⟩ := M p e ha hc hk s m args below hf happ hP hK
  exact ⟨n, o, h1, h2, h3, v, L, h4, f _ _ _ h5, h6⟩
theorem own_end (X : Stand p l e R s m args below meth c T locs cells slots) (hlk : meth.locks = false) {v : Option Value} (hv : meth.sig.returnType = none → v = none) (hc : cells ≤ C) (hs : slots ≤ N) (hq : Q v T.heap locs) {A : State}
    (hst : ∀ fs : List Frame, (∀ (f : JFrame) (acts : List Action), f.method = m → f.locked = none → f.entered = [] → (doReturn e (T.setTop f) acts v).1 = T.setFrames fs) → Steps p.tables e below A (T.setFrames fs)) : Owes p e below (EndN s Q C N) A := by
  obtain ⟨fs, hr, hrun, hended, hW, hsame⟩ := X.leave hv hlk
  exact ⟨_, _, hst fs hr, hrun, hended, v, locs, rfl, hq, ⟨_, rfl⟩, hW, hsame.mono hc hs⟩
theorem Owes.retN (X : Stand p l e R s m args below meth c T locs cells slots) (hx : p.tables.exec = Jvm.exec) (hlk : meth.locks = false) {pc : Nat} {Ls : Array Slot} {z : Int32} {t : FieldType} {rest : List Value} (hret : meth.sig.returnType = some t) (ht : t = .boolean ∨ t = .byte ∨ t = .char ∨ t = .short)
    (hd : decode c.code pc = .ok (.ireturn, 1)) (hc : cells ≤ C) (hs : slots ≤ N) (hq : Q (some (.int (nar t z))) T.heap locs) : Owes p e below (EndN s Q C N) (T.setTop (mkF m pc Ls (.int z :: rest))) :=
  own_end X hlk (fun h => by rw [hret] at h; cases h) hc hs hq fun fs hr => Jvm.RoadKit.retN X hx hret ht hd hr
theorem Owes.retI (X : Stand p l e R s m args below meth c T locs cells slots) (hx : p.tables.exec = Jvm.exec) (hlk : meth.locks = false) {pc : Nat} {Ls : Array Slot} {z : Int32} {rest : List Value} (hret : meth.sig.returnType = some .int)
    (hd : decode c.code pc = .ok (.ireturn, 1)) (hc : cells ≤ C) (hs : slots ≤ N) (hq : Q (some (.int z)) T.heap locs) : Owes p e below (EndN s Q C N) (T.setTop (mkF m pc Ls (.int z :: rest))) :=
  own_end X hlk (fun h => by rw [hret] at h; cases h) hc hs hq fun fs hr => Jvm.RoadKit.retOut X hx hret rfl (Or.inl ⟨rfl, Or.inl rfl, _, rfl⟩) hd hr
theorem Owes.retJ (X : Stand p l e R s m args below meth c T locs cells slots) (hx : p.tables.exec = Jvm.exec) (hlk : meth.locks = false) {pc : Nat} {Ls : Array Slot} {z : Int64} {rest : List Value} (hret : meth.sig.returnType = some .long)
    (hd : decode c.code pc = .ok (.lreturn, 1)) (hc : cells ≤ C) (hs : slots ≤ N) (hq : Q (some (.long z)) T.heap locs) : Owes p e below (EndN s Q C N) (T.setTop (mkF m pc Ls (.long z :: rest))) :=
  own_end X hlk (fun h => by rw [hret] at h; cases h) hc hs hq fun fs hr => Jvm.RoadKit.retOut X hx hret rfl (Or.inr (Or.inl ⟨rfl, rfl, _, rfl⟩)) hd hr
theorem Owes.retA (X : Stand p l e R s m args below meth c T locs cells slots) (hx : p.tables.exec = Jvm.exec) (hlk : meth.locks = false) {pc : Nat} {Ls : Array Slot} {w : Value} {t : FieldType} {rest : List Value} (hret : meth.sig.returnType = some t) (ht : t.isReference = true) (hn : narrow t w = w) (hw : w.isRef = true)
    (hd : decode c.code pc = .ok (.areturn, 1)) (hc : cells ≤ C) (hs : slots ≤ N) (hq : Q (some w) T.heap locs) : Owes p e below (EndN s Q C N) (T.setTop (mkF m pc Ls (w :: rest))) :=
  own_end X hlk (fun h => by rw [hret] at h; cases h) hc hs hq fun fs hr => Jvm.RoadKit.retOut X hx hret hn (Or.inr (Or.inr (Or.inr (Or.inr ⟨rfl, ht, hw⟩)))) hd hr
theorem Owes.retV (X : Stand p l e R s m args below meth c T locs cells slots) (hx : p.tables.exec = Jvm.exec) (hlk : meth.locks = false) {pc : Nat} {Ls : Array Slot} (hret : meth.sig.returnType = none)
    (hd : decode c.code pc = .ok (.return_, 1)) (hc : cells ≤ C) (hs : slots ≤ N) (hq : Q none T.heap locs) : Owes p e below (EndN s Q C N) (T.setTop (mkF m pc Ls [])) :=
  own_end X hlk (fun _ => rfl) hc hs hq fun fs hr => X.returnOut hx hret hd hr
/-- a static method by its contract -/
theorem Owes.callS (X : Stand p l e R s m args below meth c T locs cells slots) (hx : p.tables.exec = Jvm.exec) (hZ : Z.Warmed39 s.vm) {own : String} {index : Nat} {y : MethodName} {bytes : ByteArray} {maxL : Nat} {ret : Option FieldType} {rm : Room}
    (hown : s.vm.findClass own = some m.cls) (w1 : (Cond.methodLink own index y).before a0 Z = true) (w2 : (Cond.static y).before a0 Z = true) (w3 : (Cond.initialized y.cls).before a0 Z = true) (w4 : (Cond.code y bytes maxL ret).before a0 Z = true)
    (hy : y.cls ≠ "java/lang/invoke/MethodHandle" ∧ y.cls ≠ "java/lang/invoke/VarHandle") {pc : Nat} {Ls : Array Slot} {argsL rest : List Value} {Q' : Option Value → Heap → List Loc → Prop} (M : OMet l y bytes maxL ret [] rm argsL.toArray Z h Q') (eT : T.heap = h) (hsize : Ls.size = c.maxLocals)
    {ps : List FieldType} {rt : Option FieldType} (hpd : parseMethodDescriptor y.desc = some ⟨ps, rt⟩) (hln : argsL.length = ps.length) {st : List Value} (hst : st = argsL.reverse ++ rest) (hd : decode c.code pc = .ok (.invokestatic index, 3))
    (hf : rm.frames + 1 ≤ R.frames) (hl : (rest.map fun v => v.category).sum + (maxL + 11) + rm.locals ≤ R.locals) (hcl : cells + rm.cells ≤ R.cells) (hsl : slots + rm.slots ≤ R.slots)
    (k : ∀ (T' : State) (v : Option Value) (L : List Loc), Stand p l e R s m args below meth c T' (locs ++ L) (cells + rm.cells) (slots + rm.slots) → Q' v T'.heap L → Owes p e below F (T'.setTop (mkF m (pc + 3) Ls (v.toList ++ rest)))) :
    Owes p e below F (T.setTop (mkF m pc Ls st)) := by
  subst hst
  obtain ⟨v, _, ⟨T3, L3, k3, n3⟩, -, X3, ⟨Lc3, hQ3, l3, y3, z3⟩, st3⟩ := Jvm.LawKit.callS X hx (y := y) hown (mvT hZ w1) (mvT hZ w2) (mvT hZ w3) (mvT hZ w4) hy (backOf (W := (rest.map fun v => v.category).sum) M hZ w4 w3 hf hl) (g := mkF m pc Ls (argsL.reverse ++ rest)) rfl hsize (argsL := argsL) (rest := rest) (lenOf hpd hln) rfl (by show 2 * 0 + _ ≤ _; omega) hd (fun _ _ => ⟨rfl, eT, hcl, hsl⟩)
  dsimp only [Pt.U, Pt.locs, Pt.cells, Pt.slots] at X3 l3 y3 z3 st3 hQ3
  subst l3 y3 z3
  exact (k T3 v Lc3 X3 hQ3).go st3
/-- a constructor by its contract -/
theorem Owes.callC (X : Stand p l e R s m args below meth c T locs cells slots) (hx : p.tables.exec = Jvm.exec) (hZ : Z.Warmed39 s.vm) {own : String} {index : Nat} {y : MethodName} {bytes : ByteArray} {maxL : Nat} {rm : Room} (hy1 : y.name = "<init>")
    (hown : s.vm.findClass own = some m.cls) (w1 : (Cond.methodLink own index y).before a0 Z = true) (w2 : (Cond.instanceMethod y).before a0 Z = true) (w3 : (Cond.initialized y.cls).before a0 Z = true) (w4 : (Cond.code y bytes maxL none).before a0 Z = true)
    (hy : y.cls ≠ "java/lang/invoke/MethodHandle" ∧ y.cls ≠ "java/lang/invoke/VarHandle") {pc : Nat} {Ls : Array Slot} {a : Addr} {argsL rest : List Value} {Q' : Option Value → Heap → List Loc → Prop} (M : OMet l y bytes maxL none [] rm (.ref a :: argsL).toArray Z h Q') (eT : T.heap = h) (hsize : Ls.size = c.maxLocals)
    {ps : List FieldType} {rt : Option FieldType} (hpd : parseMethodDescriptor y.desc = some ⟨ps, rt⟩) (hln : argsL.length = ps.length) {st : List Value} (hst : st = argsL.reverse ++ .ref a :: rest) (hd : decode c.code pc = .ok (.invokespecial index, 3))
    (hf : rm.frames + 1 ≤ R.frames) (hl : (rest.map fun v => v.category).sum + (maxL + 11) + rm.locals ≤ R.locals) (hcl : cells + rm.cells ≤ R.cells) (hsl : slots + rm.slots ≤ R.slots)
    (k : ∀ (T' : State) (v : Option Value) (L : List Loc), Stand p l e R s m args below meth c T' (locs ++ L) (cells + rm.cells) (slots + rm.slots) → Q' v T'.heap L → Owes p e below F (T'.setTop (mkF m (pc + 3) Ls (v.toList ++ rest)))) :
    Owes p e below F (T.setTop (mkF m pc Ls st)) := by
  subst hst
  obtain ⟨v, _, ⟨T3, L3, k3, n3⟩, -, X3, ⟨Lc3, hQ3, l3, y3, z3⟩, st3⟩ := X.specialBack hx (y := y) hy1 hown (mvT hZ w1) (mvT hZ w2) (mvT hZ w4) hy (backOf (W := (rest.map fun v => v.category).sum) M hZ w4 w3 hf hl) (g := mkF m pc Ls (argsL.reverse ++ .ref a :: rest)) rfl hsize (Steps.refl _) (a := a) (argsL := argsL) (rest := rest) (lenOf hpd hln) rfl (by show 2 * 0 + _ ≤ _; omega) hd (fun _ _ => ⟨rfl, eT, hcl, hsl⟩)
  dsimp only [Pt.U, Pt.locs, Pt.cells, Pt.slots] at X3 l3 y3 z3 st3 hQ3
  subst l3 y3 z3
  exact (k T3 v Lc3 X3 hQ3).tr st3
/-- an instance method by the contract of the body that the receiver's class selects -/
theorem Owes.callV (X : Stand p l e R s m args below meth c T locs cells slots) (hx : p.tables.exec = Jvm.exec) (hZ : Z.Warmed39 s.vm) {own CR : String} {index : Nat} {y z : MethodName} {bytes : ByteArray} {maxL : Nat} {ret : Option FieldType} {rm : Room}
    (hown : s.vm.findClass own = some m.cls) (w1 : (Cond.methodLink own index y).before a0 Z = true) (w2 : (Cond.declares y).before a0 Z = true) (hnf : NotFace s y) (w5 : (Cond.selects CR y z).before a0 Z = true) (w6 : (Cond.instanceMethod z).before a0 Z = true) (w3 : (Cond.initialized z.cls).before a0 Z = true) (w4 : (Cond.code z bytes maxL ret).before a0 Z = true)
    (hy : y.cls ≠ "java/lang/invoke/MethodHandle" ∧ y.cls ≠ "java/lang/invoke/VarHandle") {pc : Nat} {Ls : Array Slot} {a : Addr} {argsL rest : List Value} {Q' : Option Value → Heap → List Loc → Prop} (M : OMet l z bytes maxL ret [] rm (.ref a :: argsL).toArray Z h Q') (eT : T.heap = h) (E : Exa Z h a CR) (hsize : Ls.size = c.maxLocals)
    {ps : List FieldType} {rt : Option FieldType} (hpd : parseMethodDescriptor y.desc = some ⟨ps, rt⟩) (hln : argsL.length = ps.length) {st : List Value} (hst : st = argsL.reverse ++ .ref a :: rest) (hd : decode c.code pc = .ok (.invokevirtual index, 3))
    (hf : rm.frames + 1 ≤ R.frames) (hl : (rest.map fun v => v.category).sum + (maxL + 11) + rm.locals ≤ R.locals) (hcl : cells + rm.cells ≤ R.cells) (hsl : slots + rm.slots ≤ R.slots)
    (k : ∀ (T' : State) (v : Option Value) (L : List Loc), Stand p l e R s m args below meth c T' (locs ++ L) (cells + rm.cells) (slots + rm.slots) → Q' v T'.heap L → Owes p e below F (T'.setTop (mkF m (pc + 3) Ls (v.toList ++ rest)))) :
    Owes p e below F (T.setTop (mkF m pc Ls st)) := by
  subst hst
  obtain ⟨cq, kq, qa, qb, qc⟩ := isOf hZ eT E
  obtain ⟨v, _, ⟨T3, L3, k3, n3⟩, -, X3, ⟨Lc3, hQ3, l3, y3, z3⟩, st3⟩ := X.virtualBack hx (y := y) (z := z) hown (mvT hZ w1) (mvT hZ w2) hnf (mvT hZ w5) (mvT hZ w6) hy (backOf (W := (rest.map fun v => v.category).sum) M hZ w4 w3 hf hl) qa qc (g := mkF m pc Ls (argsL.reverse ++ .ref a :: rest)) rfl hsize (Steps.refl _) (argsL := argsL) (rest := rest) (lenOf hpd hln) rfl (by show 2 * 0 + _ ≤ _; omega) hd (fun _ _ => ⟨rfl, eT, hcl, hsl⟩)
  dsimp only [Pt.U, Pt.locs, Pt.cells, Pt.slots] at X3 l3 y3 z3 st3 hQ3
  subst l3 y3 z3
  exact (k T3 v Lc3 X3 hQ3).tr st3
/-- a private method by its contract -/
theorem Owes.callP (X : Stand p l e R s m args below meth c T locs cells slots) (hx : p.tables.exec = Jvm.exec) (hZ : Z.Warmed39 s.vm) {own CR : String} {index : Nat} {y : MethodName} {bytes : ByteArray} {maxL : Nat} {ret : Option FieldType} {rm : Room}
    (hown : s.vm.findClass own = some m.cls) (w1 : (Cond.methodLink own index y).before a0 Z = true) (w2 : (Cond.instanceMethod y).before a0 Z = true) (w5 : (Cond.selects y.cls y y).before a0 Z = true) (w6 : (Cond.privateMethod y).before a0 Z = true) (w3 : (Cond.initialized y.cls).before a0 Z = true) (w4 : (Cond.code y bytes maxL ret).before a0 Z = true)
    (hy : y.cls ≠ "java/lang/invoke/MethodHandle" ∧ y.cls ≠ "java/lang/invoke/VarHandle") {pc : Nat} {Ls : Array Slot} {a : Addr} {argsL rest : List Value} {Q' : Option Value → Heap → List Loc → Prop} (M : OMet l y bytes maxL ret [] rm (.ref a :: argsL).toArray Z h Q') (eT : T.heap = h) (E : Exa Z h a CR) (hsize : Ls.size = c.maxLocals)
    {ps : List FieldType} {rt : Option FieldType} (hpd : parseMethodDescriptor y.desc = some ⟨ps, rt⟩) (hln : argsL.length = ps.length) {st : List Value} (hst : st = argsL.reverse ++ .ref a :: rest) (hd : decode c.code pc = .ok (.invokevirtual index, 3))
    (hf : rm.frames + 1 ≤ R.frames) (hl : (rest.map fun v => v.category).sum + (maxL + 11) + rm.locals ≤ R.locals) (hcl : cells + rm.cells ≤ R.cells) (hsl : slots + rm.slots ≤ R.slots)
    (k : ∀ (T' : State) (v : Option Value) (L : List Loc), Stand p l e R s m args below meth c T' (locs ++ L) (cells + rm.cells) (slots + rm.slots) → Q' v T'.heap L → Owes p e below F (T'.setTop (mkF m (pc + 3) Ls (v.toList ++ rest)))) :
    Owes p e below F (T.setTop (mkF m pc Ls st)) := by
  subst hst
  obtain ⟨cq, q1, q2⟩ := E.cell
  obtain ⟨v, _, ⟨T3, L3, k3, n3⟩, -, X3, ⟨Lc3, hQ3, l3, y3, z3⟩, st3⟩ := X.privateBack hx (y := y) hown (mvT hZ w1) (mvT hZ w2) (mvT hZ w5) (Cond.privateMethod_at (mvP hZ w6 (args := #[]))) (mvT hZ w4) hy (backOf (W := (rest.map fun v => v.category).sum) M hZ w4 w3 hf hl) (g := mkF m pc Ls (argsL.reverse ++ .ref a :: rest)) rfl hsize (Steps.refl _) (a := a) (by rw [eT]; exact q1) q2 (argsL := argsL) (rest := rest) (lenOf hpd hln) rfl (by show 2 * 0 + _ ≤ _; omega) hd (fun _ _ => ⟨rfl, eT, hcl, hsl⟩)
  dsimp only [Pt.U, Pt.locs, Pt.cells, Pt.slots] at X3 l3 y3 z3 st3 hQ3
  subst l3 y3 z3
  exact (k T3 v Lc3 X3 hQ3).tr st3
theorem own_st {c2 s2 : Nat} (X : Stand p l e R s m args below meth c T locs cells slots) (hc : cells = c2) (hs : slots = s2) : Stand p l e R s m args below meth c T locs c2 s2 := by subst hc hs; exact X
theorem Owes.initO (X : Stand p l e R s m args below meth c T locs cells slots) (hx : p.tables.exec = Jvm.exec) (hZ : Z.Warmed39 s.vm) {own : String} {index : Nat} (hown : s.vm.findClass own = some m.cls) (w1 : (Cond.methodLink own index Lib.objectInit).before a0 Z = true) (w2 : (Cond.instanceMethod Lib.objectInit).before a0 Z = true) (w3 : (Cond.code Lib.objectInit ⟨#[0xb1]⟩ 1 none).before a0 Z = true) (eT : T.heap = h)
    {pc : Nat} {Ls : Array Slot} {a : Addr} {rest : List Value} (hsize : Ls.size = c.maxLocals) (hd : decode c.code pc = .ok (.invokespecial index, 3)) (hf : 1 ≤ R.frames) (hl : (rest.map fun v => v.category).sum + 12 ≤ R.locals)
    (k : ∀ T' : State, Stand p l e R s m args below meth c T' locs cells slots → T'.heap = h → Owes p e below F (T'.setTop (mkF m (pc + 3) Ls rest))) : Owes p e below F (T.setTop (mkF m pc Ls (.ref a :: rest))) := by
  obtain ⟨T', X', e', st⟩ := Jvm.RoadKit.initO X hx hZ hown w1 w2 w3 eT (g := mkF m pc Ls (.ref a :: rest)) rfl hsize rfl hd hf (W := (rest.map fun v => v.category).sum) (by show 2 * 0 + _ ≤ _; omega) hl
  exact (k T' X' e').go st
theorem Owes.newO (X : Stand p l e R s m args below meth c T locs cells slots) (hx : p.tables.exec = Jvm.exec) (hZ : Z.Warmed39 s.vm) {own CC : String} {index n : Nat} (hown : s.vm.findClass own = some m.cls) (w : (Cond.classLink own index CC).before a0 Z = true) (wi : (Cond.instantiable CC n).before a0 Z = true) (wz : (Cond.initialized CC).before a0 Z = true) (eT : T.heap = h)
    {pc : Nat} {Ls : Array Slot} {rest : List Value} (hd : decode c.code pc = .ok (.new index, 3)) (hcl : cells + 1 ≤ R.cells) (hsl : slots + n ≤ R.slots)
    (k : ∀ (T' : State) (h' : Heap), Stand p l e R s m args below meth c T' locs (cells + 1) (slots + n) → T'.heap = h' → Ext h h' → Exa Z h' h.size CC → (∀ {O nm d : String} {ty : FieldType}, Laid Z a0 CC O nm d → parseFieldDescriptor d = some ty → Fld Z h' h.size O nm d (defaultValue ty)) → Owes p e below F (T'.setTop (mkF m (pc + 3) Ls (.ref h.size :: rest)))) : Owes p e below F (T.setTop (mkF m pc Ls rest)) := by
  obtain ⟨T', h', X', e', E, A, D, -, st⟩ := Jvm.RoadKit.newO X hx hZ hown w wi wz eT (g := mkF m pc Ls rest) rfl hd hcl hsl
  exact (k T' h' X' e' E A D).go st
theorem Owes.putF (X : Stand p l e R s m args below meth c T locs cells slots) (hx : p.tables.exec = Jvm.exec) (hZ : Z.Warmed39 s.vm) {own R0 O n d host CC : String} {index kk : Nat} {ty : FieldType} (hown : s.vm.findClass own = some m.cls) (w : (Cond.fieldLink own index R0 n d).before a0 Z = true ∨ (Cond.fieldLinkNest own index R0 n d host).before a0 Z = true) (via : Via Z R0 O n d) (eT : T.heap = h)
    {a : Addr} {v old : Value} (Fd : Fld Z h a O n d old) (E : Exa Z h a CC) (L : (Cond.lays CC O n d).before a0 Z = true ∨ ((Cond.laysFinal CC O n d).before a0 Z = true ∧ own = O ∧ meth.name = "<init>")) (wi : (Cond.instantiable CC kk).before a0 Z = true) (hty : parseFieldDescriptor d = some ty) (hn : narrow ty v = v) (hf : fits ty v = true)
    {pc : Nat} {Ls : Array Slot} {rest : List Value} (hd : decode c.code pc = .ok (.putfield index, 3))
    (k : ∀ (T' : State) (h' : Heap), Stand p l e R s m args below meth c T' (locs ++ [⟨a, Jvm.RoadKit.slotOf Z O n d⟩]) cells slots → T'.heap = h' → Wr h h' a (Jvm.RoadKit.slotOf Z O n d) v → Owes p e below F (T'.setTop (mkF m (pc + 3) Ls rest))) : Owes p e below F (T.setTop (mkF m pc Ls (v :: .ref a :: rest))) := by
  obtain ⟨T', h', X', e', W, st⟩ := Jvm.RoadKit.putF X hx hZ hown w via eT Fd E L wi hty hn hf (g := mkF m pc Ls (v :: .ref a :: rest)) rfl rfl hd
  exact (k T' h' X' e' W).go st
theorem Owes.alen (X : Stand p l e R s m args below meth c T locs cells slots) (hx : p.tables.exec = Jvm.exec) (hZ : Z.Warmed39 s.vm) (eT : T.heap = h) {a : Addr} {cl : Cell} {ty : FieldType} (A : Arr Z h a cl ty) {z : Int32} (hn : cl.slots.size.toInt32 = z) {pc : Nat} {Ls : Array Slot} {rest : List Value}
    (hd : decode c.code pc = .ok (.arraylength, 1)) (k : Owes p e below F (T.setTop (mkF m (pc + 1) Ls (.int z :: rest)))) : Owes p e below F (T.setTop (mkF m pc Ls (.ref a :: rest))) := by
  subst hn
  exact k.go fun t q => X.arraylength hx (by rw [eT]; exact A.1) (State.isArrayOf_alike hZ.alike A.2.1) (g := mkF m pc Ls (.ref a :: rest)) rfl rfl hd _ q
theorem Owes.aldI (X : Stand p l e R s m args below meth c T locs cells slots) (hx : p.tables.exec = Jvm.exec) (hZ : Z.Warmed39 s.vm) (eT : T.heap = h) {a : Addr} {cl : Cell} (A : Arr Z h a cl .int) {j : Int32} {v : Value} (hin : ¬ (j < 0 ∨ cl.slots.size ≤ j.toNatClampNeg)) (hat : cl.slots[j.toNatClampNeg]? = some v) {pc : Nat} {Ls : Array Slot} {rest : List Value}
    (hd : decode c.code pc = .ok (.iaload, 1)) (k : Owes p e below F (T.setTop (mkF m (pc + 1) Ls (v :: rest)))) : Owes p e below F (T.setTop (mkF m pc Ls (.int j :: .ref a :: rest))) :=
  k.go fun t q => X.iaload hx (by rw [eT]; exact A.1) (State.isArrayOf_alike hZ.alike A.2.1) A.2.2 hin hat (g := mkF m pc Ls (.int j :: .ref a :: rest)) rfl rfl hd _ q
theorem Owes.aldJ (X : Stand p l e R s m args below meth c T locs cells slots) (hx : p.tables.exec = Jvm.exec) (hZ : Z.Warmed39 s.vm) (eT : T.heap = h) {a : Addr} {cl : Cell} (A : Arr Z h a cl .long) {j : Int32} {v : Value} (hin : ¬ (j < 0 ∨ cl.slots.size ≤ j.toNatClampNeg)) (hat : cl.slots[j.toNatClampNeg]? = some v) {pc : Nat} {Ls : Array Slot} {rest : List Value}
    (hd : decode c.code pc = .ok (.laload, 1)) (k : Owes p e below F (T.setTop (mkF m (pc + 1) Ls (v :: rest)))) : Owes p e below F (T.setTop (mkF m pc Ls (.int j :: .ref a :: rest))) :=
  k.go fun t q => X.laload hx (by rw [eT]; exact A.1) (State.isArrayOf_alike hZ.alike A.2.1) A.2.2 hin hat (g := mkF m pc Ls (.int j :: .ref a :: rest)) rfl rfl hd _ q
theorem Owes.aldC (X : Stand p l e R s m args below meth c T locs cells slots) (hx : p.tables.exec = Jvm.exec) (hZ : Z.Warmed39 s.vm) (eT : T.heap = h) {a : Addr} {cl : Cell} (A : Arr Z h a cl .char) {j : Int32} {v : Value} (hin : ¬ (j < 0 ∨ cl.slots.size ≤ j.toNatClampNeg)) (hat : cl.slots[j.toNatClampNeg]? = some v) {pc : Nat} {Ls : Array Slot} {rest : List Value}
    (hd : decode c.code pc = .ok (.caload, 1)) (k : Owes p e below F (T.setTop (mkF m (pc + 1) Ls (v :: rest)))) : Owes p e below F (T.setTop (mkF m pc Ls (.int j :: .ref a :: rest))) :=
  k.go fun t q => X.caload hx (by rw [eT]; exact A.1) (State.isArrayOf_alike hZ.alike A.2.1) A.2.2 hin hat (g := mkF m pc Ls (.int j :: .ref a :: rest)) rfl rfl hd _ q
theorem Owes.aldZ (X : Stand p l e R s m args below meth c T locs cells slots) (hx : p.tables.exec = Jvm.exec) (hZ : Z.Warmed39 s.vm) (eT : T.heap = h) {a : Addr} {cl : Cell} (A : Arr Z h a cl .boolean) {j : Int32} {v : Value} (hin : ¬ (j < 0 ∨ cl.slots.size ≤ j.toNatClampNeg)) (hat : cl.slots[j.toNatClampNeg]? = some v) {pc : Nat} {Ls : Array Slot} {rest : List Value}
    (hd : decode c.code pc = .ok (.baload, 1)) (k : Owes p e below F (T.setTop (mkF m (pc + 1) Ls (v :: rest)))) : Owes p e below F (T.setTop (mkF m pc Ls (.int j :: .ref a :: rest))) :=
  k.go fun t q => X.baloadBooleans hx (by rw [eT]; exact A.1) (State.isArrayOf_alike hZ.alike A.2.1) A.2.2 hin hat (g := mkF m pc Ls (.int j :: .ref a :: rest)) rfl rfl hd _ q
theorem Owes.aldB (X : Stand p l e R s m args below meth c T locs cells slots) (hx : p.tables.exec = Jvm.exec) (hZ : Z.Warmed39 s.vm) (eT : T.heap = h) {a : Addr} {cl : Cell} (A : Arr Z h a cl .byte) {j : Int32} {v : Value} (hin : ¬ (j < 0 ∨ cl.slots.size ≤ j.toNatClampNeg)) (hat : cl.slots[j.toNatClampNeg]? = some v) {pc : Nat} {Ls : Array Slot} {rest : List Value}
    (hd : decode c.code pc = .ok (.baload, 1)) (k : Owes p e below F (T.setTop (mkF m (pc + 1) Ls (v :: rest)))) : Owes p e below F (T.setTop (mkF m pc Ls (.int j :: .ref a :: rest))) :=
  k.go fun t q => X.baloadBytes hx (by rw [eT]; exact A.1) (State.isArrayOf_alike hZ.alike A.2.1) A.2.2 hin hat (g := mkF m pc Ls (.int j :: .ref a :: rest)) rfl rfl hd _ q
theorem Owes.aldR (X : Stand p l e R s m args below meth c T locs cells slots) (hx : p.tables.exec = Jvm.exec) (hZ : Z.Warmed39 s.vm) (eT : T.heap = h) {a : Addr} {cl : Cell} {ty : FieldType} (A : Arr Z h a cl ty) (hty : ty.isReference = true) {j : Int32} {v : Value} (hin : ¬ (j < 0 ∨ cl.slots.size ≤ j.toNatClampNeg)) (hat : cl.slots[j.toNatClampNeg]? = some v) {pc : Nat} {Ls : Array Slot} {rest : List Value}
    (hd : decode c.code pc = .ok (.aaload, 1)) (k : Owes p e below F (T.setTop (mkF m (pc + 1) Ls (v :: rest)))) : Owes p e below F (T.setTop (mkF m pc Ls (.int j :: .ref a :: rest))) :=
  k.go fun t q => X.aaload hx (by rw [eT]; exact A.1) (State.isArrayOf_alike hZ.alike A.2.1) hty A.2.2 hin hat (g := mkF m pc Ls (.int j :: .ref a :: rest)) rfl rfl hd _ q
theorem own_eqI {first : State} {o : Option Outcome} {idx : List Nat} {t : Term} {k : Int32} (q : (Cond.eq t (.int k)).value args first o s idx = some true) : t.eval args first o idx s = some (.int k) := by
  simp only [Cond.value, Term.eval] at q
  cases hv : t.eval args first o idx s with
  | none => simp [hv] at q
  | some v => cases v <;> simp_all
end Own
section OwnArr
variable {p : Program} {l : Launch} {e : Env} {R : Room} {s : State} {m : MethodId} {args : Array Value} {below : List Frame} {meth : Method} {c : Code} {T : State} {locs : List Loc} {cells slots : Nat} {Z : State} {a0 : Array Value} {h h' : Heap}
variable {Q : Option Value → Heap → List Loc → Prop} {F : Outcome → State → Prop} {C N : Nat} {A B : State}
theorem own_nat {j : Int32} {i : Nat} (q : j.toInt = (i : Int)) : ¬ j < 0 ∧ j.toNatClampNeg = i := by
  constructor
  · rw [Int32.lt_iff_toInt_lt, q, show (0 : Int32).toInt = 0 from by decide]; omega
  · rw [Int32.toNatClampNeg, q]; omega
theorem own_nth {j : Int32} {i n : Nat} {cl : Cell} (q : j.toInt = (i : Int)) (hi : i < n) (S : cl.slots.size = n) : ¬ (j < 0 ∨ cl.slots.size ≤ j.toNatClampNeg) := by
  obtain ⟨q1, q2⟩ := own_nat q
  rintro (z | z)
  · exact q1 z
  · rw [q2, S] at z; omega
/-- an array with components of type ty: n places, the place i holds w i -/
def GA (Z : State) (h : Heap) (a : Addr) (ty : FieldType) (n : Nat) (w : Nat → Value) : Prop := ∃ c : Cell, Arr Z h a c ty ∧ c.slots.size = n ∧ ∀ i, i < n → c.slots[i]? = some (w i)
def upd {α : Type} (w : Nat → α) (i : Nat) (v : α) : Nat → α := fun k => if k = i then v else w k
theorem upd_same {α : Type} (w : Nat → α) (i : Nat) (v : α) : upd w i v i = v := if_pos rfl
theorem upd_ne {α : Type} (w : Nat → α) {i k : Nat} (v : α) (q : k ≠ i) : upd w i v k = w k := if_neg q
theorem GA.lt {a : Addr} {ty : FieldType} {n : Nat} {w : Nat → Value} (G0 : GA Z h a ty n w) : a < h.size := by obtain ⟨c, A, -⟩ := G0; exact A.lt
theorem GA.ext {a : Addr} {ty : FieldType} {n : Nat} {w : Nat → Value} (G0 : GA Z h a ty n w) (E : Ext h h') : GA Z h' a ty n w := by obtain ⟨c, A, r⟩ := G0; exact ⟨c, A.ext E, r⟩
theorem GA.other {a b : Addr} {ty : FieldType} {n sl : Nat} {w : Nat → Value} {v : Value} (G0 : GA Z h b ty n w) (W : Wr h h' a sl v) (q : b ≠ a) : GA Z h' b ty n w := by obtain ⟨c, A, r⟩ := G0; exact ⟨c, A.other W q, r⟩
theorem GA.keep {a : Addr} {ty : FieldType} {n : Nat} {w : Nat → Value} {ws : List Addr} (G0 : GA Z h a ty n w) (K : Keep h h' ws) (q : a ∉ ws) : GA Z h' a ty n w := by obtain ⟨c, A, r⟩ := G0; exact ⟨c, ⟨K.2.1 a c A.1 q, A.2⟩, r⟩
theorem GA.congr {a : Addr} {ty : FieldType} {n : Nat} {w w' : Nat → Value} (G0 : GA Z h a ty n w) (q : ∀ i, i < n → w i = w' i) : GA Z h a ty n w' := by obtain ⟨c, A, S, r⟩ := G0; exact ⟨c, A, S, fun i hi => by rw [← q i hi]; exact r i hi⟩
theorem GA.set {a : Addr} {ty : FieldType} {n i : Nat} {w : Nat → Value} {v : Value} (G0 : GA Z h a ty n w) (W : Wr h h' a i v) : GA Z h' a ty n (upd w i v) := by
  obtain ⟨c, A, S, r⟩ := G0
  refine ⟨_, A.same W, by rw [sz_set]; exact S, fun k hk => ?_⟩
  by_cases q : k = i
  · subst q
    rw [upd_same]
    simp [Cell.setSlot, S, hk]
  · rw [upd_ne _ _ q, ← r k hk]
    exact Array.getElem?_setIfInBounds_ne (Ne.symm q)
theorem GA.new {a : Addr} {ty : FieldType} {k : ClassId} {z : Int32} {n : Nat} (A : Arr Z h a (newA k ty z) ty) (q : z.toInt = (n : Int)) : GA Z h a ty n (fun _ => defaultValue ty) := by
  have e := (own_nat q).2
  refine ⟨_, A, by rw [sz_new]; exact e, fun i hi => ?_⟩
  simp [newA, e, hi]
theorem GA.ne {a b : Addr} {ty : FieldType} {n n' : Nat} {w w' : Nat → Value} {ty' : FieldType} (G0 : GA Z h a ty n w) (G : GA Z h b ty' n' w') (q : ty ≠ ty') : a ≠ b := fun z => by
  subst z
  obtain ⟨c, A, -⟩ := G0
  obtain ⟨c', A', -⟩ := G
  cases A.1.symm.trans A'.1
  obtain ⟨-, k, h1, comp, h2⟩ := A.2.1
  obtain ⟨-, k', h1', comp', h2'⟩ := A'.2.1
  cases h1.symm.trans h1'
  rw [h2] at h2'
  cases h2'
  exact q rfl
theorem GA.ne_obj {a b : Addr} {ty : FieldType} {n k : Nat} {w : Nat → Value} {CC : String} (E : Exa Z h a CC) (wi : (Cond.instantiable CC k).before a0 Z = true) (G0 : GA Z h b ty n w) : a ≠ b := by
  obtain ⟨c, A, -⟩ := G0
  exact ne_arr E wi A
theorem Owes.gI (X : Stand p l e R s m args below meth c T locs cells slots) (hx : p.tables.exec = Jvm.exec) (hZ : Z.Warmed39 s.vm) (eT : T.heap = h) {a : Addr} {n : Nat} {w : Nat → Value} (A : GA Z h a .int n w) {j : Int32} {i : Nat} {v : Value} (hj : j.toInt = (i : Int)) (hi : i < n) (hv : w i = v) {pc : Nat} {Ls : Array Slot} {rest : List Value}
    (hd : decode c.code pc = .ok (.iaload, 1)) (k : Owes p e below F (T.setTop (mkF m (pc + 1) Ls (v :: rest)))) : Owes p e below F (T.setTop (mkF m pc Ls (.int j :: .ref a :: rest))) := by
  obtain ⟨cl, A1, S, V⟩ := A
  exact Owes.aldI X hx hZ eT A1 (own_nth hj hi S) (by rw [(own_nat hj).2, ← hv]; exact V i hi) hd k
theorem Owes.gJ (X : Stand p l e R s m args below meth c T locs cells slots) (hx : p.tables.exec = Jvm.exec) (hZ : Z.Warmed39 s.vm) (eT : T.heap = h) {a : Addr} {n : Nat} {w : Nat → Value} (A : GA Z h a .long n w) {j : Int32} {i : Nat} {v : Value} (hj : j.toInt = (i : Int)) (hi : i < n) (hv : w i = v) {pc : Nat} {Ls : Array Slot} {rest : List Value}
    (hd : decode c.code pc = .ok (.laload, 1)) (k : Owes p e below F (T.setTop (mkF m (pc + 1) Ls (v :: rest)))) : Owes p e below F (T.setTop (mkF m pc Ls (.int j :: .ref a :: rest))) := by
  obtain ⟨cl, A1, S, V⟩ := A
  exact Owes.aldJ X hx hZ eT A1 (own_nth hj hi S) (by rw [(own_nat hj).2, ← hv]; exact V i hi) hd k
theorem Owes.gC (X : Stand p l e R s m args below meth c T locs cells slots) (hx : p.tables.exec = Jvm.exec) (hZ : Z.Warmed39 s.vm) (eT : T.heap = h) {a : Addr} {n : Nat} {w : Nat → Value} (A : GA Z h a .char n w) {j : Int32} {i : Nat} {v : Value} (hj : j.toInt = (i : Int)) (hi : i < n) (hv : w i = v) {pc : Nat} {Ls : Array Slot} {rest : List Value}
    (hd : decode c.code pc = .ok (.caload, 1)) (k : Owes p e below F (T.setTop (mkF m (pc + 1) Ls (v :: rest)))) : Owes p e below F (T.setTop (mkF m pc Ls (.int j :: .ref a :: rest))) := by
  obtain ⟨cl, A1, S, V⟩ := A
  exact Owes.aldC X hx hZ eT A1 (own_nth hj hi S) (by rw [(own_nat hj).2, ← hv]; exact V i hi) hd k
theorem Owes.gZ (X : Stand p l e R s m args below meth c T locs cells slots) (hx : p.tables.exec = Jvm.exec) (hZ : Z.Warmed39 s.vm) (eT : T.heap = h) {a : Addr} {n : Nat} {w : Nat → Value} (A : GA Z h a .boolean n w) {j : Int32} {i : Nat} {v : Value} (hj : j.toInt = (i : Int)) (hi : i < n) (hv : w i = v) {pc : Nat} {Ls : Array Slot} {rest : List Value}
    (hd : decode c.code pc = .ok (.baload, 1)) (k : Owes p e below F (T.setTop (mkF m (pc + 1) Ls (v :: rest)))) : Owes p e below F (T.setTop (mkF m pc Ls (.int j :: .ref a :: rest))) := by
  obtain ⟨cl, A1, S, V⟩ := A
  exact Owes.aldZ X hx hZ eT A1 (own_nth hj hi S) (by rw [(own_nat hj).2, ← hv]; exact V i hi) hd k
theorem Owes.gB (X : Stand p l e R s m args below meth c T locs cells slots) (hx : p.tables.exec = Jvm.exec) (hZ : Z.Warmed39 s.vm) (eT : T.heap = h) {a : Addr} {n : Nat} {w : Nat → Value} (A : GA Z h a .byte n w) {j : Int32} {i : Nat} {v : Value} (hj : j.toInt = (i : Int)) (hi : i < n) (hv : w i = v) {pc : Nat} {Ls : Array Slot} {rest : List Value}
    (hd : decode c.code pc = .ok (.baload, 1)) (k : Owes p e below F (T.setTop (mkF m (pc + 1) Ls (v :: rest)))) : Owes p e below F (T.setTop (mkF m pc Ls (.int j :: .ref a :: rest))) := by
  obtain ⟨cl, A1, S, V⟩ := A
  exact Owes.aldB X hx hZ eT A1 (own_nth hj hi S) (by rw [(own_nat hj).2, ← hv]; exact V i hi) hd k
theorem Owes.gR (X : Stand p l e R s m args below meth c T locs cells slots) (hx : p.tables.exec = Jvm.exec) (hZ : Z.Warmed39 s.vm) (eT : T.heap = h) {a : Addr} {n : Nat} {ty : FieldType} {w : Nat → Value} (A : GA Z h a ty n w) (hty : ty.isReference = true) {j : Int32} {i : Nat} {v : Value} (hj : j.toInt = (i : Int)) (hi : i < n) (hv : w i = v) {pc : Nat} {Ls : Array Slot} {rest : List Value}
    (hd : decode c.code pc = .ok (.aaload, 1)) (k : Owes p e below F (T.setTop (mkF m (pc + 1) Ls (v :: rest)))) : Owes p e below F (T.setTop (mkF m pc Ls (.int j :: .ref a :: rest))) := by
  obtain ⟨cl, A1, S, V⟩ := A
  exact Owes.aldR X hx hZ eT A1 hty (own_nth hj hi S) (by rw [(own_nat hj).2, ← hv]; exact V i hi) hd k
theorem Owes.glen (X : Stand p l e R s m args below meth c T locs cells slots) (hx : p.tables.exec = Jvm.exec) (hZ : Z.Warmed39 s.vm) (eT : T.heap = h) {a : Addr} {n : Nat} {ty : FieldType} {w : Nat → Value} (A : GA Z h a ty n w) {z : Int32} (hz : z.toInt = (n : Int)) {pc : Nat} {Ls : Array Slot} {rest : List Value}
    (hd : decode c.code pc = .ok (.arraylength, 1)) (k : Owes p e below F (T.setTop (mkF m (pc + 1) Ls (.int z :: rest)))) : Owes p e below F (T.setTop (mkF m pc Ls (.ref a :: rest))) := by
  obtain ⟨cl, A1, S, V⟩ := A
  exact Owes.alen X hx hZ eT A1 (len_of (by rw [S, (own_nat hz).2]) (own_nat hz).1) hd k
theorem Owes.sI (X : Stand p l e R s m args below meth c T locs cells slots) (hx : p.tables.exec = Jvm.exec) (hZ : Z.Warmed39 s.vm) (eT : T.heap = h) {a : Addr} {n : Nat} {w : Nat → Value} (A : GA Z h a .int n w) {j : Int32} {i : Nat} (hj : j.toInt = (i : Int)) (hi : i < n) {x : Int32} {pc : Nat} {Ls : Array Slot} {rest : List Value}
    (hd : decode c.code pc = .ok (.iastore, 1)) (k : ∀ (T' : State) (h' : Heap), Stand p l e R s m args below meth c T' (locs ++ [⟨a, i⟩]) cells slots → T'.heap = h' → Wr h h' a i (.int x) → GA Z h' a .int n (upd w i (.int x)) → Owes p e below F (T'.setTop (mkF m (pc + 1) Ls rest))) : Owes p e below F (T.setTop (mkF m pc Ls (.int x :: .int j :: .ref a :: rest))) := by
  have A0 := A
  obtain ⟨cl, A1, S, V⟩ := A
  obtain ⟨T', h', X', e', W, st⟩ := stI X hx hZ eT A1 (j := j) (x := x) (own_nth hj hi S) (g := mkF m pc Ls (.int x :: .int j :: .ref a :: rest)) rfl rfl hd
  rw [(own_nat hj).2] at X' W
  exact (k T' h' X' e' W (A0.set W)).go st
theorem Owes.sJ (X : Stand p l e R s m args below meth c T locs cells slots) (hx : p.tables.exec = Jvm.exec) (hZ : Z.Warmed39 s.vm) (eT : T.heap = h) {a : Addr} {n : Nat} {w : Nat → Value} (A : GA Z h a .long n w) {j : Int32} {i : Nat} (hj : j.toInt = (i : Int)) (hi : i < n) {x : Int64} {pc : Nat} {Ls : Array Slot} {rest : List Value}
    (hd : decode c.code pc = .ok (.lastore, 1)) (k : ∀ (T' : State) (h' : Heap), Stand p l e R s m args below meth c T' (locs ++ [⟨a, i⟩]) cells slots → T'.heap = h' → Wr h h' a i (.long x) → GA Z h' a .long n (upd w i (.long x)) → Owes p e below F (T'.setTop (mkF m (pc + 1) Ls rest))) : Owes p e below F (T.setTop (mkF m pc Ls (.long x :: .int j :: .ref a :: rest))) := by
  have A0 := A
  obtain ⟨cl, A1, S, V⟩ := A
  obtain ⟨T', h', X', e', W, st⟩ := stJ X hx hZ eT A1 (j := j) (x := x) (own_nth hj hi S) (g := mkF m pc Ls (.long x :: .int j :: .ref a :: rest)) rfl rfl hd
  rw [(own_nat hj).2] at X' W
  exact (k T' h' X' e' W (A0.set W)).go st
theorem Owes.sR (X : Stand p l e R s m args below meth c T locs cells slots) (hx : p.tables.exec = Jvm.exec) (hZ : Z.Warmed39 s.vm) (eT : T.heap = h) {a : Addr} {n : Nat} {ty : FieldType} {w : Nat → Value} (A : GA Z h a ty n w) (hty : ty.isReference = true) {j : Int32} {i : Nat} (hj : j.toInt = (i : Int)) (hi : i < n) {v : Value} (SF : Sto Z h a v) {pc : Nat} {Ls : Array Slot} {rest : List Value}
    (hd : decode c.code pc = .ok (.aastore, 1)) (k : ∀ (T' : State) (h' : Heap), Stand p l e R s m args below meth c T' (locs ++ [⟨a, i⟩]) cells slots → T'.heap = h' → Wr h h' a i v → GA Z h' a ty n (upd w i v) → Owes p e below F (T'.setTop (mkF m (pc + 1) Ls rest))) : Owes p e below F (T.setTop (mkF m pc Ls (v :: .int j :: .ref a :: rest))) := by
  have A0 := A
  obtain ⟨cl, A1, S, V⟩ := A
  obtain ⟨T', h', X', e', W, st⟩ := stR X hx hZ eT A1 (j := j) (v := v) (own_nth hj hi S) hty SF (g := mkF m pc Ls (v :: .int j :: .ref a :: rest)) rfl rfl hd
  rw [(own_nat hj).2] at X' W
  exact (k T' h' X' e' W (A0.set W)).go st
theorem Owes.newArr (X : Stand p l e R s m args below meth c T locs cells slots) (hx : p.tables.exec = Jvm.exec) (hZ : Z.Warmed39 s.vm) {aty : ArrayType} (w : (Cond.arrayClass (newarray.typeOf aty)).before a0 Z = true) (eT : T.heap = h) {z : Int32} {n : Nat} (hz : z.toInt = (n : Int)) (hb : n * 8 ≤ 536870912) (hcl : cells + 1 ≤ R.cells) (hsl : slots + n ≤ R.slots) {ad : String} (had : "[" ++ (newarray.typeOf aty).toString = ad) {pc : Nat} {Ls : Array Slot} {rest : List Value}
    (hd : decode c.code pc = .ok (.newarray aty, 2)) (k : ∀ (T' : State) (h' : Heap), Stand p l e R s m args below meth c T' locs (cells + 1) (slots + n) → T'.heap = h' → Ext h h' → GA Z h' h.size (newarray.typeOf aty) n (fun _ => defaultValue (newarray.typeOf aty)) → Exa Z h' h.size ad → Owes p e below F (T'.setTop (mkF m (pc + 2) Ls (.ref h.size :: rest)))) : Owes p e below F (T.setTop (mkF m pc Ls (.int z :: rest))) := by
  obtain ⟨T', h', cA, X', e', E, A1, EX, st⟩ := newPE X hx hZ w eT (g := mkF m pc Ls (.int z :: rest)) rfl hd (n := z) rfl (own_nat hz).1 (cap := n) (Nat.le_of_eq (own_nat hz).2) hb hcl hsl had
  exact (k T' h' X' e' E (GA.new A1 hz) EX).go st
theorem Owes.newArrA (X : Stand p l e R s m args below meth c T locs cells slots) (hx : p.tables.exec = Jvm.exec) (hZ : Z.Warmed39 s.vm) {own CC : String} {ty : FieldType} {index : Nat} (hown : s.vm.findClass own = some m.cls) (hC : (FieldType.array ty).toString = CC) (w1 : (Cond.classLink own index CC).before a0 Z = true) (w2 : (Cond.arrayOver (.array ty)).before a0 Z = true) (eT : T.heap = h) {z : Int32} {n : Nat} (hz : z.toInt = (n : Int)) (hb : n * 8 ≤ 536870912) (hcl : cells + 1 ≤ R.cells) (hsl : slots + n ≤ R.slots) {pc : Nat} {Ls : Array Slot} {rest : List Value}
    (hd : decode c.code pc = .ok (.anewarray index, 3)) (k : ∀ (T' : State) (h' : Heap) (cA : ClassId), Stand p l e R s m args below meth c T' locs (cells + 1) (slots + n) → T'.heap = h' → Ext h h' → Arr Z h' h.size (newA cA (.array ty) z) (.array ty) → OvrA Z cA ty CC → Owes p e below F (T'.setTop (mkF m (pc + 3) Ls (.ref h.size :: rest)))) : Owes p e below F (T.setTop (mkF m pc Ls (.int z :: rest))) := by
  obtain ⟨T', h', cA, X', e', E, A1, EX, O, st⟩ := newRA X hx hZ hown hC w1 w2 eT (g := mkF m pc Ls (.int z :: rest)) rfl hd (n := z) rfl (own_nat hz).1 (cap := n) (Nat.le_of_eq (own_nat hz).2) hb hcl hsl rfl
  exact (k T' h' cA X' e' E A1 O).go st
/-- the same, and the array's own class -/
def GC (Z : State) (h : Heap) (a : Addr) (ty : FieldType) (n : Nat) (w : Nat → Value) (kc : ClassId) : Prop := ∃ c : Cell, Arr Z h a c ty ∧ c.cls = kc ∧ c.slots.size = n ∧ ∀ i, i < n → c.slots[i]? = some (w i)
theorem GC.ga {a : Addr} {ty : FieldType} {n : Nat} {w : Nat → Value} {kc : ClassId} (G0 : GC Z h a ty n w kc) : GA Z h a ty n w := by obtain ⟨c, A, -, r⟩ := G0; exact ⟨c, A, r⟩
theorem GC.ext {a : Addr} {ty : FieldType} {n : Nat} {w : Nat → Value} {kc : ClassId} (G0 : GC Z h a ty n w kc) (E : Ext h h') : GC Z h' a ty n w kc := by obtain ⟨c, A, r⟩ := G0; exact ⟨c, A.ext E, r⟩
theorem GC.other {a b : Addr} {ty : FieldType} {n sl : Nat} {w : Nat → Value} {v : Value} {kc : ClassId} (G0 : GC Z h b ty n w kc) (W : Wr h h' a sl v) (q : b ≠ a) : GC Z h' b ty n w kc := by obtain ⟨c, A, r⟩ := G0; exact ⟨c, A.other W q, r⟩
theorem GC.congr {a : Addr} {ty : FieldType} {n : Nat} {w w' : Nat → Value} {kc : ClassId} (G0 : GC Z h a ty n w kc) (q : ∀ i, i < n → w i = w' i) : GC Z h a ty n w' kc := by obtain ⟨c, A, K, S, r⟩ := G0; exact ⟨c, A, K, S, fun i hi => by rw [← q i hi]; exact r i hi⟩
theorem GC.set {a : Addr} {ty : FieldType} {n i : Nat} {w : Nat → Value} {v : Value} {kc : ClassId} (G0 : GC Z h a ty n w kc) (W : Wr h h' a i v) : GC Z h' a ty n (upd w i v) kc := by
  obtain ⟨c, A, K, S, r⟩ := G0
  refine ⟨_, A.same W, K, by rw [sz_set]; exact S, fun k hk => ?_⟩
  by_cases q : k = i
  · subst q
    rw [upd_same]
    simp [Cell.setSlot, S, hk]
  · rw [upd_ne _ _ q, ← r k hk]
    exact Array.getElem?_setIfInBounds_ne (Ne.symm q)
theorem GC.new {a : Addr} {ty : FieldType} {k : ClassId} {z : Int32} {n : Nat} (A : Arr Z h a (newA k ty z) ty) (q : z.toInt = (n : Int)) : GC Z h a ty n (fun _ => defaultValue ty) k := by
  have e := (own_nat q).2
  refine ⟨_, A, rfl, by rw [sz_new]; exact e, fun i hi => ?_⟩
  simp [newA, e, hi]
theorem GC.sto {a y : Addr} {ty t0 : FieldType} {n : Nat} {w : Nat → Value} {kc : ClassId} {CC : String} (G0 : GC Z h a t0 n w kc) (O : OvrA Z kc ty CC) (I : Ins Z h y CC true) : Sto Z h a (.ref y) := by
  obtain ⟨c, A, K, -⟩ := G0
  exact Sto.ofVA A K O I
end OwnArr

section OwnBits
def bt (w : Int64) (b : Nat) : Bool := w.toBitVec.getLsbD b
theorem bt_zero (b : Nat) : bt 0 b = false := by simp [bt]
theorem bt_ext {x y : Int64} (h : ∀ b, b < 64 → bt x b = bt y b) : x = y := Int64.toBitVec_inj.mp (BitVec.eq_of_getLsbD_eq h)
theorem bt_ne0 {x : Int64} (h : ¬ x = 0) : ∃ b, b < 64 ∧ bt x b = true := by
  apply Classical.byContradiction
  intro q
  apply h
  apply bt_ext
  intro b hb
  rw [bt_zero]
  cases hv : bt x b
  · rfl
  · exact absurd ⟨b, hb, hv⟩ q
theorem bt_eq0 {x : Int64} (h : x = 0) (b : Nat) : bt x b = false := by rw [h, bt_zero]
theorem bt_and (x y : Int64) (b : Nat) : bt (x &&& y) b = (bt x b && bt y b) := by simp [bt]
theorem bt_or (x y : Int64) (b : Nat) : bt (x ||| y) b = (bt x b || bt y b) := by simp [bt]
theorem bt_xor (x y : Int64) (b : Nat) : bt (x ^^^ y) b = (bt x b ^^ bt y b) := by simp [bt]
theorem bt_m1 (b : Nat) (hb : b < 64) : bt (-1) b = true := (by decide +kernel : ∀ b : Fin 64, bt (-1) b.1 = true) ⟨b, hb⟩
theorem bt_1 (b : Nat) : bt 1 b = decide (b = 0) := by
  by_cases hb : b < 64
  · exact (by decide +kernel : ∀ b : Fin 64, bt 1 b.1 = decide (b.1 = 0)) ⟨b, hb⟩
  · have : ¬ b = 0 := by omega
    simp only [this, decide_false]
    exact BitVec.getLsbD_of_ge _ _ (by omega)
theorem i32_nat {q : Int32} {i : Nat} (h : q.toInt = (i : Int)) : q.toBitVec.toNat = i := by
  have h1 : q.toBitVec.toInt = (i : Int) := h
  have h2 := q.toBitVec.isLt
  rw [BitVec.toInt_eq_toNat_cond] at h1
  split at h1 <;> omega
theorem bt_shl (x : Int64) (q : Int32) (i : Nat) (h : q.toInt = (i : Int)) (b : Nat) (hb : b < 64) : bt (x <<< (q &&& 0x3f).toInt64) b = (decide (i % 64 ≤ b) && bt x (b - i % 64)) := by
  have e : q.toBitVec.toNat % 64 = i % 64 := by rw [i32_nat h]
  show (x.toBitVec <<< ((q &&& 0x3f).toInt64.toBitVec.smod 64)).getLsbD b = _
  rw [BitVec.shiftLeft_eq', (sm64 q _ e).1, smod64 _ (sm64 q _ e).2, BitVec.getLsbD_shiftLeft]
  by_cases c : i % 64 ≤ b
  · simp [c, hb, bt, Nat.not_lt.mpr c]
  · simp [c, hb, Nat.lt_of_not_le c]
theorem bt_ushr (x : Int64) (q : Int32) (i : Nat) (h : q.toInt = (i : Int)) (b : Nat) : bt ((x.toUInt64 >>> (q &&& 0x3f).toInt64.toUInt64).toInt64) b = bt x (i % 64 + b) := by
  have e : q.toBitVec.toNat % 64 = i % 64 := by rw [i32_nat h]
  have h5 := (sm64 q _ e).2
  show (x.toBitVec >>> ((q &&& 0x3f).toInt64.toBitVec % 64)).getLsbD b = _
  rw [BitVec.ushiftRight_eq', BitVec.getLsbD_ushiftRight, BitVec.toNat_umod, (sm64 q _ e).1, BitVec.toNat_ofNat]
  have : i % 64 % 2 ^ 64 % (64 : BitVec 64).toNat = i % 64 := by show i % 64 % 2 ^ 64 % 64 = _; omega
  rw [this]; rfl
/-- the word with just the bit i % 64 -/
theorem bt_one_shl (q : Int32) (i : Nat) (h : q.toInt = (i : Int)) (b : Nat) (hb : b < 64) : bt ((1 : Int64) <<< (q &&& 0x3f).toInt64) b = decide (b = i % 64) := by
  rw [bt_shl _ q i h b hb, bt_1]
  by_cases c : b = i % 64
  · simp [c]
  · by_cases d : i % 64 ≤ b
    · have : ¬ b - i % 64 = 0 := by omega
      simp [c, this]
    · simp [c, d]
theorem bt_m1_shl (q : Int32) (i : Nat) (h : q.toInt = (i : Int)) (b : Nat) (hb : b < 64) : bt ((-1 : Int64) <<< (q &&& 0x3f).toInt64) b = decide (i % 64 ≤ b) := by
  rw [bt_shl _ q i h b hb, bt_m1 _ (by omega)]; simp
theorem bt_m1_ushr (q : Int32) (i : Nat) (hi : i < 64) (h : q.toInt = ((63 - i : Nat) : Int)) (b : Nat) (hb : b < 64) : bt (((-1 : Int64).toUInt64 >>> (q &&& 0x3f).toInt64.toUInt64).toInt64) b = decide (b ≤ i) := by
  rw [bt_ushr _ q _ h, Nat.mod_eq_of_lt (show 63 - i < 64 by omega)]
  by_cases c : b ≤ i
  · simp only [c, decide_true]
    exact bt_m1 _ (by omega)
  · simp only [c, decide_false]
    exact BitVec.getLsbD_of_ge _ _ (by omega)
/-- the lowest bit's mask -/
theorem own_low (x : Int32) (t : Nat) (ht : t < 32) (h1 : x.toBitVec.getLsbD t = true) (h2 : ∀ b, b < t → x.toBitVec.getLsbD b = false) : ((x ^^^ (-1 : Int32)) &&& (x - (1 : Int32))) = Int32.ofNat (2 ^ t - 1) := by
  apply Int32.toBitVec_inj.mp
  show (x.toBitVec ^^^ (-1 : Int32).toBitVec) &&& (x.toBitVec - (1 : Int32).toBitVec) = BitVec.ofNat 32 (2 ^ t - 1)
  generalize x.toBitVec = y at *
  have hlt := y.isLt
  have b1 : y.toNat.testBit t = true := h1
  have b2 : ∀ b, b < t → y.toNat.testBit b = false := h2
  have m0 : y.toNat % 2 ^ t = 0 := by
    apply Nat.eq_of_testBit_eq
    intro j
    rw [Nat.testBit_mod_two_pow, Nat.zero_testBit]
    by_cases c : j < t
    · simp [c, b2 j c]
    · simp [c]
  have hd : y.toNat / 2 ^ t % 2 = 1 := by
    rw [Nat.testBit_eq_decide_div_mod_eq] at b1
    exact of_decide_eq_true b1
  have hp : 0 < 2 ^ t := Nat.two_pow_pos t
  have e1 : y.toNat = 2 ^ (t + 1) * (y.toNat / 2 ^ t / 2) + 2 ^ t := by
    have q1 := Nat.div_add_mod y.toNat (2 ^ t)
    have q2 := Nat.div_add_mod (y.toNat / 2 ^ t) 2
    rw [m0] at q1
    rw [hd] at q2
    rw [Nat.pow_succ]
    generalize y.toNat / 2 ^ t = a at *
    have q3 : 2 ^ t * 2 * (a / 2) + 2 ^ t = 2 ^ t * (2 * (a / 2) + 1) := by rw [Nat.mul_add, Nat.mul_one, Nat.mul_assoc]
    rw [q3, q2]; omega
  generalize y.toNat / 2 ^ t / 2 = hi at *
  have hle : 2 ^ t < 2 ^ (t + 1) := by rw [Nat.pow_succ]; omega
  have e2 : (y - (1 : Int32).toBitVec).toNat = 2 ^ (t + 1) * hi + (2 ^ t - 1) := by
    rw [BitVec.toNat_sub, show (1 : Int32).toBitVec.toNat = 1 by decide]
    omega
  apply BitVec.eq_of_getLsbD_eq
  intro j hj
  rw [BitVec.getLsbD_and, BitVec.getLsbD_xor, show (-1 : Int32).toBitVec.getLsbD j = true from (by decide +kernel : ∀ j : Fin 32, (-1 : Int32).toBitVec.getLsbD j.1 = true) ⟨j, hj⟩]
  have l1 : y.getLsbD j = y.toNat.testBit j := rfl
  have l2 : (y - (1 : Int32).toBitVec).getLsbD j = (y - (1 : Int32).toBitVec).toNat.testBit j := rfl
  rw [l1, l2, e2, e1, Nat.testBit_two_pow_mul_add _ hle, Nat.testBit_two_pow_mul_add _ (show 2 ^ t - 1 < 2 ^ (t + 1) by omega), BitVec.getLsbD_ofNat]
  rw [Nat.testBit_two_pow, Nat.testBit_two_pow_sub_one]
  by_cases c : j < t + 1
  · by_cases d : t = j
    · subst d; simp
    · have : j < t := by omega
      simp [c, d, this, hj]
  · have : ¬ j < t := by omega
    simp [c, this]
end OwnBits

section OwnRank
theorem dk_succ (x k : Nat) : x / 64 ^ (k + 1) = x / 64 ^ k / 64 := by rw [Nat.pow_succ, Nat.div_div_eq_div_mul]
theorem dk_mono {x y a b : Nat} (h : x / 64 ^ a = y / 64 ^ a) (hab : a ≤ b) : x / 64 ^ b = y / 64 ^ b := by
  obtain ⟨c, rfl⟩ := Nat.le.dest hab
  rw [Nat.pow_add, ← Nat.div_div_eq_div_mul, ← Nat.div_div_eq_div_mul, h]
/-- the words of level k tell of the members M -/
def LV (M : Nat → Prop) (k len : Nat) (f : Nat → Int64) : Prop := ∀ i, i < len → ∀ b, b < 64 → (bt (f i) b = true ↔ ∃ x, M x ∧ x / 64 ^ k = 64 * i + b)
theorem LV.empty (k len : Nat) : LV (fun _ => False) k len (fun _ => 0) := fun i _ b _ => by
  rw [bt_zero]
  exact ⟨fun h => Bool.noConfusion h, fun ⟨_, h, _⟩ => h.elim⟩
theorem LV.congr {M M' : Nat → Prop} {k len : Nat} {f : Nat → Int64} (H : LV M k len f) (q : ∀ x, M x ↔ M' x) : LV M' k len f := fun i hi b hb => by
  rw [H i hi b hb]
  exact ⟨fun ⟨x, h1, h2⟩ => ⟨x, (q x).mp h1, h2⟩, fun ⟨x, h1, h2⟩ => ⟨x, (q x).mpr h1, h2⟩⟩
theorem LV.add {M : Nat → Prop} {k len : Nat} {f : Nat → Int64} (H : LV M k len f) (n : Nat) (at_ : Int32) (ha : at_.toInt = ((n / 64 ^ k : Nat) : Int)) :
    LV (fun x => M x ∨ x = n) k len (upd f (n / 64 ^ k / 64) (f (n / 64 ^ k / 64) ||| ((1 : Int64) <<< (at_ &&& 0x3f).toInt64))) := fun i hi b hb => by
  generalize hA : n / 64 ^ k = A at *
  by_cases q : i = A / 64
  · subst q
    rw [upd_same, bt_or, bt_one_shl _ _ ha b hb]
    constructor
    · intro z
      rcases Bool.or_eq_true_iff.mp z with z | z
      · obtain ⟨x, h1, h2⟩ := (H _ hi b hb).mp z
        exact ⟨x, Or.inl h1, h2⟩
      · have z := of_decide_eq_true z
        exact ⟨n, Or.inr rfl, by rw [hA]; omega⟩
    · rintro ⟨x, h1 | rfl, h2⟩
      · rw [(H _ hi b hb).mpr ⟨x, h1, h2⟩]; rfl
      · rw [hA] at h2
        have : b = A % 64 := by omega
        simp [this]
  · rw [upd_ne _ _ q, H i hi b hb]
    constructor
    · rintro ⟨x, h1, h2⟩; exact ⟨x, Or.inl h1, h2⟩
    · rintro ⟨x, h1 | rfl, h2⟩
      · exact ⟨x, h1, h2⟩
      · rw [hA] at h2; exact absurd (by omega) q
/-- a word that held a member: the levels above tell of it already -/
theorem LV.up {M : Nat → Prop} {k len : Nat} {f : Nat → Int64} (H : LV M k len f) {n : Nat} (hi : n / 64 ^ k / 64 < len) (hne : ¬ f (n / 64 ^ k / 64) = 0) : ∃ x, M x ∧ x / 64 ^ (k + 1) = n / 64 ^ (k + 1) := by
  obtain ⟨b, hb, z⟩ := bt_ne0 hne
  obtain ⟨x, h1, h2⟩ := (H _ hi b hb).mp z
  exact ⟨x, h1, by rw [dk_succ, dk_succ, h2]; omega⟩
theorem LV.more {M : Nat → Prop} {j len k : Nat} {f : Nat → Int64} {n : Nat} (H : LV M j len f) (hj : k ≤ j) (q : ∃ x, M x ∧ x / 64 ^ k = n / 64 ^ k) : LV (fun x => M x ∨ x = n) j len f := fun i hi b hb => by
  rw [H i hi b hb]
  constructor
  · rintro ⟨x, h1, h2⟩; exact ⟨x, Or.inl h1, h2⟩
  · rintro ⟨x, h1 | rfl, h2⟩
    · exact ⟨x, h1, h2⟩
    · obtain ⟨x', h3, h4⟩ := q
      exact ⟨x', h3, (dk_mono h4 hj).trans h2⟩
theorem LV.del {M : Nat → Prop} {k len : Nat} {f : Nat → Int64} (H : LV M k len f) (n : Nat) (at_ : Int32) (ha : at_.toInt = ((n / 64 ^ k : Nat) : Int)) (hno : ∀ x, M x → x ≠ n → x / 64 ^ k ≠ n / 64 ^ k) :
    LV (fun x => M x ∧ x ≠ n) k len (upd f (n / 64 ^ k / 64) (f (n / 64 ^ k / 64) &&& (((1 : Int64) <<< (at_ &&& 0x3f).toInt64) ^^^ (-1 : Int64)))) := fun i hi b hb => by
  generalize hA : n / 64 ^ k = A at *
  by_cases q : i = A / 64
  · subst q
    rw [upd_same, bt_and, bt_xor, bt_one_shl _ _ ha b hb, bt_m1 b hb]
    constructor
    · intro z
      obtain ⟨z1, z2⟩ := Bool.and_eq_true_iff.mp z
      have z3 : ¬ b = A % 64 := by
        intro w
        simp [w] at z2
      obtain ⟨x, h1, h2⟩ := (H _ hi b hb).mp z1
      exact ⟨x, ⟨h1, fun w => by subst w; rw [hA] at h2; omega⟩, h2⟩
    · rintro ⟨x, ⟨h1, h3⟩, h2⟩
      have z1 := (H _ hi b hb).mpr ⟨x, h1, h2⟩
      have z3 : ¬ b = A % 64 := fun w => hno x h1 h3 (by rw [h2]; omega)
      rw [z1]; simp [z3]
  · rw [upd_ne _ _ q, H i hi b hb]
    constructor
    · rintro ⟨x, h1, h2⟩; exact ⟨x, ⟨h1, fun w => by subst w; rw [hA] at h2; exact absurd (by omega) q⟩, h2⟩
    · rintro ⟨x, ⟨h1, _⟩, h2⟩; exact ⟨x, h1, h2⟩
theorem LV.less {M : Nat → Prop} {j len k : Nat} {f : Nat → Int64} {n : Nat} (H : LV M j len f) (hj : k ≤ j) (q : ∃ x, (M x ∧ x ≠ n) ∧ x / 64 ^ k = n / 64 ^ k) : LV (fun x => M x ∧ x ≠ n) j len f := fun i hi b hb => by
  rw [H i hi b hb]
  constructor
  · rintro ⟨x, h1, h2⟩
    by_cases w : x = n
    · subst w
      obtain ⟨x', h3, h4⟩ := q
      exact ⟨x', h3, (dk_mono h4 hj).trans h2⟩
    · exact ⟨x, ⟨h1, w⟩, h2⟩
  · rintro ⟨x, ⟨h1, _⟩, h2⟩; exact ⟨x, h1, h2⟩
/-- an empty word: nobody is there -/
theorem LV.none {M : Nat → Prop} {k len : Nat} {f : Nat → Int64} (H : LV M k len f) {n : Nat} (hi : n / 64 ^ k / 64 < len) (hz : f (n / 64 ^ k / 64) = 0) (x : Nat) (hx : M x) : x / 64 ^ (k + 1) ≠ n / 64 ^ (k + 1) := fun w => by
  rw [dk_succ, dk_succ] at w
  have := (H _ hi (x / 64 ^ k % 64) (by omega)).mpr ⟨x, hx, by omega⟩
  rw [bt_eq0 hz] at this
  cases this
/-- up the levels: every member from 'from' on lies at or above A at level k, and whatever lies there is such a member -/
def Up (M : Nat → Prop) (fr k A : Nat) : Prop := (∀ x, M x → fr ≤ x → A ≤ x / 64 ^ k) ∧ ∀ x, M x → A ≤ x / 64 ^ k → fr ≤ x
theorem Up.start (M : Nat → Prop) (fr : Nat) : Up M fr 0 fr := ⟨fun x _ h => by simpa using h, fun x _ h => by simpa using h⟩
theorem Up.next {M : Nat → Prop} {fr k A len : Nat} {f : Nat → Int64} (U : Up M fr k A) (H : LV M k len f) (hi : A / 64 < len) (q : Int32) (hq : q.toInt = (A : Int)) (hz : f (A / 64) &&& ((-1 : Int64) <<< (q &&& 0x3f).toInt64) = 0) : Up M fr (k + 1) (A / 64 + 1) := by
  have hno : ∀ x, M x → A ≤ x / 64 ^ k → A / 64 + 1 ≤ x / 64 ^ k / 64 := by
    intro x hx hA
    apply Classical.byContradiction
    intro hc
    have e : x / 64 ^ k / 64 = A / 64 := by omega
    have hb : x / 64 ^ k % 64 < 64 := by omega
    have h1 := (H _ hi _ hb).mpr ⟨x, hx, by omega⟩
    have h2 := bt_eq0 hz (x / 64 ^ k % 64)
    rw [bt_and, h1, bt_m1_shl _ _ hq _ hb] at h2
    have : A % 64 ≤ x / 64 ^ k % 64 := by omega
    simp [this] at h2
  refine ⟨fun x hx hf => ?_, fun x hx hA => U.2 x hx ?_⟩
  · rw [dk_succ]; exact hno x hx (U.1 x hx hf)
  · rw [dk_succ] at hA; omega
/-- the least member from 'from' on, seen at level k -/
def Dn (M : Nat → Prop) (fr k y : Nat) : Prop := (∃ x, M x ∧ x / 64 ^ k = y) ∧ (∀ x, M x → fr ≤ x → y ≤ x / 64 ^ k) ∧ ∀ x, M x → x / 64 ^ k = y → fr ≤ x
/-- t is the lowest bit of w -/
def Low (w : Int64) (t : Nat) : Prop := t < 64 ∧ bt w t = true ∧ ∀ b, b < t → bt w b = false
theorem Low.ex {w : Int64} (h : ¬ w = 0) : ∃ t, Low w t := by
  obtain ⟨b, hb, hv⟩ := bt_ne0 h
  induction b using Nat.strongRecOn with
  | ind b ih =>
    by_cases q : ∃ b', b' < b ∧ bt w b' = true
    · obtain ⟨b', h1, h2⟩ := q
      exact ih b' h1 (by omega) h2
    · refine ⟨b, hb, hv, fun b' h' => ?_⟩
      cases hx : bt w b'
      · rfl
      · exact absurd ⟨b', h', hx⟩ q
theorem Up.found {M : Nat → Prop} {fr k A len t : Nat} {f : Nat → Int64} (U : Up M fr k A) (H : LV M k len f) (hi : A / 64 < len) (q : Int32) (hq : q.toInt = (A : Int)) (ht : Low (f (A / 64) &&& ((-1 : Int64) <<< (q &&& 0x3f).toInt64)) t) : Dn M fr k (A - A % 64 + t) := by
  obtain ⟨t1, t2, t3⟩ := ht
  rw [bt_and, bt_m1_shl _ _ hq _ t1] at t2
  obtain ⟨t4, t5⟩ := Bool.and_eq_true_iff.mp t2
  have t5 := of_decide_eq_true t5
  obtain ⟨x0, h1, h2⟩ := (H _ hi t t1).mp t4
  have e : A - A % 64 = 64 * (A / 64) := by omega
  rw [e]
  refine ⟨⟨x0, h1, h2⟩, fun x hx hf => ?_, fun x hx hxe => U.2 x hx (by omega)⟩
  have hA := U.1 x hx hf
  apply Classical.byContradiction
  intro hc
  have e2 : x / 64 ^ k / 64 = A / 64 := by omega
  have hb : x / 64 ^ k % 64 < 64 := by omega
  have h3 := (H _ hi _ hb).mpr ⟨x, hx, by omega⟩
  have h4 := t3 (x / 64 ^ k % 64) (by omega)
  rw [bt_and, h3, bt_m1_shl _ _ hq _ hb] at h4
  have : A % 64 ≤ x / 64 ^ k % 64 := by omega
  simp [this] at h4
theorem Dn.down {M : Nat → Prop} {fr k y len t : Nat} {f : Nat → Int64} (D : Dn M fr (k + 1) y) (H : LV M k len f) (hi : y < len) (ht : Low (f y) t) : Dn M fr k (64 * y + t) := by
  obtain ⟨d1, d2, d3⟩ := D
  obtain ⟨t1, t2, t3⟩ := ht
  obtain ⟨x0, h1, h2⟩ := (H _ hi t t1).mp t2
  refine ⟨⟨x0, h1, h2⟩, fun x hx hf => ?_, fun x hx hxe => d3 x hx (by rw [dk_succ]; omega)⟩
  have h3 := d2 x hx hf
  rw [dk_succ] at h3
  apply Classical.byContradiction
  intro hc
  have hb : x / 64 ^ k % 64 < 64 := by omega
  have h4 := (H _ hi _ hb).mpr ⟨x, hx, by omega⟩
  have h5 := t3 (x / 64 ^ k % 64) (by omega)
  rw [h4] at h5; cases h5
theorem Dn.word {M : Nat → Prop} {fr k y len : Nat} {f : Nat → Int64} (D : Dn M fr (k + 1) y) (H : LV M k len f) (hi : y < len) : ¬ f y = 0 := fun hz => by
  obtain ⟨x, h1, h2⟩ := D.1
  rw [dk_succ] at h2
  have h4 := (H _ hi (x / 64 ^ k % 64) (by omega)).mpr ⟨x, h1, by omega⟩
  rw [bt_eq0 hz] at h4; cases h4
/-- what 'next' answers -/
def NextIs (M : Nat → Prop) (fr : Nat) (r : Int) : Prop := (r = -1 ∧ ∀ x, M x → ¬ fr ≤ x) ∨ ∃ y : Nat, r = (y : Int) ∧ M y ∧ fr ≤ y ∧ ∀ x, M x → fr ≤ x → y ≤ x
theorem Dn.last {M : Nat → Prop} {fr y : Nat} (D : Dn M fr 0 y) : NextIs M fr (y : Int) := by
  obtain ⟨⟨x, h1, h2⟩, d2, d3⟩ := D
  simp only [Nat.pow_zero, Nat.div_one] at *
  subst h2
  exact Or.inr ⟨x, rfl, h1, d3 x h1 rfl, d2⟩
theorem NextIs.one {M : Nat → Prop} {fr : Nat} {r r' : Int} (h : NextIs M fr r) (h' : NextIs M fr r') : r = r' := by
  rcases h with ⟨rfl, h1⟩ | ⟨y, rfl, h1, h2, h3⟩ <;> rcases h' with ⟨rfl, h1'⟩ | ⟨y', rfl, h1', h2', h3'⟩
  · rfl
  · exact absurd h2' (h1 _ h1')
  · exact absurd h2 (h1' _ h1)
  · have := h3 _ h1' h2'
    have := h3' _ h1 h2
    omega
/-- the mirror: the greatest member up to 'upTo' (A at level k; -1: nothing is left) -/
def UpP (M : Nat → Prop) (fr : Int) (k : Nat) (A : Int) : Prop := (∀ x : Nat, M x → (x : Int) ≤ fr → ((x / 64 ^ k : Nat) : Int) ≤ A) ∧ ∀ x : Nat, M x → ((x / 64 ^ k : Nat) : Int) ≤ A → (x : Int) ≤ fr
theorem UpP.start (M : Nat → Prop) (fr : Int) : UpP M fr 0 fr := ⟨fun x _ h => by simpa using h, fun x _ h => by simpa using h⟩
theorem UpP.next {M : Nat → Prop} {fr : Int} {k A len : Nat} {f : Nat → Int64} (U : UpP M fr k (A : Int)) (H : LV M k len f) (hi : A / 64 < len) (q : Int32) (hq : q.toInt = ((63 - A % 64 : Nat) : Int)) (hz : f (A / 64) &&& (((-1 : Int64).toUInt64 >>> (q &&& 0x3f).toInt64.toUInt64).toInt64) = 0) : UpP M fr (k + 1) (((A / 64 : Nat) : Int) - 1) := by
  have hno : ∀ x, M x → x / 64 ^ k ≤ A → x / 64 ^ k / 64 + 1 ≤ A / 64 := by
    intro x hx hA
    apply Classical.byContradiction
    intro hc
    have e : x / 64 ^ k / 64 = A / 64 := by omega
    have hb : x / 64 ^ k % 64 < 64 := by omega
    have h1 := (H _ hi _ hb).mpr ⟨x, hx, by omega⟩
    have h2 := bt_eq0 hz (x / 64 ^ k % 64)
    rw [bt_and, h1, bt_m1_ushr _ (A % 64) (by omega) hq _ hb] at h2
    have : x / 64 ^ k % 64 ≤ A % 64 := by omega
    simp [this] at h2
  refine ⟨fun x hx hf => ?_, fun x hx hA => U.2 x hx ?_⟩
  · have := hno x hx (by have := U.1 x hx hf; omega)
    rw [dk_succ]; omega
  · rw [dk_succ] at hA; omega
def DnP (M : Nat → Prop) (fr : Int) (k y : Nat) : Prop := (∃ x, M x ∧ x / 64 ^ k = y) ∧ (∀ x : Nat, M x → (x : Int) ≤ fr → x / 64 ^ k ≤ y) ∧ ∀ x : Nat, M x → x / 64 ^ k = y → (x : Int) ≤ fr
def High (w : Int64) (t : Nat) : Prop := t < 64 ∧ bt w t = true ∧ ∀ b, t < b → b < 64 → bt w b = false
theorem High.ex {w : Int64} (h : ¬ w = 0) : ∃ t, High w t := by
  obtain ⟨b, hb, hv⟩ := bt_ne0 h
  generalize hn : 64 - b = n
  induction n using Nat.strongRecOn generalizing b with
  | ind n ih =>
    by_cases q : ∃ b', b < b' ∧ b' < 64 ∧ bt w b' = true
    · obtain ⟨b', h1, h2, h3⟩ := q
      exact ih (64 - b') (by omega) b' h2 h3 rfl
    · refine ⟨b, hb, hv, fun b' h' h'' => ?_⟩
      cases hx : bt w b'
      · rfl
      · exact absurd ⟨b', h', h'', hx⟩ q
theorem UpP.found {M : Nat → Prop} {fr : Int} {k A len t : Nat} {f : Nat → Int64} (U : UpP M fr k (A : Int)) (H : LV M k len f) (hi : A / 64 < len) (q : Int32) (hq : q.toInt = ((63 - A % 64 : Nat) : Int)) (ht : High (f (A / 64) &&& (((-1 : Int64).toUInt64 >>> (q &&& 0x3f).toInt64.toUInt64).toInt64)) t) : DnP M fr k (A - A % 64 + t) := by
  obtain ⟨t1, t2, t3⟩ := ht
  rw [bt_and, bt_m1_ushr _ (A % 64) (by omega) hq _ t1] at t2
  obtain ⟨t4, t5⟩ := Bool.and_eq_true_iff.mp t2
  have t5 := of_decide_eq_true t5
  obtain ⟨x0, h1, h2⟩ := (H _ hi t t1).mp t4
  have e : A - A % 64 = 64 * (A / 64) := by omega
  rw [e]
  refine ⟨⟨x0, h1, h2⟩, fun x hx hf => ?_, fun x hx hxe => U.2 x hx (by omega)⟩
  have hA := U.1 x hx hf
  apply Classical.byContradiction
  intro hc
  have e2 : x / 64 ^ k / 64 = A / 64 := by omega
  have hb : x / 64 ^ k % 64 < 64 := by omega
  have h3 := (H _ hi _ hb).mpr ⟨x, hx, by omega⟩
  have h4 := t3 (x / 64 ^ k % 64) (by omega) hb
  rw [bt_and, h3, bt_m1_ushr _ (A % 64) (by omega) hq _ hb] at h4
  have : x / 64 ^ k % 64 ≤ A % 64 := by omega
  simp [this] at h4
theorem DnP.down {M : Nat → Prop} {fr : Int} {k y len t : Nat} {f : Nat → Int64} (D : DnP M fr (k + 1) y) (H : LV M k len f) (hi : y < len) (ht : High (f y) t) : DnP M fr k (64 * y + t) := by
  obtain ⟨d1, d2, d3⟩ := D
  obtain ⟨t1, t2, t3⟩ := ht
  obtain ⟨x0, h1, h2⟩ := (H _ hi t t1).mp t2
  refine ⟨⟨x0, h1, h2⟩, fun x hx hf => ?_, fun x hx hxe => d3 x hx (by rw [dk_succ]; omega)⟩
  have h3 := d2 x hx hf
  rw [dk_succ] at h3
  apply Classical.byContradiction
  intro hc
  have hb : x / 64 ^ k % 64 < 64 := by omega
  have h4 := (H _ hi _ hb).mpr ⟨x, hx, by omega⟩
  have h5 := t3 (x / 64 ^ k % 64) (by omega) hb
  rw [h4] at h5; cases h5
theorem DnP.word {M : Nat → Prop} {fr : Int} {k y len : Nat} {f : Nat → Int64} (D : DnP M fr (k + 1) y) (H : LV M k len f) (hi : y < len) : ¬ f y = 0 := fun hz => by
  obtain ⟨x, h1, h2⟩ := D.1
  rw [dk_succ] at h2
  have h4 := (H _ hi (x / 64 ^ k % 64) (by omega)).mpr ⟨x, h1, by omega⟩
  rw [bt_eq0 hz] at h4; cases h4
def PrevIs (M : Nat → Prop) (fr : Int) (r : Int) : Prop := (r = -1 ∧ ∀ x : Nat, M x → ¬ (x : Int) ≤ fr) ∨ ∃ y : Nat, r = (y : Int) ∧ M y ∧ (y : Int) ≤ fr ∧ ∀ x : Nat, M x → (x : Int) ≤ fr → x ≤ y
theorem DnP.last {M : Nat → Prop} {fr : Int} {y : Nat} (D : DnP M fr 0 y) : PrevIs M fr (y : Int) := by
  obtain ⟨⟨x, h1, h2⟩, d2, d3⟩ := D
  simp only [Nat.pow_zero, Nat.div_one] at *
  subst h2
  exact Or.inr ⟨x, rfl, h1, d3 x h1 rfl, d2⟩
theorem PrevIs.one {M : Nat → Prop} {fr : Int} {r r' : Int} (h : PrevIs M fr r) (h' : PrevIs M fr r') : r = r' := by
  rcases h with ⟨rfl, h1⟩ | ⟨y, rfl, h1, h2, h3⟩ <;> rcases h' with ⟨rfl, h1'⟩ | ⟨y', rfl, h1', h2', h3'⟩
  · rfl
  · exact absurd h2' (h1 _ h1')
  · exact absurd h2 (h1' _ h1)
  · have := h3 _ h1' h2'
    have := h3' _ h1 h2
    omega
theorem own_lti {x y : Int32} {a b : Nat} (hx : x.toInt = (a : Int)) (hy : y.toInt = (b : Int)) (h : a < b) : x < y := by rw [Int32.lt_iff_toInt_lt, hx, hy]; omega
theorem own_nlti {x y : Int32} {a b : Nat} (hx : x.toInt = (a : Int)) (hy : y.toInt = (b : Int)) (h : ¬ a < b) : ¬ x < y := by rw [Int32.lt_iff_toInt_lt, hx, hy]; omega
theorem own_eqi {x y : Int32} {a b : Nat} (hx : x.toInt = (a : Int)) (hy : y.toInt = (b : Int)) (h : a = b) : x = y := Int32.toInt_inj.mp (by rw [hx, hy, h])
theorem own_nei {x y : Int32} {a b : Nat} (hx : x.toInt = (a : Int)) (hy : y.toInt = (b : Int)) (h : ¬ a = b) : ¬ x = y := fun q => h (by subst q; omega)
theorem own_inc {x : Int32} {a : Nat} (hx : x.toInt = (a : Int)) (h : a < 2147483647) : (x + (1 : Int32)).toInt = ((a + 1 : Nat) : Int) := by
  have h1 := c_iadd x 1
  have r := rng32 (x + 1)
  rw [show (1 : Int32).toInt = 1 from rfl] at h1
  omega
theorem own_dec {x : Int32} {a : Nat} (hx : x.toInt = ((a + 1 : Nat) : Int)) : (x + (-1 : Int32)).toInt = (a : Int) := by
  have h1 := c_iadd x (-1)
  have r := rng32 (x + (-1))
  rw [show (-1 : Int32).toInt = -1 from rfl] at h1
  have r2 := rng32 x
  omega
theorem own_sh6 {x : Int32} {a : Nat} (hx : x.toInt = (a : Int)) : ((x.toUInt32 >>> ((6 : Int32) &&& 31).toUInt32).toInt32).toInt = ((a / 64 : Nat) : Int) := by
  have h := c_iushr x 6 6 (by decide) (by decide)
  have r := rng32 x
  rw [h, hx]
  omega
theorem own_ofNat {n : Nat} (h : n < 2147483648) : (Int32.ofNat n).toInt = (n : Int) := Int32.toInt_ofNat_of_lt (by omega)
end OwnRank

theorem lo32 (w : Int64) (b : Nat) (hb : b < 32) : w.toInt32.toBitVec.getLsbD b = bt w b := by
  rw [Int64.toBitVec_toInt32, BitVec.getLsbD_signExtend]; simp [hb, bt, show b < 64 by omega]
theorem hi32 (w : Int64) (b : Nat) (hb : b < 32) : (((w.toUInt64 >>> ((32 : Int32) &&& 0x3f).toInt64.toUInt64).toInt64).toInt32).toBitVec.getLsbD b = bt w (32 + b) := by
  rw [lo32 _ _ hb, bt_ushr w 32 32 (by decide)]
theorem ext32 {x y : Int32} (h : ∀ b, b < 32 → x.toBitVec.getLsbD b = y.toBitVec.getLsbD b) : x = y := Int32.toBitVec_inj.mp (BitVec.eq_of_getLsbD_eq h)
theorem d6_0 : decode jdk_33_method_47_code 0 = .ok (.iload_n 0, 1) := by decide +kernel
theorem d6_1 : decode jdk_33_method_47_code 1 = .ok (.ifCond .gt 14, 3) := by decide +kernel
theorem d6_15 : decode jdk_33_method_47_code 15 = .ok (.bipush 31, 2) := by decide +kernel
theorem d6_17 : decode jdk_33_method_47_code 17 = .ok (.istore_n 1, 1) := by decide +kernel
theorem d6_18 : decode jdk_33_method_47_code 18 = .ok (.iload_n 0, 1) := by decide +kernel
theorem d6_19 : decode jdk_33_method_47_code 19 = .ok (.ldc_w 264, 3) := by decide +kernel
theorem d6_22 : decode jdk_33_method_47_code 22 = .ok (.if_icmp .lt 11, 3) := by decide +kernel
theorem d6_33 : decode jdk_33_method_47_code 33 = .ok (.iload_n 0, 1) := by decide +kernel
theorem d6_34 : decode jdk_33_method_47_code 34 = .ok (.sipush 256, 3) := by decide +kernel
theorem d6_37 : decode jdk_33_method_47_code 37 = .ok (.if_icmp .lt 11, 3) := by decide +kernel
theorem d6_48 : decode jdk_33_method_47_code 48 = .ok (.iload_n 0, 1) := by decide +kernel
theorem d6_49 : decode jdk_33_method_47_code 49 = .ok (.bipush 16, 2) := by decide +kernel
theorem d6_51 : decode jdk_33_method_47_code 51 = .ok (.if_icmp .lt 10, 3) := by decide +kernel
theorem d6_61 : decode jdk_33_method_47_code 61 = .ok (.iload_n 0, 1) := by decide +kernel
theorem d6_62 : decode jdk_33_method_47_code 62 = .ok (.iconst 4, 1) := by decide +kernel
theorem d6_63 : decode jdk_33_method_47_code 63 = .ok (.if_icmp .lt 10, 3) := by decide +kernel
theorem d6_73 : decode jdk_33_method_47_code 73 = .ok (.iload_n 1, 1) := by decide +kernel
theorem d6_74 : decode jdk_33_method_47_code 74 = .ok (.iload_n 0, 1) := by decide +kernel
theorem d6_75 : decode jdk_33_method_47_code 75 = .ok (.iconst 1, 1) := by decide +kernel
theorem d6_76 : decode jdk_33_method_47_code 76 = .ok (.iushr, 1) := by decide +kernel
theorem d6_77 : decode jdk_33_method_47_code 77 = .ok (.isub, 1) := by decide +kernel
theorem d6_78 : decode jdk_33_method_47_code 78 = .ok (.ireturn, 1) := by decide +kernel
theorem d6_66 : decode jdk_33_method_47_code 66 = .ok (.iinc 1 (-2), 3) := by decide +kernel
theorem d6_69 : decode jdk_33_method_47_code 69 = .ok (.iload_n 0, 1) := by decide +kernel
theorem d6_70 : decode jdk_33_method_47_code 70 = .ok (.iconst 2, 1) := by decide +kernel
theorem d6_71 : decode jdk_33_method_47_code 71 = .ok (.iushr, 1) := by decide +kernel
theorem d6_72 : decode jdk_33_method_47_code 72 = .ok (.istore_n 0, 1) := by decide +kernel
theorem d6_54 : decode jdk_33_method_47_code 54 = .ok (.iinc 1 (-4), 3) := by decide +kernel
theorem d6_57 : decode jdk_33_method_47_code 57 = .ok (.iload_n 0, 1) := by decide +kernel
theorem d6_58 : decode jdk_33_method_47_code 58 = .ok (.iconst 4, 1) := by decide +kernel
theorem d6_59 : decode jdk_33_method_47_code 59 = .ok (.iushr, 1) := by decide +kernel
theorem d6_60 : decode jdk_33_method_47_code 60 = .ok (.istore_n 0, 1) := by decide +kernel
theorem d6_40 : decode jdk_33_method_47_code 40 = .ok (.iinc 1 (-8), 3) := by decide +kernel
theorem d6_43 : decode jdk_33_method_47_code 43 = .ok (.iload_n 0, 1) := by decide +kernel
theorem d6_44 : decode jdk_33_method_47_code 44 = .ok (.bipush 8, 2) := by decide +kernel
theorem d6_46 : decode jdk_33_method_47_code 46 = .ok (.iushr, 1) := by decide +kernel
theorem d6_47 : decode jdk_33_method_47_code 47 = .ok (.istore_n 0, 1) := by decide +kernel
theorem d6_25 : decode jdk_33_method_47_code 25 = .ok (.iinc 1 (-16), 3) := by decide +kernel
theorem d6_28 : decode jdk_33_method_47_code 28 = .ok (.iload_n 0, 1) := by decide +kernel
theorem d6_29 : decode jdk_33_method_47_code 29 = .ok (.bipush 16, 2) := by decide +kernel
theorem d6_31 : decode jdk_33_method_47_code 31 = .ok (.iushr, 1) := by decide +kernel
theorem d6_32 : decode jdk_33_method_47_code 32 = .ok (.istore_n 0, 1) := by decide +kernel
theorem d6_4 : decode jdk_33_method_47_code 4 = .ok (.iload_n 0, 1) := by decide +kernel
theorem d6_5 : decode jdk_33_method_47_code 5 = .ok (.ifCond .ne 8, 3) := by decide +kernel
theorem d6_8 : decode jdk_33_method_47_code 8 = .ok (.bipush 32, 2) := by decide +kernel
theorem d6_10 : decode jdk_33_method_47_code 10 = .ok (.goto 4, 3) := by decide +kernel
theorem d6_14 : decode jdk_33_method_47_code 14 = .ok (.ireturn, 1) := by decide +kernel
theorem d6_13 : decode jdk_33_method_47_code 13 = .ok (.iconst 0, 1) := by decide +kernel
def f_nlzI (p0 : Int32)  : Int32 := (if (0 : Int32) < p0 then (if p0 < (65536 : Int32) then (if p0 < (256 : Int32) then (if p0 < (16 : Int32) then (if p0 < (4 : Int32) then ((31 : Int32) - ((p0.toUInt32 >>> ((1 : Int32) &&& 31).toUInt32).toInt32)) else (((31 : Int32) + (-2 : Int32)) - ((((p0.toUInt32 >>> ((2 : Int32) &&& 31).toUInt32).toInt32).toUInt32 >>> ((1 : Int32) &&& 31).toUInt32).toInt32))) else (if ((p0.toUInt32 >>> ((4 : Int32) &&& 31).toUInt32).toInt32) < (4 : Int32) then (((31 : Int32) + (-4 : Int32)) - ((((p0.toUInt32 >>> ((4 : Int32) &&& 31).toUInt32).toInt32).toUInt32 >>> ((1 : Int32) &&& 31).toUInt32).toInt32)) else ((((31 : Int32) + (-4 : Int32)) + (-2 : Int32)) - ((((((p0.toUInt32 >>> ((4 : Int32) &&& 31).toUInt32).toInt32).toUInt32 >>> ((2 : Int32) &&& 31).toUInt32).toInt32).toUInt32 >>> ((1 : Int32) &&& 31).toUInt32).toInt32)))) else (if ((p0.toUInt32 >>> ((8 : Int32) &&& 31).toUInt32).toInt32) < (16 : Int32) then (if ((p0.toUInt32 >>> ((8 : Int32) &&& 31).toUInt32).toInt32) < (4 : Int32) then (((31 : Int32) + (-8 : Int32)) - ((((p0.toUInt32 >>> ((8 : Int32) &&& 31).toUInt32).toInt32).toUInt32 >>> ((1 : Int32) &&& 31).toUInt32).toInt32)) else ((((31 : Int32) + (-8 : Int32)) + (-2 : Int32)) - ((((((p0.toUInt32 >>> ((8 : Int32) &&& 31).toUInt32).toInt32).toUInt32 >>> ((2 : Int32) &&& 31).toUInt32).toInt32).toUInt32 >>> ((1 : Int32) &&& 31).toUInt32).toInt32))) else (if ((((p0.toUInt32 >>> ((8 : Int32) &&& 31).toUInt32).toInt32).toUInt32 >>> ((4 : Int32) &&& 31).toUInt32).toInt32) < (4 : Int32) then ((((31 : Int32) + (-8 : Int32)) + (-4 : Int32)) - ((((((p0.toUInt32 >>> ((8 : Int32) &&& 31).toUInt32).toInt32).toUInt32 >>> ((4 : Int32) &&& 31).toUInt32).toInt32).toUInt32 >>> ((1 : Int32) &&& 31).toUInt32).toInt32)) else (((((31 : Int32) + (-8 : Int32)) + (-4 : Int32)) + (-2 : Int32)) - ((((((((p0.toUInt32 >>> ((8 : Int32) &&& 31).toUInt32).toInt32).toUInt32 >>> ((4 : Int32) &&& 31).toUInt32).toInt32).toUInt32 >>> ((2 : Int32) &&& 31).toUInt32).toInt32).toUInt32 >>> ((1 : Int32) &&& 31).toUInt32).toInt32))))) else (if ((p0.toUInt32 >>> ((16 : Int32) &&& 31).toUInt32).toInt32) < (256 : Int32) then (if ((p0.toUInt32 >>> ((16 : Int32) &&& 31).toUInt32).toInt32) < (16 : Int32) then (if ((p0.toUInt32 >>> ((16 : Int32) &&& 31).toUInt32).toInt32) < (4 : Int32) then (((31 : Int32) + (-16 : Int32)) - ((((p0.toUInt32 >>> ((16 : Int32) &&& 31).toUInt32).toInt32).toUInt32 >>> ((1 : Int32) &&& 31).toUInt32).toInt32)) else ((((31 : Int32) + (-16 : Int32)) + (-2 : Int32)) - ((((((p0.toUInt32 >>> ((16 : Int32) &&& 31).toUInt32).toInt32).toUInt32 >>> ((2 : Int32) &&& 31).toUInt32).toInt32).toUInt32 >>> ((1 : Int32) &&& 31).toUInt32).toInt32))) else (if ((((p0.toUInt32 >>> ((16 : Int32) &&& 31).toUInt32).toInt32).toUInt32 >>> ((4 : Int32) &&& 31).toUInt32).toInt32) < (4 : Int32) then ((((31 : Int32) + (-16 : Int32)) + (-4 : Int32)) - ((((((p0.toUInt32 >>> ((16 : Int32) &&& 31).toUInt32).toInt32).toUInt32 >>> ((4 : Int32) &&& 31).toUInt32).toInt32).toUInt32 >>> ((1 : Int32) &&& 31).toUInt32).toInt32)) else (((((31 : Int32) + (-16 : Int32)) + (-4 : Int32)) + (-2 : Int32)) - ((((((((p0.toUInt32 >>> ((16 : Int32) &&& 31).toUInt32).toInt32).toUInt32 >>> ((4 : Int32) &&& 31).toUInt32).toInt32).toUInt32 >>> ((2 : Int32) &&& 31).toUInt32).toInt32).toUInt32 >>> ((1 : Int32) &&& 31).toUInt32).toInt32)))) else (if ((((p0.toUInt32 >>> ((16 : Int32) &&& 31).toUInt32).toInt32).toUInt32 >>> ((8 : Int32) &&& 31).toUInt32).toInt32) < (16 : Int32) then (if ((((p0.toUInt32 >>> ((16 : Int32) &&& 31).toUInt32).toInt32).toUInt32 >>> ((8 : Int32) &&& 31).toUInt32).toInt32) < (4 : Int32) then ((((31 : Int32) + (-16 : Int32)) + (-8 : Int32)) - ((((((p0.toUInt32 >>> ((16 : Int32) &&& 31).toUInt32).toInt32).toUInt32 >>> ((8 : Int32) &&& 31).toUInt32).toInt32).toUInt32 >>> ((1 : Int32) &&& 31).toUInt32).toInt32)) else (((((31 : Int32) + (-16 : Int32)) + (-8 : Int32)) + (-2 : Int32)) - ((((((((p0.toUInt32 >>> ((16 : Int32) &&& 31).toUInt32).toInt32).toUInt32 >>> ((8 : Int32) &&& 31).toUInt32).toInt32).toUInt32 >>> ((2 : Int32) &&& 31).toUInt32).toInt32).toUInt32 >>> ((1 : Int32) &&& 31).toUInt32).toInt32))) else (if ((((((p0.toUInt32 >>> ((16 : Int32) &&& 31).toUInt32).toInt32).toUInt32 >>> ((8 : Int32) &&& 31).toUInt32).toInt32).toUInt32 >>> ((4 : Int32) &&& 31).toUInt32).toInt32) < (4 : Int32) then (((((31 : Int32) + (-16 : Int32)) + (-8 : Int32)) + (-4 : Int32)) - ((((((((p0.toUInt32 >>> ((16 : Int32) &&& 31).toUInt32).toInt32).toUInt32 >>> ((8 : Int32) &&& 31).toUInt32).toInt32).toUInt32 >>> ((4 : Int32) &&& 31).toUInt32).toInt32).toUInt32 >>> ((1 : Int32) &&& 31).toUInt32).toInt32)) else ((((((31 : Int32) + (-16 : Int32)) + (-8 : Int32)) + (-4 : Int32)) + (-2 : Int32)) - ((((((((((p0.toUInt32 >>> ((16 : Int32) &&& 31).toUInt32).toInt32).toUInt32 >>> ((8 : Int32) &&& 31).toUInt32).toInt32).toUInt32 >>> ((4 : Int32) &&& 31).toUInt32).toInt32).toUInt32 >>> ((2 : Int32) &&& 31).toUInt32).toInt32).toUInt32 >>> ((1 : Int32) &&& 31).toUInt32).toInt32)))))) else (if p0 = (0 : Int32) then (32 : Int32) else (0 : Int32)))
theorem ef_6_f_nlzI (m : MethodId) (p0 : Int32) : entryFrame m #[(.int p0)] 2 = mkF m 0 #[.val (.int p0), .unset] [] := by first | (simp [entryFrame, mkF, argsToLocals, Value.category]; done) | rfl
theorem pn_6 : plainFor (⟨"java/lang/Integer", "numberOfLeadingZeros", "(I)I"⟩ : MethodName) = true := plainFor_of_name (by first | (simp [plainName, overriddenIn]; done) | decide +kernel)
set_option maxRecDepth 65536 in
set_option maxHeartbeats 40000000 in
theorem rm_f_nlzI (l : Launch) (Z : State) (a0 : Array Value) (hw : ∀ d ∈ tables_1, d.before a0 Z = true) (ws : List Jvm.Cond) (p0 : Int32) (h0 : Heap)  :
    OMet l (⟨"java/lang/Integer", "numberOfLeadingZeros", "(I)I"⟩ : MethodName) jdk_33_method_47_code 2 (some .int) ws ({ frames := 0, cells := 0, slots := 0, locals := 0 } : Room) #[(.int p0)] Z h0 (fun v h L => v = some (Value.int (f_nlzI p0)) ∧ L = [] ∧ h = h0) := by
  refine OMet.of pn_6 (fun m => ef_6_f_nlzI m p0) ?_
  intro p e s m below meth c s₁ hx hby hml hown hnm hret hlk hZ X0 e0
  refine Owes.go ?_ fun t₀ k₀ => XS.iloadN X0.here hx rfl (hb hby d6_0) rfl k₀
  show Owes _ _ _ _ (s₁.setTop (mkF m 1 #[.val (.int p0), .unset] [(.int p0)]))
  by_cases hc1 : (0 : Int32) < p0
  · skip
    refine Owes.go ?_ fun t₀ k₀ => XS.ifYes X0.here hx rfl (pc0 := 1) (pc' := 15) rfl (hb hby d6_1) rfl ((if0 _ _).trans (tlt hc1).2.2.1) (by decide) (by decide) k₀
    show Owes _ _ _ _ (s₁.setTop (mkF m 15 #[.val (.int p0), .unset] []))
    refine Owes.go ?_ fun t₀ k₀ => XS.bipush X0.here hx rfl (hb hby d6_15) k₀
    show Owes _ _ _ _ (s₁.setTop (mkF m 17 #[.val (.int p0), .unset] [(.int (31 : Int32))]))
    refine Owes.go ?_ fun t₀ k₀ => XS.istoreN X0.here hx rfl (hb hby d6_17) rfl (l' := #[.val (.int p0), .val (.int (31 : Int32))]) rfl k₀
    show Owes _ _ _ _ (s₁.setTop (mkF m 18 #[.val (.int p0), .val (.int (31 : Int32))] []))
    refine Owes.go ?_ fun t₀ k₀ => XS.iloadN X0.here hx rfl (hb hby d6_18) rfl k₀
    show Owes _ _ _ _ (s₁.setTop (mkF m 19 #[.val (.int p0), .val (.int (31 : Int32))] [(.int p0)]))
    refine Owes.go ?_ fun t₀ k₀ => X0.ldcwInt hx hown (mvT hZ (hw _ (List.mem_of_getElem? (i := 102) rfl))) (g := (mkF m 19 #[.val (.int p0), .val (.int (31 : Int32))] [(.int p0)])) rfl (hb hby d6_19) _ k₀
    show Owes _ _ _ _ (s₁.setTop (mkF m 22 #[.val (.int p0), .val (.int (31 : Int32))] [(.int (65536 : Int32)), (.int p0)]))
    by_cases hc2 : p0 < (65536 : Int32)
    · skip
      refine Owes.go ?_ fun t₀ k₀ => XS.icmpYes X0.here hx rfl (pc0 := 22) (pc' := 33) rfl (hb hby d6_22) rfl (tlt hc2).1 (by decide) (by decide) k₀
      show Owes _ _ _ _ (s₁.setTop (mkF m 33 #[.val (.int p0), .val (.int (31 : Int32))] []))
      refine Owes.go ?_ fun t₀ k₀ => XS.iloadN X0.here hx rfl (hb hby d6_33) rfl k₀
      show Owes _ _ _ _ (s₁.setTop (mkF m 34 #[.val (.int p0), .val (.int (31 : Int32))] [(.int p0)]))
      refine Owes.go ?_ fun t₀ k₀ => XS.sipush X0.here hx rfl (hb hby d6_34) k₀
      show Owes _ _ _ _ (s₁.setTop (mkF m 37 #[.val (.int p0), .val (.int (31 : Int32))] [(.int (256 : Int32)), (.int p0)]))
      by_cases hc3 : p0 < (256 : Int32)
      · skip
        refine Owes.go ?_ fun t₀ k₀ => XS.icmpYes X0.here hx rfl (pc0 := 37) (pc' := 48) rfl (hb hby d6_37) rfl (tlt hc3).1 (by decide) (by decide) k₀
        show Owes _ _ _ _ (s₁.setTop (mkF m 48 #[.val (.int p0), .val (.int (31 : Int32))] []))
        refine Owes.go ?_ fun t₀ k₀ => XS.iloadN X0.here hx rfl (hb hby d6_48) rfl k₀
        show Owes _ _ _ _ (s₁.setTop (mkF m 49 #[.val (.int p0), .val (.int (31 : Int32))] [(.int p0)]))
        refine Owes.go ?_ fun t₀ k₀ => XS.bipush X0.here hx rfl (hb hby d6_49) k₀
        show Owes _ _ _ _ (s₁.setTop (mkF m 51 #[.val (.int p0), .val (.int (31 : Int32))] [(.int (16 : Int32)), (.int p0)]))
        by_cases hc4 : p0 < (16 : Int32)
        · skip
          refine Owes.go ?_ fun t₀ k₀ => XS.icmpYes X0.here hx rfl (pc0 := 51) (pc' := 61) rfl (hb hby d6_51) rfl (tlt hc4).1 (by decide) (by decide) k₀
          show Owes _ _ _ _ (s₁.setTop (mkF m 61 #[.val (.int p0), .val (.int (31 : Int32))] []))
          refine Owes.go ?_ fun t₀ k₀ => XS.iloadN X0.here hx rfl (hb hby d6_61) rfl k₀
          show Owes _ _ _ _ (s₁.setTop (mkF m 62 #[.val (.int p0), .val (.int (31 : Int32))] [(.int p0)]))
          refine Owes.go ?_ fun t₀ k₀ => XS.iconst X0.here hx rfl (hb hby d6_62) k₀
          show Owes _ _ _ _ (s₁.setTop (mkF m 63 #[.val (.int p0), .val (.int (31 : Int32))] [(.int (4 : Int32)), (.int p0)]))
          by_cases hc5 : p0 < (4 : Int32)
          · skip
            refine Owes.go ?_ fun t₀ k₀ => XS.icmpYes X0.here hx rfl (pc0 := 63) (pc' := 73) rfl (hb hby d6_63) rfl (tlt hc5).1 (by decide) (by decide) k₀
            show Owes _ _ _ _ (s₁.setTop (mkF m 73 #[.val (.int p0), .val (.int (31 : Int32))] []))
            refine Owes.go ?_ fun t₀ k₀ => XS.iloadN X0.here hx rfl (hb hby d6_73) rfl k₀
            show Owes _ _ _ _ (s₁.setTop (mkF m 74 #[.val (.int p0), .val (.int (31 : Int32))] [(.int (31 : Int32))]))
            refine Owes.go ?_ fun t₀ k₀ => XS.iloadN X0.here hx rfl (hb hby d6_74) rfl k₀
            show Owes _ _ _ _ (s₁.setTop (mkF m 75 #[.val (.int p0), .val (.int (31 : Int32))] [(.int p0), (.int (31 : Int32))]))
            refine Owes.go ?_ fun t₀ k₀ => XS.iconst X0.here hx rfl (hb hby d6_75) k₀
            show Owes _ _ _ _ (s₁.setTop (mkF m 76 #[.val (.int p0), .val (.int (31 : Int32))] [(.int (1 : Int32)), (.int p0), (.int (31 : Int32))]))
            refine Owes.go ?_ fun t₀ k₀ => XS.iushr X0.here hx rfl (hb hby d6_76) rfl k₀
            show Owes _ _ _ _ (s₁.setTop (mkF m 77 #[.val (.int p0), .val (.int (31 : Int32))] [(.int ((p0.toUInt32 >>> ((1 : Int32) &&& 31).toUInt32).toInt32)), (.int (31 : Int32))]))
            refine Owes.go ?_ fun t₀ k₀ => XS.isub X0.here hx rfl (hb hby d6_77) rfl k₀
            show Owes _ _ _ _ (s₁.setTop (mkF m 78 #[.val (.int p0), .val (.int (31 : Int32))] [(.int ((31 : Int32) - ((p0.toUInt32 >>> ((1 : Int32) &&& 31).toUInt32).toInt32)))]))
            exact Owes.retI X0 hx hlk hret (hb hby d6_78) (by decide) (by decide) ⟨congrArg (fun z => some (Value.int z)) (by unfold f_nlzI; rw [if_pos hc1, if_pos hc2, if_pos hc3, if_pos hc4, if_pos hc5]; first | done | rfl), rfl, e0⟩
          · skip
            refine Owes.go ?_ fun t₀ k₀ => XS.icmpNo X0.here hx rfl (hb hby d6_63) rfl (flt hc5).1 k₀
            show Owes _ _ _ _ (s₁.setTop (mkF m 66 #[.val (.int p0), .val (.int (31 : Int32))] []))
            refine Owes.go ?_ fun t₀ k₀ => XS.iinc X0.here hx rfl (hb hby d6_66) rfl (l' := #[.val (.int p0), .val (.int ((31 : Int32) + (-2 : Int32)))]) rfl k₀
            show Owes _ _ _ _ (s₁.setTop (mkF m 69 #[.val (.int p0), .val (.int ((31 : Int32) + (-2 : Int32)))] []))
            refine Owes.go ?_ fun t₀ k₀ => XS.iloadN X0.here hx rfl (hb hby d6_69) rfl k₀
            show Owes _ _ _ _ (s₁.setTop (mkF m 70 #[.val (.int p0), .val (.int ((31 : Int32) + (-2 : Int32)))] [(.int p0)]))
            refine Owes.go ?_ fun t₀ k₀ => XS.iconst X0.here hx rfl (hb hby d6_70) k₀
            show Owes _ _ _ _ (s₁.setTop (mkF m 71 #[.val (.int p0), .val (.int ((31 : Int32) + (-2 : Int32)))] [(.int (2 : Int32)), (.int p0)]))
            refine Owes.go ?_ fun t₀ k₀ => XS.iushr X0.here hx rfl (hb hby d6_71) rfl k₀
            show Owes _ _ _ _ (s₁.setTop (mkF m 72 #[.val (.int p0), .val (.int ((31 : Int32) + (-2 : Int32)))] [(.int ((p0.toUInt32 >>> ((2 : Int32) &&& 31).toUInt32).toInt32))]))
            refine Owes.go ?_ fun t₀ k₀ => XS.istoreN X0.here hx rfl (hb hby d6_72) rfl (l' := #[.val (.int ((p0.toUInt32 >>> ((2 : Int32) &&& 31).toUInt32).toInt32)), .val (.int ((31 : Int32) + (-2 : Int32)))]) rfl k₀
            show Owes _ _ _ _ (s₁.setTop (mkF m 73 #[.val (.int ((p0.toUInt32 >>> ((2 : Int32) &&& 31).toUInt32).toInt32)), .val (.int ((31 : Int32) + (-2 : Int32)))] []))
            refine Owes.go ?_ fun t₀ k₀ => XS.iloadN X0.here hx rfl (hb hby d6_73) rfl k₀
            show Owes _ _ _ _ (s₁.setTop (mkF m 74 #[.val (.int ((p0.toUInt32 >>> ((2 : Int32) &&& 31).toUInt32).toInt32)), .val (.int ((31 : Int32) + (-2 : Int32)))] [(.int ((31 : Int32) + (-2 : Int32)))]))
            refine Owes.go ?_ fun t₀ k₀ => XS.iloadN X0.here hx rfl (hb hby d6_74) rfl k₀
            show Owes _ _ _ _ (s₁.setTop (mkF m 75 #[.val (.int ((p0.toUInt32 >>> ((2 : Int32) &&& 31).toUInt32).toInt32)), .val (.int ((31 : Int32) + (-2 : Int32)))] [(.int ((p0.toUInt32 >>> ((2 : Int32) &&& 31).toUInt32).toInt32)), (.int ((31 : Int32) + (-2 : Int32)))]))
            refine Owes.go ?_ fun t₀ k₀ => XS.iconst X0.here hx rfl (hb hby d6_75) k₀
            show Owes _ _ _ _ (s₁.setTop (mkF m 76 #[.val (.int ((p0.toUInt32 >>> ((2 : Int32) &&& 31).toUInt32).toInt32)), .val (.int ((31 : Int32) + (-2 : Int32)))] [(.int (1 : Int32)), (.int ((p0.toUInt32 >>> ((2 : Int32) &&& 31).toUInt32).toInt32)), (.int ((31 : Int32) + (-2 : Int32)))]))
            refine Owes.go ?_ fun t₀ k₀ => XS.iushr X0.here hx rfl (hb hby d6_76) rfl k₀
            show Owes _ _ _ _ (s₁.setTop (mkF m 77 #[.val (.int ((p0.toUInt32 >>> ((2 : Int32) &&& 31).toUInt32).toInt32)), .val (.int ((31 : Int32) + (-2 : Int32)))] [(.int ((((p0.toUInt32 >>> ((2 : Int32) &&& 31).toUInt32).toInt32).toUInt32 >>> ((1 : Int32) &&& 31).toUInt32).toInt32)), (.int ((31 : Int32) + (-2 : Int32)))]))
            refine Owes.go ?_ fun t₀ k₀ => XS.isub X0.here hx rfl (hb hby d6_77) rfl k₀
            show Owes _ _ _ _ (s₁.setTop (mkF m 78 #[.val (.int ((p0.toUInt32 >>> ((2 : Int32) &&& 31).toUInt32).toInt32)), .val (.int ((31 : Int32) + (-2 : Int32)))] [(.int (((31 : Int32) + (-2 : Int32)) - ((((p0.toUInt32 >>> ((2 : Int32) &&& 31).toUInt32).toInt32).toUInt32 >>> ((1 : Int32) &&& 31).toUInt32).toInt32)))]))
            exact Owes.retI X0 hx hlk hret (hb hby d6_78) (by decide) (by decide) ⟨congrArg (fun z => some (Value.int z)) (by unfold f_nlzI; rw [if_pos hc1, if_pos hc2, if_pos hc3, if_pos hc4, if_neg hc5]; first | done | rfl), rfl, e0⟩
        · skip
          refine Owes.go ?_ fun t₀ k₀ => XS.icmpNo X0.here hx rfl (hb hby d6_51) rfl (flt hc4).1 k₀
          show Owes _ _ _ _ (s₁.setTop (mkF m 54 #[.val (.int p0), .val (.int (31 : Int32))] []))
          refine Owes.go ?_ fun t₀ k₀ => XS.iinc X0.here hx rfl (hb hby d6_54) rfl (l' := #[.val (.int p0), .val (.int ((31 : Int32) + (-4 : Int32)))]) rfl k₀
          show Owes _ _ _ _ (s₁.setTop (mkF m 57 #[.val (.int p0), .val (.int ((31 : Int32) + (-4 : Int32)))] []))
          refine Owes.go ?_ fun t₀ k₀ => XS.iloadN X0.here hx rfl (hb hby d6_57) rfl k₀
          show Owes _ _ _ _ (s₁.setTop (mkF m 58 #[.val (.int p0), .val (.int ((31 : Int32) + (-4 : Int32)))] [(.int p0)]))
          refine Owes.go ?_ fun t₀ k₀ => XS.iconst X0.here hx rfl (hb hby d6_58) k₀
          show Owes _ _ _ _ (s₁.setTop (mkF m 59 #[.val (.int p0), .val (.int ((31 : Int32) + (-4 : Int32)))] [(.int (4 : Int32)), (.int p0)]))
          refine Owes.go ?_ fun t₀ k₀ => XS.iushr X0.here hx rfl (hb hby d6_59) rfl k₀
          show Owes _ _ _ _ (s₁.setTop (mkF m 60 #[.val (.int p0), .val (.int ((31 : Int32) + (-4 : Int32)))] [(.int ((p0.toUInt32 >>> ((4 : Int32) &&& 31).toUInt32).toInt32))]))
          refine Owes.go ?_ fun t₀ k₀ => XS.istoreN X0.here hx rfl (hb hby d6_60) rfl (l' := #[.val (.int ((p0.toUInt32 >>> ((4 : Int32) &&& 31).toUInt32).toInt32)), .val (.int ((31 : Int32) + (-4 : Int32)))]) rfl k₀
          show Owes _ _ _ _ (s₁.setTop (mkF m 61 #[.val (.int ((p0.toUInt32 >>> ((4 : Int32) &&& 31).toUInt32).toInt32)), .val (.int ((31 : Int32) + (-4 : Int32)))] []))
          refine Owes.go ?_ fun t₀ k₀ => XS.iloadN X0.here hx rfl (hb hby d6_61) rfl k₀
          show Owes _ _ _ _ (s₁.setTop (mkF m 62 #[.val (.int ((p0.toUInt32 >>> ((4 : Int32) &&& 31).toUInt32).toInt32)), .val (.int ((31 : Int32) + (-4 : Int32)))] [(.int ((p0.toUInt32 >>> ((4 : Int32) &&& 31).toUInt32).toInt32))]))
          refine Owes.go ?_ fun t₀ k₀ => XS.iconst X0.here hx rfl (hb hby d6_62) k₀
          show Owes _ _ _ _ (s₁.setTop (mkF m 63 #[.val (.int ((p0.toUInt32 >>> ((4 : Int32) &&& 31).toUInt32).toInt32)), .val (.int ((31 : Int32) + (-4 : Int32)))] [(.int (4 : Int32)), (.int ((p0.toUInt32 >>> ((4 : Int32) &&& 31).toUInt32).toInt32))]))
          by_cases hc6 : ((p0.toUInt32 >>> ((4 : Int32) &&& 31).toUInt32).toInt32) < (4 : Int32)
          · skip
            refine Owes.go ?_ fun t₀ k₀ => XS.icmpYes X0.here hx rfl (pc0 := 63) (pc' := 73) rfl (hb hby d6_63) rfl (tlt hc6).1 (by decide) (by decide) k₀
            show Owes _ _ _ _ (s₁.setTop (mkF m 73 #[.val (.int ((p0.toUInt32 >>> ((4 : Int32) &&& 31).toUInt32).toInt32)), .val (.int ((31 : Int32) + (-4 : Int32)))] []))
            refine Owes.go ?_ fun t₀ k₀ => XS.iloadN X0.here hx rfl (hb hby d6_73) rfl k₀
            show Owes _ _ _ _ (s₁.setTop (mkF m 74 #[.val (.int ((p0.toUInt32 >>> ((4 : Int32) &&& 31).toUInt32).toInt32)), .val (.int ((31 : Int32) + (-4 : Int32)))] [(.int ((31 : Int32) + (-4 : Int32)))]))
            refine Owes.go ?_ fun t₀ k₀ => XS.iloadN X0.here hx rfl (hb hby d6_74) rfl k₀
            show Owes _ _ _ _ (s₁.setTop (mkF m 75 #[.val (.int ((p0.toUInt32 >>> ((4 : Int32) &&& 31).toUInt32).toInt32)), .val (.int ((31 : Int32) + (-4 : Int32)))] [(.int ((p0.toUInt32 >>> ((4 : Int32) &&& 31).toUInt32).toInt32)), (.int ((31 : Int32) + (-4 : Int32)))]))
            refine Owes.go ?_ fun t₀ k₀ => XS.iconst X0.here hx rfl (hb hby d6_75) k₀
            show Owes _ _ _ _ (s₁.setTop (mkF m 76 #[.val (.int ((p0.toUInt32 >>> ((4 : Int32) &&& 31).toUInt32).toInt32)), .val (.int ((31 : Int32) + (-4 : Int32)))] [(.int (1 : Int32)), (.int ((p0.toUInt32 >>> ((4 : Int32) &&& 31).toUInt32).toInt32)), (.int ((31 : Int32) + (-4 : Int32)))]))
            refine Owes.go ?_ fun t₀ k₀ => XS.iushr X0.here hx rfl (hb hby d6_76) rfl k₀
            show Owes _ _ _ _ (s₁.setTop (mkF m 77 #[.val (.int ((p0.toUInt32 >>> ((4 : Int32) &&& 31).toUInt32).toInt32)), .val (.int ((31 : Int32) + (-4 : Int32)))] [(.int ((((p0.toUInt32 >>> ((4 : Int32) &&& 31).toUInt32).toInt32).toUInt32 >>> ((1 : Int32) &&& 31).toUInt32).toInt32)), (.int ((31 : Int32) + (-4 : Int32)))]))
            refine Owes.go ?_ fun t₀ k₀ => XS.isub X0.here hx rfl (hb hby d6_77) rfl k₀
            show Owes _ _ _ _ (s₁.setTop (mkF m 78 #[.val (.int ((p0.toUInt32 >>> ((4 : Int32) &&& 31).toUInt32).toInt32)), .val (.int ((31 : Int32) + (-4 : Int32)))] [(.int (((31 : Int32) + (-4 : Int32)) - ((((p0.toUInt32 >>> ((4 : Int32) &&& 31).toUInt32).toInt32).toUInt32 >>> ((1 : Int32) &&& 31).toUInt32).toInt32)))]))
            exact Owes.retI X0 hx hlk hret (hb hby d6_78) (by decide) (by decide) ⟨congrArg (fun z => some (Value.int z)) (by unfold f_nlzI; rw [if_pos hc1, if_pos hc2, if_pos hc3, if_neg hc4, if_pos hc6]; first | done | rfl), rfl, e0⟩
          · skip
            refine Owes.go ?_ fun t₀ k₀ => XS.icmpNo X0.here hx rfl (hb hby d6_63) rfl (flt hc6).1 k₀
            show Owes _ _ _ _ (s₁.setTop (mkF m 66 #[.val (.int ((p0.toUInt32 >>> ((4 : Int32) &&& 31).toUInt32).toInt32)), .val (.int ((31 : Int32) + (-4 : Int32)))] []))
            refine Owes.go ?_ fun t₀ k₀ => XS.iinc X0.here hx rfl (hb hby d6_66) rfl (l' := #[.val (.int ((p0.toUInt32 >>> ((4 : Int32) &&& 31).toUInt32).toInt32)), .val (.int (((31 : Int32) + (-4 : Int32)) + (-2 : Int32)))]) rfl k₀
            show Owes _ _ _ _ (s₁.setTop (mkF m 69 #[.val (.int ((p0.toUInt32 >>> ((4 : Int32) &&& 31).toUInt32).toInt32)), .val (.int (((31 : Int32) + (-4 : Int32)) + (-2 : Int32)))] []))
            refine Owes.go ?_ fun t₀ k₀ => XS.iloadN X0.here hx rfl (hb hby d6_69) rfl k₀
            show Owes _ _ _ _ (s₁.setTop (mkF m 70 #[.val (.int ((p0.toUInt32 >>> ((4 : Int32) &&& 31).toUInt32).toInt32)), .val (.int (((31 : Int32) + (-4 : Int32)) + (-2 : Int32)))] [(.int ((p0.toUInt32 >>> ((4 : Int32) &&& 31).toUInt32).toInt32))]))
            refine Owes.go ?_ fun t₀ k₀ => XS.iconst X0.here hx rfl (hb hby d6_70) k₀
            show Owes _ _ _ _ (s₁.setTop (mkF m 71 #[.val (.int ((p0.toUInt32 >>> ((4 : Int32) &&& 31).toUInt32).toInt32)), .val (.int (((31 : Int32) + (-4 : Int32)) + (-2 : Int32)))] [(.int (2 : Int32)), (.int ((p0.toUInt32 >>> ((4 : Int32) &&& 31).toUInt32).toInt32))]))
            refine Owes.go ?_ fun t₀ k₀ => XS.iushr X0.here hx rfl (hb hby d6_71) rfl k₀
            show Owes _ _ _ _ (s₁.setTop (mkF m 72 #[.val (.int ((p0.toUInt32 >>> ((4 : Int32) &&& 31).toUInt32).toInt32)), .val (.int (((31 : Int32) + (-4 : Int32)) + (-2 : Int32)))] [(.int ((((p0.toUInt32 >>> ((4 : Int32) &&& 31).toUInt32).toInt32).toUInt32 >>> ((2 : Int32) &&& 31).toUInt32).toInt32))]))
            refine Owes.go ?_ fun t₀ k₀ => XS.istoreN X0.here hx rfl (hb hby d6_72) rfl (l' := #[.val (.int ((((p0.toUInt32 >>> ((4 : Int32) &&& 31).toUInt32).toInt32).toUInt32 >>> ((2 : Int32) &&& 31).toUInt32).toInt32)), .val (.int (((31 : Int32) + (-4 : Int32)) + (-2 : Int32)))]) rfl k₀
            show Owes _ _ _ _ (s₁.setTop (mkF m 73 #[.val (.int ((((p0.toUInt32 >>> ((4 : Int32) &&& 31).toUInt32).toInt32).toUInt32 >>> ((2 : Int32) &&& 31).toUInt32).toInt32)), .val (.int (((31 : Int32) + (-4 : Int32)) + (-2 : Int32)))] []))
            refine Owes.go ?_ fun t₀ k₀ => XS.iloadN X0.here hx rfl (hb hby d6_73) rfl k₀
            show Owes _ _ _ _ (s₁.setTop (mkF m 74 #[.val (.int ((((p0.toUInt32 >>> ((4 : Int32) &&& 31).toUInt32).toInt32).toUInt32 >>> ((2 : Int32) &&& 31).toUInt32).toInt32)), .val (.int (((31 : Int32) + (-4 : Int32)) + (-2 : Int32)))] [(.int (((31 : Int32) + (-4 : Int32)) + (-2 : Int32)))]))
            refine Owes.go ?_ fun t₀ k₀ => XS.iloadN X0.here hx rfl (hb hby d6_74) rfl k₀
            show Owes _ _ _ _ (s₁.setTop (mkF m 75 #[.val (.int ((((p0.toUInt32 >>> ((4 : Int32) &&& 31).toUInt32).toInt32).toUInt32 >>> ((2 : Int32) &&& 31).toUInt32).toInt32)), .val (.int (((31 : Int32) + (-4 : Int32)) + (-2 : Int32)))] [(.int ((((p0.toUInt32 >>> ((4 : Int32) &&& 31).toUInt32).toInt32).toUInt32 >>> ((2 : Int32) &&& 31).toUInt32).toInt32)), (.int (((31 : Int32) + (-4 : Int32)) + (-2 : Int32)))]))
            refine Owes.go ?_ fun t₀ k₀ => XS.iconst X0.here hx rfl (hb hby d6_75) k₀
            show Owes _ _ _ _ (s₁.setTop (mkF m 76 #[.val (.int ((((p0.toUInt32 >>> ((4 : Int32) &&& 31).toUInt32).toInt32).toUInt32 >>> ((2 : Int32) &&& 31).toUInt32).toInt32)), .val (.int (((31 : Int32) + (-4 : Int32)) + (-2 : Int32)))] [(.int (1 : Int32)), (.int ((((p0.toUInt32 >>> ((4 : Int32) &&& 31).toUInt32).toInt32).toUInt32 >>> ((2 : Int32) &&& 31).toUInt32).toInt32)), (.int (((31 : Int32) + (-4 : Int32)) + (-2 : Int32)))]))
            refine Owes.go ?_ fun t₀ k₀ => XS.iushr X0.here hx rfl (hb hby d6_76) rfl k₀
            show Owes _ _ _ _ (s₁.setTop (mkF m 77 #[.val (.int ((((p0.toUInt32 >>> ((4 : Int32) &&& 31).toUInt32).toInt32).toUInt32 >>> ((2 : Int32) &&& 31).toUInt32).toInt32)), .val (.int (((31 : Int32) + (-4 : Int32)) + (-2 : Int32)))] [(.int ((((((p0.toUInt32 >>> ((4 : Int32) &&& 31).toUInt32).toInt32).toUInt32 >>> ((2 : Int32) &&& 31).toUInt32).toInt32).toUInt32 >>> ((1 : Int32) &&& 31).toUInt32).toInt32)), (.int (((31 : Int32) + (-4 : Int32)) + (-2 : Int32)))]))
            refine Owes.go ?_ fun t₀ k₀ => XS.isub X0.here hx rfl (hb hby d6_77) rfl k₀
            show Owes _ _ _ _ (s₁.setTop (mkF m 78 #[.val (.int ((((p0.toUInt32 >>> ((4 : Int32) &&& 31).toUInt32).toInt32).toUInt32 >>> ((2 : Int32) &&& 31).toUInt32).toInt32)), .val (.int (((31 : Int32) + (-4 : Int32)) + (-2 : Int32)))] [(.int ((((31 : Int32) + (-4 : Int32)) + (-2 : Int32)) - ((((((p0.toUInt32 >>> ((4 : Int32) &&& 31).toUInt32).toInt32).toUInt32 >>> ((2 : Int32) &&& 31).toUInt32).toInt32).toUInt32 >>> ((1 : Int32) &&& 31).toUInt32).toInt32)))]))
            exact Owes.retI X0 hx hlk hret (hb hby d6_78) (by decide) (by decide) ⟨congrArg (fun z => some (Value.int z)) (by unfold f_nlzI; rw [if_pos hc1, if_pos hc2, if_pos hc3, if_neg hc4, if_neg hc6]; first | done | rfl), rfl, e0⟩
      · skip
        refine Owes.go ?_ fun t₀ k₀ => XS.icmpNo X0.here hx rfl (hb hby d6_37) rfl (flt hc3).1 k₀
        show Owes _ _ _ _ (s₁.setTop (mkF m 40 #[.val (.int p0), .val (.int (31 : Int32))] []))
        refine Owes.go ?_ fun t₀ k₀ => XS.iinc X0.here hx rfl (hb hby d6_40) rfl (l' := #[.val (.int p0), .val (.int ((31 : Int32) + (-8 : Int32)))]) rfl k₀
        show Owes _ _ _ _ (s₁.setTop (mkF m 43 #[.val (.int p0), .val (.int ((31 : Int32) + (-8 : Int32)))] []))
        refine Owes.go ?_ fun t₀ k₀ => XS.iloadN X0.here hx rfl (hb hby d6_43) rfl k₀
        show Owes _ _ _ _ (s₁.setTop (mkF m 44 #[.val (.int p0), .val (.int ((31 : Int32) + (-8 : Int32)))] [(.int p0)]))
        refine Owes.go ?_ fun t₀ k₀ => XS.bipush X0.here hx rfl (hb hby d6_44) k₀
        show Owes _ _ _ _ (s₁.setTop (mkF m 46 #[.val (.int p0), .val (.int ((31 : Int32) + (-8 : Int32)))] [(.int (8 : Int32)), (.int p0)]))
        refine Owes.go ?_ fun t₀ k₀ => XS.iushr X0.here hx rfl (hb hby d6_46) rfl k₀
        show Owes _ _ _ _ (s₁.setTop (mkF m 47 #[.val (.int p0), .val (.int ((31 : Int32) + (-8 : Int32)))] [(.int ((p0.toUInt32 >>> ((8 : Int32) &&& 31).toUInt32).toInt32))]))
        refine Owes.go ?_ fun t₀ k₀ => XS.istoreN X0.here hx rfl (hb hby d6_47) rfl (l' := #[.val (.int ((p0.toUInt32 >>> ((8 : Int32) &&& 31).toUInt32).toInt32)), .val (.int ((31 : Int32) + (-8 : Int32)))]) rfl k₀
        show Owes _ _ _ _ (s₁.setTop (mkF m 48 #[.val (.int ((p0.toUInt32 >>> ((8 : Int32) &&& 31).toUInt32).toInt32)), .val (.int ((31 : Int32) + (-8 : Int32)))] []))
        refine Owes.go ?_ fun t₀ k₀ => XS.iloadN X0.here hx rfl (hb hby d6_48) rfl k₀
        show Owes _ _ _ _ (s₁.setTop (mkF m 49 #[.val (.int ((p0.toUInt32 >>> ((8 : Int32) &&& 31).toUInt32).toInt32)), .val (.int ((31 : Int32) + (-8 : Int32)))] [(.int ((p0.toUInt32 >>> ((8 : Int32) &&& 31).toUInt32).toInt32))]))
        refine Owes.go ?_ fun t₀ k₀ => XS.bipush X0.here hx rfl (hb hby d6_49) k₀
        show Owes _ _ _ _ (s₁.setTop (mkF m 51 #[.val (.int ((p0.toUInt32 >>> ((8 : Int32) &&& 31).toUInt32).toInt32)), .val (.int ((31 : Int32) + (-8 : Int32)))] [(.int (16 : Int32)), (.int ((p0.toUInt32 >>> ((8 : Int32) &&& 31).toUInt32).toInt32))]))
        by_cases hc7 : ((p0.toUInt32 >>> ((8 : Int32) &&& 31).toUInt32).toInt32) < (16 : Int32)
        · skip
          refine Owes.go ?_ fun t₀ k₀ => XS.icmpYes X0.here hx rfl (pc0 := 51) (pc' := 61) rfl (hb hby d6_51) rfl (tlt hc7).1 (by decide) (by decide) k₀
          show Owes _ _ _ _ (s₁.setTop (mkF m 61 #[.val (.int ((p0.toUInt32 >>> ((8 : Int32) &&& 31).toUInt32).toInt32)), .val (.int ((31 : Int32) + (-8 : Int32)))] []))
          refine Owes.go ?_ fun t₀ k₀ => XS.iloadN X0.here hx rfl (hb hby d6_61) rfl k₀
          show Owes _ _ _ _ (s₁.setTop (mkF m 62 #[.val (.int ((p0.toUInt32 >>> ((8 : Int32) &&& 31).toUInt32).toInt32)), .val (.int ((31 : Int32) + (-8 : Int32)))] [(.int ((p0.toUInt32 >>> ((8 : Int32) &&& 31).toUInt32).toInt32))]))
          refine Owes.go ?_ fun t₀ k₀ => XS.iconst X0.here hx rfl (hb hby d6_62) k₀
          show Owes _ _ _ _ (s₁.setTop (mkF m 63 #[.val (.int ((p0.toUInt32 >>> ((8 : Int32) &&& 31).toUInt32).toInt32)), .val (.int ((31 : Int32) + (-8 : Int32)))] [(.int (4 : Int32)), (.int ((p0.toUInt32 >>> ((8 : Int32) &&& 31).toUInt32).toInt32))]))
          by_cases hc8 : ((p0.toUInt32 >>> ((8 : Int32) &&& 31).toUInt32).toInt32) < (4 : Int32)
          · skip
            refine Owes.go ?_ fun t₀ k₀ => XS.icmpYes X0.here hx rfl (pc0 := 63) (pc' := 73) rfl (hb hby d6_63) rfl (tlt hc8).1 (by decide) (by decide) k₀
            show Owes _ _ _ _ (s₁.setTop (mkF m 73 #[.val (.int ((p0.toUInt32 >>> ((8 : Int32) &&& 31).toUInt32).toInt32)), .val (.int ((31 : Int32) + (-8 : Int32)))] []))
            refine Owes.go ?_ fun t₀ k₀ => XS.iloadN X0.here hx rfl (hb hby d6_73) rfl k₀
            show Owes _ _ _ _ (s₁.setTop (mkF m 74 #[.val (.int ((p0.toUInt32 >>> ((8 : Int32) &&& 31).toUInt32).toInt32)), .val (.int ((31 : Int32) + (-8 : Int32)))] [(.int ((31 : Int32) + (-8 : Int32)))]))
            refine Owes.go ?_ fun t₀ k₀ => XS.iloadN X0.here hx rfl (hb hby d6_74) rfl k₀
            show Owes _ _ _ _ (s₁.setTop (mkF m 75 #[.val (.int ((p0.toUInt32 >>> ((8 : Int32) &&& 31).toUInt32).toInt32)), .val (.int ((31 : Int32) + (-8 : Int32)))] [(.int ((p0.toUInt32 >>> ((8 : Int32) &&& 31).toUInt32).toInt32)), (.int ((31 : Int32) + (-8 : Int32)))]))
            refine Owes.go ?_ fun t₀ k₀ => XS.iconst X0.here hx rfl (hb hby d6_75) k₀
            show Owes _ _ _ _ (s₁.setTop (mkF m 76 #[.val (.int ((p0.toUInt32 >>> ((8 : Int32) &&& 31).toUInt32).toInt32)), .val (.int ((31 : Int32) + (-8 : Int32)))] [(.int (1 : Int32)), (.int ((p0.toUInt32 >>> ((8 : Int32) &&& 31).toUInt32).toInt32)), (.int ((31 : Int32) + (-8 : Int32)))]))
            refine Owes.go ?_ fun t₀ k₀ => XS.iushr X0.here hx rfl (hb hby d6_76) rfl k₀
            show Owes _ _ _ _ (s₁.setTop (mkF m 77 #[.val (.int ((p0.toUInt32 >>> ((8 : Int32) &&& 31).toUInt32).toInt32)), .val (.int ((31 : Int32) + (-8 : Int32)))] [(.int ((((p0.toUInt32 >>> ((8 : Int32) &&& 31).toUInt32).toInt32).toUInt32 >>> ((1 : Int32) &&& 31).toUInt32).toInt32)), (.int ((31 : Int32) + (-8 : Int32)))]))
            refine Owes.go ?_ fun t₀ k₀ => XS.isub X0.here hx rfl (hb hby d6_77) rfl k₀
            show Owes _ _ _ _ (s₁.setTop (mkF m 78 #[.val (.int ((p0.toUInt32 >>> ((8 : Int32) &&& 31).toUInt32).toInt32)), .val (.int ((31 : Int32) + (-8 : Int32)))] [(.int (((31 : Int32) + (-8 : Int32)) - ((((p0.toUInt32 >>> ((8 : Int32) &&& 31).toUInt32).toInt32).toUInt32 >>> ((1 : Int32) &&& 31).toUInt32).toInt32)))]))
            exact Owes.retI X0 hx hlk hret (hb hby d6_78) (by decide) (by decide) ⟨congrArg (fun z => some (Value.int z)) (by unfold f_nlzI; rw [if_pos hc1, if_pos hc2, if_neg hc3, if_pos hc7, if_pos hc8]; first | done | rfl), rfl, e0⟩
          · skip
            refine Owes.go ?_ fun t₀ k₀ => XS.icmpNo X0.here hx rfl (hb hby d6_63) rfl (flt hc8).1 k₀
            show Owes _ _ _ _ (s₁.setTop (mkF m 66 #[.val (.int ((p0.toUInt32 >>> ((8 : Int32) &&& 31).toUInt32).toInt32)), .val (.int ((31 : Int32) + (-8 : Int32)))] []))
            refine Owes.go ?_ fun t₀ k₀ => XS.iinc X0.here hx rfl (hb hby d6_66) rfl (l' := #[.val (.int ((p0.toUInt32 >>> ((8 : Int32) &&& 31).toUInt32).toInt32)), .val (.int (((31 : Int32) + (-8 : Int32)) + (-2 : Int32)))]) rfl k₀
            show Owes _ _ _ _ (s₁.setTop (mkF m 69 #[.val (.int ((p0.toUInt32 >>> ((8 : Int32) &&& 31).toUInt32).toInt32)), .val (.int (((31 : Int32) + (-8 : Int32)) + (-2 : Int32)))] []))
            refine Owes.go ?_ fun t₀ k₀ => XS.iloadN X0.here hx rfl (hb hby d6_69) rfl k₀
            show Owes _ _ _ _ (s₁.setTop (mkF m 70 #[.val (.int ((p0.toUInt32 >>> ((8 : Int32) &&& 31).toUInt32).toInt32)), .val (.int (((31 : Int32) + (-8 : Int32)) + (-2 : Int32)))] [(.int ((p0.toUInt32 >>> ((8 : Int32) &&& 31).toUInt32).toInt32))]))
            refine Owes.go ?_ fun t₀ k₀ => XS.iconst X0.here hx rfl (hb hby d6_70) k₀
            show Owes _ _ _ _ (s₁.setTop (mkF m 71 #[.val (.int ((p0.toUInt32 >>> ((8 : Int32) &&& 31).toUInt32).toInt32)), .val (.int (((31 : Int32) + (-8 : Int32)) + (-2 : Int32)))] [(.int (2 : Int32)), (.int ((p0.toUInt32 >>> ((8 : Int32) &&& 31).toUInt32).toInt32))]))
            refine Owes.go ?_ fun t₀ k₀ => XS.iushr X0.here hx rfl (hb hby d6_71) rfl k₀
            show Owes _ _ _ _ (s₁.setTop (mkF m 72 #[.val (.int ((p0.toUInt32 >>> ((8 : Int32) &&& 31).toUInt32).toInt32)), .val (.int (((31 : Int32) + (-8 : Int32)) + (-2 : Int32)))] [(.int ((((p0.toUInt32 >>> ((8 : Int32) &&& 31).toUInt32).toInt32).toUInt32 >>> ((2 : Int32) &&& 31).toUInt32).toInt32))]))
            refine Owes.go ?_ fun t₀ k₀ => XS.istoreN X0.here hx rfl (hb hby d6_72) rfl (l' := #[.val (.int ((((p0.toUInt32 >>> ((8 : Int32) &&& 31).toUInt32).toInt32).toUInt32 >>> ((2 : Int32) &&& 31).toUInt32).toInt32)), .val (.int (((31 : Int32) + (-8 : Int32)) + (-2 : Int32)))]) rfl k₀
            show Owes _ _ _ _ (s₁.setTop (mkF m 73 #[.val (.int ((((p0.toUInt32 >>> ((8 : Int32) &&& 31).toUInt32).toInt32).toUInt32 >>> ((2 : Int32) &&& 31).toUInt32).toInt32)), .val (.int (((31 : Int32) + (-8 : Int32)) + (-2 : Int32)))] []))
            refine Owes.go ?_ fun t₀ k₀ => XS.iloadN X0.here hx rfl (hb hby d6_73) rfl k₀
            show Owes _ _ _ _ (s₁.setTop (mkF m 74 #[.val (.int ((((p0.toUInt32 >>> ((8 : Int32) &&& 31).toUInt32).toInt32).toUInt32 >>> ((2 : Int32) &&& 31).toUInt32).toInt32)), .val (.int (((31 : Int32) + (-8 : Int32)) + (-2 : Int32)))] [(.int (((31 : Int32) + (-8 : Int32)) + (-2 : Int32)))]))
            refine Owes.go ?_ fun t₀ k₀ => XS.iloadN X0.here hx rfl (hb hby d6_74) rfl k₀
            show Owes _ _ _ _ (s₁.setTop (mkF m 75 #[.val (.int ((((p0.toUInt32 >>> ((8 : Int32) &&& 31).toUInt32).toInt32).toUInt32 >>> ((2 : Int32) &&& 31).toUInt32).toInt32)), .val (.int (((31 : Int32) + (-8 : Int32)) + (-2 : Int32)))] [(.int ((((p0.toUInt32 >>> ((8 : Int32) &&& 31).toUInt32).toInt32).toUInt32 >>> ((2 : Int32) &&& 31).toUInt32).toInt32)), (.int (((31 : Int32) + (-8 : Int32)) + (-2 : Int32)))]))
            refine Owes.go ?_ fun t₀ k₀ => XS.iconst X0.here hx rfl (hb hby d6_75) k₀
            show Owes _ _ _ _ (s₁.setTop (mkF m 76 #[.val (.int ((((p0.toUInt32 >>> ((8 : Int32) &&& 31).toUInt32).toInt32).toUInt32 >>> ((2 : Int32) &&& 31).toUInt32).toInt32)), .val (.int (((31 : Int32) + (-8 : Int32)) + (-2 : Int32)))] [(.int (1 : Int32)), (.int ((((p0.toUInt32 >>> ((8 : Int32) &&& 31).toUInt32).toInt32).toUInt32 >>> ((2 : Int32) &&& 31).toUInt32).toInt32)), (.int (((31 : Int32) + (-8 : Int32)) + (-2 : Int32)))]))
            refine Owes.go ?_ fun t₀ k₀ => XS.iushr X0.here hx rfl (hb hby d6_76) rfl k₀
            show Owes _ _ _ _ (s₁.setTop (mkF m 77 #[.val (.int ((((p0.toUInt32 >>> ((8 : Int32) &&& 31).toUInt32).toInt32).toUInt32 >>> ((2 : Int32) &&& 31).toUInt32).toInt32)), .val (.int (((31 : Int32) + (-8 : Int32)) + (-2 : Int32)))] [(.int ((((((p0.toUInt32 >>> ((8 : Int32) &&& 31).toUInt32).toInt32).toUInt32 >>> ((2 : Int32) &&& 31).toUInt32).toInt32).toUInt32 >>> ((1 : Int32) &&& 31).toUInt32).toInt32)), (.int (((31 : Int32) + (-8 : Int32)) + (-2 : Int32)))]))
            refine Owes.go ?_ fun t₀ k₀ => XS.isub X0.here hx rfl (hb hby d6_77) rfl k₀
            show Owes _ _ _ _ (s₁.setTop (mkF m 78 #[.val (.int ((((p0.toUInt32 >>> ((8 : Int32) &&& 31).toUInt32).toInt32).toUInt32 >>> ((2 : Int32) &&& 31).toUInt32).toInt32)), .val (.int (((31 : Int32) + (-8 : Int32)) + (-2 : Int32)))] [(.int ((((31 : Int32) + (-8 : Int32)) + (-2 : Int32)) - ((((((p0.toUInt32 >>> ((8 : Int32) &&& 31).toUInt32).toInt32).toUInt32 >>> ((2 : Int32) &&& 31).toUInt32).toInt32).toUInt32 >>> ((1 : Int32) &&& 31).toUInt32).toInt32)))]))
            exact Owes.retI X0 hx hlk hret (hb hby d6_78) (by decide) (by decide) ⟨congrArg (fun z => some (Value.int z)) (by unfold f_nlzI; rw [if_pos hc1, if_pos hc2, if_neg hc3, if_pos hc7, if_neg hc8]; first | done | rfl), rfl, e0⟩
        · skip
          refine Owes.go ?_ fun t₀ k₀ => XS.icmpNo X0.here hx rfl (hb hby d6_51) rfl (flt hc7).1 k₀
          show Owes _ _ _ _ (s₁.setTop (mkF m 54 #[.val (.int ((p0.toUInt32 >>> ((8 : Int32) &&& 31).toUInt32).toInt32)), .val (.int ((31 : Int32) + (-8 : Int32)))] []))
          refine Owes.go ?_ fun t₀ k₀ => XS.iinc X0.here hx rfl (hb hby d6_54) rfl (l' := #[.val (.int ((p0.toUInt32 >>> ((8 : Int32) &&& 31).toUInt32).toInt32)), .val (.int (((31 : Int32) + (-8 : Int32)) + (-4 : Int32)))]) rfl k₀
          show Owes _ _ _ _ (s₁.setTop (mkF m 57 #[.val (.int ((p0.toUInt32 >>> ((8 : Int32) &&& 31).toUInt32).toInt32)), .val (.int (((31 : Int32) + (-8 : Int32)) + (-4 : Int32)))] []))
          refine Owes.go ?_ fun t₀ k₀ => XS.iloadN X0.here hx rfl (hb hby d6_57) rfl k₀
          show Owes _ _ _ _ (s₁.setTop (mkF m 58 #[.val (.int ((p0.toUInt32 >>> ((8 : Int32) &&& 31).toUInt32).toInt32)), .val (.int (((31 : Int32) + (-8 : Int32)) + (-4 : Int32)))] [(.int ((p0.toUInt32 >>> ((8 : Int32) &&& 31).toUInt32).toInt32))]))
          refine Owes.go ?_ fun t₀ k₀ => XS.iconst X0.here hx rfl (hb hby d6_58) k₀
          show Owes _ _ _ _ (s₁.setTop (mkF m 59 #[.val (.int ((p0.toUInt32 >>> ((8 : Int32) &&& 31).toUInt32).toInt32)), .val (.int (((31 : Int32) + (-8 : Int32)) + (-4 : Int32)))] [(.int (4 : Int32)), (.int ((p0.toUInt32 >>> ((8 : Int32) &&& 31).toUInt32).toInt32))]))
          refine Owes.go ?_ fun t₀ k₀ => XS.iushr X0.here hx rfl (hb hby d6_59) rfl k₀
          show Owes _ _ _ _ (s₁.setTop (mkF m 60 #[.val (.int ((p0.toUInt32 >>> ((8 : Int32) &&& 31).toUInt32).toInt32)), .val (.int (((31 : Int32) + (-8 : Int32)) + (-4 : Int32)))] [(.int ((((p0.toUInt32 >>> ((8 : Int32) &&& 31).toUInt32).toInt32).toUInt32 >>> ((4 : Int32) &&& 31).toUInt32).toInt32))]))
          refine Owes.go ?_ fun t₀ k₀ => XS.istoreN X0.here hx rfl (hb hby d6_60) rfl (l' := #[.val (.int ((((p0.toUInt32 >>> ((8 : Int32) &&& 31).toUInt32).toInt32).toUInt32 >>> ((4 : Int32) &&& 31).toUInt32).toInt32)), .val (.int (((31 : Int32) + (-8 : Int32)) + (-4 : Int32)))]) rfl k₀
          show Owes _ _ _ _ (s₁.setTop (mkF m 61 #[.val (.int ((((p0.toUInt32 >>> ((8 : Int32) &&& 31).toUInt32).toInt32).toUInt32 >>> ((4 : Int32) &&& 31).toUInt32).toInt32)), .val (.int (((31 : Int32) + (-8 : Int32)) + (-4 : Int32)))] []))
          refine Owes.go ?_ fun t₀ k₀ => XS.iloadN X0.here hx rfl (hb hby d6_61) rfl k₀
          show Owes _ _ _ _ (s₁.setTop (mkF m 62 #[.val (.int ((((p0.toUInt32 >>> ((8 : Int32) &&& 31).toUInt32).toInt32).toUInt32 >>> ((4 : Int32) &&& 31).toUInt32).toInt32)), .val (.int (((31 : Int32) + (-8 : Int32)) + (-4 : Int32)))] [(.int ((((p0.toUInt32 >>> ((8 : Int32) &&& 31).toUInt32).toInt32).toUInt32 >>> ((4 : Int32) &&& 31).toUInt32).toInt32))]))
          refine Owes.go ?_ fun t₀ k₀ => XS.iconst X0.here hx rfl (hb hby d6_62) k₀
          show Owes _ _ _ _ (s₁.setTop (mkF m 63 #[.val (.int ((((p0.toUInt32 >>> ((8 : Int32) &&& 31).toUInt32).toInt32).toUInt32 >>> ((4 : Int32) &&& 31).toUInt32).toInt32)), .val (.int (((31 : Int32) + (-8 : Int32)) + (-4 : Int32)))] [(.int (4 : Int32)), (.int ((((p0.toUInt32 >>> ((8 : Int32) &&& 31).toUInt32).toInt32).toUInt32 >>> ((4 : Int32) &&& 31).toUInt32).toInt32))]))
          by_cases hc9 : ((((p0.toUInt32 >>> ((8 : Int32) &&& 31).toUInt32).toInt32).toUInt32 >>> ((4 : Int32) &&& 31).toUInt32).toInt32) < (4 : Int32)
          · skip
            refine Owes.go ?_ fun t₀ k₀ => XS.icmpYes X0.here hx rfl (pc0 := 63) (pc' := 73) rfl (hb hby d6_63) rfl (tlt hc9).1 (by decide) (by decide) k₀
            show Owes _ _ _ _ (s₁.setTop (mkF m 73 #[.val (.int ((((p0.toUInt32 >>> ((8 : Int32) &&& 31).toUInt32).toInt32).toUInt32 >>> ((4 : Int32) &&& 31).toUInt32).toInt32)), .val (.int (((31 : Int32) + (-8 : Int32)) + (-4 : Int32)))] []))
            refine Owes.go ?_ fun t₀ k₀ => XS.iloadN X0.here hx rfl (hb hby d6_73) rfl k₀
            show Owes _ _ _ _ (s₁.setTop (mkF m 74 #[.val (.int ((((p0.toUInt32 >>> ((8 : Int32) &&& 31).toUInt32).toInt32).toUInt32 >>> ((4 : Int32) &&& 31).toUInt32).toInt32)), .val (.int (((31 : Int32) + (-8 : Int32)) + (-4 : Int32)))] [(.int (((31 : Int32) + (-8 : Int32)) + (-4 : Int32)))]))
            refine Owes.go ?_ fun t₀ k₀ => XS.iloadN X0.here hx rfl (hb hby d6_74) rfl k₀
            show Owes _ _ _ _ (s₁.setTop (mkF m 75 #[.val (.int ((((p0.toUInt32 >>> ((8 : Int32) &&& 31).toUInt32).toInt32).toUInt32 >>> ((4 : Int32) &&& 31).toUInt32).toInt32)), .val (.int (((31 : Int32) + (-8 : Int32)) + (-4 : Int32)))] [(.int ((((p0.toUInt32 >>> ((8 : Int32) &&& 31).toUInt32).toInt32).toUInt32 >>> ((4 : Int32) &&& 31).toUInt32).toInt32)), (.int (((31 : Int32) + (-8 : Int32)) + (-4 : Int32)))]))
            refine Owes.go ?_ fun t₀ k₀ => XS.iconst X0.here hx rfl (hb hby d6_75) k₀
            show Owes _ _ _ _ (s₁.setTop (mkF m 76 #[.val (.int ((((p0.toUInt32 >>> ((8 : Int32) &&& 31).toUInt32).toInt32).toUInt32 >>> ((4 : Int32) &&& 31).toUInt32).toInt32)), .val (.int (((31 : Int32) + (-8 : Int32)) + (-4 : Int32)))] [(.int (1 : Int32)), (.int ((((p0.toUInt32 >>> ((8 : Int32) &&& 31).toUInt32).toInt32).toUInt32 >>> ((4 : Int32) &&& 31).toUInt32).toInt32)), (.int (((31 : Int32) + (-8 : Int32)) + (-4 : Int32)))]))
            refine Owes.go ?_ fun t₀ k₀ => XS.iushr X0.here hx rfl (hb hby d6_76) rfl k₀
            show Owes _ _ _ _ (s₁.setTop (mkF m 77 #[.val (.int ((((p0.toUInt32 >>> ((8 : Int32) &&& 31).toUInt32).toInt32).toUInt32 >>> ((4 : Int32) &&& 31).toUInt32).toInt32)), .val (.int (((31 : Int32) + (-8 : Int32)) + (-4 : Int32)))] [(.int ((((((p0.toUInt32 >>> ((8 : Int32) &&& 31).toUInt32).toInt32).toUInt32 >>> ((4 : Int32) &&& 31).toUInt32).toInt32).toUInt32 >>> ((1 : Int32) &&& 31).toUInt32).toInt32)), (.int (((31 : Int32) + (-8 : Int32)) + (-4 : Int32)))]))
            refine Owes.go ?_ fun t₀ k₀ => XS.isub X0.here hx rfl (hb hby d6_77) rfl k₀
            show Owes _ _ _ _ (s₁.setTop (mkF m 78 #[.val (.int ((((p0.toUInt32 >>> ((8 : Int32) &&& 31).toUInt32).toInt32).toUInt32 >>> ((4 : Int32) &&& 31).toUInt32).toInt32)), .val (.int (((31 : Int32) + (-8 : Int32)) + (-4 : Int32)))] [(.int ((((31 : Int32) + (-8 : Int32)) + (-4 : Int32)) - ((((((p0.toUInt32 >>> ((8 : Int32) &&& 31).toUInt32).toInt32).toUInt32 >>> ((4 : Int32) &&& 31).toUInt32).toInt32).toUInt32 >>> ((1 : Int32) &&& 31).toUInt32).toInt32)))]))
            exact Owes.retI X0 hx hlk hret (hb hby d6_78) (by decide) (by decide) ⟨congrArg (fun z => some (Value.int z)) (by unfold f_nlzI; rw [if_pos hc1, if_pos hc2, if_neg hc3, if_neg hc7, if_pos hc9]; first | done | rfl), rfl, e0⟩
          · skip
            refine Owes.go ?_ fun t₀ k₀ => XS.icmpNo X0.here hx rfl (hb hby d6_63) rfl (flt hc9).1 k₀
            show Owes _ _ _ _ (s₁.setTop (mkF m 66 #[.val (.int ((((p0.toUInt32 >>> ((8 : Int32) &&& 31).toUInt32).toInt32).toUInt32 >>> ((4 : Int32) &&& 31).toUInt32).toInt32)), .val (.int (((31 : Int32) + (-8 : Int32)) + (-4 : Int32)))] []))
            refine Owes.go ?_ fun t₀ k₀ => XS.iinc X0.here hx rfl (hb hby d6_66) rfl (l' := #[.val (.int ((((p0.toUInt32 >>> ((8 : Int32) &&& 31).toUInt32).toInt32).toUInt32 >>> ((4 : Int32) &&& 31).toUInt32).toInt32)), .val (.int ((((31 : Int32) + (-8 : Int32)) + (-4 : Int32)) + (-2 : Int32)))]) rfl k₀
            show Owes _ _ _ _ (s₁.setTop (mkF m 69 #[.val (.int ((((p0.toUInt32 >>> ((8 : Int32) &&& 31).toUInt32).toInt32).toUInt32 >>> ((4 : Int32) &&& 31).toUInt32).toInt32)), .val (.int ((((31 : Int32) + (-8 : Int32)) + (-4 : Int32)) + (-2 : Int32)))] []))
            refine Owes.go ?_ fun t₀ k₀ => XS.iloadN X0.here hx rfl (hb hby d6_69) rfl k₀
            show Owes _ _ _ _ (s₁.setTop (mkF m 70 #[.val (.int ((((p0.toUInt32 >>> ((8 : Int32) &&& 31).toUInt32).toInt32).toUInt32 >>> ((4 : Int32) &&& 31).toUInt32).toInt32)), .val (.int ((((31 : Int32) + (-8 : Int32)) + (-4 : Int32)) + (-2 : Int32)))] [(.int ((((p0.toUInt32 >>> ((8 : Int32) &&& 31).toUInt32).toInt32).toUInt32 >>> ((4 : Int32) &&& 31).toUInt32).toInt32))]))
            refine Owes.go ?_ fun t₀ k₀ => XS.iconst X0.here hx rfl (hb hby d6_70) k₀
            show Owes _ _ _ _ (s₁.setTop (mkF m 71 #[.val (.int ((((p0.toUInt32 >>> ((8 : Int32) &&& 31).toUInt32).toInt32).toUInt32 >>> ((4 : Int32) &&& 31).toUInt32).toInt32)), .val (.int ((((31 : Int32) + (-8 : Int32)) + (-4 : Int32)) + (-2 : Int32)))] [(.int (2 : Int32)), (.int ((((p0.toUInt32 >>> ((8 : Int32) &&& 31).toUInt32).toInt32).toUInt32 >>> ((4 : Int32) &&& 31).toUInt32).toInt32))]))
            refine Owes.go ?_ fun t₀ k₀ => XS.iushr X0.here hx rfl (hb hby d6_71) rfl k₀
            show Owes _ _ _ _ (s₁.setTop (mkF m 72 #[.val (.int ((((p0.toUInt32 >>> ((8 : Int32) &&& 31).toUInt32).toInt32).toUInt32 >>> ((4 : Int32) &&& 31).toUInt32).toInt32)), .val (.int ((((31 : Int32) + (-8 : Int32)) + (-4 : Int32)) + (-2 : Int32)))] [(.int ((((((p0.toUInt32 >>> ((8 : Int32) &&& 31).toUInt32).toInt32).toUInt32 >>> ((4 : Int32) &&& 31).toUInt32).toInt32).toUInt32 >>> ((2 : Int32) &&& 31).toUInt32).toInt32))]))
            refine Owes.go ?_ fun t₀ k₀ => XS.istoreN X0.here hx rfl (hb hby d6_72) rfl (l' := #[.val (.int ((((((p0.toUInt32 >>> ((8 : Int32) &&& 31).toUInt32).toInt32).toUInt32 >>> ((4 : Int32) &&& 31).toUInt32).toInt32).toUInt32 >>> ((2 : Int32) &&& 31).toUInt32).toInt32)), .val (.int ((((31 : Int32) + (-8 : Int32)) + (-4 : Int32)) + (-2 : Int32)))]) rfl k₀
            show Owes _ _ _ _ (s₁.setTop (mkF m 73 #[.val (.int ((((((p0.toUInt32 >>> ((8 : Int32) &&& 31).toUInt32).toInt32).toUInt32 >>> ((4 : Int32) &&& 31).toUInt32).toInt32).toUInt32 >>> ((2 : Int32) &&& 31).toUInt32).toInt32)), .val (.int ((((31 : Int32) + (-8 : Int32)) + (-4 : Int32)) + (-2 : Int32)))] []))
            refine Owes.go ?_ fun t₀ k₀ => XS.iloadN X0.here hx rfl (hb hby d6_73) rfl k₀
            show Owes _ _ _ _ (s₁.setTop (mkF m 74 #[.val (.int ((((((p0.toUInt32 >>> ((8 : Int32) &&& 31).toUInt32).toInt32).toUInt32 >>> ((4 : Int32) &&& 31).toUInt32).toInt32).toUInt32 >>> ((2 : Int32) &&& 31).toUInt32).toInt32)), .val (.int ((((31 : Int32) + (-8 : Int32)) + (-4 : Int32)) + (-2 : Int32)))] [(.int ((((31 : Int32) + (-8 : Int32)) + (-4 : Int32)) + (-2 : Int32)))]))
            refine Owes.go ?_ fun t₀ k₀ => XS.iloadN X0.here hx rfl (hb hby d6_74) rfl k₀
            show Owes _ _ _ _ (s₁.setTop (mkF m 75 #[.val (.int ((((((p0.toUInt32 >>> ((8 : Int32) &&& 31).toUInt32).toInt32).toUInt32 >>> ((4 : Int32) &&& 31).toUInt32).toInt32).toUInt32 >>> ((2 : Int32) &&& 31).toUInt32).toInt32)), .val (.int ((((31 : Int32) + (-8 : Int32)) + (-4 : Int32)) + (-2 : Int32)))] [(.int ((((((p0.toUInt32 >>> ((8 : Int32) &&& 31).toUInt32).toInt32).toUInt32 >>> ((4 : Int32) &&& 31).toUInt32).toInt32).toUInt32 >>> ((2 : Int32) &&& 31).toUInt32).toInt32)), (.int ((((31 : Int32) + (-8 : Int32)) + (-4 : Int32)) + (-2 : Int32)))]))
            refine Owes.go ?_ fun t₀ k₀ => XS.iconst X0.here hx rfl (hb hby d6_75) k₀
            show Owes _ _ _ _ (s₁.setTop (mkF m 76 #[.val (.int ((((((p0.toUInt32 >>> ((8 : Int32) &&& 31).toUInt32).toInt32).toUInt32 >>> ((4 : Int32) &&& 31).toUInt32).toInt32).toUInt32 >>> ((2 : Int32) &&& 31).toUInt32).toInt32)), .val (.int ((((31 : Int32) + (-8 : Int32)) + (-4 : Int32)) + (-2 : Int32)))] [(.int (1 : Int32)), (.int ((((((p0.toUInt32 >>> ((8 : Int32) &&& 31).toUInt32).toInt32).toUInt32 >>> ((4 : Int32) &&& 31).toUInt32).toInt32).toUInt32 >>> ((2 : Int32) &&& 31).toUInt32).toInt32)), (.int ((((31 : Int32) + (-8 : Int32)) + (-4 : Int32)) + (-2 : Int32)))]))
            refine Owes.go ?_ fun t₀ k₀ => XS.iushr X0.here hx rfl (hb hby d6_76) rfl k₀
            show Owes _ _ _ _ (s₁.setTop (mkF m 77 #[.val (.int ((((((p0.toUInt32 >>> ((8 : Int32) &&& 31).toUInt32).toInt32).toUInt32 >>> ((4 : Int32) &&& 31).toUInt32).toInt32).toUInt32 >>> ((2 : Int32) &&& 31).toUInt32).toInt32)), .val (.int ((((31 : Int32) + (-8 : Int32)) + (-4 : Int32)) + (-2 : Int32)))] [(.int ((((((((p0.toUInt32 >>> ((8 : Int32) &&& 31).toUInt32).toInt32).toUInt32 >>> ((4 : Int32) &&& 31).toUInt32).toInt32).toUInt32 >>> ((2 : Int32) &&& 31).toUInt32).toInt32).toUInt32 >>> ((1 : Int32) &&& 31).toUInt32).toInt32)), (.int ((((31 : Int32) + (-8 : Int32)) + (-4 : Int32)) + (-2 : Int32)))]))
            refine Owes.go ?_ fun t₀ k₀ => XS.isub X0.here hx rfl (hb hby d6_77) rfl k₀
            show Owes _ _ _ _ (s₁.setTop (mkF m 78 #[.val (.int ((((((p0.toUInt32 >>> ((8 : Int32) &&& 31).toUInt32).toInt32).toUInt32 >>> ((4 : Int32) &&& 31).toUInt32).toInt32).toUInt32 >>> ((2 : Int32) &&& 31).toUInt32).toInt32)), .val (.int ((((31 : Int32) + (-8 : Int32)) + (-4 : Int32)) + (-2 : Int32)))] [(.int (((((31 : Int32) + (-8 : Int32)) + (-4 : Int32)) + (-2 : Int32)) - ((((((((p0.toUInt32 >>> ((8 : Int32) &&& 31).toUInt32).toInt32).toUInt32 >>> ((4 : Int32) &&& 31).toUInt32).toInt32).toUInt32 >>> ((2 : Int32) &&& 31).toUInt32).toInt32).toUInt32 >>> ((1 : Int32) &&& 31).toUInt32).toInt32)))]))
            exact Owes.retI X0 hx hlk hret (hb hby d6_78) (by decide) (by decide) ⟨congrArg (fun z => some (Value.int z)) (by unfold f_nlzI; rw [if_pos hc1, if_pos hc2, if_neg hc3, if_neg hc7, if_neg hc9]; first | done | rfl), rfl, e0⟩
    · skip
      refine Owes.go ?_ fun t₀ k₀ => XS.icmpNo X0.here hx rfl (hb hby d6_22) rfl (flt hc2).1 k₀
      show Owes _ _ _ _ (s₁.setTop (mkF m 25 #[.val (.int p0), .val (.int (31 : Int32))] []))
      refine Owes.go ?_ fun t₀ k₀ => XS.iinc X0.here hx rfl (hb hby d6_25) rfl (l' := #[.val (.int p0), .val (.int ((31 : Int32) + (-16 : Int32)))]) rfl k₀
      show Owes _ _ _ _ (s₁.setTop (mkF m 28 #[.val (.int p0), .val (.int ((31 : Int32) + (-16 : Int32)))] []))
      refine Owes.go ?_ fun t₀ k₀ => XS.iloadN X0.here hx rfl (hb hby d6_28) rfl k₀
      show Owes _ _ _ _ (s₁.setTop (mkF m 29 #[.val (.int p0), .val (.int ((31 : Int32) + (-16 : Int32)))] [(.int p0)]))
      refine Owes.go ?_ fun t₀ k₀ => XS.bipush X0.here hx rfl (hb hby d6_29) k₀
      show Owes _ _ _ _ (s₁.setTop (mkF m 31 #[.val (.int p0), .val (.int ((31 : Int32) + (-16 : Int32)))] [(.int (16 : Int32)), (.int p0)]))
      refine Owes.go ?_ fun t₀ k₀ => XS.iushr X0.here hx rfl (hb hby d6_31) rfl k₀
      show Owes _ _ _ _ (s₁.setTop (mkF m 32 #[.val (.int p0), .val (.int ((31 : Int32) + (-16 : Int32)))] [(.int ((p0.toUInt32 >>> ((16 : Int32) &&& 31).toUInt32).toInt32))]))
      refine Owes.go ?_ fun t₀ k₀ => XS.istoreN X0.here hx rfl (hb hby d6_32) rfl (l' := #[.val (.int ((p0.toUInt32 >>> ((16 : Int32) &&& 31).toUInt32).toInt32)), .val (.int ((31 : Int32) + (-16 : Int32)))]) rfl k₀
      show Owes _ _ _ _ (s₁.setTop (mkF m 33 #[.val (.int ((p0.toUInt32 >>> ((16 : Int32) &&& 31).toUInt32).toInt32)), .val (.int ((31 : Int32) + (-16 : Int32)))] []))
      refine Owes.go ?_ fun t₀ k₀ => XS.iloadN X0.here hx rfl (hb hby d6_33) rfl k₀
      show Owes _ _ _ _ (s₁.setTop (mkF m 34 #[.val (.int ((p0.toUInt32 >>> ((16 : Int32) &&& 31).toUInt32).toInt32)), .val (.int ((31 : Int32) + (-16 : Int32)))] [(.int ((p0.toUInt32 >>> ((16 : Int32) &&& 31).toUInt32).toInt32))]))
      refine Owes.go ?_ fun t₀ k₀ => XS.sipush X0.here hx rfl (hb hby d6_34) k₀
      show Owes _ _ _ _ (s₁.setTop (mkF m 37 #[.val (.int ((p0.toUInt32 >>> ((16 : Int32) &&& 31).toUInt32).toInt32)), .val (.int ((31 : Int32) + (-16 : Int32)))] [(.int (256 : Int32)), (.int ((p0.toUInt32 >>> ((16 : Int32) &&& 31).toUInt32).toInt32))]))
      by_cases hc10 : ((p0.toUInt32 >>> ((16 : Int32) &&& 31).toUInt32).toInt32) < (256 : Int32)
      · skip
        refine Owes.go ?_ fun t₀ k₀ => XS.icmpYes X0.here hx rfl (pc0 := 37) (pc' := 48) rfl (hb hby d6_37) rfl (tlt hc10).1 (by decide) (by decide) k₀
        show Owes _ _ _ _ (s₁.setTop (mkF m 48 #[.val (.int ((p0.toUInt32 >>> ((16 : Int32) &&& 31).toUInt32).toInt32)), .val (.int ((31 : Int32) + (-16 : Int32)))] []))
        refine Owes.go ?_ fun t₀ k₀ => XS.iloadN X0.here hx rfl (hb hby d6_48) rfl k₀
        show Owes _ _ _ _ (s₁.setTop (mkF m 49 #[.val (.int ((p0.toUInt32 >>> ((16 : Int32) &&& 31).toUInt32).toInt32)), .val (.int ((31 : Int32) + (-16 : Int32)))] [(.int ((p0.toUInt32 >>> ((16 : Int32) &&& 31).toUInt32).toInt32))]))
        refine Owes.go ?_ fun t₀ k₀ => XS.bipush X0.here hx rfl (hb hby d6_49) k₀
        show Owes _ _ _ _ (s₁.setTop (mkF m 51 #[.val (.int ((p0.toUInt32 >>> ((16 : Int32) &&& 31).toUInt32).toInt32)), .val (.int ((31 : Int32) + (-16 : Int32)))] [(.int (16 : Int32)), (.int ((p0.toUInt32 >>> ((16 : Int32) &&& 31).toUInt32).toInt32))]))
        by_cases hc11 : ((p0.toUInt32 >>> ((16 : Int32) &&& 31).toUInt32).toInt32) < (16 : Int32)
        · skip
          refine Owes.go ?_ fun t₀ k₀ => XS.icmpYes X0.here hx rfl (pc0 := 51) (pc' := 61) rfl (hb hby d6_51) rfl (tlt hc11).1 (by decide) (by decide) k₀
          show Owes _ _ _ _ (s₁.setTop (mkF m 61 #[.val (.int ((p0.toUInt32 >>> ((16 : Int32) &&& 31).toUInt32).toInt32)), .val (.int ((31 : Int32) + (-16 : Int32)))] []))
          refine Owes.go ?_ fun t₀ k₀ => XS.iloadN X0.here hx rfl (hb hby d6_61) rfl k₀
          show Owes _ _ _ _ (s₁.setTop (mkF m 62 #[.val (.int ((p0.toUInt32 >>> ((16 : Int32) &&& 31).toUInt32).toInt32)), .val (.int ((31 : Int32) + (-16 : Int32)))] [(.int ((p0.toUInt32 >>> ((16 : Int32) &&& 31).toUInt32).toInt32))]))
          refine Owes.go ?_ fun t₀ k₀ => XS.iconst X0.here hx rfl (hb hby d6_62) k₀
          show Owes _ _ _ _ (s₁.setTop (mkF m 63 #[.val (.int ((p0.toUInt32 >>> ((16 : Int32) &&& 31).toUInt32).toInt32)), .val (.int ((31 : Int32) + (-16 : Int32)))] [(.int (4 : Int32)), (.int ((p0.toUInt32 >>> ((16 : Int32) &&& 31).toUInt32).toInt32))]))
          by_cases hc12 : ((p0.toUInt32 >>> ((16 : Int32) &&& 31).toUInt32).toInt32) < (4 : Int32)
          · skip
            refine Owes.go ?_ fun t₀ k₀ => XS.icmpYes X0.here hx rfl (pc0 := 63) (pc' := 73) rfl (hb hby d6_63) rfl (tlt hc12).1 (by decide) (by decide) k₀
            show Owes _ _ _ _ (s₁.setTop (mkF m 73 #[.val (.int ((p0.toUInt32 >>> ((16 : Int32) &&& 31).toUInt32).toInt32)), .val (.int ((31 : Int32) + (-16 : Int32)))] []))
            refine Owes.go ?_ fun t₀ k₀ => XS.iloadN X0.here hx rfl (hb hby d6_73) rfl k₀
            show Owes _ _ _ _ (s₁.setTop (mkF m 74 #[.val (.int ((p0.toUInt32 >>> ((16 : Int32) &&& 31).toUInt32).toInt32)), .val (.int ((31 : Int32) + (-16 : Int32)))] [(.int ((31 : Int32) + (-16 : Int32)))]))
            refine Owes.go ?_ fun t₀ k₀ => XS.iloadN X0.here hx rfl (hb hby d6_74) rfl k₀
            show Owes _ _ _ _ (s₁.setTop (mkF m 75 #[.val (.int ((p0.toUInt32 >>> ((16 : Int32) &&& 31).toUInt32).toInt32)), .val (.int ((31 : Int32) + (-16 : Int32)))] [(.int ((p0.toUInt32 >>> ((16 : Int32) &&& 31).toUInt32).toInt32)), (.int ((31 : Int32) + (-16 : Int32)))]))
            refine Owes.go ?_ fun t₀ k₀ => XS.iconst X0.here hx rfl (hb hby d6_75) k₀
            show Owes _ _ _ _ (s₁.setTop (mkF m 76 #[.val (.int ((p0.toUInt32 >>> ((16 : Int32) &&& 31).toUInt32).toInt32)), .val (.int ((31 : Int32) + (-16 : Int32)))] [(.int (1 : Int32)), (.int ((p0.toUInt32 >>> ((16 : Int32) &&& 31).toUInt32).toInt32)), (.int ((31 : Int32) + (-16 : Int32)))]))
            refine Owes.go ?_ fun t₀ k₀ => XS.iushr X0.here hx rfl (hb hby d6_76) rfl k₀
            show Owes _ _ _ _ (s₁.setTop (mkF m 77 #[.val (.int ((p0.toUInt32 >>> ((16 : Int32) &&& 31).toUInt32).toInt32)), .val (.int ((31 : Int32) + (-16 : Int32)))] [(.int ((((p0.toUInt32 >>> ((16 : Int32) &&& 31).toUInt32).toInt32).toUInt32 >>> ((1 : Int32) &&& 31).toUInt32).toInt32)), (.int ((31 : Int32) + (-16 : Int32)))]))
            refine Owes.go ?_ fun t₀ k₀ => XS.isub X0.here hx rfl (hb hby d6_77) rfl k₀
            show Owes _ _ _ _ (s₁.setTop (mkF m 78 #[.val (.int ((p0.toUInt32 >>> ((16 : Int32) &&& 31).toUInt32).toInt32)), .val (.int ((31 : Int32) + (-16 : Int32)))] [(.int (((31 : Int32) + (-16 : Int32)) - ((((p0.toUInt32 >>> ((16 : Int32) &&& 31).toUInt32).toInt32).toUInt32 >>> ((1 : Int32) &&& 31).toUInt32).toInt32)))]))
            exact Owes.retI X0 hx hlk hret (hb hby d6_78) (by decide) (by decide) ⟨congrArg (fun z => some (Value.int z)) (by unfold f_nlzI; rw [if_pos hc1, if_neg hc2, if_pos hc10, if_pos hc11, if_pos hc12]; first | done | rfl), rfl, e0⟩
          · skip
            refine Owes.go ?_ fun t₀ k₀ => XS.icmpNo X0.here hx rfl (hb hby d6_63) rfl (flt hc12).1 k₀
            show Owes _ _ _ _ (s₁.setTop (mkF m 66 #[.val (.int ((p0.toUInt32 >>> ((16 : Int32) &&& 31).toUInt32).toInt32)), .val (.int ((31 : Int32) + (-16 : Int32)))] []))
            refine Owes.go ?_ fun t₀ k₀ => XS.iinc X0.here hx rfl (hb hby d6_66) rfl (l' := #[.val (.int ((p0.toUInt32 >>> ((16 : Int32) &&& 31).toUInt32).toInt32)), .val (.int (((31 : Int32) + (-16 : Int32)) + (-2 : Int32)))]) rfl k₀
            show Owes _ _ _ _ (s₁.setTop (mkF m 69 #[.val (.int ((p0.toUInt32 >>> ((16 : Int32) &&& 31).toUInt32).toInt32)), .val (.int (((31 : Int32) + (-16 : Int32)) + (-2 : Int32)))] []))
            refine Owes.go ?_ fun t₀ k₀ => XS.iloadN X0.here hx rfl (hb hby d6_69) rfl k₀
            show Owes _ _ _ _ (s₁.setTop (mkF m 70 #[.val (.int ((p0.toUInt32 >>> ((16 : Int32) &&& 31).toUInt32).toInt32)), .val (.int (((31 : Int32) + (-16 : Int32)) + (-2 : Int32)))] [(.int ((p0.toUInt32 >>> ((16 : Int32) &&& 31).toUInt32).toInt32))]))
            refine Owes.go ?_ fun t₀ k₀ => XS.iconst X0.here hx rfl (hb hby d6_70) k₀
            show Owes _ _ _ _ (s₁.setTop (mkF m 71 #[.val (.int ((p0.toUInt32 >>> ((16 : Int32) &&& 31).toUInt32).toInt32)), .val (.int (((31 : Int32) + (-16 : Int32)) + (-2 : Int32)))] [(.int (2 : Int32)), (.int ((p0.toUInt32 >>> ((16 : Int32) &&& 31).toUInt32).toInt32))]))
            refine Owes.go ?_ fun t₀ k₀ => XS.iushr X0.here hx rfl (hb hby d6_71) rfl k₀
            show Owes _ _ _ _ (s₁.setTop (mkF m 72 #[.val (.int ((p0.toUInt32 >>> ((16 : Int32) &&& 31).toUInt32).toInt32)), .val (.int (((31 : Int32) + (-16 : Int32)) + (-2 : Int32)))] [(.int ((((p0.toUInt32 >>> ((16 : Int32) &&& 31).toUInt32).toInt32).toUInt32 >>> ((2 : Int32) &&& 31).toUInt32).toInt32))]))
            refine Owes.go ?_ fun t₀ k₀ => XS.istoreN X0.here hx rfl (hb hby d6_72) rfl (l' := #[.val (.int ((((p0.toUInt32 >>> ((16 : Int32) &&& 31).toUInt32).toInt32).toUInt32 >>> ((2 : Int32) &&& 31).toUInt32).toInt32)), .val (.int (((31 : Int32) + (-16 : Int32)) + (-2 : Int32)))]) rfl k₀
            show Owes _ _ _ _ (s₁.setTop (mkF m 73 #[.val (.int ((((p0.toUInt32 >>> ((16 : Int32) &&& 31).toUInt32).toInt32).toUInt32 >>> ((2 : Int32) &&& 31).toUInt32).toInt32)), .val (.int (((31 : Int32) + (-16 : Int32)) + (-2 : Int32)))] []))
            refine Owes.go ?_ fun t₀ k₀ => XS.iloadN X0.here hx rfl (hb hby d6_73) rfl k₀
            show Owes _ _ _ _ (s₁.setTop (mkF m 74 #[.val (.int ((((p0.toUInt32 >>> ((16 : Int32) &&& 31).toUInt32).toInt32).toUInt32 >>> ((2 : Int32) &&& 31).toUInt32).toInt32)), .val (.int (((31 : Int32) + (-16 : Int32)) + (-2 : Int32)))] [(.int (((31 : Int32) + (-16 : Int32)) + (-2 : Int32)))]))
            refine Owes.go ?_ fun t₀ k₀ => XS.iloadN X0.here hx rfl (hb hby d6_74) rfl k₀
            show Owes _ _ _ _ (s₁.setTop (mkF m 75 #[.val (.int ((((p0.toUInt32 >>> ((16 : Int32) &&& 31).toUInt32).toInt32).toUInt32 >>> ((2 : Int32) &&& 31).toUInt32).toInt32)), .val (.int (((31 : Int32) + (-16 : Int32)) + (-2 : Int32)))] [(.int ((((p0.toUInt32 >>> ((16 : Int32) &&& 31).toUInt32).toInt32).toUInt32 >>> ((2 : Int32) &&& 31).toUInt32).toInt32)), (.int (((31 : Int32) + (-16 : Int32)) + (-2 : Int32)))]))
            refine Owes.go ?_ fun t₀ k₀ => XS.iconst X0.here hx rfl (hb hby d6_75) k₀
            show Owes _ _ _ _ (s₁.setTop (mkF m 76 #[.val (.int ((((p0.toUInt32 >>> ((16 : Int32) &&& 31).toUInt32).toInt32).toUInt32 >>> ((2 : Int32) &&& 31).toUInt32).toInt32)), .val (.int (((31 : Int32) + (-16 : Int32)) + (-2 : Int32)))] [(.int (1 : Int32)), (.int ((((p0.toUInt32 >>> ((16 : Int32) &&& 31).toUInt32).toInt32).toUInt32 >>> ((2 : Int32) &&& 31).toUInt32).toInt32)), (.int (((31 : Int32) + (-16 : Int32)) + (-2 : Int32)))]))
            refine Owes.go ?_ fun t₀ k₀ => XS.iushr X0.here hx rfl (hb hby d6_76) rfl k₀
            show Owes _ _ _ _ (s₁.setTop (mkF m 77 #[.val (.int ((((p0.toUInt32 >>> ((16 : Int32) &&& 31).toUInt32).toInt32).toUInt32 >>> ((2 : Int32) &&& 31).toUInt32).toInt32)), .val (.int (((31 : Int32) + (-16 : Int32)) + (-2 : Int32)))] [(.int ((((((p0.toUInt32 >>> ((16 : Int32) &&& 31).toUInt32).toInt32).toUInt32 >>> ((2 : Int32) &&& 31).toUInt32).toInt32).toUInt32 >>> ((1 : Int32) &&& 31).toUInt32).toInt32)), (.int (((31 : Int32) + (-16 : Int32)) + (-2 : Int32)))]))
            refine Owes.go ?_ fun t₀ k₀ => XS.isub X0.here hx rfl (hb hby d6_77) rfl k₀
            show Owes _ _ _ _ (s₁.setTop (mkF m 78 #[.val (.int ((((p0.toUInt32 >>> ((16 : Int32) &&& 31).toUInt32).toInt32).toUInt32 >>> ((2 : Int32) &&& 31).toUInt32).toInt32)), .val (.int (((31 : Int32) + (-16 : Int32)) + (-2 : Int32)))] [(.int ((((31 : Int32) + (-16 : Int32)) + (-2 : Int32)) - ((((((p0.toUInt32 >>> ((16 : Int32) &&& 31).toUInt32).toInt32).toUInt32 >>> ((2 : Int32) &&& 31).toUInt32).toInt32).toUInt32 >>> ((1 : Int32) &&& 31).toUInt32).toInt32)))]))
            exact Owes.retI X0 hx hlk hret (hb hby d6_78) (by decide) (by decide) ⟨congrArg (fun z => some (Value.int z)) (by unfold f_nlzI; rw [if_pos hc1, if_neg hc2, if_pos hc10, if_pos hc11, if_neg hc12]; first | done | rfl), rfl, e0⟩
        · skip
          refine Owes.go ?_ fun t₀ k₀ => XS.icmpNo X0.here hx rfl (hb hby d6_51) rfl (flt hc11).1 k₀
          show Owes _ _ _ _ (s₁.setTop (mkF m 54 #[.val (.int ((p0.toUInt32 >>> ((16 : Int32) &&& 31).toUInt32).toInt32)), .val (.int ((31 : Int32) + (-16 : Int32)))] []))
          refine Owes.go ?_ fun t₀ k₀ => XS.iinc X0.here hx rfl (hb hby d6_54) rfl (l' := #[.val (.int ((p0.toUInt32 >>> ((16 : Int32) &&& 31).toUInt32).toInt32)), .val (.int (((31 : Int32) + (-16 : Int32)) + (-4 : Int32)))]) rfl k₀
          show Owes _ _ _ _ (s₁.setTop (mkF m 57 #[.val (.int ((p0.toUInt32 >>> ((16 : Int32) &&& 31).toUInt32).toInt32)), .val (.int (((31 : Int32) + (-16 : Int32)) + (-4 : Int32)))] []))
          refine Owes.go ?_ fun t₀ k₀ => XS.iloadN X0.here hx rfl (hb hby d6_57) rfl k₀
          show Owes _ _ _ _ (s₁.setTop (mkF m 58 #[.val (.int ((p0.toUInt32 >>> ((16 : Int32) &&& 31).toUInt32).toInt32)), .val (.int (((31 : Int32) + (-16 : Int32)) + (-4 : Int32)))] [(.int ((p0.toUInt32 >>> ((16 : Int32) &&& 31).toUInt32).toInt32))]))
          refine Owes.go ?_ fun t₀ k₀ => XS.iconst X0.here hx rfl (hb hby d6_58) k₀
          show Owes _ _ _ _ (s₁.setTop (mkF m 59 #[.val (.int ((p0.toUInt32 >>> ((16 : Int32) &&& 31).toUInt32).toInt32)), .val (.int (((31 : Int32) + (-16 : Int32)) + (-4 : Int32)))] [(.int (4 : Int32)), (.int ((p0.toUInt32 >>> ((16 : Int32) &&& 31).toUInt32).toInt32))]))
          refine Owes.go ?_ fun t₀ k₀ => XS.iushr X0.here hx rfl (hb hby d6_59) rfl k₀
          show Owes _ _ _ _ (s₁.setTop (mkF m 60 #[.val (.int ((p0.toUInt32 >>> ((16 : Int32) &&& 31).toUInt32).toInt32)), .val (.int (((31 : Int32) + (-16 : Int32)) + (-4 : Int32)))] [(.int ((((p0.toUInt32 >>> ((16 : Int32) &&& 31).toUInt32).toInt32).toUInt32 >>> ((4 : Int32) &&& 31).toUInt32).toInt32))]))
          refine Owes.go ?_ fun t₀ k₀ => XS.istoreN X0.here hx rfl (hb hby d6_60) rfl (l' := #[.val (.int ((((p0.toUInt32 >>> ((16 : Int32) &&& 31).toUInt32).toInt32).toUInt32 >>> ((4 : Int32) &&& 31).toUInt32).toInt32)), .val (.int (((31 : Int32) + (-16 : Int32)) + (-4 : Int32)))]) rfl k₀
          show Owes _ _ _ _ (s₁.setTop (mkF m 61 #[.val (.int ((((p0.toUInt32 >>> ((16 : Int32) &&& 31).toUInt32).toInt32).toUInt32 >>> ((4 : Int32) &&& 31).toUInt32).toInt32)), .val (.int (((31 : Int32) + (-16 : Int32)) + (-4 : Int32)))] []))
          refine Owes.go ?_ fun t₀ k₀ => XS.iloadN X0.here hx rfl (hb hby d6_61) rfl k₀
          show Owes _ _ _ _ (s₁.setTop (mkF m 62 #[.val (.int ((((p0.toUInt32 >>> ((16 : Int32) &&& 31).toUInt32).toInt32).toUInt32 >>> ((4 : Int32) &&& 31).toUInt32).toInt32)), .val (.int (((31 : Int32) + (-16 : Int32)) + (-4 : Int32)))] [(.int ((((p0.toUInt32 >>> ((16 : Int32) &&& 31).toUInt32).toInt32).toUInt32 >>> ((4 : Int32) &&& 31).toUInt32).toInt32))]))
          refine Owes.go ?_ fun t₀ k₀ => XS.iconst X0.here hx rfl (hb hby d6_62) k₀
          show Owes _ _ _ _ (s₁.setTop (mkF m 63 #[.val (.int ((((p0.toUInt32 >>> ((16 : Int32) &&& 31).toUInt32).toInt32).toUInt32 >>> ((4 : Int32) &&& 31).toUInt32).toInt32)), .val (.int (((31 : Int32) + (-16 : Int32)) + (-4 : Int32)))] [(.int (4 : Int32)), (.int ((((p0.toUInt32 >>> ((16 : Int32) &&& 31).toUInt32).toInt32).toUInt32 >>> ((4 : Int32) &&& 31).toUInt32).toInt32))]))
          by_cases hc13 : ((((p0.toUInt32 >>> ((16 : Int32) &&& 31).toUInt32).toInt32).toUInt32 >>> ((4 : Int32) &&& 31).toUInt32).toInt32) < (4 : Int32)
          · skip
            refine Owes.go ?_ fun t₀ k₀ => XS.icmpYes X0.here hx rfl (pc0 := 63) (pc' := 73) rfl (hb hby d6_63) rfl (tlt hc13).1 (by decide) (by decide) k₀
            show Owes _ _ _ _ (s₁.setTop (mkF m 73 #[.val (.int ((((p0.toUInt32 >>> ((16 : Int32) &&& 31).toUInt32).toInt32).toUInt32 >>> ((4 : Int32) &&& 31).toUInt32).toInt32)), .val (.int (((31 : Int32) + (-16 : Int32)) + (-4 : Int32)))] []))
            refine Owes.go ?_ fun t₀ k₀ => XS.iloadN X0.here hx rfl (hb hby d6_73) rfl k₀
            show Owes _ _ _ _ (s₁.setTop (mkF m 74 #[.val (.int ((((p0.toUInt32 >>> ((16 : Int32) &&& 31).toUInt32).toInt32).toUInt32 >>> ((4 : Int32) &&& 31).toUInt32).toInt32)), .val (.int (((31 : Int32) + (-16 : Int32)) + (-4 : Int32)))] [(.int (((31 : Int32) + (-16 : Int32)) + (-4 : Int32)))]))
            refine Owes.go ?_ fun t₀ k₀ => XS.iloadN X0.here hx rfl (hb hby d6_74) rfl k₀
            show Owes _ _ _ _ (s₁.setTop (mkF m 75 #[.val (.int ((((p0.toUInt32 >>> ((16 : Int32) &&& 31).toUInt32).toInt32).toUInt32 >>> ((4 : Int32) &&& 31).toUInt32).toInt32)), .val (.int (((31 : Int32) + (-16 : Int32)) + (-4 : Int32)))] [(.int ((((p0.toUInt32 >>> ((16 : Int32) &&& 31).toUInt32).toInt32).toUInt32 >>> ((4 : Int32) &&& 31).toUInt32).toInt32)), (.int (((31 : Int32) + (-16 : Int32)) + (-4 : Int32)))]))
            refine Owes.go ?_ fun t₀ k₀ => XS.iconst X0.here hx rfl (hb hby d6_75) k₀
            show Owes _ _ _ _ (s₁.setTop (mkF m 76 #[.val (.int ((((p0.toUInt32 >>> ((16 : Int32) &&& 31).toUInt32).toInt32).toUInt32 >>> ((4 : Int32) &&& 31).toUInt32).toInt32)), .val (.int (((31 : Int32) + (-16 : Int32)) + (-4 : Int32)))] [(.int (1 : Int32)), (.int ((((p0.toUInt32 >>> ((16 : Int32) &&& 31).toUInt32).toInt32).toUInt32 >>> ((4 : Int32) &&& 31).toUInt32).toInt32)), (.int (((31 : Int32) + (-16 : Int32)) + (-4 : Int32)))]))
            refine Owes.go ?_ fun t₀ k₀ => XS.iushr X0.here hx rfl (hb hby d6_76) rfl k₀
            show Owes _ _ _ _ (s₁.setTop (mkF m 77 #[.val (.int ((((p0.toUInt32 >>> ((16 : Int32) &&& 31).toUInt32).toInt32).toUInt32 >>> ((4 : Int32) &&& 31).toUInt32).toInt32)), .val (.int (((31 : Int32) + (-16 : Int32)) + (-4 : Int32)))] [(.int ((((((p0.toUInt32 >>> ((16 : Int32) &&& 31).toUInt32).toInt32).toUInt32 >>> ((4 : Int32) &&& 31).toUInt32).toInt32).toUInt32 >>> ((1 : Int32) &&& 31).toUInt32).toInt32)), (.int (((31 : Int32) + (-16 : Int32)) + (-4 : Int32)))]))
            refine Owes.go ?_ fun t₀ k₀ => XS.isub X0.here hx rfl (hb hby d6_77) rfl k₀
            show Owes _ _ _ _ (s₁.setTop (mkF m 78 #[.val (.int ((((p0.toUInt32 >>> ((16 : Int32) &&& 31).toUInt32).toInt32).toUInt32 >>> ((4 : Int32) &&& 31).toUInt32).toInt32)), .val (.int (((31 : Int32) + (-16 : Int32)) + (-4 : Int32)))] [(.int ((((31 : Int32) + (-16 : Int32)) + (-4 : Int32)) - ((((((p0.toUInt32 >>> ((16 : Int32) &&& 31).toUInt32).toInt32).toUInt32 >>> ((4 : Int32) &&& 31).toUInt32).toInt32).toUInt32 >>> ((1 : Int32) &&& 31).toUInt32).toInt32)))]))
            exact Owes.retI X0 hx hlk hret (hb hby d6_78) (by decide) (by decide) ⟨congrArg (fun z => some (Value.int z)) (by unfold f_nlzI; rw [if_pos hc1, if_neg hc2, if_pos hc10, if_neg hc11, if_pos hc13]; first | done | rfl), rfl, e0⟩
          · skip
            refine Owes.go ?_ fun t₀ k₀ => XS.icmpNo X0.here hx rfl (hb hby d6_63) rfl (flt hc13).1 k₀
            show Owes _ _ _ _ (s₁.setTop (mkF m 66 #[.val (.int ((((p0.toUInt32 >>> ((16 : Int32) &&& 31).toUInt32).toInt32).toUInt32 >>> ((4 : Int32) &&& 31).toUInt32).toInt32)), .val (.int (((31 : Int32) + (-16 : Int32)) + (-4 : Int32)))] []))
            refine Owes.go ?_ fun t₀ k₀ => XS.iinc X0.here hx rfl (hb hby d6_66) rfl (l' := #[.val (.int ((((p0.toUInt32 >>> ((16 : Int32) &&& 31).toUInt32).toInt32).toUInt32 >>> ((4 : Int32) &&& 31).toUInt32).toInt32)), .val (.int ((((31 : Int32) + (-16 : Int32)) + (-4 : Int32)) + (-2 : Int32)))]) rfl k₀
            show Owes _ _ _ _ (s₁.setTop (mkF m 69 #[.val (.int ((((p0.toUInt32 >>> ((16 : Int32) &&& 31).toUInt32).toInt32).toUInt32 >>> ((4 : Int32) &&& 31).toUInt32).toInt32)), .val (.int ((((31 : Int32) + (-16 : Int32)) + (-4 : Int32)) + (-2 : Int32)))] []))
            refine Owes.go ?_ fun t₀ k₀ => XS.iloadN X0.here hx rfl (hb hby d6_69) rfl k₀
            show Owes _ _ _ _ (s₁.setTop (mkF m 70 #[.val (.int ((((p0.toUInt32 >>> ((16 : Int32) &&& 31).toUInt32).toInt32).toUInt32 >>> ((4 : Int32) &&& 31).toUInt32).toInt32)), .val (.int ((((31 : Int32) + (-16 : Int32)) + (-4 : Int32)) + (-2 : Int32)))] [(.int ((((p0.toUInt32 >>> ((16 : Int32) &&& 31).toUInt32).toInt32).toUInt32 >>> ((4 : Int32) &&& 31).toUInt32).toInt32))]))
            refine Owes.go ?_ fun t₀ k₀ => XS.iconst X0.here hx rfl (hb hby d6_70) k₀
            show Owes _ _ _ _ (s₁.setTop (mkF m 71 #[.val (.int ((((p0.toUInt32 >>> ((16 : Int32) &&& 31).toUInt32).toInt32).toUInt32 >>> ((4 : Int32) &&& 31).toUInt32).toInt32)), .val (.int ((((31 : Int32) + (-16 : Int32)) + (-4 : Int32)) + (-2 : Int32)))] [(.int (2 : Int32)), (.int ((((p0.toUInt32 >>> ((16 : Int32) &&& 31).toUInt32).toInt32).toUInt32 >>> ((4 : Int32) &&& 31).toUInt32).toInt32))]))
            refine Owes.go ?_ fun t₀ k₀ => XS.iushr X0.here hx rfl (hb hby d6_71) rfl k₀
            show Owes _ _ _ _ (s₁.setTop (mkF m 72 #[.val (.int ((((p0.toUInt32 >>> ((16 : Int32) &&& 31).toUInt32).toInt32).toUInt32 >>> ((4 : Int32) &&& 31).toUInt32).toInt32)), .val (.int ((((31 : Int32) + (-16 : Int32)) + (-4 : Int32)) + (-2 : Int32)))] [(.int ((((((p0.toUInt32 >>> ((16 : Int32) &&& 31).toUInt32).toInt32).toUInt32 >>> ((4 : Int32) &&& 31).toUInt32).toInt32).toUInt32 >>> ((2 : Int32) &&& 31).toUInt32).toInt32))]))
            refine Owes.go ?_ fun t₀ k₀ => XS.istoreN X0.here hx rfl (hb hby d6_72) rfl (l' := #[.val (.int ((((((p0.toUInt32 >>> ((16 : Int32) &&& 31).toUInt32).toInt32).toUInt32 >>> ((4 : Int32) &&& 31).toUInt32).toInt32).toUInt32 >>> ((2 : Int32) &&& 31).toUInt32).toInt32)), .val (.int ((((31 : Int32) + (-16 : Int32)) + (-4 : Int32)) + (-2 : Int32)))]) rfl k₀
            show Owes _ _ _ _ (s₁.setTop (mkF m 73 #[.val (.int ((((((p0.toUInt32 >>> ((16 : Int32) &&& 31).toUInt32).toInt32).toUInt32 >>> ((4 : Int32) &&& 31).toUInt32).toInt32).toUInt32 >>> ((2 : Int32) &&& 31).toUInt32).toInt32)), .val (.int ((((31 : Int32) + (-16 : Int32)) + (-4 : Int32)) + (-2 : Int32)))] []))
            refine Owes.go ?_ fun t₀ k₀ => XS.iloadN X0.here hx rfl (hb hby d6_73) rfl k₀
            show Owes _ _ _ _ (s₁.setTop (mkF m 74 #[.val (.int ((((((p0.toUInt32 >>> ((16 : Int32) &&& 31).toUInt32).toInt32).toUInt32 >>> ((4 : Int32) &&& 31).toUInt32).toInt32).toUInt32 >>> ((2 : Int32) &&& 31).toUInt32).toInt32)), .val (.int ((((31 : Int32) + (-16 : Int32)) + (-4 : Int32)) + (-2 : Int32)))] [(.int ((((31 : Int32) + (-16 : Int32)) + (-4 : Int32)) + (-2 : Int32)))]))
            refine Owes.go ?_ fun t₀ k₀ => XS.iloadN X0.here hx rfl (hb hby d6_74) rfl k₀
            show Owes _ _ _ _ (s₁.setTop (mkF m 75 #[.val (.int ((((((p0.toUInt32 >>> ((16 : Int32) &&& 31).toUInt32).toInt32).toUInt32 >>> ((4 : Int32) &&& 31).toUInt32).toInt32).toUInt32 >>> ((2 : Int32) &&& 31).toUInt32).toInt32)), .val (.int ((((31 : Int32) + (-16 : Int32)) + (-4 : Int32)) + (-2 : Int32)))] [(.int ((((((p0.toUInt32 >>> ((16 : Int32) &&& 31).toUInt32).toInt32).toUInt32 >>> ((4 : Int32) &&& 31).toUInt32).toInt32).toUInt32 >>> ((2 : Int32) &&& 31).toUInt32).toInt32)), (.int ((((31 : Int32) + (-16 : Int32)) + (-4 : Int32)) + (-2 : Int32)))]))
            refine Owes.go ?_ fun t₀ k₀ => XS.iconst X0.here hx rfl (hb hby d6_75) k₀
            show Owes _ _ _ _ (s₁.setTop (mkF m 76 #[.val (.int ((((((p0.toUInt32 >>> ((16 : Int32) &&& 31).toUInt32).toInt32).toUInt32 >>> ((4 : Int32) &&& 31).toUInt32).toInt32).toUInt32 >>> ((2 : Int32) &&& 31).toUInt32).toInt32)), .val (.int ((((31 : Int32) + (-16 : Int32)) + (-4 : Int32)) + (-2 : Int32)))] [(.int (1 : Int32)), (.int ((((((p0.toUInt32 >>> ((16 : Int32) &&& 31).toUInt32).toInt32).toUInt32 >>> ((4 : Int32) &&& 31).toUInt32).toInt32).toUInt32 >>> ((2 : Int32) &&& 31).toUInt32).toInt32)), (.int ((((31 : Int32) + (-16 : Int32)) + (-4 : Int32)) + (-2 : Int32)))]))
            refine Owes.go ?_ fun t₀ k₀ => XS.iushr X0.here hx rfl (hb hby d6_76) rfl k₀
            show Owes _ _ _ _ (s₁.setTop (mkF m 77 #[.val (.int ((((((p0.toUInt32 >>> ((16 : Int32) &&& 31).toUInt32).toInt32).toUInt32 >>> ((4 : Int32) &&& 31).toUInt32).toInt32).toUInt32 >>> ((2 : Int32) &&& 31).toUInt32).toInt32)), .val (.int ((((31 : Int32) + (-16 : Int32)) + (-4 : Int32)) + (-2 : Int32)))] [(.int ((((((((p0.toUInt32 >>> ((16 : Int32) &&& 31).toUInt32).toInt32).toUInt32 >>> ((4 : Int32) &&& 31).toUInt32).toInt32).toUInt32 >>> ((2 : Int32) &&& 31).toUInt32).toInt32).toUInt32 >>> ((1 : Int32) &&& 31).toUInt32).toInt32)), (.int ((((31 : Int32) + (-16 : Int32)) + (-4 : Int32)) + (-2 : Int32)))]))
            refine Owes.go ?_ fun t₀ k₀ => XS.isub X0.here hx rfl (hb hby d6_77) rfl k₀
            show Owes _ _ _ _ (s₁.setTop (mkF m 78 #[.val (.int ((((((p0.toUInt32 >>> ((16 : Int32) &&& 31).toUInt32).toInt32).toUInt32 >>> ((4 : Int32) &&& 31).toUInt32).toInt32).toUInt32 >>> ((2 : Int32) &&& 31).toUInt32).toInt32)), .val (.int ((((31 : Int32) + (-16 : Int32)) + (-4 : Int32)) + (-2 : Int32)))] [(.int (((((31 : Int32) + (-16 : Int32)) + (-4 : Int32)) + (-2 : Int32)) - ((((((((p0.toUInt32 >>> ((16 : Int32) &&& 31).toUInt32).toInt32).toUInt32 >>> ((4 : Int32) &&& 31).toUInt32).toInt32).toUInt32 >>> ((2 : Int32) &&& 31).toUInt32).toInt32).toUInt32 >>> ((1 : Int32) &&& 31).toUInt32).toInt32)))]))
            exact Owes.retI X0 hx hlk hret (hb hby d6_78) (by decide) (by decide) ⟨congrArg (fun z => some (Value.int z)) (by unfold f_nlzI; rw [if_pos hc1, if_neg hc2, if_pos hc10, if_neg hc11, if_neg hc13]; first | done | rfl), rfl, e0⟩
      · skip
        refine Owes.go ?_ fun t₀ k₀ => XS.icmpNo X0.here hx rfl (hb hby d6_37) rfl (flt hc10).1 k₀
        show Owes _ _ _ _ (s₁.setTop (mkF m 40 #[.val (.int ((p0.toUInt32 >>> ((16 : Int32) &&& 31).toUInt32).toInt32)), .val (.int ((31 : Int32) + (-16 : Int32)))] []))
        refine Owes.go ?_ fun t₀ k₀ => XS.iinc X0.here hx rfl (hb hby d6_40) rfl (l' := #[.val (.int ((p0.toUInt32 >>> ((16 : Int32) &&& 31).toUInt32).toInt32)), .val (.int (((31 : Int32) + (-16 : Int32)) + (-8 : Int32)))]) rfl k₀
        show Owes _ _ _ _ (s₁.setTop (mkF m 43 #[.val (.int ((p0.toUInt32 >>> ((16 : Int32) &&& 31).toUInt32).toInt32)), .val (.int (((31 : Int32) + (-16 : Int32)) + (-8 : Int32)))] []))
        refine Owes.go ?_ fun t₀ k₀ => XS.iloadN X0.here hx rfl (hb hby d6_43) rfl k₀
        show Owes _ _ _ _ (s₁.setTop (mkF m 44 #[.val (.int ((p0.toUInt32 >>> ((16 : Int32) &&& 31).toUInt32).toInt32)), .val (.int (((31 : Int32) + (-16 : Int32)) + (-8 : Int32)))] [(.int ((p0.toUInt32 >>> ((16 : Int32) &&& 31).toUInt32).toInt32))]))
        refine Owes.go ?_ fun t₀ k₀ => XS.bipush X0.here hx rfl (hb hby d6_44) k₀
        show Owes _ _ _ _ (s₁.setTop (mkF m 46 #[.val (.int ((p0.toUInt32 >>> ((16 : Int32) &&& 31).toUInt32).toInt32)), .val (.int (((31 : Int32) + (-16 : Int32)) + (-8 : Int32)))] [(.int (8 : Int32)), (.int ((p0.toUInt32 >>> ((16 : Int32) &&& 31).toUInt32).toInt32))]))
        refine Owes.go ?_ fun t₀ k₀ => XS.iushr X0.here hx rfl (hb hby d6_46) rfl k₀
        show Owes _ _ _ _ (s₁.setTop (mkF m 47 #[.val (.int ((p0.toUInt32 >>> ((16 : Int32) &&& 31).toUInt32).toInt32)), .val (.int (((31 : Int32) + (-16 : Int32)) + (-8 : Int32)))] [(.int ((((p0.toUInt32 >>> ((16 : Int32) &&& 31).toUInt32).toInt32).toUInt32 >>> ((8 : Int32) &&& 31).toUInt32).toInt32))]))
        refine Owes.go ?_ fun t₀ k₀ => XS.istoreN X0.here hx rfl (hb hby d6_47) rfl (l' := #[.val (.int ((((p0.toUInt32 >>> ((16 : Int32) &&& 31).toUInt32).toInt32).toUInt32 >>> ((8 : Int32) &&& 31).toUInt32).toInt32)), .val (.int (((31 : Int32) + (-16 : Int32)) + (-8 : Int32)))]) rfl k₀
        show Owes _ _ _ _ (s₁.setTop (mkF m 48 #[.val (.int ((((p0.toUInt32 >>> ((16 : Int32) &&& 31).toUInt32).toInt32).toUInt32 >>> ((8 : Int32) &&& 31).toUInt32).toInt32)), .val (.int (((31 : Int32) + (-16 : Int32)) + (-8 : Int32)))] []))
        refine Owes.go ?_ fun t₀ k₀ => XS.iloadN X0.here hx rfl (hb hby d6_48) rfl k₀
        show Owes _ _ _ _ (s₁.setTop (mkF m 49 #[.val (.int ((((p0.toUInt32 >>> ((16 : Int32) &&& 31).toUInt32).toInt32).toUInt32 >>> ((8 : Int32) &&& 31).toUInt32).toInt32)), .val (.int (((31 : Int32) + (-16 : Int32)) + (-8 : Int32)))] [(.int ((((p0.toUInt32 >>> ((16 : Int32) &&& 31).toUInt32).toInt32).toUInt32 >>> ((8 : Int32) &&& 31).toUInt32).toInt32))]))
        refine Owes.go ?_ fun t₀ k₀ => XS.bipush X0.here hx rfl (hb hby d6_49) k₀
        show Owes _ _ _ _ (s₁.setTop (mkF m 51 #[.val (.int ((((p0.toUInt32 >>> ((16 : Int32) &&& 31).toUInt32).toInt32).toUInt32 >>> ((8 : Int32) &&& 31).toUInt32).toInt32)), .val (.int (((31 : Int32) + (-16 : Int32)) + (-8 : Int32)))] [(.int (16 : Int32)), (.int ((((p0.toUInt32 >>> ((16 : Int32) &&& 31).toUInt32).toInt32).toUInt32 >>> ((8 : Int32) &&& 31).toUInt32).toInt32))]))
        by_cases hc14 : ((((p0.toUInt32 >>> ((16 : Int32) &&& 31).toUInt32).toInt32).toUInt32 >>> ((8 : Int32) &&& 31).toUInt32).toInt32) < (16 : Int32)
        · skip
          refine Owes.go ?_ fun t₀ k₀ => XS.icmpYes X0.here hx rfl (pc0 := 51) (pc' := 61) rfl (hb hby d6_51) rfl (tlt hc14).1 (by decide) (by decide) k₀
          show Owes _ _ _ _ (s₁.setTop (mkF m 61 #[.val (.int ((((p0.toUInt32 >>> ((16 : Int32) &&& 31).toUInt32).toInt32).toUInt32 >>> ((8 : Int32) &&& 31).toUInt32).toInt32)), .val (.int (((31 : Int32) + (-16 : Int32)) + (-8 : Int32)))] []))
          refine Owes.go ?_ fun t₀ k₀ => XS.iloadN X0.here hx rfl (hb hby d6_61) rfl k₀
          show Owes _ _ _ _ (s₁.setTop (mkF m 62 #[.val (.int ((((p0.toUInt32 >>> ((16 : Int32) &&& 31).toUInt32).toInt32).toUInt32 >>> ((8 : Int32) &&& 31).toUInt32).toInt32)), .val (.int (((31 : Int32) + (-16 : Int32)) + (-8 : Int32)))] [(.int ((((p0.toUInt32 >>> ((16 : Int32) &&& 31).toUInt32).toInt32).toUInt32 >>> ((8 : Int32) &&& 31).toUInt32).toInt32))]))
          refine Owes.go ?_ fun t₀ k₀ => XS.iconst X0.here hx rfl (hb hby d6_62) k₀
          show Owes _ _ _ _ (s₁.setTop (mkF m 63 #[.val (.int ((((p0.toUInt32 >>> ((16 : Int32) &&& 31).toUInt32).toInt32).toUInt32 >>> ((8 : Int32) &&& 31).toUInt32).toInt32)), .val (.int (((31 : Int32) + (-16 : Int32)) + (-8 : Int32)))] [(.int (4 : Int32)), (.int ((((p0.toUInt32 >>> ((16 : Int32) &&& 31).toUInt32).toInt32).toUInt32 >>> ((8 : Int32) &&& 31).toUInt32).toInt32))]))
          by_cases hc15 : ((((p0.toUInt32 >>> ((16 : Int32) &&& 31).toUInt32).toInt32).toUInt32 >>> ((8 : Int32) &&& 31).toUInt32).toInt32) < (4 : Int32)
          · skip
            refine Owes.go ?_ fun t₀ k₀ => XS.icmpYes X0.here hx rfl (pc0 := 63) (pc' := 73) rfl (hb hby d6_63) rfl (tlt hc15).1 (by decide) (by decide) k₀
            show Owes _ _ _ _ (s₁.setTop (mkF m 73 #[.val (.int ((((p0.toUInt32 >>> ((16 : Int32) &&& 31).toUInt32).toInt32).toUInt32 >>> ((8 : Int32) &&& 31).toUInt32).toInt32)), .val (.int (((31 : Int32) + (-16 : Int32)) + (-8 : Int32)))] []))
            refine Owes.go ?_ fun t₀ k₀ => XS.iloadN X0.here hx rfl (hb hby d6_73) rfl k₀
            show Owes _ _ _ _ (s₁.setTop (mkF m 74 #[.val (.int ((((p0.toUInt32 >>> ((16 : Int32) &&& 31).toUInt32).toInt32).toUInt32 >>> ((8 : Int32) &&& 31).toUInt32).toInt32)), .val (.int (((31 : Int32) + (-16 : Int32)) + (-8 : Int32)))] [(.int (((31 : Int32) + (-16 : Int32)) + (-8 : Int32)))]))
            refine Owes.go ?_ fun t₀ k₀ => XS.iloadN X0.here hx rfl (hb hby d6_74) rfl k₀
            show Owes _ _ _ _ (s₁.setTop (mkF m 75 #[.val (.int ((((p0.toUInt32 >>> ((16 : Int32) &&& 31).toUInt32).toInt32).toUInt32 >>> ((8 : Int32) &&& 31).toUInt32).toInt32)), .val (.int (((31 : Int32) + (-16 : Int32)) + (-8 : Int32)))] [(.int ((((p0.toUInt32 >>> ((16 : Int32) &&& 31).toUInt32).toInt32).toUInt32 >>> ((8 : Int32) &&& 31).toUInt32).toInt32)), (.int (((31 : Int32) + (-16 : Int32)) + (-8 : Int32)))]))
            refine Owes.go ?_ fun t₀ k₀ => XS.iconst X0.here hx rfl (hb hby d6_75) k₀
            show Owes _ _ _ _ (s₁.setTop (mkF m 76 #[.val (.int ((((p0.toUInt32 >>> ((16 : Int32) &&& 31).toUInt32).toInt32).toUInt32 >>> ((8 : Int32) &&& 31).toUInt32).toInt32)), .val (.int (((31 : Int32) + (-16 : Int32)) + (-8 : Int32)))] [(.int (1 : Int32)), (.int ((((p0.toUInt32 >>> ((16 : Int32) &&& 31).toUInt32).toInt32).toUInt32 >>> ((8 : Int32) &&& 31).toUInt32).toInt32)), (.int (((31 : Int32) + (-16 : Int32)) + (-8 : Int32)))]))
            refine Owes.go ?_ fun t₀ k₀ => XS.iushr X0.here hx rfl (hb hby d6_76) rfl k₀
            show Owes _ _ _ _ (s₁.setTop (mkF m 77 #[.val (.int ((((p0.toUInt32 >>> ((16 : Int32) &&& 31).toUInt32).toInt32).toUInt32 >>> ((8 : Int32) &&& 31).toUInt32).toInt32)), .val (.int (((31 : Int32) + (-16 : Int32)) + (-8 : Int32)))] [(.int ((((((p0.toUInt32 >>> ((16 : Int32) &&& 31).toUInt32).toInt32).toUInt32 >>> ((8 : Int32) &&& 31).toUInt32).toInt32).toUInt32 >>> ((1 : Int32) &&& 31).toUInt32).toInt32)), (.int (((31 : Int32) + (-16 : Int32)) + (-8 : Int32)))]))
            refine Owes.go ?_ fun t₀ k₀ => XS.isub X0.here hx rfl (hb hby d6_77) rfl k₀
            show Owes _ _ _ _ (s₁.setTop (mkF m 78 #[.val (.int ((((p0.toUInt32 >>> ((16 : Int32) &&& 31).toUInt32).toInt32).toUInt32 >>> ((8 : Int32) &&& 31).toUInt32).toInt32)), .val (.int (((31 : Int32) + (-16 : Int32)) + (-8 : Int32)))] [(.int ((((31 : Int32) + (-16 : Int32)) + (-8 : Int32)) - ((((((p0.toUInt32 >>> ((16 : Int32) &&& 31).toUInt32).toInt32).toUInt32 >>> ((8 : Int32) &&& 31).toUInt32).toInt32).toUInt32 >>> ((1 : Int32) &&& 31).toUInt32).toInt32)))]))
            exact Owes.retI X0 hx hlk hret (hb hby d6_78) (by decide) (by decide) ⟨congrArg (fun z => some (Value.int z)) (by unfold f_nlzI; rw [if_pos hc1, if_neg hc2, if_neg hc10, if_pos hc14, if_pos hc15]; first | done | rfl), rfl, e0⟩
          · skip
            refine Owes.go ?_ fun t₀ k₀ => XS.icmpNo X0.here hx rfl (hb hby d6_63) rfl (flt hc15).1 k₀
            show Owes _ _ _ _ (s₁.setTop (mkF m 66 #[.val (.int ((((p0.toUInt32 >>> ((16 : Int32) &&& 31).toUInt32).toInt32).toUInt32 >>> ((8 : Int32) &&& 31).toUInt32).toInt32)), .val (.int (((31 : Int32) + (-16 : Int32)) + (-8 : Int32)))] []))
            refine Owes.go ?_ fun t₀ k₀ => XS.iinc X0.here hx rfl (hb hby d6_66) rfl (l' := #[.val (.int ((((p0.toUInt32 >>> ((16 : Int32) &&& 31).toUInt32).toInt32).toUInt32 >>> ((8 : Int32) &&& 31).toUInt32).toInt32)), .val (.int ((((31 : Int32) + (-16 : Int32)) + (-8 : Int32)) + (-2 : Int32)))]) rfl k₀
            show Owes _ _ _ _ (s₁.setTop (mkF m 69 #[.val (.int ((((p0.toUInt32 >>> ((16 : Int32) &&& 31).toUInt32).toInt32).toUInt32 >>> ((8 : Int32) &&& 31).toUInt32).toInt32)), .val (.int ((((31 : Int32) + (-16 : Int32)) + (-8 : Int32)) + (-2 : Int32)))] []))
            refine Owes.go ?_ fun t₀ k₀ => XS.iloadN X0.here hx rfl (hb hby d6_69) rfl k₀
            show Owes _ _ _ _ (s₁.setTop (mkF m 70 #[.val (.int ((((p0.toUInt32 >>> ((16 : Int32) &&& 31).toUInt32).toInt32).toUInt32 >>> ((8 : Int32) &&& 31).toUInt32).toInt32)), .val (.int ((((31 : Int32) + (-16 : Int32)) + (-8 : Int32)) + (-2 : Int32)))] [(.int ((((p0.toUInt32 >>> ((16 : Int32) &&& 31).toUInt32).toInt32).toUInt32 >>> ((8 : Int32) &&& 31).toUInt32).toInt32))]))
            refine Owes.go ?_ fun t₀ k₀ => XS.iconst X0.here hx rfl (hb hby d6_70) k₀
            show Owes _ _ _ _ (s₁.setTop (mkF m 71 #[.val (.int ((((p0.toUInt32 >>> ((16 : Int32) &&& 31).toUInt32).toInt32).toUInt32 >>> ((8 : Int32) &&& 31).toUInt32).toInt32)), .val (.int ((((31 : Int32) + (-16 : Int32)) + (-8 : Int32)) + (-2 : Int32)))] [(.int (2 : Int32)), (.int ((((p0.toUInt32 >>> ((16 : Int32) &&& 31).toUInt32).toInt32).toUInt32 >>> ((8 : Int32) &&& 31).toUInt32).toInt32))]))
            refine Owes.go ?_ fun t₀ k₀ => XS.iushr X0.here hx rfl (hb hby d6_71) rfl k₀
            show Owes _ _ _ _ (s₁.setTop (mkF m 72 #[.val (.int ((((p0.toUInt32 >>> ((16 : Int32) &&& 31).toUInt32).toInt32).toUInt32 >>> ((8 : Int32) &&& 31).toUInt32).toInt32)), .val (.int ((((31 : Int32) + (-16 : Int32)) + (-8 : Int32)) + (-2 : Int32)))] [(.int ((((((p0.toUInt32 >>> ((16 : Int32) &&& 31).toUInt32).toInt32).toUInt32 >>> ((8 : Int32) &&& 31).toUInt32).toInt32).toUInt32 >>> ((2 : Int32) &&& 31).toUInt32).toInt32))]))
            refine Owes.go ?_ fun t₀ k₀ => XS.istoreN X0.here hx rfl (hb hby d6_72) rfl (l' := #[.val (.int ((((((p0.toUInt32 >>> ((16 : Int32) &&& 31).toUInt32).toInt32).toUInt32 >>> ((8 : Int32) &&& 31).toUInt32).toInt32).toUInt32 >>> ((2 : Int32) &&& 31).toUInt32).toInt32)), .val (.int ((((31 : Int32) + (-16 : Int32)) + (-8 : Int32)) + (-2 : Int32)))]) rfl k₀
            show Owes _ _ _ _ (s₁.setTop (mkF m 73 #[.val (.int ((((((p0.toUInt32 >>> ((16 : Int32) &&& 31).toUInt32).toInt32).toUInt32 >>> ((8 : Int32) &&& 31).toUInt32).toInt32).toUInt32 >>> ((2 : Int32) &&& 31).toUInt32).toInt32)), .val (.int ((((31 : Int32) + (-16 : Int32)) + (-8 : Int32)) + (-2 : Int32)))] []))
            refine Owes.go ?_ fun t₀ k₀ => XS.iloadN X0.here hx rfl (hb hby d6_73) rfl k₀
            show Owes _ _ _ _ (s₁.setTop (mkF m 74 #[.val (.int ((((((p0.toUInt32 >>> ((16 : Int32) &&& 31).toUInt32).toInt32).toUInt32 >>> ((8 : Int32) &&& 31).toUInt32).toInt32).toUInt32 >>> ((2 : Int32) &&& 31).toUInt32).toInt32)), .val (.int ((((31 : Int32) + (-16 : Int32)) + (-8 : Int32)) + (-2 : Int32)))] [(.int ((((31 : Int32) + (-16 : Int32)) + (-8 : Int32)) + (-2 : Int32)))]))
            refine Owes.go ?_ fun t₀ k₀ => XS.iloadN X0.here hx rfl (hb hby d6_74) rfl k₀
            show Owes _ _ _ _ (s₁.setTop (mkF m 75 #[.val (.int ((((((p0.toUInt32 >>> ((16 : Int32) &&& 31).toUInt32).toInt32).toUInt32 >>> ((8 : Int32) &&& 31).toUInt32).toInt32).toUInt32 >>> ((2 : Int32) &&& 31).toUInt32).toInt32)), .val (.int ((((31 : Int32) + (-16 : Int32)) + (-8 : Int32)) + (-2 : Int32)))] [(.int ((((((p0.toUInt32 >>> ((16 : Int32) &&& 31).toUInt32).toInt32).toUInt32 >>> ((8 : Int32) &&& 31).toUInt32).toInt32).toUInt32 >>> ((2 : Int32) &&& 31).toUInt32).toInt32)), (.int ((((31 : Int32) + (-16 : Int32)) + (-8 : Int32)) + (-2 : Int32)))]))
            refine Owes.go ?_ fun t₀ k₀ => XS.iconst X0.here hx rfl (hb hby d6_75) k₀
            show Owes _ _ _ _ (s₁.setTop (mkF m 76 #[.val (.int ((((((p0.toUInt32 >>> ((16 : Int32) &&& 31).toUInt32).toInt32).toUInt32 >>> ((8 : Int32) &&& 31).toUInt32).toInt32).toUInt32 >>> ((2 : Int32) &&& 31).toUInt32).toInt32)), .val (.int ((((31 : Int32) + (-16 : Int32)) + (-8 : Int32)) + (-2 : Int32)))] [(.int (1 : Int32)), (.int ((((((p0.toUInt32 >>> ((16 : Int32) &&& 31).toUInt32).toInt32).toUInt32 >>> ((8 : Int32) &&& 31).toUInt32).toInt32).toUInt32 >>> ((2 : Int32) &&& 31).toUInt32).toInt32)), (.int ((((31 : Int32) + (-16 : Int32)) + (-8 : Int32)) + (-2 : Int32)))]))
            refine Owes.go ?_ fun t₀ k₀ => XS.iushr X0.here hx rfl (hb hby d6_76) rfl k₀
            show Owes _ _ _ _ (s₁.setTop (mkF m 77 #[.val (.int ((((((p0.toUInt32 >>> ((16 : Int32) &&& 31).toUInt32).toInt32).toUInt32 >>> ((8 : Int32) &&& 31).toUInt32).toInt32).toUInt32 >>> ((2 : Int32) &&& 31).toUInt32).toInt32)), .val (.int ((((31 : Int32) + (-16 : Int32)) + (-8 : Int32)) + (-2 : Int32)))] [(.int ((((((((p0.toUInt32 >>> ((16 : Int32) &&& 31).toUInt32).toInt32).toUInt32 >>> ((8 : Int32) &&& 31).toUInt32).toInt32).toUInt32 >>> ((2 : Int32) &&& 31).toUInt32).toInt32).toUInt32 >>> ((1 : Int32) &&& 31).toUInt32).toInt32)), (.int ((((31 : Int32) + (-16 : Int32)) + (-8 : Int32)) + (-2 : Int32)))]))
            refine Owes.go ?_ fun t₀ k₀ => XS.isub X0.here hx rfl (hb hby d6_77) rfl k₀
            show Owes _ _ _ _ (s₁.setTop (mkF m 78 #[.val (.int ((((((p0.toUInt32 >>> ((16 : Int32) &&& 31).toUInt32).toInt32).toUInt32 >>> ((8 : Int32) &&& 31).toUInt32).toInt32).toUInt32 >>> ((2 : Int32) &&& 31).toUInt32).toInt32)), .val (.int ((((31 : Int32) + (-16 : Int32)) + (-8 : Int32)) + (-2 : Int32)))] [(.int (((((31 : Int32) + (-16 : Int32)) + (-8 : Int32)) + (-2 : Int32)) - ((((((((p0.toUInt32 >>> ((16 : Int32) &&& 31).toUInt32).toInt32).toUInt32 >>> ((8 : Int32) &&& 31).toUInt32).toInt32).toUInt32 >>> ((2 : Int32) &&& 31).toUInt32).toInt32).toUInt32 >>> ((1 : Int32) &&& 31).toUInt32).toInt32)))]))
            exact Owes.retI X0 hx hlk hret (hb hby d6_78) (by decide) (by decide) ⟨congrArg (fun z => some (Value.int z)) (by unfold f_nlzI; rw [if_pos hc1, if_neg hc2, if_neg hc10, if_pos hc14, if_neg hc15]; first | done | rfl), rfl, e0⟩
        · skip
          refine Owes.go ?_ fun t₀ k₀ => XS.icmpNo X0.here hx rfl (hb hby d6_51) rfl (flt hc14).1 k₀
          show Owes _ _ _ _ (s₁.setTop (mkF m 54 #[.val (.int ((((p0.toUInt32 >>> ((16 : Int32) &&& 31).toUInt32).toInt32).toUInt32 >>> ((8 : Int32) &&& 31).toUInt32).toInt32)), .val (.int (((31 : Int32) + (-16 : Int32)) + (-8 : Int32)))] []))
          refine Owes.go ?_ fun t₀ k₀ => XS.iinc X0.here hx rfl (hb hby d6_54) rfl (l' := #[.val (.int ((((p0.toUInt32 >>> ((16 : Int32) &&& 31).toUInt32).toInt32).toUInt32 >>> ((8 : Int32) &&& 31).toUInt32).toInt32)), .val (.int ((((31 : Int32) + (-16 : Int32)) + (-8 : Int32)) + (-4 : Int32)))]) rfl k₀
          show Owes _ _ _ _ (s₁.setTop (mkF m 57 #[.val (.int ((((p0.toUInt32 >>> ((16 : Int32) &&& 31).toUInt32).toInt32).toUInt32 >>> ((8 : Int32) &&& 31).toUInt32).toInt32)), .val (.int ((((31 : Int32) + (-16 : Int32)) + (-8 : Int32)) + (-4 : Int32)))] []))
          refine Owes.go ?_ fun t₀ k₀ => XS.iloadN X0.here hx rfl (hb hby d6_57) rfl k₀
          show Owes _ _ _ _ (s₁.setTop (mkF m 58 #[.val (.int ((((p0.toUInt32 >>> ((16 : Int32) &&& 31).toUInt32).toInt32).toUInt32 >>> ((8 : Int32) &&& 31).toUInt32).toInt32)), .val (.int ((((31 : Int32) + (-16 : Int32)) + (-8 : Int32)) + (-4 : Int32)))] [(.int ((((p0.toUInt32 >>> ((16 : Int32) &&& 31).toUInt32).toInt32).toUInt32 >>> ((8 : Int32) &&& 31).toUInt32).toInt32))]))
          refine Owes.go ?_ fun t₀ k₀ => XS.iconst X0.here hx rfl (hb hby d6_58) k₀
          show Owes _ _ _ _ (s₁.setTop (mkF m 59 #[.val (.int ((((p0.toUInt32 >>> ((16 : Int32) &&& 31).toUInt32).toInt32).toUInt32 >>> ((8 : Int32) &&& 31).toUInt32).toInt32)), .val (.int ((((31 : Int32) + (-16 : Int32)) + (-8 : Int32)) + (-4 : Int32)))] [(.int (4 : Int32)), (.int ((((p0.toUInt32 >>> ((16 : Int32) &&& 31).toUInt32).toInt32).toUInt32 >>> ((8 : Int32) &&& 31).toUInt32).toInt32))]))
          refine Owes.go ?_ fun t₀ k₀ => XS.iushr X0.here hx rfl (hb hby d6_59) rfl k₀
          show Owes _ _ _ _ (s₁.setTop (mkF m 60 #[.val (.int ((((p0.toUInt32 >>> ((16 : Int32) &&& 31).toUInt32).toInt32).toUInt32 >>> ((8 : Int32) &&& 31).toUInt32).toInt32)), .val (.int ((((31 : Int32) + (-16 : Int32)) + (-8 : Int32)) + (-4 : Int32)))] [(.int ((((((p0.toUInt32 >>> ((16 : Int32) &&& 31).toUInt32).toInt32).toUInt32 >>> ((8 : Int32) &&& 31).toUInt32).toInt32).toUInt32 >>> ((4 : Int32) &&& 31).toUInt32).toInt32))]))
          refine Owes.go ?_ fun t₀ k₀ => XS.istoreN X0.here hx rfl (hb hby d6_60) rfl (l' := #[.val (.int ((((((p0.toUInt32 >>> ((16 : Int32) &&& 31).toUInt32).toInt32).toUInt32 >>> ((8 : Int32) &&& 31).toUInt32).toInt32).toUInt32 >>> ((4 : Int32) &&& 31).toUInt32).toInt32)), .val (.int ((((31 : Int32) + (-16 : Int32)) + (-8 : Int32)) + (-4 : Int32)))]) rfl k₀
          show Owes _ _ _ _ (s₁.setTop (mkF m 61 #[.val (.int ((((((p0.toUInt32 >>> ((16 : Int32) &&& 31).toUInt32).toInt32).toUInt32 >>> ((8 : Int32) &&& 31).toUInt32).toInt32).toUInt32 >>> ((4 : Int32) &&& 31).toUInt32).toInt32)), .val (.int ((((31 : Int32) + (-16 : Int32)) + (-8 : Int32)) + (-4 : Int32)))] []))
          refine Owes.go ?_ fun t₀ k₀ => XS.iloadN X0.here hx rfl (hb hby d6_61) rfl k₀
          show Owes _ _ _ _ (s₁.setTop (mkF m 62 #[.val (.int ((((((p0.toUInt32 >>> ((16 : Int32) &&& 31).toUInt32).toInt32).toUInt32 >>> ((8 : Int32) &&& 31).toUInt32).toInt32).toUInt32 >>> ((4 : Int32) &&& 31).toUInt32).toInt32)), .val (.int ((((31 : Int32) + (-16 : Int32)) + (-8 : Int32)) + (-4 : Int32)))] [(.int ((((((p0.toUInt32 >>> ((16 : Int32) &&& 31).toUInt32).toInt32).toUInt32 >>> ((8 : Int32) &&& 31).toUInt32).toInt32).toUInt32 >>> ((4 : Int32) &&& 31).toUInt32).toInt32))]))
          refine Owes.go ?_ fun t₀ k₀ => XS.iconst X0.here hx rfl (hb hby d6_62) k₀
          show Owes _ _ _ _ (s₁.setTop (mkF m 63 #[.val (.int ((((((p0.toUInt32 >>> ((16 : Int32) &&& 31).toUInt32).toInt32).toUInt32 >>> ((8 : Int32) &&& 31).toUInt32).toInt32).toUInt32 >>> ((4 : Int32) &&& 31).toUInt32).toInt32)), .val (.int ((((31 : Int32) + (-16 : Int32)) + (-8 : Int32)) + (-4 : Int32)))] [(.int (4 : Int32)), (.int ((((((p0.toUInt32 >>> ((16 : Int32) &&& 31).toUInt32).toInt32).toUInt32 >>> ((8 : Int32) &&& 31).toUInt32).toInt32).toUInt32 >>> ((4 : Int32) &&& 31).toUInt32).toInt32))]))
          by_cases hc16 : ((((((p0.toUInt32 >>> ((16 : Int32) &&& 31).toUInt32).toInt32).toUInt32 >>> ((8 : Int32) &&& 31).toUInt32).toInt32).toUInt32 >>> ((4 : Int32) &&& 31).toUInt32).toInt32) < (4 : Int32)
          · skip
            refine Owes.go ?_ fun t₀ k₀ => XS.icmpYes X0.here hx rfl (pc0 := 63) (pc' := 73) rfl (hb hby d6_63) rfl (tlt hc16).1 (by decide) (by decide) k₀
            show Owes _ _ _ _ (s₁.setTop (mkF m 73 #[.val (.int ((((((p0.toUInt32 >>> ((16 : Int32) &&& 31).toUInt32).toInt32).toUInt32 >>> ((8 : Int32) &&& 31).toUInt32).toInt32).toUInt32 >>> ((4 : Int32) &&& 31).toUInt32).toInt32)), .val (.int ((((31 : Int32) + (-16 : Int32)) + (-8 : Int32)) + (-4 : Int32)))] []))
            refine Owes.go ?_ fun t₀ k₀ => XS.iloadN X0.here hx rfl (hb hby d6_73) rfl k₀
            show Owes _ _ _ _ (s₁.setTop (mkF m 74 #[.val (.int ((((((p0.toUInt32 >>> ((16 : Int32) &&& 31).toUInt32).toInt32).toUInt32 >>> ((8 : Int32) &&& 31).toUInt32).toInt32).toUInt32 >>> ((4 : Int32) &&& 31).toUInt32).toInt32)), .val (.int ((((31 : Int32) + (-16 : Int32)) + (-8 : Int32)) + (-4 : Int32)))] [(.int ((((31 : Int32) + (-16 : Int32)) + (-8 : Int32)) + (-4 : Int32)))]))
            refine Owes.go ?_ fun t₀ k₀ => XS.iloadN X0.here hx rfl (hb hby d6_74) rfl k₀
            show Owes _ _ _ _ (s₁.setTop (mkF m 75 #[.val (.int ((((((p0.toUInt32 >>> ((16 : Int32) &&& 31).toUInt32).toInt32).toUInt32 >>> ((8 : Int32) &&& 31).toUInt32).toInt32).toUInt32 >>> ((4 : Int32) &&& 31).toUInt32).toInt32)), .val (.int ((((31 : Int32) + (-16 : Int32)) + (-8 : Int32)) + (-4 : Int32)))] [(.int ((((((p0.toUInt32 >>> ((16 : Int32) &&& 31).toUInt32).toInt32).toUInt32 >>> ((8 : Int32) &&& 31).toUInt32).toInt32).toUInt32 >>> ((4 : Int32) &&& 31).toUInt32).toInt32)), (.int ((((31 : Int32) + (-16 : Int32)) + (-8 : Int32)) + (-4 : Int32)))]))
            refine Owes.go ?_ fun t₀ k₀ => XS.iconst X0.here hx rfl (hb hby d6_75) k₀
            show Owes _ _ _ _ (s₁.setTop (mkF m 76 #[.val (.int ((((((p0.toUInt32 >>> ((16 : Int32) &&& 31).toUInt32).toInt32).toUInt32 >>> ((8 : Int32) &&& 31).toUInt32).toInt32).toUInt32 >>> ((4 : Int32) &&& 31).toUInt32).toInt32)), .val (.int ((((31 : Int32) + (-16 : Int32)) + (-8 : Int32)) + (-4 : Int32)))] [(.int (1 : Int32)), (.int ((((((p0.toUInt32 >>> ((16 : Int32) &&& 31).toUInt32).toInt32).toUInt32 >>> ((8 : Int32) &&& 31).toUInt32).toInt32).toUInt32 >>> ((4 : Int32) &&& 31).toUInt32).toInt32)), (.int ((((31 : Int32) + (-16 : Int32)) + (-8 : Int32)) + (-4 : Int32)))]))
            refine Owes.go ?_ fun t₀ k₀ => XS.iushr X0.here hx rfl (hb hby d6_76) rfl k₀
            show Owes _ _ _ _ (s₁.setTop (mkF m 77 #[.val (.int ((((((p0.toUInt32 >>> ((16 : Int32) &&& 31).toUInt32).toInt32).toUInt32 >>> ((8 : Int32) &&& 31).toUInt32).toInt32).toUInt32 >>> ((4 : Int32) &&& 31).toUInt32).toInt32)), .val (.int ((((31 : Int32) + (-16 : Int32)) + (-8 : Int32)) + (-4 : Int32)))] [(.int ((((((((p0.toUInt32 >>> ((16 : Int32) &&& 31).toUInt32).toInt32).toUInt32 >>> ((8 : Int32) &&& 31).toUInt32).toInt32).toUInt32 >>> ((4 : Int32) &&& 31).toUInt32).toInt32).toUInt32 >>> ((1 : Int32) &&& 31).toUInt32).toInt32)), (.int ((((31 : Int32) + (-16 : Int32)) + (-8 : Int32)) + (-4 : Int32)))]))
            refine Owes.go ?_ fun t₀ k₀ => XS.isub X0.here hx rfl (hb hby d6_77) rfl k₀
            show Owes _ _ _ _ (s₁.setTop (mkF m 78 #[.val (.int ((((((p0.toUInt32 >>> ((16 : Int32) &&& 31).toUInt32).toInt32).toUInt32 >>> ((8 : Int32) &&& 31).toUInt32).toInt32).toUInt32 >>> ((4 : Int32) &&& 31).toUInt32).toInt32)), .val (.int ((((31 : Int32) + (-16 : Int32)) + (-8 : Int32)) + (-4 : Int32)))] [(.int (((((31 : Int32) + (-16 : Int32)) + (-8 : Int32)) + (-4 : Int32)) - ((((((((p0.toUInt32 >>> ((16 : Int32) &&& 31).toUInt32).toInt32).toUInt32 >>> ((8 : Int32) &&& 31).toUInt32).toInt32).toUInt32 >>> ((4 : Int32) &&& 31).toUInt32).toInt32).toUInt32 >>> ((1 : Int32) &&& 31).toUInt32).toInt32)))]))
            exact Owes.retI X0 hx hlk hret (hb hby d6_78) (by decide) (by decide) ⟨congrArg (fun z => some (Value.int z)) (by unfold f_nlzI; rw [if_pos hc1, if_neg hc2, if_neg hc10, if_neg hc14, if_pos hc16]; first | done | rfl), rfl, e0⟩
          · skip
            refine Owes.go ?_ fun t₀ k₀ => XS.icmpNo X0.here hx rfl (hb hby d6_63) rfl (flt hc16).1 k₀
            show Owes _ _ _ _ (s₁.setTop (mkF m 66 #[.val (.int ((((((p0.toUInt32 >>> ((16 : Int32) &&& 31).toUInt32).toInt32).toUInt32 >>> ((8 : Int32) &&& 31).toUInt32).toInt32).toUInt32 >>> ((4 : Int32) &&& 31).toUInt32).toInt32)), .val (.int ((((31 : Int32) + (-16 : Int32)) + (-8 : Int32)) + (-4 : Int32)))] []))
            refine Owes.go ?_ fun t₀ k₀ => XS.iinc X0.here hx rfl (hb hby d6_66) rfl (l' := #[.val (.int ((((((p0.toUInt32 >>> ((16 : Int32) &&& 31).toUInt32).toInt32).toUInt32 >>> ((8 : Int32) &&& 31).toUInt32).toInt32).toUInt32 >>> ((4 : Int32) &&& 31).toUInt32).toInt32)), .val (.int (((((31 : Int32) + (-16 : Int32)) + (-8 : Int32)) + (-4 : Int32)) + (-2 : Int32)))]) rfl k₀
            show Owes _ _ _ _ (s₁.setTop (mkF m 69 #[.val (.int ((((((p0.toUInt32 >>> ((16 : Int32) &&& 31).toUInt32).toInt32).toUInt32 >>> ((8 : Int32) &&& 31).toUInt32).toInt32).toUInt32 >>> ((4 : Int32) &&& 31).toUInt32).toInt32)), .val (.int (((((31 : Int32) + (-16 : Int32)) + (-8 : Int32)) + (-4 : Int32)) + (-2 : Int32)))] []))
            refine Owes.go ?_ fun t₀ k₀ => XS.iloadN X0.here hx rfl (hb hby d6_69) rfl k₀
            show Owes _ _ _ _ (s₁.setTop (mkF m 70 #[.val (.int ((((((p0.toUInt32 >>> ((16 : Int32) &&& 31).toUInt32).toInt32).toUInt32 >>> ((8 : Int32) &&& 31).toUInt32).toInt32).toUInt32 >>> ((4 : Int32) &&& 31).toUInt32).toInt32)), .val (.int (((((31 : Int32) + (-16 : Int32)) + (-8 : Int32)) + (-4 : Int32)) + (-2 : Int32)))] [(.int ((((((p0.toUInt32 >>> ((16 : Int32) &&& 31).toUInt32).toInt32).toUInt32 >>> ((8 : Int32) &&& 31).toUInt32).toInt32).toUInt32 >>> ((4 : Int32) &&& 31).toUInt32).toInt32))]))
            refine Owes.go ?_ fun t₀ k₀ => XS.iconst X0.here hx rfl (hb hby d6_70) k₀
            show Owes _ _ _ _ (s₁.setTop (mkF m 71 #[.val (.int ((((((p0.toUInt32 >>> ((16 : Int32) &&& 31).toUInt32).toInt32).toUInt32 >>> ((8 : Int32) &&& 31).toUInt32).toInt32).toUInt32 >>> ((4 : Int32) &&& 31).toUInt32).toInt32)), .val (.int (((((31 : Int32) + (-16 : Int32)) + (-8 : Int32)) + (-4 : Int32)) + (-2 : Int32)))] [(.int (2 : Int32)), (.int ((((((p0.toUInt32 >>> ((16 : Int32) &&& 31).toUInt32).toInt32).toUInt32 >>> ((8 : Int32) &&& 31).toUInt32).toInt32).toUInt32 >>> ((4 : Int32) &&& 31).toUInt32).toInt32))]))
            refine Owes.go ?_ fun t₀ k₀ => XS.iushr X0.here hx rfl (hb hby d6_71) rfl k₀
            show Owes _ _ _ _ (s₁.setTop (mkF m 72 #[.val (.int ((((((p0.toUInt32 >>> ((16 : Int32) &&& 31).toUInt32).toInt32).toUInt32 >>> ((8 : Int32) &&& 31).toUInt32).toInt32).toUInt32 >>> ((4 : Int32) &&& 31).toUInt32).toInt32)), .val (.int (((((31 : Int32) + (-16 : Int32)) + (-8 : Int32)) + (-4 : Int32)) + (-2 : Int32)))] [(.int ((((((((p0.toUInt32 >>> ((16 : Int32) &&& 31).toUInt32).toInt32).toUInt32 >>> ((8 : Int32) &&& 31).toUInt32).toInt32).toUInt32 >>> ((4 : Int32) &&& 31).toUInt32).toInt32).toUInt32 >>> ((2 : Int32) &&& 31).toUInt32).toInt32))]))
            refine Owes.go ?_ fun t₀ k₀ => XS.istoreN X0.here hx rfl (hb hby d6_72) rfl (l' := #[.val (.int ((((((((p0.toUInt32 >>> ((16 : Int32) &&& 31).toUInt32).toInt32).toUInt32 >>> ((8 : Int32) &&& 31).toUInt32).toInt32).toUInt32 >>> ((4 : Int32) &&& 31).toUInt32).toInt32).toUInt32 >>> ((2 : Int32) &&& 31).toUInt32).toInt32)), .val (.int (((((31 : Int32) + (-16 : Int32)) + (-8 : Int32)) + (-4 : Int32)) + (-2 : Int32)))]) rfl k₀
            show Owes _ _ _ _ (s₁.setTop (mkF m 73 #[.val (.int ((((((((p0.toUInt32 >>> ((16 : Int32) &&& 31).toUInt32).toInt32).toUInt32 >>> ((8 : Int32) &&& 31).toUInt32).toInt32).toUInt32 >>> ((4 : Int32) &&& 31).toUInt32).toInt32).toUInt32 >>> ((2 : Int32) &&& 31).toUInt32).toInt32)), .val (.int (((((31 : Int32) + (-16 : Int32)) + (-8 : Int32)) + (-4 : Int32)) + (-2 : Int32)))] []))
            refine Owes.go ?_ fun t₀ k₀ => XS.iloadN X0.here hx rfl (hb hby d6_73) rfl k₀
            show Owes _ _ _ _ (s₁.setTop (mkF m 74 #[.val (.int ((((((((p0.toUInt32 >>> ((16 : Int32) &&& 31).toUInt32).toInt32).toUInt32 >>> ((8 : Int32) &&& 31).toUInt32).toInt32).toUInt32 >>> ((4 : Int32) &&& 31).toUInt32).toInt32).toUInt32 >>> ((2 : Int32) &&& 31).toUInt32).toInt32)), .val (.int (((((31 : Int32) + (-16 : Int32)) + (-8 : Int32)) + (-4 : Int32)) + (-2 : Int32)))] [(.int (((((31 : Int32) + (-16 : Int32)) + (-8 : Int32)) + (-4 : Int32)) + (-2 : Int32)))]))
            refine Owes.go ?_ fun t₀ k₀ => XS.iloadN X0.here hx rfl (hb hby d6_74) rfl k₀
            show Owes _ _ _ _ (s₁.setTop (mkF m 75 #[.val (.int ((((((((p0.toUInt32 >>> ((16 : Int32) &&& 31).toUInt32).toInt32).toUInt32 >>> ((8 : Int32) &&& 31).toUInt32).toInt32).toUInt32 >>> ((4 : Int32) &&& 31).toUInt32).toInt32).toUInt32 >>> ((2 : Int32) &&& 31).toUInt32).toInt32)), .val (.int (((((31 : Int32) + (-16 : Int32)) + (-8 : Int32)) + (-4 : Int32)) + (-2 : Int32)))] [(.int ((((((((p0.toUInt32 >>> ((16 : Int32) &&& 31).toUInt32).toInt32).toUInt32 >>> ((8 : Int32) &&& 31).toUInt32).toInt32).toUInt32 >>> ((4 : Int32) &&& 31).toUInt32).toInt32).toUInt32 >>> ((2 : Int32) &&& 31).toUInt32).toInt32)), (.int (((((31 : Int32) + (-16 : Int32)) + (-8 : Int32)) + (-4 : Int32)) + (-2 : Int32)))]))
            refine Owes.go ?_ fun t₀ k₀ => XS.iconst X0.here hx rfl (hb hby d6_75) k₀
            show Owes _ _ _ _ (s₁.setTop (mkF m 76 #[.val (.int ((((((((p0.toUInt32 >>> ((16 : Int32) &&& 31).toUInt32).toInt32).toUInt32 >>> ((8 : Int32) &&& 31).toUInt32).toInt32).toUInt32 >>> ((4 : Int32) &&& 31).toUInt32).toInt32).toUInt32 >>> ((2 : Int32) &&& 31).toUInt32).toInt32)), .val (.int (((((31 : Int32) + (-16 : Int32)) + (-8 : Int32)) + (-4 : Int32)) + (-2 : Int32)))] [(.int (1 : Int32)), (.int ((((((((p0.toUInt32 >>> ((16 : Int32) &&& 31).toUInt32).toInt32).toUInt32 >>> ((8 : Int32) &&& 31).toUInt32).toInt32).toUInt32 >>> ((4 : Int32) &&& 31).toUInt32).toInt32).toUInt32 >>> ((2 : Int32) &&& 31).toUInt32).toInt32)), (.int (((((31 : Int32) + (-16 : Int32)) + (-8 : Int32)) + (-4 : Int32)) + (-2 : Int32)))]))
            refine Owes.go ?_ fun t₀ k₀ => XS.iushr X0.here hx rfl (hb hby d6_76) rfl k₀
            show Owes _ _ _ _ (s₁.setTop (mkF m 77 #[.val (.int ((((((((p0.toUInt32 >>> ((16 : Int32) &&& 31).toUInt32).toInt32).toUInt32 >>> ((8 : Int32) &&& 31).toUInt32).toInt32).toUInt32 >>> ((4 : Int32) &&& 31).toUInt32).toInt32).toUInt32 >>> ((2 : Int32) &&& 31).toUInt32).toInt32)), .val (.int (((((31 : Int32) + (-16 : Int32)) + (-8 : Int32)) + (-4 : Int32)) + (-2 : Int32)))] [(.int ((((((((((p0.toUInt32 >>> ((16 : Int32) &&& 31).toUInt32).toInt32).toUInt32 >>> ((8 : Int32) &&& 31).toUInt32).toInt32).toUInt32 >>> ((4 : Int32) &&& 31).toUInt32).toInt32).toUInt32 >>> ((2 : Int32) &&& 31).toUInt32).toInt32).toUInt32 >>> ((1 : Int32) &&& 31).toUInt32).toInt32)), (.int (((((31 : Int32) + (-16 : Int32)) + (-8 : Int32)) + (-4 : Int32)) + (-2 : Int32)))]))
            refine Owes.go ?_ fun t₀ k₀ => XS.isub X0.here hx rfl (hb hby d6_77) rfl k₀
            show Owes _ _ _ _ (s₁.setTop (mkF m 78 #[.val (.int ((((((((p0.toUInt32 >>> ((16 : Int32) &&& 31).toUInt32).toInt32).toUInt32 >>> ((8 : Int32) &&& 31).toUInt32).toInt32).toUInt32 >>> ((4 : Int32) &&& 31).toUInt32).toInt32).toUInt32 >>> ((2 : Int32) &&& 31).toUInt32).toInt32)), .val (.int (((((31 : Int32) + (-16 : Int32)) + (-8 : Int32)) + (-4 : Int32)) + (-2 : Int32)))] [(.int ((((((31 : Int32) + (-16 : Int32)) + (-8 : Int32)) + (-4 : Int32)) + (-2 : Int32)) - ((((((((((p0.toUInt32 >>> ((16 : Int32) &&& 31).toUInt32).toInt32).toUInt32 >>> ((8 : Int32) &&& 31).toUInt32).toInt32).toUInt32 >>> ((4 : Int32) &&& 31).toUInt32).toInt32).toUInt32 >>> ((2 : Int32) &&& 31).toUInt32).toInt32).toUInt32 >>> ((1 : Int32) &&& 31).toUInt32).toInt32)))]))
            exact Owes.retI X0 hx hlk hret (hb hby d6_78) (by decide) (by decide) ⟨congrArg (fun z => some (Value.int z)) (by unfold f_nlzI; rw [if_pos hc1, if_neg hc2, if_neg hc10, if_neg hc14, if_neg hc16]; first | done | rfl), rfl, e0⟩
  · skip
    refine Owes.go ?_ fun t₀ k₀ => XS.ifNo X0.here hx rfl (hb hby d6_1) rfl ((if0 _ _).trans (flt hc1).2.2.1) k₀
    show Owes _ _ _ _ (s₁.setTop (mkF m 4 #[.val (.int p0), .unset] []))
    refine Owes.go ?_ fun t₀ k₀ => XS.iloadN X0.here hx rfl (hb hby d6_4) rfl k₀
    show Owes _ _ _ _ (s₁.setTop (mkF m 5 #[.val (.int p0), .unset] [(.int p0)]))
    by_cases hc17 : p0 = (0 : Int32)
    · skip
      refine Owes.go ?_ fun t₀ k₀ => XS.ifNo X0.here hx rfl (hb hby d6_5) rfl ((if0 _ _).trans (teq hc17).2) k₀
      show Owes _ _ _ _ (s₁.setTop (mkF m 8 #[.val (.int p0), .unset] []))
      refine Owes.go ?_ fun t₀ k₀ => XS.bipush X0.here hx rfl (hb hby d6_8) k₀
      show Owes _ _ _ _ (s₁.setTop (mkF m 10 #[.val (.int p0), .unset] [(.int (32 : Int32))]))
      refine Owes.go ?_ fun t₀ k₀ => XS.goto X0.here hx rfl (pc0 := 10) (pc' := 14) rfl (hb hby d6_10) (by decide) (by decide) k₀
      show Owes _ _ _ _ (s₁.setTop (mkF m 14 #[.val (.int p0), .unset] [(.int (32 : Int32))]))
      exact Owes.retI X0 hx hlk hret (hb hby d6_14) (by decide) (by decide) ⟨congrArg (fun z => some (Value.int z)) (by unfold f_nlzI; rw [if_neg hc1, if_pos hc17]; first | done | rfl), rfl, e0⟩
    · skip
      refine Owes.go ?_ fun t₀ k₀ => XS.ifYes X0.here hx rfl (pc0 := 5) (pc' := 13) rfl (hb hby d6_5) rfl ((if0 _ _).trans (feq hc17).2) (by decide) (by decide) k₀
      show Owes _ _ _ _ (s₁.setTop (mkF m 13 #[.val (.int p0), .unset] []))
      refine Owes.go ?_ fun t₀ k₀ => XS.iconst X0.here hx rfl (hb hby d6_13) k₀
      show Owes _ _ _ _ (s₁.setTop (mkF m 14 #[.val (.int p0), .unset] [(.int (0 : Int32))]))
      exact Owes.retI X0 hx hlk hret (hb hby d6_14) (by decide) (by decide) ⟨congrArg (fun z => some (Value.int z)) (by unfold f_nlzI; rw [if_neg hc1, if_neg hc17]; first | done | rfl), rfl, e0⟩
theorem d5_0 : decode jdk_35_method_48_code 0 = .ok (.lload_n 0, 1) := by decide +kernel
theorem d5_1 : decode jdk_35_method_48_code 1 = .ok (.bipush 32, 2) := by decide +kernel
theorem d5_3 : decode jdk_35_method_48_code 3 = .ok (.lushr, 1) := by decide +kernel
theorem d5_4 : decode jdk_35_method_48_code 4 = .ok (.l2i, 1) := by decide +kernel
theorem d5_5 : decode jdk_35_method_48_code 5 = .ok (.istore_n 2, 1) := by decide +kernel
theorem d5_6 : decode jdk_35_method_48_code 6 = .ok (.iload_n 2, 1) := by decide +kernel
theorem d5_7 : decode jdk_35_method_48_code 7 = .ok (.ifCond .ne 14, 3) := by decide +kernel
theorem d5_10 : decode jdk_35_method_48_code 10 = .ok (.bipush 32, 2) := by decide +kernel
theorem d5_12 : decode jdk_35_method_48_code 12 = .ok (.lload_n 0, 1) := by decide +kernel
theorem d5_13 : decode jdk_35_method_48_code 13 = .ok (.l2i, 1) := by decide +kernel
theorem d5_14 : decode jdk_35_method_48_code 14 = .ok (.invokestatic 308, 3) := by decide +kernel
theorem pd_0 : parseMethodDescriptor "(I)I" = some ⟨[.int], some .int⟩ := by decide +kernel
theorem d5_17 : decode jdk_35_method_48_code 17 = .ok (.iadd, 1) := by decide +kernel
theorem d5_18 : decode jdk_35_method_48_code 18 = .ok (.goto 7, 3) := by decide +kernel
theorem d5_25 : decode jdk_35_method_48_code 25 = .ok (.ireturn, 1) := by decide +kernel
theorem d5_21 : decode jdk_35_method_48_code 21 = .ok (.iload_n 2, 1) := by decide +kernel
theorem d5_22 : decode jdk_35_method_48_code 22 = .ok (.invokestatic 308, 3) := by decide +kernel
def f_nlzJ (q0 : Int64)  : Int32 := (if (((q0.toUInt64 >>> ((32 : Int32) &&& 0x3f).toInt64.toUInt64).toInt64).toInt32) = (0 : Int32) then ((32 : Int32) + (f_nlzI (q0.toInt32))) else (f_nlzI (((q0.toUInt64 >>> ((32 : Int32) &&& 0x3f).toInt64.toUInt64).toInt64).toInt32)))
theorem ef_5_f_nlzJ (m : MethodId) (q0 : Int64) : entryFrame m #[(.long q0)] 3 = mkF m 0 #[.val (.long q0), .second, .unset] [] := by first | (simp [entryFrame, mkF, argsToLocals, Value.category]; done) | rfl
theorem pn_5 : plainFor (⟨"java/lang/Long", "numberOfLeadingZeros", "(J)I"⟩ : MethodName) = true := plainFor_of_name (by first | (simp [plainName, overriddenIn]; done) | decide +kernel)
set_option maxRecDepth 65536 in
set_option maxHeartbeats 40000000 in
theorem rm_f_nlzJ (l : Launch) (Z : State) (a0 : Array Value) (hw : ∀ d ∈ tables_1, d.before a0 Z = true) (ws : List Jvm.Cond) (q0 : Int64) (h0 : Heap)  :
    OMet l (⟨"java/lang/Long", "numberOfLeadingZeros", "(J)I"⟩ : MethodName) jdk_35_method_48_code 3 (some .int) ws ({ frames := 1, cells := 0, slots := 0, locals := 14 } : Room) #[(.long q0)] Z h0 (fun v h L => v = some (Value.int (f_nlzJ q0)) ∧ L = [] ∧ h = h0) := by
  refine OMet.of pn_5 (fun m => ef_5_f_nlzJ m q0) ?_
  intro p e s m below meth c s₁ hx hby hml hown hnm hret hlk hZ X0 e0
  refine Owes.go ?_ fun t₀ k₀ => XS.lloadN X0.here hx rfl (hb hby d5_0) rfl k₀
  show Owes _ _ _ _ (s₁.setTop (mkF m 1 #[.val (.long q0), .second, .unset] [(.long q0)]))
  refine Owes.go ?_ fun t₀ k₀ => XS.bipush X0.here hx rfl (hb hby d5_1) k₀
  show Owes _ _ _ _ (s₁.setTop (mkF m 3 #[.val (.long q0), .second, .unset] [(.int (32 : Int32)), (.long q0)]))
  refine Owes.go ?_ fun t₀ k₀ => XS.lushr X0.here hx rfl (hb hby d5_3) rfl k₀
  show Owes _ _ _ _ (s₁.setTop (mkF m 4 #[.val (.long q0), .second, .unset] [(.long ((q0.toUInt64 >>> ((32 : Int32) &&& 0x3f).toInt64.toUInt64).toInt64))]))
  refine Owes.go ?_ fun t₀ k₀ => XS.l2i X0.here hx rfl (hb hby d5_4) rfl k₀
  show Owes _ _ _ _ (s₁.setTop (mkF m 5 #[.val (.long q0), .second, .unset] [(.int (((q0.toUInt64 >>> ((32 : Int32) &&& 0x3f).toInt64.toUInt64).toInt64).toInt32))]))
  refine Owes.go ?_ fun t₀ k₀ => XS.istoreN X0.here hx rfl (hb hby d5_5) rfl (l' := #[.val (.long q0), .second, .val (.int (((q0.toUInt64 >>> ((32 : Int32) &&& 0x3f).toInt64.toUInt64).toInt64).toInt32))]) rfl k₀
  show Owes _ _ _ _ (s₁.setTop (mkF m 6 #[.val (.long q0), .second, .val (.int (((q0.toUInt64 >>> ((32 : Int32) &&& 0x3f).toInt64.toUInt64).toInt64).toInt32))] []))
  refine Owes.go ?_ fun t₀ k₀ => XS.iloadN X0.here hx rfl (hb hby d5_6) rfl k₀
  show Owes _ _ _ _ (s₁.setTop (mkF m 7 #[.val (.long q0), .second, .val (.int (((q0.toUInt64 >>> ((32 : Int32) &&& 0x3f).toInt64.toUInt64).toInt64).toInt32))] [(.int (((q0.toUInt64 >>> ((32 : Int32) &&& 0x3f).toInt64.toUInt64).toInt64).toInt32))]))
  by_cases hc1 : (((q0.toUInt64 >>> ((32 : Int32) &&& 0x3f).toInt64.toUInt64).toInt64).toInt32) = (0 : Int32)
  · skip
    refine Owes.go ?_ fun t₀ k₀ => XS.ifNo X0.here hx rfl (hb hby d5_7) rfl ((if0 _ _).trans (teq hc1).2) k₀
    show Owes _ _ _ _ (s₁.setTop (mkF m 10 #[.val (.long q0), .second, .val (.int (((q0.toUInt64 >>> ((32 : Int32) &&& 0x3f).toInt64.toUInt64).toInt64).toInt32))] []))
    refine Owes.go ?_ fun t₀ k₀ => XS.bipush X0.here hx rfl (hb hby d5_10) k₀
    show Owes _ _ _ _ (s₁.setTop (mkF m 12 #[.val (.long q0), .second, .val (.int (((q0.toUInt64 >>> ((32 : Int32) &&& 0x3f).toInt64.toUInt64).toInt64).toInt32))] [(.int (32 : Int32))]))
    refine Owes.go ?_ fun t₀ k₀ => XS.lloadN X0.here hx rfl (hb hby d5_12) rfl k₀
    show Owes _ _ _ _ (s₁.setTop (mkF m 13 #[.val (.long q0), .second, .val (.int (((q0.toUInt64 >>> ((32 : Int32) &&& 0x3f).toInt64.toUInt64).toInt64).toInt32))] [(.long q0), (.int (32 : Int32))]))
    refine Owes.go ?_ fun t₀ k₀ => XS.l2i X0.here hx rfl (hb hby d5_13) rfl k₀
    show Owes _ _ _ _ (s₁.setTop (mkF m 14 #[.val (.long q0), .second, .val (.int (((q0.toUInt64 >>> ((32 : Int32) &&& 0x3f).toInt64.toUInt64).toInt64).toInt32))] [(.int (q0.toInt32)), (.int (32 : Int32))]))
    refine Owes.callS X0 hx hZ hown (hw _ (List.mem_of_getElem? (i := 20) rfl)) (hw _ (List.mem_of_getElem? (i := 21) rfl)) (hw _ (List.mem_of_getElem? (i := 22) rfl)) (hw _ (List.mem_of_getElem? (i := 23) rfl)) (by decide) (argsL := [(.int (q0.toInt32))]) (rest := [(.int (32 : Int32))]) (rm_f_nlzI l Z a0 hw [] (q0.toInt32) h0 ) e0 (by rw [hml]; rfl) pd_0 rfl rfl (hb hby d5_14) (by decide) (Nat.le_of_ble_eq_true rfl) (by decide) (by decide) ?_
    rintro T1 _ _ X1 ⟨rfl, rfl, e1⟩
    rw [List.append_nil] at X1
    show Owes _ _ _ _ (T1.setTop (mkF m 17 #[.val (.long q0), .second, .val (.int (((q0.toUInt64 >>> ((32 : Int32) &&& 0x3f).toInt64.toUInt64).toInt64).toInt32))] [(.int (f_nlzI (q0.toInt32))), (.int (32 : Int32))]))
    refine Owes.go ?_ fun t₀ k₀ => XS.iadd X1.here hx rfl (hb hby d5_17) rfl k₀
    show Owes _ _ _ _ (T1.setTop (mkF m 18 #[.val (.long q0), .second, .val (.int (((q0.toUInt64 >>> ((32 : Int32) &&& 0x3f).toInt64.toUInt64).toInt64).toInt32))] [(.int ((32 : Int32) + (f_nlzI (q0.toInt32))))]))
    refine Owes.go ?_ fun t₀ k₀ => XS.goto X1.here hx rfl (pc0 := 18) (pc' := 25) rfl (hb hby d5_18) (by decide) (by decide) k₀
    show Owes _ _ _ _ (T1.setTop (mkF m 25 #[.val (.long q0), .second, .val (.int (((q0.toUInt64 >>> ((32 : Int32) &&& 0x3f).toInt64.toUInt64).toInt64).toInt32))] [(.int ((32 : Int32) + (f_nlzI (q0.toInt32))))]))
    exact Owes.retI X1 hx hlk hret (hb hby d5_25) (by decide) (by decide) ⟨congrArg (fun z => some (Value.int z)) (by unfold f_nlzJ; rw [if_pos hc1]; first | done | rfl), rfl, e1⟩
  · skip
    refine Owes.go ?_ fun t₀ k₀ => XS.ifYes X0.here hx rfl (pc0 := 7) (pc' := 21) rfl (hb hby d5_7) rfl ((if0 _ _).trans (feq hc1).2) (by decide) (by decide) k₀
    show Owes _ _ _ _ (s₁.setTop (mkF m 21 #[.val (.long q0), .second, .val (.int (((q0.toUInt64 >>> ((32 : Int32) &&& 0x3f).toInt64.toUInt64).toInt64).toInt32))] []))
    refine Owes.go ?_ fun t₀ k₀ => XS.iloadN X0.here hx rfl (hb hby d5_21) rfl k₀
    show Owes _ _ _ _ (s₁.setTop (mkF m 22 #[.val (.long q0), .second, .val (.int (((q0.toUInt64 >>> ((32 : Int32) &&& 0x3f).toInt64.toUInt64).toInt64).toInt32))] [(.int (((q0.toUInt64 >>> ((32 : Int32) &&& 0x3f).toInt64.toUInt64).toInt64).toInt32))]))
    refine Owes.callS X0 hx hZ hown (hw _ (List.mem_of_getElem? (i := 20) rfl)) (hw _ (List.mem_of_getElem? (i := 21) rfl)) (hw _ (List.mem_of_getElem? (i := 22) rfl)) (hw _ (List.mem_of_getElem? (i := 23) rfl)) (by decide) (argsL := [(.int (((q0.toUInt64 >>> ((32 : Int32) &&& 0x3f).toInt64.toUInt64).toInt64).toInt32))]) (rest := []) (rm_f_nlzI l Z a0 hw [] (((q0.toUInt64 >>> ((32 : Int32) &&& 0x3f).toInt64.toUInt64).toInt64).toInt32) h0 ) e0 (by rw [hml]; rfl) pd_0 rfl rfl (hb hby d5_22) (by decide) (Nat.le_of_ble_eq_true rfl) (by decide) (by decide) ?_
    rintro T2 _ _ X2 ⟨rfl, rfl, e2⟩
    rw [List.append_nil] at X2
    show Owes _ _ _ _ (T2.setTop (mkF m 25 #[.val (.long q0), .second, .val (.int (((q0.toUInt64 >>> ((32 : Int32) &&& 0x3f).toInt64.toUInt64).toInt64).toInt32))] [(.int (f_nlzI (((q0.toUInt64 >>> ((32 : Int32) &&& 0x3f).toInt64.toUInt64).toInt64).toInt32)))]))
    exact Owes.retI X2 hx hlk hret (hb hby d5_25) (by decide) (by decide) ⟨congrArg (fun z => some (Value.int z)) (by unfold f_nlzJ; rw [if_neg hc1]; first | done | rfl), rfl, e2⟩
theorem own_u1 (y : Int32) (h : 0 ≤ y.toInt) : ((y.toUInt32 >>> ((1 : Int32) &&& 31).toUInt32).toInt32).toInt = y.toInt / 2 := by
  have := c_iushr y 1 1 (by decide) (by decide)
  have r := rng32 y
  rw [this]; omega
theorem own_u2 (y : Int32) (h : 0 ≤ y.toInt) : ((y.toUInt32 >>> ((2 : Int32) &&& 31).toUInt32).toInt32).toInt = y.toInt / 4 := by
  have := c_iushr y 2 2 (by decide) (by decide)
  have r := rng32 y
  rw [this]; omega
theorem own_u4 (y : Int32) (h : 0 ≤ y.toInt) : ((y.toUInt32 >>> ((4 : Int32) &&& 31).toUInt32).toInt32).toInt = y.toInt / 16 := by
  have := c_iushr y 4 4 (by decide) (by decide)
  have r := rng32 y
  rw [this]; omega
theorem own_u8 (y : Int32) (h : 0 ≤ y.toInt) : ((y.toUInt32 >>> ((8 : Int32) &&& 31).toUInt32).toInt32).toInt = y.toInt / 256 := by
  have := c_iushr y 8 8 (by decide) (by decide)
  have r := rng32 y
  rw [this]; omega
theorem own_u16 (y : Int32) (h : 0 ≤ y.toInt) : ((y.toUInt32 >>> ((16 : Int32) &&& 31).toUInt32).toInt32).toInt = y.toInt / 65536 := by
  have := c_iushr y 16 16 (by decide) (by decide)
  have r := rng32 y
  rw [this]; omega
def nl2 (n y : Int32) : Int32 := if y < (4 : Int32) then n - ((y.toUInt32 >>> ((1 : Int32) &&& 31).toUInt32).toInt32) else (n + (-2 : Int32)) - ((((y.toUInt32 >>> ((2 : Int32) &&& 31).toUInt32).toInt32).toUInt32 >>> ((1 : Int32) &&& 31).toUInt32).toInt32)
def nl4 (n y : Int32) : Int32 := if y < (16 : Int32) then nl2 n y else nl2 (n + (-4 : Int32)) ((y.toUInt32 >>> ((4 : Int32) &&& 31).toUInt32).toInt32)
def nl8 (n y : Int32) : Int32 := if y < (256 : Int32) then nl4 n y else nl4 (n + (-8 : Int32)) ((y.toUInt32 >>> ((8 : Int32) &&& 31).toUInt32).toInt32)
def nl16 (n y : Int32) : Int32 := if y < (65536 : Int32) then nl8 n y else nl8 (n + (-16 : Int32)) ((y.toUInt32 >>> ((16 : Int32) &&& 31).toUInt32).toInt32)
theorem own_ltk {y : Int32} {k : Int32} {a : Int} (hk : k.toInt = a) (h : y.toInt < a) : y < k := by rw [Int32.lt_iff_toInt_lt, hk]; exact h
theorem own_nltk {y : Int32} {k : Int32} {a : Int} (hk : k.toInt = a) (h : ¬ y.toInt < a) : ¬ y < k := by rw [Int32.lt_iff_toInt_lt, hk]; exact h
theorem own_nl2a (n A B C n2 r1 r2 y : Int) (t : Nat) (ht : t < 4) (h1 : (2 : Int) ^ t ≤ y) (h2 : y < (2 : Int) ^ (t + 1)) (hn : 3 ≤ n ∧ n ≤ 31) (e1 : A = y / 2) (e2 : C = y / 4) (e3 : B = C / 2) (q1 : (r1 - (n - A)) % 4294967296 = 0) (q2 : (n2 - (n + -2)) % 4294967296 = 0) (q3 : (r2 - (n2 - B)) % 4294967296 = 0) (g1 : -2147483648 ≤ r1 ∧ r1 < 2147483648) (g2 : -2147483648 ≤ r2 ∧ r2 < 2147483648) (g3 : -2147483648 ≤ n2 ∧ n2 < 2147483648) : (t < 2 → y < 4 ∧ r1 = n - t) ∧ (¬ t < 2 → ¬ y < 4 ∧ r2 = n - t) := by
  rcases (by omega : t = 0 ∨ t = 1 ∨ t = 2 ∨ t = 3) with rfl | rfl | rfl | rfl
  · simp only [Nat.zero_add, Nat.reduceAdd, Int.reducePow] at h1 h2
    have hA : 0 ≤ A ∧ A ≤ 8 := by clear q1 q2 q3; omega
    have hB : 0 ≤ B ∧ B ≤ 8 := by clear q1 q2 q3; omega
    have k1 : n2 = n - 2 := by clear q1 q3 e1 e2 e3; omega
    have k2 : r1 = n - A := by clear q2 q3 e1 e2 e3; omega
    have k3 : r2 = n2 - B := by clear q1 q2 e1 e2 e3; omega
    clear q1 q2 q3; omega
  · simp only [Nat.zero_add, Nat.reduceAdd, Int.reducePow] at h1 h2
    have hA : 0 ≤ A ∧ A ≤ 8 := by clear q1 q2 q3; omega
    have hB : 0 ≤ B ∧ B ≤ 8 := by clear q1 q2 q3; omega
    have k1 : n2 = n - 2 := by clear q1 q3 e1 e2 e3; omega
    have k2 : r1 = n - A := by clear q2 q3 e1 e2 e3; omega
    have k3 : r2 = n2 - B := by clear q1 q2 e1 e2 e3; omega
    clear q1 q2 q3; omega
  · simp only [Nat.zero_add, Nat.reduceAdd, Int.reducePow] at h1 h2
    have hA : 0 ≤ A ∧ A ≤ 8 := by clear q1 q2 q3; omega
    have hB : 0 ≤ B ∧ B ≤ 8 := by clear q1 q2 q3; omega
    have k1 : n2 = n - 2 := by clear q1 q3 e1 e2 e3; omega
    have k2 : r1 = n - A := by clear q2 q3 e1 e2 e3; omega
    have k3 : r2 = n2 - B := by clear q1 q2 e1 e2 e3; omega
    clear q1 q2 q3; omega
  · simp only [Nat.zero_add, Nat.reduceAdd, Int.reducePow] at h1 h2
    have hA : 0 ≤ A ∧ A ≤ 8 := by clear q1 q2 q3; omega
    have hB : 0 ≤ B ∧ B ≤ 8 := by clear q1 q2 q3; omega
    have k1 : n2 = n - 2 := by clear q1 q3 e1 e2 e3; omega
    have k2 : r1 = n - A := by clear q2 q3 e1 e2 e3; omega
    have k3 : r2 = n2 - B := by clear q1 q2 e1 e2 e3; omega
    clear q1 q2 q3; omega
theorem own_nl2 (n y : Int32) (t : Nat) (ht : t < 4) (hn : 3 ≤ n.toInt ∧ n.toInt ≤ 31) (h1 : (2 : Int) ^ t ≤ y.toInt) (h2 : y.toInt < (2 : Int) ^ (t + 1)) : (nl2 n y).toInt = n.toInt - t := by
  have hy : 0 ≤ y.toInt := Int.le_trans (Int.le_of_lt (Int.pow_pos (by decide))) h1
  have e1 := own_u1 y hy
  have e2 := own_u2 y hy
  have hy2 : 0 ≤ ((y.toUInt32 >>> ((2 : Int32) &&& 31).toUInt32).toInt32).toInt := by rw [e2]; exact Int.ediv_nonneg hy (by decide)
  have e3 := own_u1 ((y.toUInt32 >>> ((2 : Int32) &&& 31).toUInt32).toInt32) hy2
  unfold nl2
  generalize ((((y.toUInt32 >>> ((2 : Int32) &&& 31).toUInt32).toInt32).toUInt32 >>> ((1 : Int32) &&& 31).toUInt32).toInt32) = B at *
  generalize ((y.toUInt32 >>> ((2 : Int32) &&& 31).toUInt32).toInt32) = C at *
  generalize ((y.toUInt32 >>> ((1 : Int32) &&& 31).toUInt32).toInt32) = A at *
  have q := own_nl2a _ _ _ _ _ _ _ _ t ht h1 h2 hn e1 e2 e3 (c_isub n A) (c_iadd n (-2)) (c_isub (n + (-2 : Int32)) B) (rng32 _) (rng32 _) (rng32 _)
  by_cases c : t < 2
  · rw [if_pos (own_ltk (a := 4) rfl (q.1 c).1)]; exact (q.1 c).2
  · rw [if_neg (own_nltk (a := 4) rfl (q.2 c).1)]; exact (q.2 c).2
theorem own_nl4a (n n2 C y : Int) (t : Nat) (ht : t < 8) (h1 : (2 : Int) ^ t ≤ y) (h2 : y < (2 : Int) ^ (t + 1)) (hn : 7 ≤ n ∧ n ≤ 31) (e1 : C = y / 16) (q2 : (n2 - (n + -4)) % 4294967296 = 0) (g3 : -2147483648 ≤ n2 ∧ n2 < 2147483648) : (t < 4 → y < 16) ∧ (¬ t < 4 → ¬ y < 16 ∧ n2 = n - 4 ∧ (2 : Int) ^ (t - 4) ≤ C ∧ C < (2 : Int) ^ (t - 4 + 1)) := by
  rcases (by omega : t = 0 ∨ t = 1 ∨ t = 2 ∨ t = 3 ∨ t = 4 ∨ t = 5 ∨ t = 6 ∨ t = 7) with rfl | rfl | rfl | rfl | rfl | rfl | rfl | rfl
  · simp only [Nat.zero_add, Nat.reduceAdd, Nat.reduceSub, Int.reducePow] at h1 h2 ⊢; omega
  · simp only [Nat.zero_add, Nat.reduceAdd, Nat.reduceSub, Int.reducePow] at h1 h2 ⊢; omega
  · simp only [Nat.zero_add, Nat.reduceAdd, Nat.reduceSub, Int.reducePow] at h1 h2 ⊢; omega
  · simp only [Nat.zero_add, Nat.reduceAdd, Nat.reduceSub, Int.reducePow] at h1 h2 ⊢; omega
  · simp only [Nat.zero_add, Nat.reduceAdd, Nat.reduceSub, Int.reducePow] at h1 h2 ⊢; omega
  · simp only [Nat.zero_add, Nat.reduceAdd, Nat.reduceSub, Int.reducePow] at h1 h2 ⊢; omega
  · simp only [Nat.zero_add, Nat.reduceAdd, Nat.reduceSub, Int.reducePow] at h1 h2 ⊢; omega
  · simp only [Nat.zero_add, Nat.reduceAdd, Nat.reduceSub, Int.reducePow] at h1 h2 ⊢; omega
theorem own_nl4 (n y : Int32) (t : Nat) (ht : t < 8) (hn : 7 ≤ n.toInt ∧ n.toInt ≤ 31) (h1 : (2 : Int) ^ t ≤ y.toInt) (h2 : y.toInt < (2 : Int) ^ (t + 1)) : (nl4 n y).toInt = n.toInt - t := by
  have hy : 0 ≤ y.toInt := Int.le_trans (Int.le_of_lt (Int.pow_pos (by decide))) h1
  have e1 := own_u4 y hy
  unfold nl4
  generalize ((y.toUInt32 >>> ((4 : Int32) &&& 31).toUInt32).toInt32) = C at *
  have q := own_nl4a _ _ _ _ t ht h1 h2 hn e1 (c_iadd n (-4)) (rng32 _)
  by_cases c : t < 4
  · rw [if_pos (own_ltk (a := 16) rfl (q.1 c))]; exact own_nl2 n y t c (by omega) h1 h2
  · obtain ⟨q1, q2, q3, q4⟩ := q.2 c
    rw [if_neg (own_nltk (a := 16) rfl q1), own_nl2 _ _ (t - 4) (by omega) (by rw [q2]; omega) q3 q4, q2]
    omega
theorem own_nl8a (n n2 C y : Int) (t : Nat) (ht : t < 16) (h1 : (2 : Int) ^ t ≤ y) (h2 : y < (2 : Int) ^ (t + 1)) (hn : 15 ≤ n ∧ n ≤ 31) (e1 : C = y / 256) (q2 : (n2 - (n + -8)) % 4294967296 = 0) (g3 : -2147483648 ≤ n2 ∧ n2 < 2147483648) : (t < 8 → y < 256) ∧ (¬ t < 8 → ¬ y < 256 ∧ n2 = n - 8 ∧ (2 : Int) ^ (t - 8) ≤ C ∧ C < (2 : Int) ^ (t - 8 + 1)) := by
  rcases (by omega : t = 0 ∨ t = 1 ∨ t = 2 ∨ t = 3 ∨ t = 4 ∨ t = 5 ∨ t = 6 ∨ t = 7 ∨ t = 8 ∨ t = 9 ∨ t = 10 ∨ t = 11 ∨ t = 12 ∨ t = 13 ∨ t = 14 ∨ t = 15) with rfl | rfl | rfl | rfl | rfl | rfl | rfl | rfl | rfl | rfl | rfl | rfl | rfl | rfl | rfl | rfl
  · simp only [Nat.zero_add, Nat.reduceAdd, Nat.reduceSub, Int.reducePow] at h1 h2 ⊢; omega
  · simp only [Nat.zero_add, Nat.reduceAdd, Nat.reduceSub, Int.reducePow] at h1 h2 ⊢; omega
  · simp only [Nat.zero_add, Nat.reduceAdd, Nat.reduceSub, Int.reducePow] at h1 h2 ⊢; omega
  · simp only [Nat.zero_add, Nat.reduceAdd, Nat.reduceSub, Int.reducePow] at h1 h2 ⊢; omega
  · simp only [Nat.zero_add, Nat.reduceAdd, Nat.reduceSub, Int.reducePow] at h1 h2 ⊢; omega
  · simp only [Nat.zero_add, Nat.reduceAdd, Nat.reduceSub, Int.reducePow] at h1 h2 ⊢; omega
  · simp only [Nat.zero_add, Nat.reduceAdd, Nat.reduceSub, Int.reducePow] at h1 h2 ⊢; omega
  · simp only [Nat.zero_add, Nat.reduceAdd, Nat.reduceSub, Int.reducePow] at h1 h2 ⊢; omega
  · simp only [Nat.zero_add, Nat.reduceAdd, Nat.reduceSub, Int.reducePow] at h1 h2 ⊢; omega
  · simp only [Nat.zero_add, Nat.reduceAdd, Nat.reduceSub, Int.reducePow] at h1 h2 ⊢; omega
  · simp only [Nat.zero_add, Nat.reduceAdd, Nat.reduceSub, Int.reducePow] at h1 h2 ⊢; omega
  · simp only [Nat.zero_add, Nat.reduceAdd, Nat.reduceSub, Int.reducePow] at h1 h2 ⊢; omega
  · simp only [Nat.zero_add, Nat.reduceAdd, Nat.reduceSub, Int.reducePow] at h1 h2 ⊢; omega
  · simp only [Nat.zero_add, Nat.reduceAdd, Nat.reduceSub, Int.reducePow] at h1 h2 ⊢; omega
  · simp only [Nat.zero_add, Nat.reduceAdd, Nat.reduceSub, Int.reducePow] at h1 h2 ⊢; omega
  · simp only [Nat.zero_add, Nat.reduceAdd, Nat.reduceSub, Int.reducePow] at h1 h2 ⊢; omega
theorem own_nl8 (n y : Int32) (t : Nat) (ht : t < 16) (hn : 15 ≤ n.toInt ∧ n.toInt ≤ 31) (h1 : (2 : Int) ^ t ≤ y.toInt) (h2 : y.toInt < (2 : Int) ^ (t + 1)) : (nl8 n y).toInt = n.toInt - t := by
  have hy : 0 ≤ y.toInt := Int.le_trans (Int.le_of_lt (Int.pow_pos (by decide))) h1
  have e1 := own_u8 y hy
  unfold nl8
  generalize ((y.toUInt32 >>> ((8 : Int32) &&& 31).toUInt32).toInt32) = C at *
  have q := own_nl8a _ _ _ _ t ht h1 h2 hn e1 (c_iadd n (-8)) (rng32 _)
  by_cases c : t < 8
  · rw [if_pos (own_ltk (a := 256) rfl (q.1 c))]; exact own_nl4 n y t c (by omega) h1 h2
  · obtain ⟨q1, q2, q3, q4⟩ := q.2 c
    rw [if_neg (own_nltk (a := 256) rfl q1), own_nl4 _ _ (t - 8) (by omega) (by rw [q2]; omega) q3 q4, q2]
    omega
theorem own_nl16a (n n2 C y : Int) (t : Nat) (ht : t < 31) (h1 : (2 : Int) ^ t ≤ y) (h2 : y < (2 : Int) ^ (t + 1)) (hn : 31 ≤ n ∧ n ≤ 31) (e1 : C = y / 65536) (q2 : (n2 - (n + -16)) % 4294967296 = 0) (g3 : -2147483648 ≤ n2 ∧ n2 < 2147483648) : (t < 16 → y < 65536) ∧ (¬ t < 16 → ¬ y < 65536 ∧ n2 = n - 16 ∧ (2 : Int) ^ (t - 16) ≤ C ∧ C < (2 : Int) ^ (t - 16 + 1)) := by
  rcases (by omega : t = 0 ∨ t = 1 ∨ t = 2 ∨ t = 3 ∨ t = 4 ∨ t = 5 ∨ t = 6 ∨ t = 7 ∨ t = 8 ∨ t = 9 ∨ t = 10 ∨ t = 11 ∨ t = 12 ∨ t = 13 ∨ t = 14 ∨ t = 15 ∨ t = 16 ∨ t = 17 ∨ t = 18 ∨ t = 19 ∨ t = 20 ∨ t = 21 ∨ t = 22 ∨ t = 23 ∨ t = 24 ∨ t = 25 ∨ t = 26 ∨ t = 27 ∨ t = 28 ∨ t = 29 ∨ t = 30) with rfl | rfl | rfl | rfl | rfl | rfl | rfl | rfl | rfl | rfl | rfl | rfl | rfl | rfl | rfl | rfl | rfl | rfl | rfl | rfl | rfl | rfl | rfl | rfl | rfl | rfl | rfl | rfl | rfl | rfl | rfl
  · simp only [Nat.zero_add, Nat.reduceAdd, Nat.reduceSub, Int.reducePow] at h1 h2 ⊢; omega
  · simp only [Nat.zero_add, Nat.reduceAdd, Nat.reduceSub, Int.reducePow] at h1 h2 ⊢; omega
  · simp only [Nat.zero_add, Nat.reduceAdd, Nat.reduceSub, Int.reducePow] at h1 h2 ⊢; omega
  · simp only [Nat.zero_add, Nat.reduceAdd, Nat.reduceSub, Int.reducePow] at h1 h2 ⊢; omega
  · simp only [Nat.zero_add, Nat.reduceAdd, Nat.reduceSub, Int.reducePow] at h1 h2 ⊢; omega
  · simp only [Nat.zero_add, Nat.reduceAdd, Nat.reduceSub, Int.reducePow] at h1 h2 ⊢; omega
  · simp only [Nat.zero_add, Nat.reduceAdd, Nat.reduceSub, Int.reducePow] at h1 h2 ⊢; omega
  · simp only [Nat.zero_add, Nat.reduceAdd, Nat.reduceSub, Int.reducePow] at h1 h2 ⊢; omega
  · simp only [Nat.zero_add, Nat.reduceAdd, Nat.reduceSub, Int.reducePow] at h1 h2 ⊢; omega
  · simp only [Nat.zero_add, Nat.reduceAdd, Nat.reduceSub, Int.reducePow] at h1 h2 ⊢; omega
  · simp only [Nat.zero_add, Nat.reduceAdd, Nat.reduceSub, Int.reducePow] at h1 h2 ⊢; omega
  · simp only [Nat.zero_add, Nat.reduceAdd, Nat.reduceSub, Int.reducePow] at h1 h2 ⊢; omega
  · simp only [Nat.zero_add, Nat.reduceAdd, Nat.reduceSub, Int.reducePow] at h1 h2 ⊢; omega
  · simp only [Nat.zero_add, Nat.reduceAdd, Nat.reduceSub, Int.reducePow] at h1 h2 ⊢; omega
  · simp only [Nat.zero_add, Nat.reduceAdd, Nat.reduceSub, Int.reducePow] at h1 h2 ⊢; omega
  · simp only [Nat.zero_add, Nat.reduceAdd, Nat.reduceSub, Int.reducePow] at h1 h2 ⊢; omega
  · simp only [Nat.zero_add, Nat.reduceAdd, Nat.reduceSub, Int.reducePow] at h1 h2 ⊢; omega
  · simp only [Nat.zero_add, Nat.reduceAdd, Nat.reduceSub, Int.reducePow] at h1 h2 ⊢; omega
  · simp only [Nat.zero_add, Nat.reduceAdd, Nat.reduceSub, Int.reducePow] at h1 h2 ⊢; omega
  · simp only [Nat.zero_add, Nat.reduceAdd, Nat.reduceSub, Int.reducePow] at h1 h2 ⊢; omega
  · simp only [Nat.zero_add, Nat.reduceAdd, Nat.reduceSub, Int.reducePow] at h1 h2 ⊢; omega
  · simp only [Nat.zero_add, Nat.reduceAdd, Nat.reduceSub, Int.reducePow] at h1 h2 ⊢; omega
  · simp only [Nat.zero_add, Nat.reduceAdd, Nat.reduceSub, Int.reducePow] at h1 h2 ⊢; omega
  · simp only [Nat.zero_add, Nat.reduceAdd, Nat.reduceSub, Int.reducePow] at h1 h2 ⊢; omega
  · simp only [Nat.zero_add, Nat.reduceAdd, Nat.reduceSub, Int.reducePow] at h1 h2 ⊢; omega
  · simp only [Nat.zero_add, Nat.reduceAdd, Nat.reduceSub, Int.reducePow] at h1 h2 ⊢; omega
  · simp only [Nat.zero_add, Nat.reduceAdd, Nat.reduceSub, Int.reducePow] at h1 h2 ⊢; omega
  · simp only [Nat.zero_add, Nat.reduceAdd, Nat.reduceSub, Int.reducePow] at h1 h2 ⊢; omega
  · simp only [Nat.zero_add, Nat.reduceAdd, Nat.reduceSub, Int.reducePow] at h1 h2 ⊢; omega
  · simp only [Nat.zero_add, Nat.reduceAdd, Nat.reduceSub, Int.reducePow] at h1 h2 ⊢; omega
  · simp only [Nat.zero_add, Nat.reduceAdd, Nat.reduceSub, Int.reducePow] at h1 h2 ⊢; omega
theorem own_nl16 (n y : Int32) (t : Nat) (ht : t < 31) (hn : 31 ≤ n.toInt ∧ n.toInt ≤ 31) (h1 : (2 : Int) ^ t ≤ y.toInt) (h2 : y.toInt < (2 : Int) ^ (t + 1)) : (nl16 n y).toInt = n.toInt - t := by
  have hy : 0 ≤ y.toInt := Int.le_trans (Int.le_of_lt (Int.pow_pos (by decide))) h1
  have e1 := own_u16 y hy
  unfold nl16
  generalize ((y.toUInt32 >>> ((16 : Int32) &&& 31).toUInt32).toInt32) = C at *
  have q := own_nl16a _ _ _ _ t ht h1 h2 hn e1 (c_iadd n (-16)) (rng32 _)
  by_cases c : t < 16
  · rw [if_pos (own_ltk (a := 65536) rfl (q.1 c))]; exact own_nl8 n y t c (by omega) h1 h2
  · obtain ⟨q1, q2, q3, q4⟩ := q.2 c
    rw [if_neg (own_nltk (a := 65536) rfl q1), own_nl8 _ _ (t - 16) (by omega) (by rw [q2]; omega) q3 q4, q2]
    omega
theorem own_nlzI (x : Int32) (t : Nat) (ht : t < 32) (h1 : x.toBitVec.getLsbD t = true) (h2 : ∀ b, t < b → b < 32 → x.toBitVec.getLsbD b = false) : (f_nlzI x).toInt = 31 - (t : Int) := by
  show (if (0 : Int32) < x then nl16 31 x else if x = (0 : Int32) then (32 : Int32) else (0 : Int32)).toInt = _
  have b1 : x.toBitVec.toNat.testBit t = true := h1
  have g1 : 2 ^ t ≤ x.toBitVec.toNat := Nat.ge_two_pow_of_testBit b1
  have g2 : x.toBitVec.toNat < 2 ^ (t + 1) := by
    apply Nat.lt_pow_two_of_testBit
    intro i hi
    by_cases c : i < 32
    · exact h2 i (by omega) c
    · exact Nat.testBit_lt_two_pow (Nat.lt_of_lt_of_le x.toBitVec.isLt (Nat.pow_le_pow_right (by decide) (by omega)))
  have hx : x.toInt = x.toBitVec.toInt := rfl
  rw [BitVec.toInt_eq_toNat_cond] at hx
  by_cases c : t = 31
  · subst c
    have hlt : x.toInt < 0 := by
      rw [hx, if_neg (by omega)]
      have := x.toBitVec.isLt
      omega
    have n1 : ¬ ((0 : Int32) < x) := by rw [Int32.lt_iff_toInt_lt, show (0 : Int32).toInt = 0 from rfl]; omega
    have n2 : ¬ (x = (0 : Int32)) := fun q => by rw [q] at hlt; exact absurd hlt (by decide)
    rw [if_neg n1, if_neg n2]; rfl
  · have p31 : 2 ^ (t + 1) ≤ 2 ^ 31 := Nat.pow_le_pow_right (by decide) (by omega)
    rw [if_pos (by omega)] at hx
    have k1 : (2 : Int) ^ t ≤ x.toInt := by rw [hx]; exact_mod_cast g1
    have k2 : x.toInt < (2 : Int) ^ (t + 1) := by rw [hx]; exact_mod_cast g2
    have hp : 0 < (2 : Int) ^ t := Int.pow_pos (by decide)
    have n1 : (0 : Int32) < x := by rw [Int32.lt_iff_toInt_lt, show (0 : Int32).toInt = 0 from rfl]; omega
    rw [if_pos n1]
    exact own_nl16 31 x t (by omega) (by decide) k1 k2
theorem own_nlzJ (w : Int64) (t : Nat) (h : High w t) : (f_nlzJ w).toInt = 63 - (t : Int) := by
  obtain ⟨h0, h1, h2⟩ := h
  unfold f_nlzJ
  by_cases c : 32 ≤ t
  · have e1 := hi32 w (t - 32) (by omega)
    rw [show 32 + (t - 32) = t by omega, h1] at e1
    have hne : ¬ ((((w.toUInt64 >>> ((32 : Int32) &&& 0x3f).toInt64.toUInt64).toInt64).toInt32) = 0) := fun q => by
      rw [q] at e1
      simp at e1
    rw [if_neg hne, own_nlzI _ (t - 32) (by omega) e1 (fun b hb hb' => by rw [hi32 _ _ hb']; exact h2 _ (by omega) (by omega))]
    omega
  · have hz : (((w.toUInt64 >>> ((32 : Int32) &&& 0x3f).toInt64.toUInt64).toInt64).toInt32) = 0 := ext32 fun b hb => by rw [hi32 w b hb, h2 _ (by omega) (by omega)]; simp
    rw [if_pos hz]
    have e := own_nlzI w.toInt32 t (by omega) (by rw [lo32 _ _ (by omega)]; exact h1) (fun b hb hb' => by rw [lo32 _ _ hb']; exact h2 b hb (by omega))
    have h3 := c_iadd 32 (f_nlzI w.toInt32)
    have r := rng32 ((32 : Int32) + f_nlzI w.toInt32)
    rw [show (32 : Int32).toInt = 32 from rfl, e] at h3
    omega
theorem d7_0 : decode jdk_29_method_65_code 0 = .ok (.iload_n 0, 1) := by decide +kernel
theorem d7_1 : decode jdk_29_method_65_code 1 = .ok (.iload_n 1, 1) := by decide +kernel
theorem d7_2 : decode jdk_29_method_65_code 2 = .ok (.if_icmp .lt 7, 3) := by decide +kernel
theorem d7_9 : decode jdk_29_method_65_code 9 = .ok (.iload_n 1, 1) := by decide +kernel
theorem d7_10 : decode jdk_29_method_65_code 10 = .ok (.ireturn, 1) := by decide +kernel
theorem d7_5 : decode jdk_29_method_65_code 5 = .ok (.iload_n 0, 1) := by decide +kernel
theorem d7_6 : decode jdk_29_method_65_code 6 = .ok (.goto 4, 3) := by decide +kernel
def f_maxI (p0 : Int32) (p1 : Int32)  : Int32 := (if p0 < p1 then p1 else p0)
theorem ef_7_f_maxI (m : MethodId) (p0 : Int32) (p1 : Int32) : entryFrame m #[(.int p0), (.int p1)] 2 = mkF m 0 #[.val (.int p0), .val (.int p1)] [] := by first | (simp [entryFrame, mkF, argsToLocals, Value.category]; done) | rfl
theorem pn_7 : plainFor (⟨"java/lang/Math", "max", "(II)I"⟩ : MethodName) = true := Jvm.Free.JP.mathPlain rfl (by decide +kernel)
set_option maxRecDepth 65536 in
set_option maxHeartbeats 40000000 in
theorem rm_f_maxI (l : Launch) (Z : State) (a0 : Array Value) (hw : ∀ d ∈ tables_1, d.before a0 Z = true) (ws : List Jvm.Cond) (p0 : Int32) (p1 : Int32) (h0 : Heap)  :
    OMet l (⟨"java/lang/Math", "max", "(II)I"⟩ : MethodName) jdk_29_method_65_code 2 (some .int) ws ({ frames := 0, cells := 0, slots := 0, locals := 0 } : Room) #[(.int p0), (.int p1)] Z h0 (fun v h L => v = some (Value.int (f_maxI p0 p1)) ∧ L = [] ∧ h = h0) := by
  refine OMet.of pn_7 (fun m => ef_7_f_maxI m p0 p1) ?_
  intro p e s m below meth c s₁ hx hby hml hown hnm hret hlk hZ X0 e0
  refine Owes.go ?_ fun t₀ k₀ => XS.iloadN X0.here hx rfl (hb hby d7_0) rfl k₀
  show Owes _ _ _ _ (s₁.setTop (mkF m 1 #[.val (.int p0), .val (.int p1)] [(.int p0)]))
  refine Owes.go ?_ fun t₀ k₀ => XS.iloadN X0.here hx rfl (hb hby d7_1) rfl k₀
  show Owes _ _ _ _ (s₁.setTop (mkF m 2 #[.val (.int p0), .val (.int p1)] [(.int p1), (.int p0)]))
  by_cases hc1 : p0 < p1
  · skip
    refine Owes.go ?_ fun t₀ k₀ => XS.icmpYes X0.here hx rfl (pc0 := 2) (pc' := 9) rfl (hb hby d7_2) rfl (tlt hc1).1 (by decide) (by decide) k₀
    show Owes _ _ _ _ (s₁.setTop (mkF m 9 #[.val (.int p0), .val (.int p1)] []))
    refine Owes.go ?_ fun t₀ k₀ => XS.iloadN X0.here hx rfl (hb hby d7_9) rfl k₀
    show Owes _ _ _ _ (s₁.setTop (mkF m 10 #[.val (.int p0), .val (.int p1)] [(.int p1)]))
    exact Owes.retI X0 hx hlk hret (hb hby d7_10) (by decide) (by decide) ⟨congrArg (fun z => some (Value.int z)) (by unfold f_maxI; rw [if_pos hc1]; first | done | rfl), rfl, e0⟩
  · skip
    refine Owes.go ?_ fun t₀ k₀ => XS.icmpNo X0.here hx rfl (hb hby d7_2) rfl (flt hc1).1 k₀
    show Owes _ _ _ _ (s₁.setTop (mkF m 5 #[.val (.int p0), .val (.int p1)] []))
    refine Owes.go ?_ fun t₀ k₀ => XS.iloadN X0.here hx rfl (hb hby d7_5) rfl k₀
    show Owes _ _ _ _ (s₁.setTop (mkF m 6 #[.val (.int p0), .val (.int p1)] [(.int p0)]))
    refine Owes.go ?_ fun t₀ k₀ => XS.goto X0.here hx rfl (pc0 := 6) (pc' := 10) rfl (hb hby d7_6) (by decide) (by decide) k₀
    show Owes _ _ _ _ (s₁.setTop (mkF m 10 #[.val (.int p0), .val (.int p1)] [(.int p0)]))
    exact Owes.retI X0 hx hlk hret (hb hby d7_10) (by decide) (by decide) ⟨congrArg (fun z => some (Value.int z)) (by unfold f_maxI; rw [if_neg hc1]; first | done | rfl), rfl, e0⟩
theorem d12_0 : decode jdk_29_method_66_code 0 = .ok (.lload_n 0, 1) := by decide +kernel
theorem d12_1 : decode jdk_29_method_66_code 1 = .ok (.lload_n 2, 1) := by decide +kernel
theorem d12_2 : decode jdk_29_method_66_code 2 = .ok (.lcmp, 1) := by decide +kernel
theorem d12_3 : decode jdk_29_method_66_code 3 = .ok (.ifCond .lt 7, 3) := by decide +kernel
theorem d12_10 : decode jdk_29_method_66_code 10 = .ok (.lload_n 2, 1) := by decide +kernel
theorem d12_11 : decode jdk_29_method_66_code 11 = .ok (.lreturn, 1) := by decide +kernel
theorem d12_6 : decode jdk_29_method_66_code 6 = .ok (.lload_n 0, 1) := by decide +kernel
theorem d12_7 : decode jdk_29_method_66_code 7 = .ok (.goto 4, 3) := by decide +kernel
def f_maxJ (q0 : Int64) (q1 : Int64)  : Int64 := (if q0 < q1 then q1 else q0)
theorem ef_12_f_maxJ (m : MethodId) (q0 : Int64) (q1 : Int64) : entryFrame m #[(.long q0), (.long q1)] 4 = mkF m 0 #[.val (.long q0), .second, .val (.long q1), .second] [] := by first | (simp [entryFrame, mkF, argsToLocals, Value.category]; done) | rfl
theorem pn_12 : plainFor (⟨"java/lang/Math", "max", "(JJ)J"⟩ : MethodName) = true := Jvm.Free.JP.mathPlain rfl (by decide +kernel)
set_option maxRecDepth 65536 in
set_option maxHeartbeats 40000000 in
theorem rm_f_maxJ (l : Launch) (Z : State) (a0 : Array Value) (hw : ∀ d ∈ tables_1, d.before a0 Z = true) (ws : List Jvm.Cond) (q0 : Int64) (q1 : Int64) (h0 : Heap)  :
    OMet l (⟨"java/lang/Math", "max", "(JJ)J"⟩ : MethodName) jdk_29_method_66_code 4 (some .long) ws ({ frames := 0, cells := 0, slots := 0, locals := 0 } : Room) #[(.long q0), (.long q1)] Z h0 (fun v h L => v = some (Value.long (f_maxJ q0 q1)) ∧ L = [] ∧ h = h0) := by
  refine OMet.of pn_12 (fun m => ef_12_f_maxJ m q0 q1) ?_
  intro p e s m below meth c s₁ hx hby hml hown hnm hret hlk hZ X0 e0
  refine Owes.go ?_ fun t₀ k₀ => XS.lloadN X0.here hx rfl (hb hby d12_0) rfl k₀
  show Owes _ _ _ _ (s₁.setTop (mkF m 1 #[.val (.long q0), .second, .val (.long q1), .second] [(.long q0)]))
  refine Owes.go ?_ fun t₀ k₀ => XS.lloadN X0.here hx rfl (hb hby d12_1) rfl k₀
  show Owes _ _ _ _ (s₁.setTop (mkF m 2 #[.val (.long q0), .second, .val (.long q1), .second] [(.long q1), (.long q0)]))
  refine Owes.go ?_ fun t₀ k₀ => XS.lcmp X0.here hx rfl (hb hby d12_2) rfl k₀
  show Owes _ _ _ _ (s₁.setTop (mkF m 3 #[.val (.long q0), .second, .val (.long q1), .second] [(.int (lcmpW q0 q1))]))
  by_cases hc1 : q0 < q1
  · skip
    refine Owes.go ?_ fun t₀ k₀ => XS.ifYes X0.here hx rfl (pc0 := 3) (pc' := 10) rfl (hb hby d12_3) rfl ((if0 _ _).trans (tlt ((lw_lt _ _).mpr hc1)).1) (by decide) (by decide) k₀
    show Owes _ _ _ _ (s₁.setTop (mkF m 10 #[.val (.long q0), .second, .val (.long q1), .second] []))
    refine Owes.go ?_ fun t₀ k₀ => XS.lloadN X0.here hx rfl (hb hby d12_10) rfl k₀
    show Owes _ _ _ _ (s₁.setTop (mkF m 11 #[.val (.long q0), .second, .val (.long q1), .second] [(.long q1)]))
    exact Owes.retJ X0 hx hlk hret (hb hby d12_11) (by decide) (by decide) ⟨congrArg (fun z => some (Value.long z)) (by unfold f_maxJ; rw [if_pos hc1]; first | done | rfl), rfl, e0⟩
  · skip
    refine Owes.go ?_ fun t₀ k₀ => XS.ifNo X0.here hx rfl (hb hby d12_3) rfl ((if0 _ _).trans (flt (fun q => hc1 ((lw_lt _ _).mp q))).1) k₀
    show Owes _ _ _ _ (s₁.setTop (mkF m 6 #[.val (.long q0), .second, .val (.long q1), .second] []))
    refine Owes.go ?_ fun t₀ k₀ => XS.lloadN X0.here hx rfl (hb hby d12_6) rfl k₀
    show Owes _ _ _ _ (s₁.setTop (mkF m 7 #[.val (.long q0), .second, .val (.long q1), .second] [(.long q0)]))
    refine Owes.go ?_ fun t₀ k₀ => XS.goto X0.here hx rfl (pc0 := 7) (pc' := 11) rfl (hb hby d12_7) (by decide) (by decide) k₀
    show Owes _ _ _ _ (s₁.setTop (mkF m 11 #[.val (.long q0), .second, .val (.long q1), .second] [(.long q0)]))
    exact Owes.retJ X0 hx hlk hret (hb hby d12_11) (by decide) (by decide) ⟨congrArg (fun z => some (Value.long z)) (by unfold f_maxJ; rw [if_neg hc1]; first | done | rfl), rfl, e0⟩
theorem d13_0 : decode jdk_29_method_70_code 0 = .ok (.lload_n 0, 1) := by decide +kernel
theorem d13_1 : decode jdk_29_method_70_code 1 = .ok (.lload_n 2, 1) := by decide +kernel
theorem d13_2 : decode jdk_29_method_70_code 2 = .ok (.lcmp, 1) := by decide +kernel
theorem d13_3 : decode jdk_29_method_70_code 3 = .ok (.ifCond .gt 7, 3) := by decide +kernel
theorem d13_10 : decode jdk_29_method_70_code 10 = .ok (.lload_n 2, 1) := by decide +kernel
theorem d13_11 : decode jdk_29_method_70_code 11 = .ok (.lreturn, 1) := by decide +kernel
theorem d13_6 : decode jdk_29_method_70_code 6 = .ok (.lload_n 0, 1) := by decide +kernel
theorem d13_7 : decode jdk_29_method_70_code 7 = .ok (.goto 4, 3) := by decide +kernel
def f_minJ (q0 : Int64) (q1 : Int64)  : Int64 := (if q1 < q0 then q1 else q0)
theorem ef_13_f_minJ (m : MethodId) (q0 : Int64) (q1 : Int64) : entryFrame m #[(.long q0), (.long q1)] 4 = mkF m 0 #[.val (.long q0), .second, .val (.long q1), .second] [] := by first | (simp [entryFrame, mkF, argsToLocals, Value.category]; done) | rfl
theorem pn_13 : plainFor (⟨"java/lang/Math", "min", "(JJ)J"⟩ : MethodName) = true := Jvm.Free.JP.mathPlain rfl (by decide +kernel)
set_option maxRecDepth 65536 in
set_option maxHeartbeats 40000000 in
theorem rm_f_minJ (l : Launch) (Z : State) (a0 : Array Value) (hw : ∀ d ∈ tables_1, d.before a0 Z = true) (ws : List Jvm.Cond) (q0 : Int64) (q1 : Int64) (h0 : Heap)  :
    OMet l (⟨"java/lang/Math", "min", "(JJ)J"⟩ : MethodName) jdk_29_method_70_code 4 (some .long) ws ({ frames := 0, cells := 0, slots := 0, locals := 0 } : Room) #[(.long q0), (.long q1)] Z h0 (fun v h L => v = some (Value.long (f_minJ q0 q1)) ∧ L = [] ∧ h = h0) := by
  refine OMet.of pn_13 (fun m => ef_13_f_minJ m q0 q1) ?_
  intro p e s m below meth c s₁ hx hby hml hown hnm hret hlk hZ X0 e0
  refine Owes.go ?_ fun t₀ k₀ => XS.lloadN X0.here hx rfl (hb hby d13_0) rfl k₀
  show Owes _ _ _ _ (s₁.setTop (mkF m 1 #[.val (.long q0), .second, .val (.long q1), .second] [(.long q0)]))
  refine Owes.go ?_ fun t₀ k₀ => XS.lloadN X0.here hx rfl (hb hby d13_1) rfl k₀
  show Owes _ _ _ _ (s₁.setTop (mkF m 2 #[.val (.long q0), .second, .val (.long q1), .second] [(.long q1), (.long q0)]))
  refine Owes.go ?_ fun t₀ k₀ => XS.lcmp X0.here hx rfl (hb hby d13_2) rfl k₀
  show Owes _ _ _ _ (s₁.setTop (mkF m 3 #[.val (.long q0), .second, .val (.long q1), .second] [(.int (lcmpW q0 q1))]))
  by_cases hc1 : q1 < q0
  · skip
    refine Owes.go ?_ fun t₀ k₀ => XS.ifYes X0.here hx rfl (pc0 := 3) (pc' := 10) rfl (hb hby d13_3) rfl ((if0 _ _).trans (tlt ((lw_gt _ _).mpr hc1)).2.2.1) (by decide) (by decide) k₀
    show Owes _ _ _ _ (s₁.setTop (mkF m 10 #[.val (.long q0), .second, .val (.long q1), .second] []))
    refine Owes.go ?_ fun t₀ k₀ => XS.lloadN X0.here hx rfl (hb hby d13_10) rfl k₀
    show Owes _ _ _ _ (s₁.setTop (mkF m 11 #[.val (.long q0), .second, .val (.long q1), .second] [(.long q1)]))
    exact Owes.retJ X0 hx hlk hret (hb hby d13_11) (by decide) (by decide) ⟨congrArg (fun z => some (Value.long z)) (by unfold f_minJ; rw [if_pos hc1]; first | done | rfl), rfl, e0⟩
  · skip
    refine Owes.go ?_ fun t₀ k₀ => XS.ifNo X0.here hx rfl (hb hby d13_3) rfl ((if0 _ _).trans (flt (fun q => hc1 ((lw_gt _ _).mp q))).2.2.1) k₀
    show Owes _ _ _ _ (s₁.setTop (mkF m 6 #[.val (.long q0), .second, .val (.long q1), .second] []))
    refine Owes.go ?_ fun t₀ k₀ => XS.lloadN X0.here hx rfl (hb hby d13_6) rfl k₀
    show Owes _ _ _ _ (s₁.setTop (mkF m 7 #[.val (.long q0), .second, .val (.long q1), .second] [(.long q0)]))
    refine Owes.go ?_ fun t₀ k₀ => XS.goto X0.here hx rfl (pc0 := 7) (pc' := 11) rfl (hb hby d13_7) (by decide) (by decide) k₀
    show Owes _ _ _ _ (s₁.setTop (mkF m 11 #[.val (.long q0), .second, .val (.long q1), .second] [(.long q0)]))
    exact Owes.retJ X0 hx hlk hret (hb hby d13_11) (by decide) (by decide) ⟨congrArg (fun z => some (Value.long z)) (by unfold f_minJ; rw [if_neg hc1]; first | done | rfl), rfl, e0⟩
theorem d4_0 : decode prog_14_method_7_code 0 = .ok (.bipush 63, 2) := by decide +kernel
theorem d4_2 : decode prog_14_method_7_code 2 = .ok (.lload_n 0, 1) := by decide +kernel
theorem d4_3 : decode prog_14_method_7_code 3 = .ok (.invokestatic 71, 3) := by decide +kernel
theorem pd_1 : parseMethodDescriptor "(J)I" = some ⟨[.long], some .int⟩ := by decide +kernel
theorem d4_6 : decode prog_14_method_7_code 6 = .ok (.isub, 1) := by decide +kernel
theorem d4_7 : decode prog_14_method_7_code 7 = .ok (.istore_n 2, 1) := by decide +kernel
theorem d4_8 : decode prog_14_method_7_code 8 = .ok (.iconst 0, 1) := by decide +kernel
theorem d4_9 : decode prog_14_method_7_code 9 = .ok (.iload_n 2, 1) := by decide +kernel
theorem d4_10 : decode prog_14_method_7_code 10 = .ok (.iconst 1, 1) := by decide +kernel
theorem d4_11 : decode prog_14_method_7_code 11 = .ok (.iadd, 1) := by decide +kernel
theorem d4_12 : decode prog_14_method_7_code 12 = .ok (.getstatic 74, 3) := by decide +kernel
theorem d4_15 : decode prog_14_method_7_code 15 = .ok (.isub, 1) := by decide +kernel
theorem d4_16 : decode prog_14_method_7_code 16 = .ok (.invokestatic 78, 3) := by decide +kernel
theorem pd_2 : parseMethodDescriptor "(II)I" = some ⟨[.int, .int], some .int⟩ := by decide +kernel
theorem d4_19 : decode prog_14_method_7_code 19 = .ok (.ireturn, 1) := by decide +kernel
def f_sh (q0 : Int64)  : Int32 := (f_maxI (0 : Int32) ((((63 : Int32) - (f_nlzJ q0)) + (1 : Int32)) - (10 : Int32)))
theorem ef_4_f_sh (m : MethodId) (q0 : Int64) : entryFrame m #[(.long q0)] 3 = mkF m 0 #[.val (.long q0), .second, .unset] [] := by first | (simp [entryFrame, mkF, argsToLocals, Value.category]; done) | rfl
theorem pn_4 : plainFor (⟨"com/example/holdfast/holdfast/bench/LatencyHistogram", "shift", "(J)I"⟩ : MethodName) = true := plainFor_of_name (by first | (simp [plainName, overriddenIn]; done) | decide +kernel)
set_option maxRecDepth 65536 in
set_option maxHeartbeats 40000000 in
theorem rm_f_sh (l : Launch) (Z : State) (a0 : Array Value) (hw : ∀ d ∈ tables_1, d.before a0 Z = true) (ws : List Jvm.Cond) (q0 : Int64) (h0 : Heap) (SB : Sta Z h0 "com/example/holdfast/holdfast/bench/LatencyHistogram" "EXACT_BITS" "I" (.int (10 : Int32))) :
    OMet l (⟨"com/example/holdfast/holdfast/bench/LatencyHistogram", "shift", "(J)I"⟩ : MethodName) prog_14_method_7_code 3 (some .int) ws ({ frames := 2, cells := 0, slots := 0, locals := 32 } : Room) #[(.long q0)] Z h0 (fun v h L => v = some (Value.int (f_sh q0)) ∧ L = [] ∧ h = h0) := by
  refine OMet.of pn_4 (fun m => ef_4_f_sh m q0) ?_
  intro p e s m below meth c s₁ hx hby hml hown hnm hret hlk hZ X0 e0
  refine Owes.go ?_ fun t₀ k₀ => XS.bipush X0.here hx rfl (hb hby d4_0) k₀
  show Owes _ _ _ _ (s₁.setTop (mkF m 2 #[.val (.long q0), .second, .unset] [(.int (63 : Int32))]))
  refine Owes.go ?_ fun t₀ k₀ => XS.lloadN X0.here hx rfl (hb hby d4_2) rfl k₀
  show Owes _ _ _ _ (s₁.setTop (mkF m 3 #[.val (.long q0), .second, .unset] [(.long q0), (.int (63 : Int32))]))
  refine Owes.callS X0 hx hZ hown (hw _ (List.mem_of_getElem? (i := 16) rfl)) (hw _ (List.mem_of_getElem? (i := 17) rfl)) (hw _ (List.mem_of_getElem? (i := 18) rfl)) (hw _ (List.mem_of_getElem? (i := 19) rfl)) (by decide) (argsL := [(.long q0)]) (rest := [(.int (63 : Int32))]) (rm_f_nlzJ l Z a0 hw [] q0 h0 ) e0 (by rw [hml]; rfl) pd_1 rfl rfl (hb hby d4_3) (by decide) (Nat.le_of_ble_eq_true rfl) (by decide) (by decide) ?_
  rintro T3 _ _ X3 ⟨rfl, rfl, e3⟩
  rw [List.append_nil] at X3
  show Owes _ _ _ _ (T3.setTop (mkF m 6 #[.val (.long q0), .second, .unset] [(.int (f_nlzJ q0)), (.int (63 : Int32))]))
  refine Owes.go ?_ fun t₀ k₀ => XS.isub X3.here hx rfl (hb hby d4_6) rfl k₀
  show Owes _ _ _ _ (T3.setTop (mkF m 7 #[.val (.long q0), .second, .unset] [(.int ((63 : Int32) - (f_nlzJ q0)))]))
  refine Owes.go ?_ fun t₀ k₀ => XS.istoreN X3.here hx rfl (hb hby d4_7) rfl (l' := #[.val (.long q0), .second, .val (.int ((63 : Int32) - (f_nlzJ q0)))]) rfl k₀
  show Owes _ _ _ _ (T3.setTop (mkF m 8 #[.val (.long q0), .second, .val (.int ((63 : Int32) - (f_nlzJ q0)))] []))
  refine Owes.go ?_ fun t₀ k₀ => XS.iconst X3.here hx rfl (hb hby d4_8) k₀
  show Owes _ _ _ _ (T3.setTop (mkF m 9 #[.val (.long q0), .second, .val (.int ((63 : Int32) - (f_nlzJ q0)))] [(.int (0 : Int32))]))
  refine Owes.go ?_ fun t₀ k₀ => XS.iloadN X3.here hx rfl (hb hby d4_9) rfl k₀
  show Owes _ _ _ _ (T3.setTop (mkF m 10 #[.val (.long q0), .second, .val (.int ((63 : Int32) - (f_nlzJ q0)))] [(.int ((63 : Int32) - (f_nlzJ q0))), (.int (0 : Int32))]))
  refine Owes.go ?_ fun t₀ k₀ => XS.iconst X3.here hx rfl (hb hby d4_10) k₀
  show Owes _ _ _ _ (T3.setTop (mkF m 11 #[.val (.long q0), .second, .val (.int ((63 : Int32) - (f_nlzJ q0)))] [(.int (1 : Int32)), (.int ((63 : Int32) - (f_nlzJ q0))), (.int (0 : Int32))]))
  refine Owes.go ?_ fun t₀ k₀ => XS.iadd X3.here hx rfl (hb hby d4_11) rfl k₀
  show Owes _ _ _ _ (T3.setTop (mkF m 12 #[.val (.long q0), .second, .val (.int ((63 : Int32) - (f_nlzJ q0)))] [(.int (((63 : Int32) - (f_nlzJ q0)) + (1 : Int32))), (.int (0 : Int32))]))
  obtain ⟨T4, X4, e4, st4⟩ := getS2 X3 hx hZ hown (host := "") (Or.inl (hw _ (List.mem_of_getElem? (i := 24) rfl))) Via.refl e3 SB (g := (mkF m 12 #[.val (.long q0), .second, .val (.int ((63 : Int32) - (f_nlzJ q0)))] [(.int (((63 : Int32) - (f_nlzJ q0)) + (1 : Int32))), (.int (0 : Int32))])) rfl (hb hby d4_12)
  refine Owes.go ?_ st4
  show Owes _ _ _ _ (T4.setTop (mkF m 15 #[.val (.long q0), .second, .val (.int ((63 : Int32) - (f_nlzJ q0)))] [(.int (10 : Int32)), (.int (((63 : Int32) - (f_nlzJ q0)) + (1 : Int32))), (.int (0 : Int32))]))
  refine Owes.go ?_ fun t₀ k₀ => XS.isub X4.here hx rfl (hb hby d4_15) rfl k₀
  show Owes _ _ _ _ (T4.setTop (mkF m 16 #[.val (.long q0), .second, .val (.int ((63 : Int32) - (f_nlzJ q0)))] [(.int ((((63 : Int32) - (f_nlzJ q0)) + (1 : Int32)) - (10 : Int32))), (.int (0 : Int32))]))
  refine Owes.callS X4 hx hZ hown (hw _ (List.mem_of_getElem? (i := 26) rfl)) (hw _ (List.mem_of_getElem? (i := 27) rfl)) (hw _ (List.mem_of_getElem? (i := 28) rfl)) (hw _ (List.mem_of_getElem? (i := 29) rfl)) (by decide) (argsL := [(.int (0 : Int32)), (.int ((((63 : Int32) - (f_nlzJ q0)) + (1 : Int32)) - (10 : Int32)))]) (rest := []) (rm_f_maxI l Z a0 hw [] (0 : Int32) ((((63 : Int32) - (f_nlzJ q0)) + (1 : Int32)) - (10 : Int32)) h0 ) e4 (by rw [hml]; rfl) pd_2 rfl rfl (hb hby d4_16) (by decide) (Nat.le_of_ble_eq_true rfl) (by decide) (by decide) ?_
  rintro T5 _ _ X5 ⟨rfl, rfl, e5⟩
  rw [List.append_nil] at X5
  show Owes _ _ _ _ (T5.setTop (mkF m 19 #[.val (.long q0), .second, .val (.int ((63 : Int32) - (f_nlzJ q0)))] [(.int (f_maxI (0 : Int32) ((((63 : Int32) - (f_nlzJ q0)) + (1 : Int32)) - (10 : Int32))))]))
  exact Owes.retI X5 hx hlk hret (hb hby d4_19) (by decide) (by decide) ⟨congrArg (fun z => some (Value.int z)) (by unfold f_sh; first | done | rfl), rfl, e5⟩
theorem d3_0 : decode prog_14_method_5_code 0 = .ok (.lload_n 0, 1) := by decide +kernel
theorem d3_1 : decode prog_14_method_5_code 1 = .ok (.invokestatic 61, 3) := by decide +kernel
theorem d3_4 : decode prog_14_method_5_code 4 = .ok (.istore_n 2, 1) := by decide +kernel
theorem d3_5 : decode prog_14_method_5_code 5 = .ok (.iload_n 2, 1) := by decide +kernel
theorem d3_6 : decode prog_14_method_5_code 6 = .ok (.i2l, 1) := by decide +kernel
theorem d3_7 : decode prog_14_method_5_code 7 = .ok (.ldc2_w 64, 3) := by decide +kernel
theorem d3_10 : decode prog_14_method_5_code 10 = .ok (.lmul, 1) := by decide +kernel
theorem d3_11 : decode prog_14_method_5_code 11 = .ok (.lload_n 0, 1) := by decide +kernel
theorem d3_12 : decode prog_14_method_5_code 12 = .ok (.iload_n 2, 1) := by decide +kernel
theorem d3_13 : decode prog_14_method_5_code 13 = .ok (.lushr, 1) := by decide +kernel
theorem d3_14 : decode prog_14_method_5_code 14 = .ok (.ladd, 1) := by decide +kernel
theorem d3_15 : decode prog_14_method_5_code 15 = .ok (.l2i, 1) := by decide +kernel
theorem d3_16 : decode prog_14_method_5_code 16 = .ok (.ireturn, 1) := by decide +kernel
def f_bk (q0 : Int64)  : Int32 := (((((f_sh q0).toInt64) * (512 : Int64)) + ((q0.toUInt64 >>> ((f_sh q0) &&& 0x3f).toInt64.toUInt64).toInt64)).toInt32)
theorem ef_3_f_bk (m : MethodId) (q0 : Int64) : entryFrame m #[(.long q0)] 3 = mkF m 0 #[.val (.long q0), .second, .unset] [] := by first | (simp [entryFrame, mkF, argsToLocals, Value.category]; done) | rfl
theorem pn_3 : plainFor (⟨"com/example/holdfast/holdfast/bench/LatencyHistogram", "bucket", "(J)I"⟩ : MethodName) = true := plainFor_of_name (by first | (simp [plainName, overriddenIn]; done) | decide +kernel)
set_option maxRecDepth 65536 in
set_option maxHeartbeats 40000000 in
theorem rm_f_bk (l : Launch) (Z : State) (a0 : Array Value) (hw : ∀ d ∈ tables_1, d.before a0 Z = true) (ws : List Jvm.Cond) (q0 : Int64) (h0 : Heap) (SB : Sta Z h0 "com/example/holdfast/holdfast/bench/LatencyHistogram" "EXACT_BITS" "I" (.int (10 : Int32))) :
    OMet l (⟨"com/example/holdfast/holdfast/bench/LatencyHistogram", "bucket", "(J)I"⟩ : MethodName) prog_14_method_5_code 3 (some .int) ws ({ frames := 3, cells := 0, slots := 0, locals := 48 } : Room) #[(.long q0)] Z h0 (fun v h L => v = some (Value.int (f_bk q0)) ∧ L = [] ∧ h = h0) := by
  refine OMet.of pn_3 (fun m => ef_3_f_bk m q0) ?_
  intro p e s m below meth c s₁ hx hby hml hown hnm hret hlk hZ X0 e0
  refine Owes.go ?_ fun t₀ k₀ => XS.lloadN X0.here hx rfl (hb hby d3_0) rfl k₀
  show Owes _ _ _ _ (s₁.setTop (mkF m 1 #[.val (.long q0), .second, .unset] [(.long q0)]))
  refine Owes.callS X0 hx hZ hown (hw _ (List.mem_of_getElem? (i := 13) rfl)) (hw _ (List.mem_of_getElem? (i := 14) rfl)) (hw _ (List.mem_of_getElem? (i := 2) rfl)) (hw _ (List.mem_of_getElem? (i := 15) rfl)) (by decide) (argsL := [(.long q0)]) (rest := []) (rm_f_sh l Z a0 hw [] q0 h0 SB) e0 (by rw [hml]; rfl) pd_1 rfl rfl (hb hby d3_1) (by decide) (Nat.le_of_ble_eq_true rfl) (by decide) (by decide) ?_
  rintro T6 _ _ X6 ⟨rfl, rfl, e6⟩
  rw [List.append_nil] at X6
  show Owes _ _ _ _ (T6.setTop (mkF m 4 #[.val (.long q0), .second, .unset] [(.int (f_sh q0))]))
  refine Owes.go ?_ fun t₀ k₀ => XS.istoreN X6.here hx rfl (hb hby d3_4) rfl (l' := #[.val (.long q0), .second, .val (.int (f_sh q0))]) rfl k₀
  show Owes _ _ _ _ (T6.setTop (mkF m 5 #[.val (.long q0), .second, .val (.int (f_sh q0))] []))
  refine Owes.go ?_ fun t₀ k₀ => XS.iloadN X6.here hx rfl (hb hby d3_5) rfl k₀
  show Owes _ _ _ _ (T6.setTop (mkF m 6 #[.val (.long q0), .second, .val (.int (f_sh q0))] [(.int (f_sh q0))]))
  refine Owes.go ?_ fun t₀ k₀ => XS.i2l X6.here hx rfl (hb hby d3_6) rfl k₀
  show Owes _ _ _ _ (T6.setTop (mkF m 7 #[.val (.long q0), .second, .val (.int (f_sh q0))] [(.long ((f_sh q0).toInt64))]))
  refine Owes.go ?_ fun t₀ k₀ => X6.ldc2Long hx hown (mvT hZ (hw _ (List.mem_of_getElem? (i := 30) rfl))) (g := (mkF m 7 #[.val (.long q0), .second, .val (.int (f_sh q0))] [(.long ((f_sh q0).toInt64))])) rfl (hb hby d3_7) _ k₀
  show Owes _ _ _ _ (T6.setTop (mkF m 10 #[.val (.long q0), .second, .val (.int (f_sh q0))] [(.long (512 : Int64)), (.long ((f_sh q0).toInt64))]))
  refine Owes.go ?_ fun t₀ k₀ => XS.lmul X6.here hx rfl (hb hby d3_10) rfl k₀
  show Owes _ _ _ _ (T6.setTop (mkF m 11 #[.val (.long q0), .second, .val (.int (f_sh q0))] [(.long (((f_sh q0).toInt64) * (512 : Int64)))]))
  refine Owes.go ?_ fun t₀ k₀ => XS.lloadN X6.here hx rfl (hb hby d3_11) rfl k₀
  show Owes _ _ _ _ (T6.setTop (mkF m 12 #[.val (.long q0), .second, .val (.int (f_sh q0))] [(.long q0), (.long (((f_sh q0).toInt64) * (512 : Int64)))]))
  refine Owes.go ?_ fun t₀ k₀ => XS.iloadN X6.here hx rfl (hb hby d3_12) rfl k₀
  show Owes _ _ _ _ (T6.setTop (mkF m 13 #[.val (.long q0), .second, .val (.int (f_sh q0))] [(.int (f_sh q0)), (.long q0), (.long (((f_sh q0).toInt64) * (512 : Int64)))]))
  refine Owes.go ?_ fun t₀ k₀ => XS.lushr X6.here hx rfl (hb hby d3_13) rfl k₀
  show Owes _ _ _ _ (T6.setTop (mkF m 14 #[.val (.long q0), .second, .val (.int (f_sh q0))] [(.long ((q0.toUInt64 >>> ((f_sh q0) &&& 0x3f).toInt64.toUInt64).toInt64)), (.long (((f_sh q0).toInt64) * (512 : Int64)))]))
  refine Owes.go ?_ fun t₀ k₀ => XS.ladd X6.here hx rfl (hb hby d3_14) rfl k₀
  show Owes _ _ _ _ (T6.setTop (mkF m 15 #[.val (.long q0), .second, .val (.int (f_sh q0))] [(.long ((((f_sh q0).toInt64) * (512 : Int64)) + ((q0.toUInt64 >>> ((f_sh q0) &&& 0x3f).toInt64.toUInt64).toInt64)))]))
  refine Owes.go ?_ fun t₀ k₀ => XS.l2i X6.here hx rfl (hb hby d3_15) rfl k₀
  show Owes _ _ _ _ (T6.setTop (mkF m 16 #[.val (.long q0), .second, .val (.int (f_sh q0))] [(.int (((((f_sh q0).toInt64) * (512 : Int64)) + ((q0.toUInt64 >>> ((f_sh q0) &&& 0x3f).toInt64.toUInt64).toInt64)).toInt32))]))
  exact Owes.retI X6 hx hlk hret (hb hby d3_16) (by decide) (by decide) ⟨congrArg (fun z => some (Value.int z)) (by unfold f_bk; first | done | rfl), rfl, e6⟩
theorem d18_0 : decode prog_14_method_6_code 0 = .ok (.iload_n 0, 1) := by decide +kernel
theorem d18_1 : decode prog_14_method_6_code 1 = .ok (.i2l, 1) := by decide +kernel
theorem d18_2 : decode prog_14_method_6_code 2 = .ok (.getstatic 66, 3) := by decide +kernel
theorem d18_5 : decode prog_14_method_6_code 5 = .ok (.lcmp, 1) := by decide +kernel
theorem d18_6 : decode prog_14_method_6_code 6 = .ok (.ifCond .ge 7, 3) := by decide +kernel
theorem d18_9 : decode prog_14_method_6_code 9 = .ok (.iconst 0, 1) := by decide +kernel
theorem d18_10 : decode prog_14_method_6_code 10 = .ok (.goto 10, 3) := by decide +kernel
theorem d18_20 : decode prog_14_method_6_code 20 = .ok (.istore_n 1, 1) := by decide +kernel
theorem d18_21 : decode prog_14_method_6_code 21 = .ok (.iload_n 0, 1) := by decide +kernel
theorem d18_22 : decode prog_14_method_6_code 22 = .ok (.iload_n 1, 1) := by decide +kernel
theorem d18_23 : decode prog_14_method_6_code 23 = .ok (.sipush 512, 3) := by decide +kernel
theorem d18_26 : decode prog_14_method_6_code 26 = .ok (.imul, 1) := by decide +kernel
theorem d18_27 : decode prog_14_method_6_code 27 = .ok (.isub, 1) := by decide +kernel
theorem d18_28 : decode prog_14_method_6_code 28 = .ok (.i2l, 1) := by decide +kernel
theorem d18_29 : decode prog_14_method_6_code 29 = .ok (.iload_n 1, 1) := by decide +kernel
theorem d18_30 : decode prog_14_method_6_code 30 = .ok (.lshl, 1) := by decide +kernel
theorem d18_31 : decode prog_14_method_6_code 31 = .ok (.lreturn, 1) := by decide +kernel
theorem d18_13 : decode prog_14_method_6_code 13 = .ok (.iload_n 0, 1) := by decide +kernel
theorem d18_14 : decode prog_14_method_6_code 14 = .ok (.sipush 512, 3) := by decide +kernel
theorem d18_17 : decode prog_14_method_6_code 17 = .ok (.idiv, 1) := by decide +kernel
theorem d18_18 : decode prog_14_method_6_code 18 = .ok (.iconst 1, 1) := by decide +kernel
theorem d18_19 : decode prog_14_method_6_code 19 = .ok (.isub, 1) := by decide +kernel
def f_lo (p0 : Int32)  : Int64 := (if (p0.toInt64) < (1024 : Int64) then (((p0 - ((0 : Int32) * (512 : Int32))).toInt64) <<< ((0 : Int32) &&& 0x3f).toInt64) else (((p0 - (((p0 / (512 : Int32)) - (1 : Int32)) * (512 : Int32))).toInt64) <<< (((p0 / (512 : Int32)) - (1 : Int32)) &&& 0x3f).toInt64))
theorem ef_18_f_lo (m : MethodId) (p0 : Int32) : entryFrame m #[(.int p0)] 2 = mkF m 0 #[.val (.int p0), .unset] [] := by first | (simp [entryFrame, mkF, argsToLocals, Value.category]; done) | rfl
theorem pn_18 : plainFor (⟨"com/example/holdfast/holdfast/bench/LatencyHistogram", "lowest", "(I)J"⟩ : MethodName) = true := plainFor_of_name (by first | (simp [plainName, overriddenIn]; done) | decide +kernel)
set_option maxRecDepth 65536 in
set_option maxHeartbeats 40000000 in
theorem rm_f_lo (l : Launch) (Z : State) (a0 : Array Value) (hw : ∀ d ∈ tables_1, d.before a0 Z = true) (ws : List Jvm.Cond) (p0 : Int32) (h0 : Heap) (SE : Sta Z h0 "com/example/holdfast/holdfast/bench/LatencyHistogram" "EXACT_BELOW" "J" (.long (1024 : Int64))) :
    OMet l (⟨"com/example/holdfast/holdfast/bench/LatencyHistogram", "lowest", "(I)J"⟩ : MethodName) prog_14_method_6_code 2 (some .long) ws ({ frames := 0, cells := 0, slots := 0, locals := 0 } : Room) #[(.int p0)] Z h0 (fun v h L => v = some (Value.long (f_lo p0)) ∧ L = [] ∧ h = h0) := by
  refine OMet.of pn_18 (fun m => ef_18_f_lo m p0) ?_
  intro p e s m below meth c s₁ hx hby hml hown hnm hret hlk hZ X0 e0
  refine Owes.go ?_ fun t₀ k₀ => XS.iloadN X0.here hx rfl (hb hby d18_0) rfl k₀
  show Owes _ _ _ _ (s₁.setTop (mkF m 1 #[.val (.int p0), .unset] [(.int p0)]))
  refine Owes.go ?_ fun t₀ k₀ => XS.i2l X0.here hx rfl (hb hby d18_1) rfl k₀
  show Owes _ _ _ _ (s₁.setTop (mkF m 2 #[.val (.int p0), .unset] [(.long (p0.toInt64))]))
  obtain ⟨T7, X7, e7, st7⟩ := getS2 X0 hx hZ hown (host := "") (Or.inl (hw _ (List.mem_of_getElem? (i := 98) rfl))) Via.refl e0 SE (g := (mkF m 2 #[.val (.int p0), .unset] [(.long (p0.toInt64))])) rfl (hb hby d18_2)
  refine Owes.go ?_ st7
  show Owes _ _ _ _ (T7.setTop (mkF m 5 #[.val (.int p0), .unset] [(.long (1024 : Int64)), (.long (p0.toInt64))]))
  refine Owes.go ?_ fun t₀ k₀ => XS.lcmp X7.here hx rfl (hb hby d18_5) rfl k₀
  show Owes _ _ _ _ (T7.setTop (mkF m 6 #[.val (.int p0), .unset] [(.int (lcmpW (p0.toInt64) (1024 : Int64)))]))
  by_cases hc1 : (p0.toInt64) < (1024 : Int64)
  · skip
    refine Owes.go ?_ fun t₀ k₀ => XS.ifNo X7.here hx rfl (hb hby d18_6) rfl ((if0 _ _).trans (tlt ((lw_lt _ _).mpr hc1)).2.1) k₀
    show Owes _ _ _ _ (T7.setTop (mkF m 9 #[.val (.int p0), .unset] []))
    refine Owes.go ?_ fun t₀ k₀ => XS.iconst X7.here hx rfl (hb hby d18_9) k₀
    show Owes _ _ _ _ (T7.setTop (mkF m 10 #[.val (.int p0), .unset] [(.int (0 : Int32))]))
    refine Owes.go ?_ fun t₀ k₀ => XS.goto X7.here hx rfl (pc0 := 10) (pc' := 20) rfl (hb hby d18_10) (by decide) (by decide) k₀
    show Owes _ _ _ _ (T7.setTop (mkF m 20 #[.val (.int p0), .unset] [(.int (0 : Int32))]))
    refine Owes.go ?_ fun t₀ k₀ => XS.istoreN X7.here hx rfl (hb hby d18_20) rfl (l' := #[.val (.int p0), .val (.int (0 : Int32))]) rfl k₀
    show Owes _ _ _ _ (T7.setTop (mkF m 21 #[.val (.int p0), .val (.int (0 : Int32))] []))
    refine Owes.go ?_ fun t₀ k₀ => XS.iloadN X7.here hx rfl (hb hby d18_21) rfl k₀
    show Owes _ _ _ _ (T7.setTop (mkF m 22 #[.val (.int p0), .val (.int (0 : Int32))] [(.int p0)]))
    refine Owes.go ?_ fun t₀ k₀ => XS.iloadN X7.here hx rfl (hb hby d18_22) rfl k₀
    show Owes _ _ _ _ (T7.setTop (mkF m 23 #[.val (.int p0), .val (.int (0 : Int32))] [(.int (0 : Int32)), (.int p0)]))
    refine Owes.go ?_ fun t₀ k₀ => XS.sipush X7.here hx rfl (hb hby d18_23) k₀
    show Owes _ _ _ _ (T7.setTop (mkF m 26 #[.val (.int p0), .val (.int (0 : Int32))] [(.int (512 : Int32)), (.int (0 : Int32)), (.int p0)]))
    refine Owes.go ?_ fun t₀ k₀ => XS.imul X7.here hx rfl (hb hby d18_26) rfl k₀
    show Owes _ _ _ _ (T7.setTop (mkF m 27 #[.val (.int p0), .val (.int (0 : Int32))] [(.int ((0 : Int32) * (512 : Int32))), (.int p0)]))
    refine Owes.go ?_ fun t₀ k₀ => XS.isub X7.here hx rfl (hb hby d18_27) rfl k₀
    show Owes _ _ _ _ (T7.setTop (mkF m 28 #[.val (.int p0), .val (.int (0 : Int32))] [(.int (p0 - ((0 : Int32) * (512 : Int32))))]))
    refine Owes.go ?_ fun t₀ k₀ => XS.i2l X7.here hx rfl (hb hby d18_28) rfl k₀
    show Owes _ _ _ _ (T7.setTop (mkF m 29 #[.val (.int p0), .val (.int (0 : Int32))] [(.long ((p0 - ((0 : Int32) * (512 : Int32))).toInt64))]))
    refine Owes.go ?_ fun t₀ k₀ => XS.iloadN X7.here hx rfl (hb hby d18_29) rfl k₀
    show Owes _ _ _ _ (T7.setTop (mkF m 30 #[.val (.int p0), .val (.int (0 : Int32))] [(.int (0 : Int32)), (.long ((p0 - ((0 : Int32) * (512 : Int32))).toInt64))]))
    refine Owes.go ?_ fun t₀ k₀ => XS.lshl X7.here hx rfl (hb hby d18_30) rfl k₀
    show Owes _ _ _ _ (T7.setTop (mkF m 31 #[.val (.int p0), .val (.int (0 : Int32))] [(.long (((p0 - ((0 : Int32) * (512 : Int32))).toInt64) <<< ((0 : Int32) &&& 0x3f).toInt64))]))
    exact Owes.retJ X7 hx hlk hret (hb hby d18_31) (by decide) (by decide) ⟨congrArg (fun z => some (Value.long z)) (by unfold f_lo; rw [if_pos hc1]; first | done | rfl), rfl, e7⟩
  · skip
    refine Owes.go ?_ fun t₀ k₀ => XS.ifYes X7.here hx rfl (pc0 := 6) (pc' := 13) rfl (hb hby d18_6) rfl ((if0 _ _).trans (flt (fun q => hc1 ((lw_lt _ _).mp q))).2.1) (by decide) (by decide) k₀
    show Owes _ _ _ _ (T7.setTop (mkF m 13 #[.val (.int p0), .unset] []))
    refine Owes.go ?_ fun t₀ k₀ => XS.iloadN X7.here hx rfl (hb hby d18_13) rfl k₀
    show Owes _ _ _ _ (T7.setTop (mkF m 14 #[.val (.int p0), .unset] [(.int p0)]))
    refine Owes.go ?_ fun t₀ k₀ => XS.sipush X7.here hx rfl (hb hby d18_14) k₀
    show Owes _ _ _ _ (T7.setTop (mkF m 17 #[.val (.int p0), .unset] [(.int (512 : Int32)), (.int p0)]))
    refine Owes.go ?_ fun t₀ k₀ => XS.idiv X7.here hx rfl (hb hby d18_17) rfl (by decide : ¬ ((512 : Int32) = (0 : Int32))) k₀
    show Owes _ _ _ _ (T7.setTop (mkF m 18 #[.val (.int p0), .unset] [(.int (p0 / (512 : Int32)))]))
    refine Owes.go ?_ fun t₀ k₀ => XS.iconst X7.here hx rfl (hb hby d18_18) k₀
    show Owes _ _ _ _ (T7.setTop (mkF m 19 #[.val (.int p0), .unset] [(.int (1 : Int32)), (.int (p0 / (512 : Int32)))]))
    refine Owes.go ?_ fun t₀ k₀ => XS.isub X7.here hx rfl (hb hby d18_19) rfl k₀
    show Owes _ _ _ _ (T7.setTop (mkF m 20 #[.val (.int p0), .unset] [(.int ((p0 / (512 : Int32)) - (1 : Int32)))]))
    refine Owes.go ?_ fun t₀ k₀ => XS.istoreN X7.here hx rfl (hb hby d18_20) rfl (l' := #[.val (.int p0), .val (.int ((p0 / (512 : Int32)) - (1 : Int32)))]) rfl k₀
    show Owes _ _ _ _ (T7.setTop (mkF m 21 #[.val (.int p0), .val (.int ((p0 / (512 : Int32)) - (1 : Int32)))] []))
    refine Owes.go ?_ fun t₀ k₀ => XS.iloadN X7.here hx rfl (hb hby d18_21) rfl k₀
    show Owes _ _ _ _ (T7.setTop (mkF m 22 #[.val (.int p0), .val (.int ((p0 / (512 : Int32)) - (1 : Int32)))] [(.int p0)]))
    refine Owes.go ?_ fun t₀ k₀ => XS.iloadN X7.here hx rfl (hb hby d18_22) rfl k₀
    show Owes _ _ _ _ (T7.setTop (mkF m 23 #[.val (.int p0), .val (.int ((p0 / (512 : Int32)) - (1 : Int32)))] [(.int ((p0 / (512 : Int32)) - (1 : Int32))), (.int p0)]))
    refine Owes.go ?_ fun t₀ k₀ => XS.sipush X7.here hx rfl (hb hby d18_23) k₀
    show Owes _ _ _ _ (T7.setTop (mkF m 26 #[.val (.int p0), .val (.int ((p0 / (512 : Int32)) - (1 : Int32)))] [(.int (512 : Int32)), (.int ((p0 / (512 : Int32)) - (1 : Int32))), (.int p0)]))
    refine Owes.go ?_ fun t₀ k₀ => XS.imul X7.here hx rfl (hb hby d18_26) rfl k₀
    show Owes _ _ _ _ (T7.setTop (mkF m 27 #[.val (.int p0), .val (.int ((p0 / (512 : Int32)) - (1 : Int32)))] [(.int (((p0 / (512 : Int32)) - (1 : Int32)) * (512 : Int32))), (.int p0)]))
    refine Owes.go ?_ fun t₀ k₀ => XS.isub X7.here hx rfl (hb hby d18_27) rfl k₀
    show Owes _ _ _ _ (T7.setTop (mkF m 28 #[.val (.int p0), .val (.int ((p0 / (512 : Int32)) - (1 : Int32)))] [(.int (p0 - (((p0 / (512 : Int32)) - (1 : Int32)) * (512 : Int32))))]))
    refine Owes.go ?_ fun t₀ k₀ => XS.i2l X7.here hx rfl (hb hby d18_28) rfl k₀
    show Owes _ _ _ _ (T7.setTop (mkF m 29 #[.val (.int p0), .val (.int ((p0 / (512 : Int32)) - (1 : Int32)))] [(.long ((p0 - (((p0 / (512 : Int32)) - (1 : Int32)) * (512 : Int32))).toInt64))]))
    refine Owes.go ?_ fun t₀ k₀ => XS.iloadN X7.here hx rfl (hb hby d18_29) rfl k₀
    show Owes _ _ _ _ (T7.setTop (mkF m 30 #[.val (.int p0), .val (.int ((p0 / (512 : Int32)) - (1 : Int32)))] [(.int ((p0 / (512 : Int32)) - (1 : Int32))), (.long ((p0 - (((p0 / (512 : Int32)) - (1 : Int32)) * (512 : Int32))).toInt64))]))
    refine Owes.go ?_ fun t₀ k₀ => XS.lshl X7.here hx rfl (hb hby d18_30) rfl k₀
    show Owes _ _ _ _ (T7.setTop (mkF m 31 #[.val (.int p0), .val (.int ((p0 / (512 : Int32)) - (1 : Int32)))] [(.long (((p0 - (((p0 / (512 : Int32)) - (1 : Int32)) * (512 : Int32))).toInt64) <<< (((p0 / (512 : Int32)) - (1 : Int32)) &&& 0x3f).toInt64))]))
    exact Owes.retJ X7 hx hlk hret (hb hby d18_31) (by decide) (by decide) ⟨congrArg (fun z => some (Value.long z)) (by unfold f_lo; rw [if_neg hc1]; first | done | rfl), rfl, e7⟩
section OwnLH
variable {Z : State} {a0 : Array Value} {h h' : Heap} {r a b : Addr} {f f' : Nat → Int64} {t : Int64} {k : Nat} {x : Int64} {ws : List Addr}
def StK (Z : State) (h h' : Heap) : Prop := ∀ (C n d : String) (v : Value), Sta Z h C n d v → Sta Z h' C n d v
theorem StK.refl (Z : State) (h : Heap) : StK Z h h := fun _ _ _ _ q => q
theorem StK.ext {h2 : Heap} (K : StK Z h h') (E : Ext h' h2) : StK Z h h2 := fun C n d v q => Sta.ext E (K C n d v q)
theorem StK.wr {h2 : Heap} {a : Addr} {sl : Nat} {w : Value} (K : StK Z h h') (W : Wr h' h2 a sl w) : StK Z h h2 := fun C n d v q => Sta.wr W (K C n d v q)
theorem StK.trans {h2 : Heap} (K : StK Z h h') (K' : StK Z h' h2) : StK Z h h2 := fun C n d v q => K' C n d v (K C n d v q)
theorem Sta.keep0 {C n d : String} {v : Value} (F : Sta Z h C n d v) (K : Keep h h' []) : Sta Z h' C n d v := by
  obtain ⟨cf, i, k, f, st, cell, h1, h2, h3, h4, h5, h6, h7⟩ := F
  exact ⟨cf, i, k, f, st, cell, h1, h2, h3, h4, K.2.1 st cell h5 List.not_mem_nil, h6, h7⟩
def LHo (Z : State) (h : Heap) (r a : Addr) (f : Nat → Int64) (t : Int64) : Prop :=
  Exa Z h r "com/example/holdfast/holdfast/bench/LatencyHistogram" ∧ Fld Z h r "com/example/holdfast/holdfast/bench/LatencyHistogram" "counts" "[J" (.ref a) ∧ Fld Z h r "com/example/holdfast/holdfast/bench/LatencyHistogram" "total" "J" (.long t) ∧ GA Z h a .long 12288 (fun i => .long (f i))
theorem LHo.keep (O : LHo Z h r a f t) (K : Keep h h' ws) (q1 : r ∉ ws) (q2 : a ∉ ws) : LHo Z h' r a f t := by
  obtain ⟨e, f1, f2, g⟩ := O
  exact ⟨e.keep K, f1.keep K q1, f2.keep K q1, g.keep K q2⟩
theorem LHo.ext (O : LHo Z h r a f t) (E : Ext h h') : LHo Z h' r a f t := ⟨O.1.ext E, O.2.1.ext E, O.2.2.1.ext E, O.2.2.2.ext E⟩
theorem LHo.ne (O : LHo Z h r a f t) (wi : (Jvm.Cond.instantiable "com/example/holdfast/holdfast/bench/LatencyHistogram" 2).before a0 Z = true) : r ≠ a := GA.ne_obj O.1 wi O.2.2.2
theorem own_ni1 {a x : Nat} (h1 : a ≠ x) : a ∉ [x] := by simp [h1]
theorem own_ni2 {a x y : Nat} (h1 : a ≠ x) (h2 : a ≠ y) : a ∉ [x, y] := by simp [h1, h2]
theorem GA.setJ {a : Addr} {n k : Nat} {w : Nat → Int64} {x : Int64} (A : GA Z h a .long n (upd (fun i => Value.long (w i)) k (.long x))) : GA Z h a .long n (fun i => .long (upd w k x i)) :=
  A.congr fun i _ => by
    by_cases q : i = k
    · rw [q, upd_same, upd_same]
    · rw [upd_ne _ _ q, upd_ne _ _ q]
theorem LHo.setA (O : LHo Z h r a f t) (wi : (Jvm.Cond.instantiable "com/example/holdfast/holdfast/bench/LatencyHistogram" 2).before a0 Z = true) (W : Wr h h' a k (.long x)) (G : GA Z h' a .long 12288 (upd (fun i => Value.long (f i)) k (.long x))) (hf : ∀ i, i < 12288 → upd f k x i = f' i) : LHo Z h' r a f' t := by
  have n := O.ne wi
  obtain ⟨e, f1, f2, g⟩ := O
  exact ⟨Exa.wr W e, Fld.other W f1 (Or.inl n), Fld.other W f2 (Or.inl n), (GA.setJ G).congr fun i hi => congrArg Value.long (hf i hi)⟩
theorem LHo.otherA {v : Value} {sl : Nat} (O : LHo Z h r a f t) (W : Wr h h' b sl v) (n1 : r ≠ b) (n2 : a ≠ b) : LHo Z h' r a f t := by
  obtain ⟨e, f1, f2, g⟩ := O
  exact ⟨Exa.wr W e, Fld.other W f1 (Or.inl n1), Fld.other W f2 (Or.inl n1), g.other W n2⟩
theorem StK.of_keep (K : Keep h h' []) : StK Z h h' := fun _ _ _ _ F => Sta.keep0 F K
theorem own_ge1 {n a : Nat} (q : n ≤ a) : ∀ x ∈ [a], x ∈ ([] : List Addr) ∨ n ≤ x := fun x hx => Or.inr (by rw [List.mem_singleton.mp hx]; exact q)
theorem own_ge2 {n a b : Nat} (q1 : n ≤ a) (q2 : n ≤ b) : ∀ x ∈ [a, b], x ∈ ([] : List Addr) ∨ n ≤ x := fun x hx => Or.inr (by
  simp only [List.mem_cons, List.not_mem_nil, or_false] at hx
  rcases hx with rfl | rfl
  · exact q1
  · exact q2)
def mix (f g : Nat → Int64) (k : Nat) : Nat → Int64 := fun i => if i < k then f i + g i else f i
theorem mix_zero (f g : Nat → Int64) (i : Nat) : f i = mix f g 0 i := (if_neg (Nat.not_lt_zero i)).symm
theorem mix_at (f g : Nat → Int64) (k : Nat) : mix f g k k = f k := if_neg (Nat.lt_irrefl k)
theorem mix_up (f g : Nat → Int64) (k i : Nat) : upd (mix f g k) k (f k + g k) i = mix f g (k + 1) i := by
  unfold upd mix
  by_cases q : i = k
  · rw [if_pos q, q, if_pos (Nat.lt_succ_self k)]
  · rw [if_neg q]
    by_cases q2 : i < k
    · rw [if_pos q2, if_pos (by omega)]
    · rw [if_neg q2, if_neg (by omega)]
theorem LHo.congr (O : LHo Z h r a f t) (hf : ∀ i, i < 12288 → f i = f' i) : LHo Z h r a f' t := ⟨O.1, O.2.1, O.2.2.1, O.2.2.2.congr fun i hi => congrArg Value.long (hf i hi)⟩
end OwnLH
theorem d11_0 : decode jdk_2799_method_8_code 0 = .ok (.aload_n 0, 1) := by decide +kernel
theorem d11_1 : decode jdk_2799_method_8_code 1 = .ok (.getfield 44, 3) := by decide +kernel
theorem d11_4 : decode jdk_2799_method_8_code 4 = .ok (.dup2, 1) := by decide +kernel
theorem d11_5 : decode jdk_2799_method_8_code 5 = .ok (.lstore_n 3, 1) := by decide +kernel
theorem d11_6 : decode jdk_2799_method_8_code 6 = .ok (.ldc2_w 55, 3) := by decide +kernel
theorem d11_9 : decode jdk_2799_method_8_code 9 = .ok (.lcmp, 1) := by decide +kernel
theorem d11_10 : decode jdk_2799_method_8_code 10 = .ok (.ifCond .gt 22, 3) := by decide +kernel
theorem d11_13 : decode jdk_2799_method_8_code 13 = .ok (.lload_n 3, 1) := by decide +kernel
theorem d11_14 : decode jdk_2799_method_8_code 14 = .ok (.ldc2_w 55, 3) := by decide +kernel
theorem d11_17 : decode jdk_2799_method_8_code 17 = .ok (.lcmp, 1) := by decide +kernel
theorem d11_18 : decode jdk_2799_method_8_code 18 = .ok (.ifCond .ne 7, 3) := by decide +kernel
theorem d11_25 : decode jdk_2799_method_8_code 25 = .ok (.lload_n 1, 1) := by decide +kernel
theorem d11_26 : decode jdk_2799_method_8_code 26 = .ok (.aload_n 0, 1) := by decide +kernel
theorem d11_27 : decode jdk_2799_method_8_code 27 = .ok (.getfield 57, 3) := by decide +kernel
theorem d11_30 : decode jdk_2799_method_8_code 30 = .ok (.ldiv, 1) := by decide +kernel
theorem d11_31 : decode jdk_2799_method_8_code 31 = .ok (.lreturn, 1) := by decide +kernel
def f_tm (q1 : Int64)  : Int64 := (q1 / (1000 : Int64))
theorem ef_11_f_tm (m : MethodId) (r0 : Addr) (q1 : Int64) : entryFrame m #[(.ref r0), (.long q1)] 7 = mkF m 0 #[.val (.ref r0), .val (.long q1), .second, .unset, .unset, .unset, .unset] [] := by first | (simp [entryFrame, mkF, argsToLocals, Value.category]; done) | rfl
theorem pn_11 : plainFor (⟨"java/util/concurrent/TimeUnit", "toMicros", "(J)J"⟩ : MethodName) = true := plainFor_of_name (by first | (simp [plainName, overriddenIn]; done) | decide +kernel)
set_option maxRecDepth 65536 in
set_option maxHeartbeats 40000000 in
theorem rm_f_tm (l : Launch) (Z : State) (a0 : Array Value) (hw : ∀ d ∈ tables_1, d.before a0 Z = true) (ws : List Jvm.Cond) (r0 : Addr) (q1 : Int64) (h0 : Heap) (Fsc : Fld Z h0 r0 "java/util/concurrent/TimeUnit" "scale" "J" (.long (1 : Int64))) (Fmr : Fld Z h0 r0 "java/util/concurrent/TimeUnit" "microRatio" "J" (.long (1000 : Int64))) :
    OMet l (⟨"java/util/concurrent/TimeUnit", "toMicros", "(J)J"⟩ : MethodName) jdk_2799_method_8_code 7 (some .long) ws ({ frames := 0, cells := 0, slots := 0, locals := 0 } : Room) #[(.ref r0), (.long q1)] Z h0 (fun v h L => v = some (Value.long (f_tm q1)) ∧ L = [] ∧ h = h0) := by
  refine OMet.of pn_11 (fun m => ef_11_f_tm m r0 q1) ?_
  intro p e s m below meth c s₁ hx hby hml hown hnm hret hlk hZ X0 e0
  refine Owes.go ?_ fun t₀ k₀ => XS.aloadN X0.here hx rfl (hb hby d11_0) rfl rfl k₀
  show Owes _ _ _ _ (s₁.setTop (mkF m 1 #[.val (.ref r0), .val (.long q1), .second, .unset, .unset, .unset, .unset] [(.ref r0)]))
  obtain ⟨T8, X8, e8, st8⟩ := getF X0 hx hZ hown (host := "") (Or.inl (hw _ (List.mem_of_getElem? (i := 61) rfl))) Via.refl e0 Fsc (g := (mkF m 1 #[.val (.ref r0), .val (.long q1), .second, .unset, .unset, .unset, .unset] [(.ref r0)])) rfl rfl (hb hby d11_1)
  refine Owes.go ?_ st8
  show Owes _ _ _ _ (T8.setTop (mkF m 4 #[.val (.ref r0), .val (.long q1), .second, .unset, .unset, .unset, .unset] [(.long (1 : Int64))]))
  refine Owes.go ?_ fun t₀ k₀ => Jvm.Free.XT.dup2L X8.here hx rfl (hb hby d11_4) rfl k₀
  show Owes _ _ _ _ (T8.setTop (mkF m 5 #[.val (.ref r0), .val (.long q1), .second, .unset, .unset, .unset, .unset] [(.long (1 : Int64)), (.long (1 : Int64))]))
  refine Owes.go ?_ fun t₀ k₀ => XS.lstoreN X8.here hx rfl (hb hby d11_5) rfl (l' := #[.val (.ref r0), .val (.long q1), .second, .val (.long (1 : Int64)), .second, .unset, .unset]) rfl k₀
  show Owes _ _ _ _ (T8.setTop (mkF m 6 #[.val (.ref r0), .val (.long q1), .second, .val (.long (1 : Int64)), .second, .unset, .unset] [(.long (1 : Int64))]))
  refine Owes.go ?_ fun t₀ k₀ => X8.ldc2Long hx hown (mvT hZ (hw _ (List.mem_of_getElem? (i := 63) rfl))) (g := (mkF m 6 #[.val (.ref r0), .val (.long q1), .second, .val (.long (1 : Int64)), .second, .unset, .unset] [(.long (1 : Int64))])) rfl (hb hby d11_6) _ k₀
  show Owes _ _ _ _ (T8.setTop (mkF m 9 #[.val (.ref r0), .val (.long q1), .second, .val (.long (1 : Int64)), .second, .unset, .unset] [(.long (1000 : Int64)), (.long (1 : Int64))]))
  refine Owes.go ?_ fun t₀ k₀ => XS.lcmp X8.here hx rfl (hb hby d11_9) rfl k₀
  show Owes _ _ _ _ (T8.setTop (mkF m 10 #[.val (.ref r0), .val (.long q1), .second, .val (.long (1 : Int64)), .second, .unset, .unset] [(.int (lcmpW (1 : Int64) (1000 : Int64)))]))
  refine Owes.go ?_ fun t₀ k₀ => XS.ifNo X8.here hx rfl (hb hby d11_10) rfl ((if0 _ _).trans (flt (fun q => (by decide : ¬ ((1000 : Int64) < (1 : Int64))) ((lw_gt _ _).mp q))).2.2.1) k₀
  show Owes _ _ _ _ (T8.setTop (mkF m 13 #[.val (.ref r0), .val (.long q1), .second, .val (.long (1 : Int64)), .second, .unset, .unset] []))
  refine Owes.go ?_ fun t₀ k₀ => XS.lloadN X8.here hx rfl (hb hby d11_13) rfl k₀
  show Owes _ _ _ _ (T8.setTop (mkF m 14 #[.val (.ref r0), .val (.long q1), .second, .val (.long (1 : Int64)), .second, .unset, .unset] [(.long (1 : Int64))]))
  refine Owes.go ?_ fun t₀ k₀ => X8.ldc2Long hx hown (mvT hZ (hw _ (List.mem_of_getElem? (i := 63) rfl))) (g := (mkF m 14 #[.val (.ref r0), .val (.long q1), .second, .val (.long (1 : Int64)), .second, .unset, .unset] [(.long (1 : Int64))])) rfl (hb hby d11_14) _ k₀
  show Owes _ _ _ _ (T8.setTop (mkF m 17 #[.val (.ref r0), .val (.long q1), .second, .val (.long (1 : Int64)), .second, .unset, .unset] [(.long (1000 : Int64)), (.long (1 : Int64))]))
  refine Owes.go ?_ fun t₀ k₀ => XS.lcmp X8.here hx rfl (hb hby d11_17) rfl k₀
  show Owes _ _ _ _ (T8.setTop (mkF m 18 #[.val (.ref r0), .val (.long q1), .second, .val (.long (1 : Int64)), .second, .unset, .unset] [(.int (lcmpW (1 : Int64) (1000 : Int64)))]))
  refine Owes.go ?_ fun t₀ k₀ => XS.ifYes X8.here hx rfl (pc0 := 18) (pc' := 25) rfl (hb hby d11_18) rfl ((if0 _ _).trans (feq (fun q => (by decide : ¬ ((1 : Int64) = (1000 : Int64))) ((lw_eq _ _).mp q))).2) (by decide) (by decide) k₀
  show Owes _ _ _ _ (T8.setTop (mkF m 25 #[.val (.ref r0), .val (.long q1), .second, .val (.long (1 : Int64)), .second, .unset, .unset] []))
  refine Owes.go ?_ fun t₀ k₀ => XS.lloadN X8.here hx rfl (hb hby d11_25) rfl k₀
  show Owes _ _ _ _ (T8.setTop (mkF m 26 #[.val (.ref r0), .val (.long q1), .second, .val (.long (1 : Int64)), .second, .unset, .unset] [(.long q1)]))
  refine Owes.go ?_ fun t₀ k₀ => XS.aloadN X8.here hx rfl (hb hby d11_26) rfl rfl k₀
  show Owes _ _ _ _ (T8.setTop (mkF m 27 #[.val (.ref r0), .val (.long q1), .second, .val (.long (1 : Int64)), .second, .unset, .unset] [(.ref r0), (.long q1)]))
  obtain ⟨T9, X9, e9, st9⟩ := getF X8 hx hZ hown (host := "") (Or.inl (hw _ (List.mem_of_getElem? (i := 64) rfl))) Via.refl e8 Fmr (g := (mkF m 27 #[.val (.ref r0), .val (.long q1), .second, .val (.long (1 : Int64)), .second, .unset, .unset] [(.ref r0), (.long q1)])) rfl rfl (hb hby d11_27)
  refine Owes.go ?_ st9
  show Owes _ _ _ _ (T9.setTop (mkF m 30 #[.val (.ref r0), .val (.long q1), .second, .val (.long (1 : Int64)), .second, .unset, .unset] [(.long (1000 : Int64)), (.long q1)]))
  refine Owes.go ?_ fun t₀ k₀ => XS.ldiv X9.here hx rfl (hb hby d11_30) rfl (by decide : ¬ ((1000 : Int64) = (0 : Int64))) k₀
  show Owes _ _ _ _ (T9.setTop (mkF m 31 #[.val (.ref r0), .val (.long q1), .second, .val (.long (1 : Int64)), .second, .unset, .unset] [(.long (q1 / (1000 : Int64)))]))
  exact Owes.retJ X9 hx hlk hret (hb hby d11_31) (by decide) (by decide) ⟨congrArg (fun z => some (Value.long z)) (by unfold f_tm; first | done | rfl), rfl, e9⟩
theorem own_b12288 : ((f_bk (4294967295 : Int64)) + (1 : Int32)).toInt = ((12288 : Nat) : Int) := by decide +kernel
theorem d1_0 : decode prog_14_method_1_code 0 = .ok (.aload_n 0, 1) := by decide +kernel
theorem d1_1 : decode prog_14_method_1_code 1 = .ok (.invokespecial 3, 3) := by decide +kernel
theorem d1_4 : decode prog_14_method_1_code 4 = .ok (.aload_n 0, 1) := by decide +kernel
theorem d1_5 : decode prog_14_method_1_code 5 = .ok (.ldc2_w 9, 3) := by decide +kernel
theorem d1_8 : decode prog_14_method_1_code 8 = .ok (.invokestatic 11, 3) := by decide +kernel
theorem d1_11 : decode prog_14_method_1_code 11 = .ok (.iconst 1, 1) := by decide +kernel
theorem d1_12 : decode prog_14_method_1_code 12 = .ok (.iadd, 1) := by decide +kernel
theorem d1_13 : decode prog_14_method_1_code 13 = .ok (.newarray .long, 2) := by decide +kernel
theorem d1_15 : decode prog_14_method_1_code 15 = .ok (.putfield 15, 3) := by decide +kernel
theorem d1_18 : decode prog_14_method_1_code 18 = .ok (.return_, 1) := by decide +kernel
theorem ef_init (m : MethodId) (r0 : Addr)  : entryFrame m #[(.ref r0)] 1 = mkF m 0 #[.val (.ref r0)] [] := by (first | (simp [entryFrame, mkF, argsToLocals, Value.category]; done) | rfl)
theorem pn_1 : plainFor (⟨"com/example/holdfast/holdfast/bench/LatencyHistogram", "<init>", "()V"⟩ : MethodName) = true := plainFor_of_name (by first | (simp [plainName, overriddenIn]; done) | decide +kernel)
set_option maxRecDepth 65536 in
set_option maxHeartbeats 40000000 in
theorem rm_init (l : Launch) (Z : State) (a0 : Array Value) (hw : ∀ d ∈ tables_1, d.before a0 Z = true) (ws : List Jvm.Cond) (r0 : Addr) (h0 : Heap) (n0 : Nat) (Z0 : n0 ≤ h0.size) (g0 : n0 ≤ r0) (E0 : Exa Z h0 r0 "com/example/holdfast/holdfast/bench/LatencyHistogram") (F_counts : Fld Z h0 r0 "com/example/holdfast/holdfast/bench/LatencyHistogram" "counts" "[J" .null) (F_total : Fld Z h0 r0 "com/example/holdfast/holdfast/bench/LatencyHistogram" "total" "J" (.long (0 : Int64))) (SB : Sta Z h0 "com/example/holdfast/holdfast/bench/LatencyHistogram" "EXACT_BITS" "I" (.int (10 : Int32))) :
    OMet l (⟨"com/example/holdfast/holdfast/bench/LatencyHistogram", "<init>", "()V"⟩ : MethodName) prog_14_method_1_code 1 none ws ({ frames := 4, cells := 1, slots := 12288, locals := 64 } : Room) #[(.ref r0)] Z h0 (fun v h L => v = none ∧ Fr n0 L ∧ Keep h0 h [r0] ∧ ∃ a : Addr, h0.size ≤ a ∧ LHo Z h r0 a (fun _ => 0) 0) := by
  refine OMet.of pn_1 (fun m => ef_init m r0 ) ?_
  intro p e s m below meth c s₁ hx hby hml hown hnm hret hlk hZ X0 e0
  have N0 := Fr.nil n0
  have K0 := Keep.refl h0 [r0]
  have ST0 := StK.refl Z h0
  have wi := (hw _ (List.mem_of_getElem? (i := 1) rfl))
  refine Owes.go ?_ fun t₀ k₀ => XS.aloadN X0.here hx rfl (hb hby d1_0) rfl rfl k₀
  show Owes _ _ _ _ (s₁.setTop (mkF m 1 #[.val (.ref r0)] [(.ref r0)]))
  refine Owes.initO X0 hx hZ hown (hw _ (List.mem_of_getElem? (i := 6) rfl)) (hw _ (List.mem_of_getElem? (i := 7) rfl)) (hw _ (List.mem_of_getElem? (i := 8) rfl)) e0 (by rw [hml]; rfl) (hb hby d1_1) (by decide) (Nat.le_of_ble_eq_true rfl) ?_
  intro T10 X10 e10
  show Owes _ _ _ _ (T10.setTop (mkF m 4 #[.val (.ref r0)] []))
  refine Owes.go ?_ fun t₀ k₀ => XS.aloadN X10.here hx rfl (hb hby d1_4) rfl rfl k₀
  show Owes _ _ _ _ (T10.setTop (mkF m 5 #[.val (.ref r0)] [(.ref r0)]))
  refine Owes.go ?_ fun t₀ k₀ => X10.ldc2Long hx hown (mvT hZ (hw _ (List.mem_of_getElem? (i := 9) rfl))) (g := (mkF m 5 #[.val (.ref r0)] [(.ref r0)])) rfl (hb hby d1_5) _ k₀
  show Owes _ _ _ _ (T10.setTop (mkF m 8 #[.val (.ref r0)] [(.long (4294967295 : Int64)), (.ref r0)]))
  refine Owes.callS X10 hx hZ hown (hw _ (List.mem_of_getElem? (i := 10) rfl)) (hw _ (List.mem_of_getElem? (i := 11) rfl)) (hw _ (List.mem_of_getElem? (i := 2) rfl)) (hw _ (List.mem_of_getElem? (i := 12) rfl)) (by decide) (argsL := [(.long (4294967295 : Int64))]) (rest := [(.ref r0)]) (rm_f_bk l Z a0 hw [] (4294967295 : Int64) h0 SB) e10 (by rw [hml]; rfl) pd_1 rfl rfl (hb hby d1_8) (by decide) (Nat.le_of_ble_eq_true rfl) (by decide) (by decide) ?_
  rintro T11 _ _ X11 ⟨rfl, rfl, e11⟩
  rw [List.append_nil] at X11
  show Owes _ _ _ _ (T11.setTop (mkF m 11 #[.val (.ref r0)] [(.int (f_bk (4294967295 : Int64))), (.ref r0)]))
  refine Owes.go ?_ fun t₀ k₀ => XS.iconst X11.here hx rfl (hb hby d1_11) k₀
  show Owes _ _ _ _ (T11.setTop (mkF m 12 #[.val (.ref r0)] [(.int (1 : Int32)), (.int (f_bk (4294967295 : Int64))), (.ref r0)]))
  refine Owes.go ?_ fun t₀ k₀ => XS.iadd X11.here hx rfl (hb hby d1_12) rfl k₀
  show Owes _ _ _ _ (T11.setTop (mkF m 13 #[.val (.ref r0)] [(.int ((f_bk (4294967295 : Int64)) + (1 : Int32))), (.ref r0)]))
  refine Owes.newArr X11 hx hZ (aty := .long) (hw _ (List.mem_of_getElem? (i := 31) rfl)) e11 (n := 12288) own_b12288 (by omega) (Nat.le_of_ble_eq_true rfl) (Nat.le_of_ble_eq_true rfl) (ad := "[J") (by decide) (hb hby d1_13) ?_
  intro T12 h12 X12 e12 E12 G12 EX12
  obtain ⟨ra, gra⟩ : ∃ z, z = h0.size := ⟨_, rfl⟩
  rw [← gra] at G12 EX12 ⊢
  have lt_r0_ra : r0 < ra := by rw [gra]; exact (E0).lt
  have ge_ra : h0.size ≤ ra := by rw [gra]; exact K0.1
  have gn_ra : n0 ≤ ra := Nat.le_trans Z0 ge_ra
  have E_r0_12 := (E0).ext E12
  have F_r0_counts_12 := (F_counts).ext E12
  have F_r0_total_12 := (F_total).ext E12
  have K_12 := K0.ext E12
  have ST_12 := ST0.ext E12
  have G12 : GA Z h12 ra .long 12288 (fun _ => .long 0) := G12
  show Owes _ _ _ _ (T12.setTop (mkF m 15 #[.val (.ref r0)] [(.ref ra), (.ref r0)]))
  refine Owes.putF X12 hx hZ hown (host := "") (Or.inl (hw _ (List.mem_of_getElem? (i := 32) rfl))) Via.refl e12 F_r0_counts_12 E_r0_12 (Or.inr ⟨(hw _ (List.mem_of_getElem? (i := 33) rfl)), rfl, hnm⟩) (hw _ (List.mem_of_getElem? (i := 1) rfl)) (ty := (.array .long)) (by decide) rfl rfl (hb hby d1_15) ?_
  intro T13 h13 X13 e13 W13
  have N13 := Fr.snoc X13 N0 g0
  have E_r0_13 := Exa.wr W13 E_r0_12
  have F_r0_counts_13 := Fld.same W13 F_r0_counts_12
  have F_r0_total_13 := Fld.other W13 F_r0_total_12 (Or.inr (slot_ne (Or.inl (hw _ (List.mem_of_getElem? (i := 42) rfl))) (Or.inr (hw _ (List.mem_of_getElem? (i := 33) rfl))) (by decide) (t := .long) (t' := (.array .long)) (by decide) (by decide)))
  have G_ra_13 := GA.other G12 W13 (Ne.symm (GA.ne_obj E_r0_12 wi G12))
  have EX_ra_13 := Exa.wr W13 EX12
  have K_13 := K_12.wr W13 (Or.inl (List.mem_singleton.mpr rfl))
  have ST_13 := ST_12.wr W13
  show Owes _ _ _ _ (T13.setTop (mkF m 18 #[.val (.ref r0)] []))
  exact Owes.retV X13 hx hlk hret (hb hby d1_18) (by decide) (by decide) (by rw [e13]; exact ⟨rfl, N13, K_13, ra, Nat.le_refl _, E_r0_13, F_r0_counts_13, F_r0_total_13, G_ra_13⟩)
theorem d10_0 : decode prog_14_method_2_code 0 = .ok (.lconst 0, 1) := by decide +kernel
theorem d10_1 : decode prog_14_method_2_code 1 = .ok (.getstatic 19, 3) := by decide +kernel
theorem d10_4 : decode prog_14_method_2_code 4 = .ok (.lload_n 1, 1) := by decide +kernel
theorem d10_5 : decode prog_14_method_2_code 5 = .ok (.invokevirtual 25, 3) := by decide +kernel
theorem pd_3 : parseMethodDescriptor "(J)J" = some ⟨[.long], some .long⟩ := by decide +kernel
theorem d10_8 : decode prog_14_method_2_code 8 = .ok (.invokestatic 29, 3) := by decide +kernel
theorem pd_4 : parseMethodDescriptor "(JJ)J" = some ⟨[.long, .long], some .long⟩ := by decide +kernel
theorem d10_11 : decode prog_14_method_2_code 11 = .ok (.ldc2_w 9, 3) := by decide +kernel
theorem d10_14 : decode prog_14_method_2_code 14 = .ok (.invokestatic 35, 3) := by decide +kernel
theorem d10_17 : decode prog_14_method_2_code 17 = .ok (.lstore_n 3, 1) := by decide +kernel
theorem d10_18 : decode prog_14_method_2_code 18 = .ok (.aload_n 0, 1) := by decide +kernel
theorem d10_19 : decode prog_14_method_2_code 19 = .ok (.getfield 15, 3) := by decide +kernel
theorem d10_22 : decode prog_14_method_2_code 22 = .ok (.lload_n 3, 1) := by decide +kernel
theorem d10_23 : decode prog_14_method_2_code 23 = .ok (.invokestatic 11, 3) := by decide +kernel
theorem d10_26 : decode prog_14_method_2_code 26 = .ok (.dup2, 1) := by decide +kernel
theorem d10_27 : decode prog_14_method_2_code 27 = .ok (.laload, 1) := by decide +kernel
theorem d10_28 : decode prog_14_method_2_code 28 = .ok (.lconst 1, 1) := by decide +kernel
theorem d10_29 : decode prog_14_method_2_code 29 = .ok (.ladd, 1) := by decide +kernel
theorem d10_30 : decode prog_14_method_2_code 30 = .ok (.lastore, 1) := by decide +kernel
theorem d10_31 : decode prog_14_method_2_code 31 = .ok (.aload_n 0, 1) := by decide +kernel
theorem d10_32 : decode prog_14_method_2_code 32 = .ok (.dup, 1) := by decide +kernel
theorem d10_33 : decode prog_14_method_2_code 33 = .ok (.getfield 38, 3) := by decide +kernel
theorem d10_36 : decode prog_14_method_2_code 36 = .ok (.lconst 1, 1) := by decide +kernel
theorem d10_37 : decode prog_14_method_2_code 37 = .ok (.ladd, 1) := by decide +kernel
theorem d10_38 : decode prog_14_method_2_code 38 = .ok (.putfield 38, 3) := by decide +kernel
theorem d10_41 : decode prog_14_method_2_code 41 = .ok (.return_, 1) := by decide +kernel
theorem ef_rec (m : MethodId) (r0 : Addr) (q1 : Int64)  : entryFrame m #[(.ref r0), (.long q1)] 5 = mkF m 0 #[.val (.ref r0), .val (.long q1), .second, .unset, .unset] [] := by (first | (simp [entryFrame, mkF, argsToLocals, Value.category]; done) | rfl)
theorem pn_10 : plainFor (⟨"com/example/holdfast/holdfast/bench/LatencyHistogram", "record", "(J)V"⟩ : MethodName) = true := plainFor_of_name (by first | (simp [plainName, overriddenIn]; done) | decide +kernel)
set_option maxRecDepth 65536 in
set_option maxHeartbeats 40000000 in
theorem rm_rec (l : Launch) (Z : State) (a0 : Array Value) (hw : ∀ d ∈ tables_1, d.before a0 Z = true) (ws : List Jvm.Cond) (r0 : Addr) (q1 : Int64) (h0 : Heap) (ra : Addr) (f f' : Nat → Int64) (t t' : Int64) (ht : t + (1 : Int64) = t') (n0 : Nat) (gr : n0 ≤ r0) (ga : n0 ≤ ra) (k : Nat) (hk : (f_bk (f_minJ (f_maxJ (0 : Int64) (f_tm q1)) (4294967295 : Int64))).toInt = (k : Int)) (hkn : k < 12288) (hf : ∀ i, i < 12288 → upd f k (f k + (1 : Int64)) i = f' i) (O : LHo Z h0 r0 ra f t) (SB : Sta Z h0 "com/example/holdfast/holdfast/bench/LatencyHistogram" "EXACT_BITS" "I" (.int (10 : Int32))) (rN : Addr) (SN : Sta Z h0 "java/util/concurrent/TimeUnit" "NANOSECONDS" "Ljava/util/concurrent/TimeUnit;" (.ref rN)) (EN : Exa Z h0 rN "java/util/concurrent/TimeUnit") (Fsc : Fld Z h0 rN "java/util/concurrent/TimeUnit" "scale" "J" (.long (1 : Int64))) (Fmr : Fld Z h0 rN "java/util/concurrent/TimeUnit" "microRatio" "J" (.long (1000 : Int64))) :
    OMet l (⟨"com/example/holdfast/holdfast/bench/LatencyHistogram", "record", "(J)V"⟩ : MethodName) prog_14_method_2_code 5 none ws ({ frames := 4, cells := 0, slots := 0, locals := 64 } : Room) #[(.ref r0), (.long q1)] Z h0 (fun v h L => v = none ∧ Fr n0 L ∧ Keep h0 h [r0, ra] ∧ LHo Z h r0 ra f' t') := by
  refine OMet.of pn_10 (fun m => ef_rec m r0 q1 ) ?_
  intro p e s m below meth c s₁ hx hby hml hown hnm hret hlk hZ X0 e0
  have wi := (hw _ (List.mem_of_getElem? (i := 1) rfl))
  have N0 := Fr.nil n0
  refine Owes.go ?_ fun t₀ k₀ => XS.lconst X0.here hx rfl (hb hby d10_0) k₀
  show Owes _ _ _ _ (s₁.setTop (mkF m 1 #[.val (.ref r0), .val (.long q1), .second, .unset, .unset] [(.long (0 : Int64))]))
  obtain ⟨T14, X14, e14, st14⟩ := getS2 X0 hx hZ hown (host := "") (Or.inl (hw _ (List.mem_of_getElem? (i := 54) rfl))) Via.refl e0 SN (g := (mkF m 1 #[.val (.ref r0), .val (.long q1), .second, .unset, .unset] [(.long (0 : Int64))])) rfl (hb hby d10_1)
  refine Owes.go ?_ st14
  show Owes _ _ _ _ (T14.setTop (mkF m 4 #[.val (.ref r0), .val (.long q1), .second, .unset, .unset] [(.ref rN), (.long (0 : Int64))]))
  refine Owes.go ?_ fun t₀ k₀ => XS.lloadN X14.here hx rfl (hb hby d10_4) rfl k₀
  show Owes _ _ _ _ (T14.setTop (mkF m 5 #[.val (.ref r0), .val (.long q1), .second, .unset, .unset] [(.long q1), (.ref rN), (.long (0 : Int64))]))
  refine Owes.callV X14 hx hZ hown (hw _ (List.mem_of_getElem? (i := 56) rfl)) (hw _ (List.mem_of_getElem? (i := 57) rfl)) (notFace_of_selects (args := #[]) (mvT hZ (hw _ (List.mem_of_getElem? (i := 59) rfl)))) (hw _ (List.mem_of_getElem? (i := 59) rfl)) (hw _ (List.mem_of_getElem? (i := 58) rfl)) (hw _ (List.mem_of_getElem? (i := 55) rfl)) (hw _ (List.mem_of_getElem? (i := 60) rfl)) (by decide) (a := rN) (argsL := [(.long q1)]) (rest := [(.long (0 : Int64))]) (rm_f_tm l Z a0 hw [] rN q1 h0 Fsc Fmr) e14 EN (by rw [hml]; rfl) pd_3 rfl rfl (hb hby d10_5) (by decide) (Nat.le_of_ble_eq_true rfl) (by decide) (by decide) ?_
  rintro T15 _ _ X15 ⟨rfl, rfl, e15⟩
  rw [List.append_nil] at X15
  show Owes _ _ _ _ (T15.setTop (mkF m 8 #[.val (.ref r0), .val (.long q1), .second, .unset, .unset] [(.long (f_tm q1)), (.long (0 : Int64))]))
  refine Owes.callS X15 hx hZ hown (hw _ (List.mem_of_getElem? (i := 66) rfl)) (hw _ (List.mem_of_getElem? (i := 67) rfl)) (hw _ (List.mem_of_getElem? (i := 28) rfl)) (hw _ (List.mem_of_getElem? (i := 68) rfl)) (by decide) (argsL := [(.long (0 : Int64)), (.long (f_tm q1))]) (rest := []) (rm_f_maxJ l Z a0 hw [] (0 : Int64) (f_tm q1) h0 ) e15 (by rw [hml]; rfl) pd_4 rfl rfl (hb hby d10_8) (by decide) (Nat.le_of_ble_eq_true rfl) (by decide) (by decide) ?_
  rintro T16 _ _ X16 ⟨rfl, rfl, e16⟩
  rw [List.append_nil] at X16
  show Owes _ _ _ _ (T16.setTop (mkF m 11 #[.val (.ref r0), .val (.long q1), .second, .unset, .unset] [(.long (f_maxJ (0 : Int64) (f_tm q1)))]))
  refine Owes.go ?_ fun t₀ k₀ => X16.ldc2Long hx hown (mvT hZ (hw _ (List.mem_of_getElem? (i := 9) rfl))) (g := (mkF m 11 #[.val (.ref r0), .val (.long q1), .second, .unset, .unset] [(.long (f_maxJ (0 : Int64) (f_tm q1)))])) rfl (hb hby d10_11) _ k₀
  show Owes _ _ _ _ (T16.setTop (mkF m 14 #[.val (.ref r0), .val (.long q1), .second, .unset, .unset] [(.long (4294967295 : Int64)), (.long (f_maxJ (0 : Int64) (f_tm q1)))]))
  refine Owes.callS X16 hx hZ hown (hw _ (List.mem_of_getElem? (i := 69) rfl)) (hw _ (List.mem_of_getElem? (i := 70) rfl)) (hw _ (List.mem_of_getElem? (i := 28) rfl)) (hw _ (List.mem_of_getElem? (i := 71) rfl)) (by decide) (argsL := [(.long (f_maxJ (0 : Int64) (f_tm q1))), (.long (4294967295 : Int64))]) (rest := []) (rm_f_minJ l Z a0 hw [] (f_maxJ (0 : Int64) (f_tm q1)) (4294967295 : Int64) h0 ) e16 (by rw [hml]; rfl) pd_4 rfl rfl (hb hby d10_14) (by decide) (Nat.le_of_ble_eq_true rfl) (by decide) (by decide) ?_
  rintro T17 _ _ X17 ⟨rfl, rfl, e17⟩
  rw [List.append_nil] at X17
  show Owes _ _ _ _ (T17.setTop (mkF m 17 #[.val (.ref r0), .val (.long q1), .second, .unset, .unset] [(.long (f_minJ (f_maxJ (0 : Int64) (f_tm q1)) (4294967295 : Int64)))]))
  refine Owes.go ?_ fun t₀ k₀ => XS.lstoreN X17.here hx rfl (hb hby d10_17) rfl (l' := #[.val (.ref r0), .val (.long q1), .second, .val (.long (f_minJ (f_maxJ (0 : Int64) (f_tm q1)) (4294967295 : Int64))), .second]) rfl k₀
  show Owes _ _ _ _ (T17.setTop (mkF m 18 #[.val (.ref r0), .val (.long q1), .second, .val (.long (f_minJ (f_maxJ (0 : Int64) (f_tm q1)) (4294967295 : Int64))), .second] []))
  refine Owes.go ?_ fun t₀ k₀ => XS.aloadN X17.here hx rfl (hb hby d10_18) rfl rfl k₀
  show Owes _ _ _ _ (T17.setTop (mkF m 19 #[.val (.ref r0), .val (.long q1), .second, .val (.long (f_minJ (f_maxJ (0 : Int64) (f_tm q1)) (4294967295 : Int64))), .second] [(.ref r0)]))
  obtain ⟨T18, X18, e18, st18⟩ := getF X17 hx hZ hown (host := "") (Or.inl (hw _ (List.mem_of_getElem? (i := 32) rfl))) Via.refl e17 O.2.1 (g := (mkF m 19 #[.val (.ref r0), .val (.long q1), .second, .val (.long (f_minJ (f_maxJ (0 : Int64) (f_tm q1)) (4294967295 : Int64))), .second] [(.ref r0)])) rfl rfl (hb hby d10_19)
  refine Owes.go ?_ st18
  show Owes _ _ _ _ (T18.setTop (mkF m 22 #[.val (.ref r0), .val (.long q1), .second, .val (.long (f_minJ (f_maxJ (0 : Int64) (f_tm q1)) (4294967295 : Int64))), .second] [(.ref ra)]))
  refine Owes.go ?_ fun t₀ k₀ => XS.lloadN X18.here hx rfl (hb hby d10_22) rfl k₀
  show Owes _ _ _ _ (T18.setTop (mkF m 23 #[.val (.ref r0), .val (.long q1), .second, .val (.long (f_minJ (f_maxJ (0 : Int64) (f_tm q1)) (4294967295 : Int64))), .second] [(.long (f_minJ (f_maxJ (0 : Int64) (f_tm q1)) (4294967295 : Int64))), (.ref ra)]))
  refine Owes.callS X18 hx hZ hown (hw _ (List.mem_of_getElem? (i := 10) rfl)) (hw _ (List.mem_of_getElem? (i := 11) rfl)) (hw _ (List.mem_of_getElem? (i := 2) rfl)) (hw _ (List.mem_of_getElem? (i := 12) rfl)) (by decide) (argsL := [(.long (f_minJ (f_maxJ (0 : Int64) (f_tm q1)) (4294967295 : Int64)))]) (rest := [(.ref ra)]) (rm_f_bk l Z a0 hw [] (f_minJ (f_maxJ (0 : Int64) (f_tm q1)) (4294967295 : Int64)) h0 SB) e18 (by rw [hml]; rfl) pd_1 rfl rfl (hb hby d10_23) (by decide) (Nat.le_of_ble_eq_true rfl) (by decide) (by decide) ?_
  rintro T19 _ _ X19 ⟨rfl, rfl, e19⟩
  rw [List.append_nil] at X19
  show Owes _ _ _ _ (T19.setTop (mkF m 26 #[.val (.ref r0), .val (.long q1), .second, .val (.long (f_minJ (f_maxJ (0 : Int64) (f_tm q1)) (4294967295 : Int64))), .second] [(.int (f_bk (f_minJ (f_maxJ (0 : Int64) (f_tm q1)) (4294967295 : Int64)))), (.ref ra)]))
  refine Owes.go ?_ fun t₀ k₀ => Jvm.Free.XT.dup2 X19.here hx rfl (hb hby d10_26) rfl rfl rfl k₀
  show Owes _ _ _ _ (T19.setTop (mkF m 27 #[.val (.ref r0), .val (.long q1), .second, .val (.long (f_minJ (f_maxJ (0 : Int64) (f_tm q1)) (4294967295 : Int64))), .second] [(.int (f_bk (f_minJ (f_maxJ (0 : Int64) (f_tm q1)) (4294967295 : Int64)))), (.ref ra), (.int (f_bk (f_minJ (f_maxJ (0 : Int64) (f_tm q1)) (4294967295 : Int64)))), (.ref ra)]))
  refine Owes.gJ X19 hx hZ e19 O.2.2.2 hk hkn (v := .long (f k)) rfl (hb hby d10_27) ?_
  show Owes _ _ _ _ (T19.setTop (mkF m 28 #[.val (.ref r0), .val (.long q1), .second, .val (.long (f_minJ (f_maxJ (0 : Int64) (f_tm q1)) (4294967295 : Int64))), .second] [(.long (f k)), (.int (f_bk (f_minJ (f_maxJ (0 : Int64) (f_tm q1)) (4294967295 : Int64)))), (.ref ra)]))
  refine Owes.go ?_ fun t₀ k₀ => XS.lconst X19.here hx rfl (hb hby d10_28) k₀
  show Owes _ _ _ _ (T19.setTop (mkF m 29 #[.val (.ref r0), .val (.long q1), .second, .val (.long (f_minJ (f_maxJ (0 : Int64) (f_tm q1)) (4294967295 : Int64))), .second] [(.long (1 : Int64)), (.long (f k)), (.int (f_bk (f_minJ (f_maxJ (0 : Int64) (f_tm q1)) (4294967295 : Int64)))), (.ref ra)]))
  refine Owes.go ?_ fun t₀ k₀ => XS.ladd X19.here hx rfl (hb hby d10_29) rfl k₀
  show Owes _ _ _ _ (T19.setTop (mkF m 30 #[.val (.ref r0), .val (.long q1), .second, .val (.long (f_minJ (f_maxJ (0 : Int64) (f_tm q1)) (4294967295 : Int64))), .second] [(.long ((f k) + (1 : Int64))), (.int (f_bk (f_minJ (f_maxJ (0 : Int64) (f_tm q1)) (4294967295 : Int64)))), (.ref ra)]))
  refine Owes.sJ X19 hx hZ e19 O.2.2.2 hk hkn (hb hby d10_30) ?_
  intro T20 h20 X20 e20 W20 G20
  have O1 := O.setA wi W20 G20 hf
  have N20 := Fr.snoc X20 N0 ga
  have K1 := (Keep.refl h0 [r0, ra]).wr W20 (Or.inl (List.mem_cons_of_mem _ (List.mem_singleton.mpr rfl)))
  show Owes _ _ _ _ (T20.setTop (mkF m 31 #[.val (.ref r0), .val (.long q1), .second, .val (.long (f_minJ (f_maxJ (0 : Int64) (f_tm q1)) (4294967295 : Int64))), .second] []))
  refine Owes.go ?_ fun t₀ k₀ => XS.aloadN X20.here hx rfl (hb hby d10_31) rfl rfl k₀
  show Owes _ _ _ _ (T20.setTop (mkF m 32 #[.val (.ref r0), .val (.long q1), .second, .val (.long (f_minJ (f_maxJ (0 : Int64) (f_tm q1)) (4294967295 : Int64))), .second] [(.ref r0)]))
  refine Owes.go ?_ fun t₀ k₀ => XS.dup X20.here hx rfl (hb hby d10_32) rfl rfl k₀
  show Owes _ _ _ _ (T20.setTop (mkF m 33 #[.val (.ref r0), .val (.long q1), .second, .val (.long (f_minJ (f_maxJ (0 : Int64) (f_tm q1)) (4294967295 : Int64))), .second] [(.ref r0), (.ref r0)]))
  obtain ⟨T21, X21, e21, st21⟩ := getF X20 hx hZ hown (host := "") (Or.inl (hw _ (List.mem_of_getElem? (i := 41) rfl))) Via.refl e20 O1.2.2.1 (g := (mkF m 33 #[.val (.ref r0), .val (.long q1), .second, .val (.long (f_minJ (f_maxJ (0 : Int64) (f_tm q1)) (4294967295 : Int64))), .second] [(.ref r0), (.ref r0)])) rfl rfl (hb hby d10_33)
  refine Owes.go ?_ st21
  show Owes _ _ _ _ (T21.setTop (mkF m 36 #[.val (.ref r0), .val (.long q1), .second, .val (.long (f_minJ (f_maxJ (0 : Int64) (f_tm q1)) (4294967295 : Int64))), .second] [(.long t), (.ref r0)]))
  refine Owes.go ?_ fun t₀ k₀ => XS.lconst X21.here hx rfl (hb hby d10_36) k₀
  show Owes _ _ _ _ (T21.setTop (mkF m 37 #[.val (.ref r0), .val (.long q1), .second, .val (.long (f_minJ (f_maxJ (0 : Int64) (f_tm q1)) (4294967295 : Int64))), .second] [(.long (1 : Int64)), (.long t), (.ref r0)]))
  refine Owes.go ?_ fun t₀ k₀ => XS.ladd X21.here hx rfl (hb hby d10_37) rfl k₀
  show Owes _ _ _ _ (T21.setTop (mkF m 38 #[.val (.ref r0), .val (.long q1), .second, .val (.long (f_minJ (f_maxJ (0 : Int64) (f_tm q1)) (4294967295 : Int64))), .second] [(.long (t + (1 : Int64))), (.ref r0)]))
  refine Owes.putF X21 hx hZ hown (host := "") (Or.inl (hw _ (List.mem_of_getElem? (i := 41) rfl))) Via.refl e21 O1.2.2.1 O1.1 (Or.inl (hw _ (List.mem_of_getElem? (i := 42) rfl))) (hw _ (List.mem_of_getElem? (i := 1) rfl)) (ty := .long) (by decide) rfl rfl (hb hby d10_38) ?_
  intro T22 h22 X22 e22 W22
  have N22 := Fr.snoc X22 N20 gr
  have E_r0_22 := Exa.wr W22 O1.1
  have F_r0_counts_22 := Fld.other W22 O1.2.1 (Or.inr (slot_ne (Or.inr (hw _ (List.mem_of_getElem? (i := 33) rfl))) (Or.inl (hw _ (List.mem_of_getElem? (i := 42) rfl))) (by decide) (t := (.array .long)) (t' := .long) (by decide) (by decide)))
  have F_r0_total_22 := Fld.same W22 O1.2.2.1
  show Owes _ _ _ _ (T22.setTop (mkF m 41 #[.val (.ref r0), .val (.long q1), .second, .val (.long (f_minJ (f_maxJ (0 : Int64) (f_tm q1)) (4294967295 : Int64))), .second] []))
  exact Owes.retV X22 hx hlk hret (hb hby d10_41) (by decide) (by decide) (by rw [e22]; exact ⟨rfl, N22, K1.wr W22 (Or.inl List.mem_cons_self), E_r0_22, F_r0_counts_22, ht ▸ F_r0_total_22, O1.2.2.2.other W22 (Ne.symm (O1.ne wi))⟩)
theorem d9_0 : decode prog_14_method_3_code 0 = .ok (.iconst 0, 1) := by decide +kernel
theorem d9_1 : decode prog_14_method_3_code 1 = .ok (.istore_n 2, 1) := by decide +kernel
theorem d9_2 : decode prog_14_method_3_code 2 = .ok (.iload_n 2, 1) := by decide +kernel
theorem d9_3 : decode prog_14_method_3_code 3 = .ok (.aload_n 0, 1) := by decide +kernel
theorem d9_4 : decode prog_14_method_3_code 4 = .ok (.getfield 15, 3) := by decide +kernel
theorem d9_7 : decode prog_14_method_3_code 7 = .ok (.arraylength, 1) := by decide +kernel
theorem d9_8 : decode prog_14_method_3_code 8 = .ok (.if_icmp .ge 24, 3) := by decide +kernel
theorem d9_32 : decode prog_14_method_3_code 32 = .ok (.aload_n 0, 1) := by decide +kernel
theorem d9_33 : decode prog_14_method_3_code 33 = .ok (.dup, 1) := by decide +kernel
theorem d9_34 : decode prog_14_method_3_code 34 = .ok (.getfield 38, 3) := by decide +kernel
theorem d9_37 : decode prog_14_method_3_code 37 = .ok (.aload_n 1, 1) := by decide +kernel
theorem d9_38 : decode prog_14_method_3_code 38 = .ok (.getfield 38, 3) := by decide +kernel
theorem d9_41 : decode prog_14_method_3_code 41 = .ok (.ladd, 1) := by decide +kernel
theorem d9_42 : decode prog_14_method_3_code 42 = .ok (.putfield 38, 3) := by decide +kernel
theorem d9_45 : decode prog_14_method_3_code 45 = .ok (.return_, 1) := by decide +kernel
theorem d9_11 : decode prog_14_method_3_code 11 = .ok (.aload_n 0, 1) := by decide +kernel
theorem d9_12 : decode prog_14_method_3_code 12 = .ok (.getfield 15, 3) := by decide +kernel
theorem d9_15 : decode prog_14_method_3_code 15 = .ok (.iload_n 2, 1) := by decide +kernel
theorem d9_16 : decode prog_14_method_3_code 16 = .ok (.dup2, 1) := by decide +kernel
theorem d9_17 : decode prog_14_method_3_code 17 = .ok (.laload, 1) := by decide +kernel
theorem d9_18 : decode prog_14_method_3_code 18 = .ok (.aload_n 1, 1) := by decide +kernel
theorem d9_19 : decode prog_14_method_3_code 19 = .ok (.getfield 15, 3) := by decide +kernel
theorem d9_22 : decode prog_14_method_3_code 22 = .ok (.iload_n 2, 1) := by decide +kernel
theorem d9_23 : decode prog_14_method_3_code 23 = .ok (.laload, 1) := by decide +kernel
theorem d9_24 : decode prog_14_method_3_code 24 = .ok (.ladd, 1) := by decide +kernel
theorem d9_25 : decode prog_14_method_3_code 25 = .ok (.lastore, 1) := by decide +kernel
theorem d9_26 : decode prog_14_method_3_code 26 = .ok (.iinc 2 1, 3) := by decide +kernel
theorem d9_29 : decode prog_14_method_3_code 29 = .ok (.goto (-27), 3) := by decide +kernel
theorem ef_add (m : MethodId) (r0 : Addr) (r1 : Addr)  : entryFrame m #[(.ref r0), (.ref r1)] 3 = mkF m 0 #[.val (.ref r0), .val (.ref r1), .unset] [] := by (first | (simp [entryFrame, mkF, argsToLocals, Value.category]; done) | rfl)
theorem pn_9 : plainFor (⟨"com/example/holdfast/holdfast/bench/LatencyHistogram", "add", "(Lcom/example/holdfast/holdfast/bench/LatencyHistogram;)V"⟩ : MethodName) = true := plainFor_of_name (by first | (simp [plainName, overriddenIn]; done) | decide +kernel)
set_option maxRecDepth 65536 in
set_option maxHeartbeats 40000000 in
theorem rm_add (l : Launch) (Z : State) (a0 : Array Value) (hw : ∀ d ∈ tables_1, d.before a0 Z = true) (ws : List Jvm.Cond) (r0 : Addr) (r1 : Addr) (h0 : Heap) (ra rb : Addr) (f g f3 : Nat → Int64) (t1 t2 t3 : Int64) (ht : t1 + t2 = t3) (n0 : Nat) (gr : n0 ≤ r0) (ga : n0 ≤ ra) (n1a : r1 ≠ ra) (nba : rb ≠ ra) (hf : ∀ i, i < 12288 → f i + g i = f3 i) (O0 : LHo Z h0 r0 ra f t1) (P0 : LHo Z h0 r1 rb g t2) :
    OMet l (⟨"com/example/holdfast/holdfast/bench/LatencyHistogram", "add", "(Lcom/example/holdfast/holdfast/bench/LatencyHistogram;)V"⟩ : MethodName) prog_14_method_3_code 3 none ws ({ frames := 0, cells := 0, slots := 0, locals := 0 } : Room) #[(.ref r0), (.ref r1)] Z h0 (fun v h L => v = none ∧ Fr n0 L ∧ Keep h0 h [ra, r0] ∧ LHo Z h r0 ra f3 t3) := by
  refine OMet.of pn_9 (fun m => ef_add m r0 r1 ) ?_
  intro p e s m below meth c s₁ hx hby hml hown hnm hret hlk hZ X0 e0
  have wi := (hw _ (List.mem_of_getElem? (i := 1) rfl))
  have N0 := Fr.nil n0
  refine Owes.go ?_ fun t₀ k₀ => XS.iconst X0.here hx rfl (hb hby d9_0) k₀
  show Owes _ _ _ _ (s₁.setTop (mkF m 1 #[.val (.ref r0), .val (.ref r1), .unset] [(.int (0 : Int32))]))
  refine Owes.go ?_ fun t₀ k₀ => XS.istoreN X0.here hx rfl (hb hby d9_1) rfl (l' := #[.val (.ref r0), .val (.ref r1), .val (.int (0 : Int32))]) rfl k₀
  show Owes _ _ _ _ (s₁.setTop (mkF m 2 #[.val (.ref r0), .val (.ref r1), .val (.int (0 : Int32))] []))
  have lp : ∀ (q k : Nat), k + q = 12288 → ∀ (kI : Int32) (T1 : State) (locs : List Loc) (h : Heap), Stand p l e ({ frames := 0, cells := 0, slots := 0, locals := 0 } : Room) s m #[(.ref r0), (.ref r1)] below meth c T1 locs 0 0 → T1.heap = h → Fr n0 locs → Keep h0 h [ra] → LHo Z h r0 ra (mix f g k) t1 → LHo Z h r1 rb g t2 → kI.toInt = (k : Int) → Owes p e below (EndN s (fun v h L => v = none ∧ Fr n0 L ∧ Keep h0 h [ra, r0] ∧ LHo Z h r0 ra f3 t3) ({ frames := 0, cells := 0, slots := 0, locals := 0 } : Room).cells ({ frames := 0, cells := 0, slots := 0, locals := 0 } : Room).slots) (T1.setTop (mkF m 2 #[.val (.ref r0), .val (.ref r1), .val (.int kI)] [])) := by
    intro q
    induction q with
    | zero =>
      intro k hk kI T1 locs h X eT N K O P hkI
      refine Owes.go ?_ fun t₀ k₀ => XS.iloadN X.here hx rfl (hb hby d9_2) rfl k₀
      show Owes _ _ _ _ (T1.setTop (mkF m 3 #[.val (.ref r0), .val (.ref r1), .val (.int kI)] [(.int kI)]))
      refine Owes.go ?_ fun t₀ k₀ => XS.aloadN X.here hx rfl (hb hby d9_3) rfl rfl k₀
      show Owes _ _ _ _ (T1.setTop (mkF m 4 #[.val (.ref r0), .val (.ref r1), .val (.int kI)] [(.ref r0), (.int kI)]))
      obtain ⟨T23, X23, e23, st23⟩ := getF X hx hZ hown (host := "") (Or.inl (hw _ (List.mem_of_getElem? (i := 32) rfl))) Via.refl eT O.2.1 (g := (mkF m 4 #[.val (.ref r0), .val (.ref r1), .val (.int kI)] [(.ref r0), (.int kI)])) rfl rfl (hb hby d9_4)
      refine Owes.go ?_ st23
      show Owes _ _ _ _ (T23.setTop (mkF m 7 #[.val (.ref r0), .val (.ref r1), .val (.int kI)] [(.ref ra), (.int kI)]))
      refine Owes.glen X23 hx hZ e23 O.2.2.2 (z := (12288 : Int32)) rfl (hb hby d9_7) ?_
      show Owes _ _ _ _ (T23.setTop (mkF m 8 #[.val (.ref r0), .val (.ref r1), .val (.int kI)] [(.int (12288 : Int32)), (.int kI)]))
      refine Owes.go ?_ fun t₀ k₀ => XS.icmpYes X23.here hx rfl (pc0 := 8) (pc' := 32) rfl (hb hby d9_8) rfl (flt (own_nlti hkI (b := 12288) rfl (by omega))).2.1 (by decide) (by decide) k₀
      show Owes _ _ _ _ (T23.setTop (mkF m 32 #[.val (.ref r0), .val (.ref r1), .val (.int kI)] []))
      refine Owes.go ?_ fun t₀ k₀ => XS.aloadN X23.here hx rfl (hb hby d9_32) rfl rfl k₀
      show Owes _ _ _ _ (T23.setTop (mkF m 33 #[.val (.ref r0), .val (.ref r1), .val (.int kI)] [(.ref r0)]))
      refine Owes.go ?_ fun t₀ k₀ => XS.dup X23.here hx rfl (hb hby d9_33) rfl rfl k₀
      show Owes _ _ _ _ (T23.setTop (mkF m 34 #[.val (.ref r0), .val (.ref r1), .val (.int kI)] [(.ref r0), (.ref r0)]))
      obtain ⟨T24, X24, e24, st24⟩ := getF X23 hx hZ hown (host := "") (Or.inl (hw _ (List.mem_of_getElem? (i := 41) rfl))) Via.refl e23 O.2.2.1 (g := (mkF m 34 #[.val (.ref r0), .val (.ref r1), .val (.int kI)] [(.ref r0), (.ref r0)])) rfl rfl (hb hby d9_34)
      refine Owes.go ?_ st24
      show Owes _ _ _ _ (T24.setTop (mkF m 37 #[.val (.ref r0), .val (.ref r1), .val (.int kI)] [(.long t1), (.ref r0)]))
      refine Owes.go ?_ fun t₀ k₀ => XS.aloadN X24.here hx rfl (hb hby d9_37) rfl rfl k₀
      show Owes _ _ _ _ (T24.setTop (mkF m 38 #[.val (.ref r0), .val (.ref r1), .val (.int kI)] [(.ref r1), (.long t1), (.ref r0)]))
      obtain ⟨T25, X25, e25, st25⟩ := getF X24 hx hZ hown (host := "") (Or.inl (hw _ (List.mem_of_getElem? (i := 41) rfl))) Via.refl e24 P.2.2.1 (g := (mkF m 38 #[.val (.ref r0), .val (.ref r1), .val (.int kI)] [(.ref r1), (.long t1), (.ref r0)])) rfl rfl (hb hby d9_38)
      refine Owes.go ?_ st25
      show Owes _ _ _ _ (T25.setTop (mkF m 41 #[.val (.ref r0), .val (.ref r1), .val (.int kI)] [(.long t2), (.long t1), (.ref r0)]))
      refine Owes.go ?_ fun t₀ k₀ => XS.ladd X25.here hx rfl (hb hby d9_41) rfl k₀
      show Owes _ _ _ _ (T25.setTop (mkF m 42 #[.val (.ref r0), .val (.ref r1), .val (.int kI)] [(.long (t1 + t2)), (.ref r0)]))
      refine Owes.putF X25 hx hZ hown (host := "") (Or.inl (hw _ (List.mem_of_getElem? (i := 41) rfl))) Via.refl e25 O.2.2.1 O.1 (Or.inl (hw _ (List.mem_of_getElem? (i := 42) rfl))) (hw _ (List.mem_of_getElem? (i := 1) rfl)) (ty := .long) (by decide) rfl rfl (hb hby d9_42) ?_
      intro T26 h26 X26 e26 W26
      have N26 := Fr.snoc X26 N gr
      have E_r0_26 := Exa.wr W26 O.1
      have F_r0_counts_26 := Fld.other W26 O.2.1 (Or.inr (slot_ne (Or.inr (hw _ (List.mem_of_getElem? (i := 33) rfl))) (Or.inl (hw _ (List.mem_of_getElem? (i := 42) rfl))) (by decide) (t := (.array .long)) (t' := .long) (by decide) (by decide)))
      have F_r0_total_26 := Fld.same W26 O.2.2.1
      show Owes _ _ _ _ (T26.setTop (mkF m 45 #[.val (.ref r0), .val (.ref r1), .val (.int kI)] []))
      exact Owes.retV X26 hx hlk hret (hb hby d9_45) (by decide) (by decide) (by rw [e26]; exact ⟨rfl, N26, ((Keep.refl h0 [ra, r0]).trans K (fun x hx => Or.inl (by rw [List.mem_singleton.mp hx]; exact List.mem_cons_self))).wr W26 (Or.inl (List.mem_cons_of_mem _ (List.mem_singleton.mpr rfl))), E_r0_26, F_r0_counts_26, ht ▸ F_r0_total_26, (O.2.2.2.other W26 (Ne.symm (O.ne wi))).congr fun i hi => congrArg Value.long ((if_pos (by omega)).trans (hf i hi))⟩)
    | succ q ih =>
      intro k hk kI T1 locs h X eT N K O P hkI
      have hkn : k < 12288 := by omega
      refine Owes.go ?_ fun t₀ k₀ => XS.iloadN X.here hx rfl (hb hby d9_2) rfl k₀
      show Owes _ _ _ _ (T1.setTop (mkF m 3 #[.val (.ref r0), .val (.ref r1), .val (.int kI)] [(.int kI)]))
      refine Owes.go ?_ fun t₀ k₀ => XS.aloadN X.here hx rfl (hb hby d9_3) rfl rfl k₀
      show Owes _ _ _ _ (T1.setTop (mkF m 4 #[.val (.ref r0), .val (.ref r1), .val (.int kI)] [(.ref r0), (.int kI)]))
      obtain ⟨T27, X27, e27, st27⟩ := getF X hx hZ hown (host := "") (Or.inl (hw _ (List.mem_of_getElem? (i := 32) rfl))) Via.refl eT O.2.1 (g := (mkF m 4 #[.val (.ref r0), .val (.ref r1), .val (.int kI)] [(.ref r0), (.int kI)])) rfl rfl (hb hby d9_4)
      refine Owes.go ?_ st27
      show Owes _ _ _ _ (T27.setTop (mkF m 7 #[.val (.ref r0), .val (.ref r1), .val (.int kI)] [(.ref ra), (.int kI)]))
      refine Owes.glen X27 hx hZ e27 O.2.2.2 (z := (12288 : Int32)) rfl (hb hby d9_7) ?_
      show Owes _ _ _ _ (T27.setTop (mkF m 8 #[.val (.ref r0), .val (.ref r1), .val (.int kI)] [(.int (12288 : Int32)), (.int kI)]))
      refine Owes.go ?_ fun t₀ k₀ => XS.icmpNo X27.here hx rfl (hb hby d9_8) rfl (tlt (own_lti hkI (b := 12288) rfl (by omega))).2.1 k₀
      show Owes _ _ _ _ (T27.setTop (mkF m 11 #[.val (.ref r0), .val (.ref r1), .val (.int kI)] []))
      refine Owes.go ?_ fun t₀ k₀ => XS.aloadN X27.here hx rfl (hb hby d9_11) rfl rfl k₀
      show Owes _ _ _ _ (T27.setTop (mkF m 12 #[.val (.ref r0), .val (.ref r1), .val (.int kI)] [(.ref r0)]))
      obtain ⟨T28, X28, e28, st28⟩ := getF X27 hx hZ hown (host := "") (Or.inl (hw _ (List.mem_of_getElem? (i := 32) rfl))) Via.refl e27 O.2.1 (g := (mkF m 12 #[.val (.ref r0), .val (.ref r1), .val (.int kI)] [(.ref r0)])) rfl rfl (hb hby d9_12)
      refine Owes.go ?_ st28
      show Owes _ _ _ _ (T28.setTop (mkF m 15 #[.val (.ref r0), .val (.ref r1), .val (.int kI)] [(.ref ra)]))
      refine Owes.go ?_ fun t₀ k₀ => XS.iloadN X28.here hx rfl (hb hby d9_15) rfl k₀
      show Owes _ _ _ _ (T28.setTop (mkF m 16 #[.val (.ref r0), .val (.ref r1), .val (.int kI)] [(.int kI), (.ref ra)]))
      refine Owes.go ?_ fun t₀ k₀ => Jvm.Free.XT.dup2 X28.here hx rfl (hb hby d9_16) rfl rfl rfl k₀
      show Owes _ _ _ _ (T28.setTop (mkF m 17 #[.val (.ref r0), .val (.ref r1), .val (.int kI)] [(.int kI), (.ref ra), (.int kI), (.ref ra)]))
      refine Owes.gJ X28 hx hZ e28 O.2.2.2 hkI hkn (v := .long (f k)) (congrArg Value.long (mix_at f g k)) (hb hby d9_17) ?_
      show Owes _ _ _ _ (T28.setTop (mkF m 18 #[.val (.ref r0), .val (.ref r1), .val (.int kI)] [(.long (f k)), (.int kI), (.ref ra)]))
      refine Owes.go ?_ fun t₀ k₀ => XS.aloadN X28.here hx rfl (hb hby d9_18) rfl rfl k₀
      show Owes _ _ _ _ (T28.setTop (mkF m 19 #[.val (.ref r0), .val (.ref r1), .val (.int kI)] [(.ref r1), (.long (f k)), (.int kI), (.ref ra)]))
      obtain ⟨T29, X29, e29, st29⟩ := getF X28 hx hZ hown (host := "") (Or.inl (hw _ (List.mem_of_getElem? (i := 32) rfl))) Via.refl e28 P.2.1 (g := (mkF m 19 #[.val (.ref r0), .val (.ref r1), .val (.int kI)] [(.ref r1), (.long (f k)), (.int kI), (.ref ra)])) rfl rfl (hb hby d9_19)
      refine Owes.go ?_ st29
      show Owes _ _ _ _ (T29.setTop (mkF m 22 #[.val (.ref r0), .val (.ref r1), .val (.int kI)] [(.ref rb), (.long (f k)), (.int kI), (.ref ra)]))
      refine Owes.go ?_ fun t₀ k₀ => XS.iloadN X29.here hx rfl (hb hby d9_22) rfl k₀
      show Owes _ _ _ _ (T29.setTop (mkF m 23 #[.val (.ref r0), .val (.ref r1), .val (.int kI)] [(.int kI), (.ref rb), (.long (f k)), (.int kI), (.ref ra)]))
      refine Owes.gJ X29 hx hZ e29 P.2.2.2 hkI hkn (v := .long (g k)) rfl (hb hby d9_23) ?_
      show Owes _ _ _ _ (T29.setTop (mkF m 24 #[.val (.ref r0), .val (.ref r1), .val (.int kI)] [(.long (g k)), (.long (f k)), (.int kI), (.ref ra)]))
      refine Owes.go ?_ fun t₀ k₀ => XS.ladd X29.here hx rfl (hb hby d9_24) rfl k₀
      show Owes _ _ _ _ (T29.setTop (mkF m 25 #[.val (.ref r0), .val (.ref r1), .val (.int kI)] [(.long ((f k) + (g k))), (.int kI), (.ref ra)]))
      refine Owes.sJ X29 hx hZ e29 O.2.2.2 hkI hkn (hb hby d9_25) ?_
      intro T30 h30 X30 e30 W30 G30
      have O1 := O.setA (f' := mix f g (k + 1)) wi W30 G30 (fun i _ => mix_up f g k i)
      have P1 := P.otherA W30 n1a nba
      have N30 := Fr.snoc X30 N ga
      have K1 := K.wr W30 (Or.inl (List.mem_singleton.mpr rfl))
      show Owes _ _ _ _ (T30.setTop (mkF m 26 #[.val (.ref r0), .val (.ref r1), .val (.int kI)] []))
      refine Owes.go ?_ fun t₀ k₀ => XS.iinc X30.here hx rfl (hb hby d9_26) rfl (l' := #[.val (.ref r0), .val (.ref r1), .val (.int (kI + (1 : Int32)))]) rfl k₀
      show Owes _ _ _ _ (T30.setTop (mkF m 29 #[.val (.ref r0), .val (.ref r1), .val (.int (kI + (1 : Int32)))] []))
      refine Owes.go ?_ fun t₀ k₀ => XS.goto X30.here hx rfl (pc0 := 29) (pc' := 2) rfl (hb hby d9_29) (by decide) (by decide) k₀
      show Owes _ _ _ _ (T30.setTop (mkF m 2 #[.val (.ref r0), .val (.ref r1), .val (.int (kI + (1 : Int32)))] []))
      exact ih (k + 1) (by omega) _ _ _ _ X30 e30 N30 K1 O1 P1 (own_inc hkI (by omega))
  exact lp 12288 0 rfl _ _ _ _ X0 e0 N0 (Keep.refl h0 _) (O0.congr fun i _ => mix_zero f g i) P0 rfl
section Ceil
variable {p : Program} {l : Launch} {e : Env} {s : State} {m : MethodId} {args : Array Value} {below : List Frame} {c : Code} {T : State}
theorem upStatic (hA : At T m c below) (hadm : l.admits e) (hW : s.WarmedH T.vm) (hexec : p.tables.exec = Jvm.exec)
    {own : String} {index : Nat} {x : MethodName} (hown : s.vm.findClass own = some m.cls) (hlink : (Cond.methodLink own index x).before args s = true)
    {m' : MethodId} {meth' : Method} {k' : Class} (hn : s.methodNamed? x = some m') (hm' : s.vm.method? m' = some meth') (hstatic : meth'.isStatic = true)
    (hk' : s.vm.classes[m'.cls]? = some k') (hinit : k'.init = .initialized)
    (hx : x.cls ≠ "java/lang/invoke/MethodHandle" ∧ x.cls ≠ "java/lang/invoke/VarHandle")
    {g : JFrame} (hg : g.method = m) {argsL rest : List Value} (hlen : argsL.length = meth'.sig.parameters.length) (hstack : g.stack = argsL.reverse ++ rest)
    (hdg : decode c.code g.pc = .ok (.invokestatic index, 3)) :
    ∃ vm', s.WarmedH vm' ∧ At (T.setVm vm') m c below ∧
      ∀ target, (∀ acts, Steps p.tables e below (doInvoke e ((T.setVm vm').setTop { g with stack := rest }) acts m' argsL.toArray).1 target) → Steps p.tables e below (T.setTop g) target := by
  have hpl : e.platform.magicAccessors = ({} : Platform).magicAccessors := by rw [hadm.platform]
  have hpv : e.platform.polymorphicOnlyByInvokevirtual = true := by rw [hadm.platform]
  obtain ⟨ci, hl, hright⟩ := Cond.methodLink_spec hown hn hlink e.platform hpl
  obtain ⟨kx, hkx, hnx⟩ := className_of_methodNamed hn
  cases hk'.symm.trans hkx
  have hE : s.MethodEntry e T.vm m.cls index m' ci := State.methodEntry hW hl hright fun k hk => by
    cases hk'.symm.trans hk
    rw [hnx]; exact hx
  obtain ⟨dk, cfile, nt, mname, mdesc, via, ck, _, hd, hcf, hcp, hnt, -, -, hck, -, hnopoly, -⟩ := hl.here
  cases hk'.symm.trans hck
  have alike := hE.warmed.alike
  obtain ⟨dk₂, hdk₂, hed₂⟩ := alike.2.2 _ _ hd
  obtain ⟨k₂, hk₂, he₂⟩ := alike.2.2 _ _ hk'
  have hnone : (k'.methods.any fun y => y.name == mname && !y.isStatic && signaturePolymorphic k' y) = false := by simp [hnopoly]
  have hnone₂ : (k₂.methods.any fun y => y.name == mname && !y.isStatic && signaturePolymorphic k₂ y) = false := by rw [he₂]; exact hnone
  refine ⟨T.vm.called m.cls ci index m', hE.warmed, ?_, fun target hrest => ?_⟩
  · exact hA.setVm (hW.alike.symm.trans hE.warmed.alike)
  · subst hg
    jvm_step hA [hexec, hdg, invokestatic.wp_cold (e := e) (s := T) (s₀ := s) (f := g) hA.top hpv hW hE hd hcf hcp hnt hk' hnone,
      invokestatic.wp_ready (e := e) (s := T.setVm (T.vm.called g.method.cls ci index m')) (k := k₂) (meth := meth') (m := m') (args := argsL) (rest := rest) (f := g)
        hA.top ⟨ci, mname, mdesc, via, m'.cls, k₂, memberRef_ask_via (e := e) hdk₂ (by rw [hed₂]; exact hcf) hcp hnt, hE.classReady, hk₂, hnone₂⟩ hE.ready hk₂
        (by show (T.vm.called g.method.cls ci index m').method? m' = some meth'; rw [alike.method?]; exact hm') (by rw [he₂]; exact hnopoly meth') hstatic (by rw [he₂]; exact hinit) hlen hstack]
    exact fun acts => hrest _
theorem upEnter (hA : At T m c below) {g : JFrame} (hg : g.method = m) {mk : MethodId} {methk : Method} {ck : Code} (a : Array Value) (hmk : T.vm.method? mk = some methk) (hck : methk.code = some ck) (hlk : methk.locks = false) (hpk : T.plainMethod mk)
    (hfull : e.platform.stackFull (((T.setTop g).threads[(T.setTop g).cur]?).getD { frames := [] }) (T.setTop g).frames ck.maxLocals = false) :
    At ((T.setTop g).pushFrame (.java (entryFrame mk a ck.maxLocals))) mk ck below ∧ ((T.setTop g).pushFrame (.java (entryFrame mk a ck.maxLocals))).frames = .java (entryFrame mk a ck.maxLocals) :: .java g :: T.frames.tail ∧
      ∀ acts, (doInvoke e (T.setTop g) acts mk a).1 = ((T.setTop g).pushFrame (.java (entryFrame mk a ck.maxLocals))).setTop (entryFrame mk a ck.maxLocals) := by
  subst hg
  exact ⟨At.enter hA a hmk hck hpk, frames_entered hA.top _, fun acts => doInvoke_enter hA.top acts hmk hck hlk hfull⟩
theorem upRetD (hA : At T m c below) (hx : p.tables.exec = Jvm.exec) {f0 g : JFrame} {r : List Frame} (hf : T.frames = .java f0 :: .java g :: r) {meth : Method} (hm : T.vm.method? m = some meth) (hl : meth.locks = false) (hret : meth.sig.returnType = some .double)
    {cg : Code} {ig : Instr} {len : Nat} (hcg : T.code? g.method = some cg) (hdg : decode cg.code g.pc = .ok (ig, len)) {pc : Nat} {Ls : Array Slot} {v : UInt64} {rest : List Value} (hd : decode c.code pc = .ok (.dreturn, 1)) :
    Steps p.tables e below (T.setTop (mkF m pc Ls (.double v :: rest))) (T.setFrames (.java { g with pc := g.pc + len, stack := .double v :: g.stack } :: r)) := by
  have hfs : handOver T (some (.double v)) (.java g :: r) = some (.java { g with pc := g.pc + len, stack := .double v :: g.stack } :: r) := by simp [handOver, hcg, hdg, Except.toOption]
  jvm_step hA [hA.top, hx, hd, hm, hret, narrow]
  intro acts
  rw [ret_to hf hm hl rfl rfl hfs acts]
  exact Steps.refl _
end Ceil
section Ceil2
variable {p : Program} {l : Launch} {e : Env} {s : State} {m : MethodId} {args : Array Value} {below : List Frame} {c : Code} {T : State}
theorem upGetS (hA : At T m c below) (hadm : l.admits e) (hW : s.WarmedH T.vm) (hexec : p.tables.exec = Jvm.exec)
    {own ref name desc : String} {index : Nat} (hown : s.vm.findClass own = some m.cls) (hlink : (Cond.fieldLink own index ref name desc).before args s = true)
    {cf i : Nat} {k : Class} {f : Field} (hi : s.fieldFound? ref name desc = some (cf, k, i, f)) (hst : f.isStatic = true) (hinit : k.init = .initialized)
    {a₁ : Addr} {cell₁ : Cell} {v : Value} (hstatics : k.statics = some a₁) (hcell : T.heap[a₁]? = some cell₁) (hknown : cell₁.vm ≠ .unknown) (hslot : cell₁.slots[f.slot]? = some v)
    {g : JFrame} (hg : g.method = m) (hdg : decode c.code g.pc = .ok (.getstatic index, 3)) :
    ∃ vm', s.WarmedH vm' ∧ At (T.setVm vm') m c below ∧
      ∀ target, Steps p.tables e below ((T.setVm vm').setTop { g with pc := g.pc + 3, stack := v :: g.stack }) target → Steps p.tables e below (T.setTop g) target := by
  have hpl : e.platform.magicAccessors = ({} : Platform).magicAccessors := by rw [hadm.platform]
  obtain ⟨ci', cfl, k', i', f', hi', hlinks, hright⟩ := Cond.fieldLink_spec hown hlink e.platform hpl
  cases hi.symm.trans hi'
  obtain ⟨hk, hf⟩ := State.fieldFound?_spec hi
  obtain ⟨vm', hgives, hW', hready, hfi⟩ := State.fieldEntry (e := e) hW hlinks hright hk hf
  obtain ⟨kc, hkc, hekc⟩ := hW'.alike.2.2 _ _ hk
  refine ⟨vm', hW', hA.setVm (hW.alike.symm.trans hW'.alike), fun target hrest => ?_⟩
  subst hg
  jvm_step hA [hexec, hdg, getstatic.wp_cold (e := e) (s := T) (f := g) hA.top hgives hready hfi,
    getstatic.wp_ready (e := e) (s := T.setVm vm') (f := g) hA.top hready hst hkc (by rw [hekc]; exact hinit) (by rw [hekc]; exact hstatics) (show (T.setVm vm').heap[a₁]? = some cell₁ from hcell) hknown hslot]
  exact hrest
theorem upLdcD (hA : At T m c below) (hW : s.WarmedH T.vm) (hexec : p.tables.exec = Jvm.exec) {own : String} {index : Nat} {b : UInt64} (hown : s.vm.findClass own = some m.cls)
    (hconst : (Cond.constantDouble own index b).before args s = true) {g : JFrame} (hg : g.method = m) (hdg : decode c.code g.pc = .ok (.ldc2_w index, 3)) :
    ∀ target, Steps p.tables e below (T.setTop { g with pc := g.pc + 3, stack := .double b :: g.stack }) target → Steps p.tables e below (T.setTop g) target := by
  obtain ⟨k, cf, hk, hcf, hcp⟩ := Cond.constantDouble_spec hown hconst
  obtain ⟨k', hk', he⟩ := hW.alike.2.2 _ _ hk
  intro target hrest
  subst hg
  jvm_step hA [hexec, hdg, ldc2_w.wp_double (s := T) (f := g) hA.top hk' (by rw [he]; exact hcf) hcp]
  exact hrest
theorem upLdcL (hA : At T m c below) (hW : s.WarmedH T.vm) (hexec : p.tables.exec = Jvm.exec) {own : String} {index : Nat} {b : Int64} (hown : s.vm.findClass own = some m.cls)
    (hconst : (Cond.constantLong own index b).before args s = true) {g : JFrame} (hg : g.method = m) (hdg : decode c.code g.pc = .ok (.ldc2_w index, 3)) :
    ∀ target, Steps p.tables e below (T.setTop { g with pc := g.pc + 3, stack := .long b :: g.stack }) target → Steps p.tables e below (T.setTop g) target := by
  obtain ⟨k, cf, bytes, hk, hcf, hcp, hb⟩ := Cond.constantLong_spec hown hconst
  obtain ⟨k', hk', he⟩ := hW.alike.2.2 _ _ hk
  intro target hrest
  subst hg
  jvm_step hA [hexec, hdg, ldc2_w.wp_long (s := T) (f := g) hA.top hk' (by rw [he]; exact hcf) hcp]
  rw [hb]
  exact hrest
theorem upNat (hA : At T m c below) (hadm : l.admits e) (hW : s.WarmedH T.vm) (hexec : p.tables.exec = Jvm.exec) {own : String} {index : Nat} (hown : s.vm.findClass own = some m.cls)
    (hlink : (Cond.methodLink own index (⟨"java/lang/Double", "doubleToRawLongBits", "(D)J"⟩ : MethodName)).before args s = true) (hnat : (Cond.native (⟨"java/lang/Double", "doubleToRawLongBits", "(D)J"⟩ : MethodName)).before args s = true) (hstat : (Cond.static (⟨"java/lang/Double", "doubleToRawLongBits", "(D)J"⟩ : MethodName)).before args s = true) (hinit : (Cond.initialized "java/lang/Double").before args s = true)
    {g : JFrame} (hg : g.method = m) {rest : List Value} {b : UInt64} (hstack : g.stack = .double b :: rest) (hdg : decode c.code g.pc = .ok (.invokestatic index, 3))
    (hfull : ∀ vm', e.platform.stackFull ((((T.setVm vm').setTop { g with stack := rest }).threads[((T.setVm vm').setTop { g with stack := rest }).cur]?).getD { frames := [] }) ((T.setVm vm').setTop { g with stack := rest }).frames (nativeFrameWords "java/lang/Double" "doubleToRawLongBits" 2) = false) :
    ∃ vm', s.WarmedH vm' ∧ At (T.setVm vm') m c below ∧ ∀ target, Steps p.tables e below ((T.setVm vm').setTop { g with pc := g.pc + 3, stack := .long b.toInt64 :: rest }) target → Steps p.tables e below (T.setTop g) target := by
  obtain ⟨r, kS, methS, hnS, hmS, hkS, N⟩ := NativeOf.of_static hnat hstat (ps := [.double]) (ret := some .long) (by decide +kernel)
  have hinitS : kS.init = .initialized := Cond.initialized_spec (findClass_of_methodNamed hnS) hkS hinit
  obtain ⟨vm', hW', hA', step⟩ := upStatic hA hadm hW hexec hown hlink hnS hmS N.static hkS hinitS (by decide) hg (argsL := [.double b]) (rest := rest) (by rw [N.sig]; rfl) hstack hdg
  refine ⟨vm', hW', hA', fun target hrest => step target fun acts => ?_⟩
  subst hg
  obtain ⟨kS', N'⟩ := N.alike hW'.alike
  exact Steps.doubleToRawLongBitsOf (g := { g with stack := rest }) (ig := .invokestatic index) (len := 3) p hA' acts N' b (hfull vm') hdg hrest
end Ceil2
section Ceil3
variable {p : Program} {l : Launch} {e : Env} {s : State} {m : MethodId} {args : Array Value} {below : List Frame} {c : Code} {T : State}
/-- a static method of bytecode, walked at the level of the machine -/
theorem upCall (hA : At T m c below) (hadm : l.admits e) (hW : s.WarmedH T.vm) (hexec : p.tables.exec = Jvm.exec) {own : String} {index : Nat} {x : MethodName} {bytes : ByteArray} {maxL : Nat} {ret : Option FieldType} (hown : s.vm.findClass own = some m.cls)
    (hlink : (Cond.methodLink own index x).before args s = true) (hcode : (Cond.code x bytes maxL ret).before args s = true) (hstat : (Cond.static x).before args s = true) (hini : (Cond.initialized x.cls).before args s = true) (hx : x.cls ≠ "java/lang/invoke/MethodHandle" ∧ x.cls ≠ "java/lang/invoke/VarHandle") (hpl : plainFor x = true)
    {f0 : JFrame} {FS : List Frame} (hf : T.frames = .java f0 :: FS) {g : JFrame} (hg : g.method = m) {argsL rest : List Value} (hlen : ∀ sig, parseMethodDescriptor x.desc = some sig → argsL.length = sig.parameters.length) (hstack : g.stack = argsL.reverse ++ rest) (hdg : decode c.code g.pc = .ok (.invokestatic index, 3))
    (hfull : ∀ vm', e.platform.stackFull ((((T.setVm vm').setTop { g with stack := rest }).threads[((T.setVm vm').setTop { g with stack := rest }).cur]?).getD { frames := [] }) ((T.setVm vm').setTop { g with stack := rest }).frames maxL = false) {v : Value}
    (run : ∀ (U : State) (mk : MethodId) (methk : Method) (ck : Code), At U mk ck below → s.WarmedH U.vm → s.vm.findClass x.cls = some mk.cls → U.vm.method? mk = some methk → methk.locks = false → methk.sig.returnType = ret → ck.code = bytes → U.heap = T.heap → U.frames = .java (entryFrame mk argsL.toArray maxL) :: .java { g with stack := rest } :: FS → U.code? m = some c →
      U.setFrames U.frames = U → e.platform.stackLimits U.me = e.platform.stackLimits T.me → ∃ vm2, s.WarmedH vm2 ∧ Steps p.tables e below (U.setTop (entryFrame mk argsL.toArray maxL)) ((U.setVm vm2).setFrames (.java { g with pc := g.pc + 3, stack := v :: rest } :: FS))) :
    ∃ vm2, s.WarmedH vm2 ∧ At (T.setVm vm2) m c below ∧ ∀ target, Steps p.tables e below ((T.setVm vm2).setTop { g with pc := g.pc + 3, stack := v :: rest }) target → Steps p.tables e below (T.setTop g) target := by
  obtain ⟨mk, hnamed⟩ := Cond.code_named hcode
  obtain ⟨methk, ck, hmethk, hck, hbytes, hml, hret, hlk, -, hsig⟩ := Cond.code_spec hnamed hcode
  have hst : methk.isStatic = true := Cond.static_spec hnamed hmethk hstat
  obtain ⟨kk, hkk, -⟩ := className_of_methodNamed hnamed
  have hinit : kk.init = .initialized := Cond.initialized_spec (findClass_of_methodNamed hnamed) hkk hini
  obtain ⟨vm1, hW1, hA1, step⟩ := upStatic hA hadm hW hexec hown hlink hnamed hmethk hst hkk hinit hx hg (argsL := argsL) (rest := rest) (hlen _ hsig) hstack hdg
  have hmk1 : (T.setVm vm1).vm.method? mk = some methk := by show vm1.method? mk = some methk; rw [hW1.alike.method?]; exact hmethk
  have hnm1 : (T.setVm vm1).methodNamed? x = some mk := by
    have q : (s.setVm vm1).methodNamed? x = some mk := by rw [State.methodNamed?_setVm hW1.alike]; exact hnamed
    exact q
  have hpk : (T.setVm vm1).plainMethod mk := State.plainMethod.of_named hpl hnm1 hmk1
  obtain ⟨hAU, hfU, hin⟩ := upEnter (e := e) hA1 (g := { g with stack := rest }) hg argsL.toArray hmk1 hck hlk hpk (by rw [hml]; exact hfull vm1)
  rw [hml] at hAU hfU hin
  have htail : (T.setVm vm1).frames.tail = FS := by show T.frames.tail = FS; rw [hf]; rfl
  rw [htail] at hfU
  have hcur : (T.setVm vm1).cur < (T.setVm vm1).threads.size := State.cur_lt_of_frames (show (T.setVm vm1).frames = .java f0 :: FS from hf)
  have eU : ((T.setVm vm1).setTop { g with stack := rest }).pushFrame (.java (entryFrame mk argsL.toArray maxL)) = (T.setVm vm1).setFrames (.java (entryFrame mk argsL.toArray maxL) :: .java { g with stack := rest } :: FS) := by
    rw [State.pushFrame, State.frames_setTop _ (show (T.setVm vm1).frames = .java f0 :: FS from hf), State.setTop_of_frames _ (show (T.setVm vm1).frames = .java f0 :: FS from hf), State.setFrames_setFrames]
  rw [eU] at hAU hfU hin
  generalize hUd : (T.setVm vm1).setFrames (.java (entryFrame mk argsL.toArray maxL) :: .java { g with stack := rest } :: FS) = U at hAU hfU hin
  have hUvm : U.vm = vm1 := by rw [← hUd]; rfl
  obtain ⟨vm2, hW2, hst2⟩ := run U mk methk ck hAU (by rw [hUvm]; exact hW1) (findClass_of_methodNamed hnamed) (by rw [hUvm]; exact hmk1) hlk hret hbytes (by rw [← hUd]; rfl) hfU (by rw [← hUd]; exact hA1.code) (by rw [hfU, ← hUd, State.setFrames_setFrames]) (by rw [← hUd, State.stackLimits_setFrames]; rfl)
  refine ⟨vm2, hW2, hA.setVm (hW.alike.symm.trans hW2.alike), fun target hrest => step target fun acts => ?_⟩
  rw [hin acts]
  refine hst2.trans ?_
  have e2 : (U.setVm vm2).setFrames (.java { g with pc := g.pc + 3, stack := v :: rest } :: FS) = (T.setVm vm2).setTop { g with pc := g.pc + 3, stack := v :: rest } := by
    rw [State.setTop_of_frames _ (show (T.setVm vm2).frames = .java f0 :: FS from hf), ← hUd]
    show (((T.setVm vm2).setFrames _).setFrames _) = _
    rw [State.setFrames_setFrames]
  rw [e2]
  exact hrest
end Ceil3
section Ceil4
variable {p : Program} {l : Launch} {e : Env} {s : State} {mk : MethodId} {args : Array Value} {below : List Frame} {ck : Code} {U : State}
def expF (b : UInt64) (k1 k2 : Int64) : Int32 := (((b.toInt64 &&& k1) >>> ((52 : Int64) &&& 63)).toInt32 - k2.toInt32)
theorem upRetI (hA : At U mk ck below) (hx : p.tables.exec = Jvm.exec) {f0 g : JFrame} {r : List Frame} (hf : U.frames = .java f0 :: .java g :: r) {meth : Method} (hm : U.vm.method? mk = some meth) (hl : meth.locks = false) (hret : meth.sig.returnType = some .int)
    {cg : Code} {ig : Instr} {len : Nat} (hcg : U.code? g.method = some cg) (hdg : decode cg.code g.pc = .ok (ig, len)) {pc : Nat} {Ls : Array Slot} {v : Int32} {rest : List Value} (hd : decode ck.code pc = .ok (.ireturn, 1)) :
    Steps p.tables e below (U.setTop (mkF mk pc Ls (.int v :: rest))) (U.setFrames (.java { g with pc := g.pc + len, stack := .int v :: g.stack } :: r)) := by
  have hfs : handOver U (some (.int v)) (.java g :: r) = some (.java { g with pc := g.pc + len, stack := .int v :: g.stack } :: r) := by simp [handOver, hcg, hdg, Except.toOption]
  jvm_step hA [hA.top, hx, hd, hm, hret, narrow]
  intro acts
  rw [ret_to hf hm hl rfl rfl hfs acts]
  exact Steps.refl _
set_option maxHeartbeats 400000 in
theorem expRun {k1 k2 : Int64} (hA : At U mk ck below) (hadm : l.admits e) (hW : s.WarmedH U.vm) (hexec : p.tables.exec = Jvm.exec) (hown : s.vm.findClass "java/lang/Math" = some mk.cls)
    (hL : (Cond.methodLink "java/lang/Math" 79 (⟨"java/lang/Double", "doubleToRawLongBits", "(D)J"⟩ : MethodName)).before args s = true) (hN : (Cond.native (⟨"java/lang/Double", "doubleToRawLongBits", "(D)J"⟩ : MethodName)).before args s = true) (hS : (Cond.static (⟨"java/lang/Double", "doubleToRawLongBits", "(D)J"⟩ : MethodName)).before args s = true) (hI : (Cond.initialized "java/lang/Double").before args s = true)
    (hc1 : (Cond.constantLong "java/lang/Math" 87 k1).before args s = true) (hc2 : (Cond.constantLong "java/lang/Math" 322 k2).before args s = true)
    (d0 : decode ck.code 0 = .ok (.dload_n 0, 1)) (d1 : decode ck.code 1 = .ok (.invokestatic 79, 3)) (d4 : decode ck.code 4 = .ok (.ldc2_w 87, 3)) (d7 : decode ck.code 7 = .ok (.land, 1)) (d8 : decode ck.code 8 = .ok (.bipush 52, 2)) (d10 : decode ck.code 10 = .ok (.lshr, 1)) (d11 : decode ck.code 11 = .ok (.ldc2_w 322, 3)) (d14 : decode ck.code 14 = .ok (.lsub, 1)) (d15 : decode ck.code 15 = .ok (.l2i, 1)) (d16 : decode ck.code 16 = .ok (.ireturn, 1))
    {meth : Method} (hm : U.vm.method? mk = some meth) (hl : meth.locks = false) (hret : meth.sig.returnType = some .int) {f0 g : JFrame} {r : List Frame} (hf : U.frames = .java f0 :: .java g :: r) {cg : Code} {ig : Instr} {len : Nat} (hcg : U.code? g.method = some cg) (hdg : decode cg.code g.pc = .ok (ig, len)) (b : UInt64)
    (hfull : ∀ vm', e.platform.stackFull ((((U.setVm vm').setTop { (mkF mk 1 #[.val (.double b), .second] [.double b]) with stack := [] }).threads[((U.setVm vm').setTop { (mkF mk 1 #[.val (.double b), .second] [.double b]) with stack := [] }).cur]?).getD { frames := [] }) ((U.setVm vm').setTop { (mkF mk 1 #[.val (.double b), .second] [.double b]) with stack := [] }).frames (nativeFrameWords "java/lang/Double" "doubleToRawLongBits" 2) = false) :
    ∃ vm2, s.WarmedH vm2 ∧ Steps p.tables e below (U.setTop (mkF mk 0 #[.val (.double b), .second] [])) ((U.setVm vm2).setFrames (.java { g with pc := g.pc + len, stack := .int (expF b k1 k2) :: g.stack } :: r)) := by
  obtain ⟨vm1, hW1, hA1, st1⟩ := upNat (g := mkF mk 1 #[.val (.double b), .second] [.double b]) hA hadm hW hexec hown hL hN hS hI rfl (rest := []) (b := b) rfl d1 hfull
  have hm1 : (U.setVm vm1).vm.method? mk = some meth := by show vm1.method? mk = some meth; rw [hW1.alike.method?, ← hW.alike.method?]; exact hm
  have hcg1 : (U.setVm vm1).code? g.method = some cg := by
    have h1 : (U.setVm vm1).code? g.method = U.code? g.method := by rw [State.code?_eq, State.code?_eq]; show (vm1.method? _).bind _ = _; rw [hW1.alike.method?, ← hW.alike.method?]
    rw [h1]; exact hcg
  refine ⟨vm1, hW1, ?_⟩
  unfold expF
  have hf1 : (U.setVm vm1).frames = .java f0 :: .java g :: r := hf
  have hWT : s.WarmedH (U.setVm vm1).vm := hW1
  generalize U.setVm vm1 = T1 at hA1 st1 hm1 hcg1 hf1 hWT ⊢
  jvm_step hA [hA.top, hexec, d0]
  refine st1 _ ?_
  show Steps p.tables e below (T1.setTop (mkF mk 4 #[.val (.double b), .second] [.long b.toInt64])) _
  refine upLdcL hA1 hWT hexec hown hc1 (g := mkF mk 4 #[.val (.double b), .second] [.long b.toInt64]) rfl d4 _ ?_
  show Steps p.tables e below (T1.setTop (mkF mk 7 #[.val (.double b), .second] [.long k1, .long b.toInt64])) _
  jvm_step hA1 [hA1.top, hexec, d7]
  jvm_step hA1 [hA1.top, hexec, d8]
  jvm_step hA1 [hA1.top, hexec, d10]
  refine upLdcL hA1 hWT hexec hown hc2 (g := mkF mk 11 #[.val (.double b), .second] [.long ((b.toInt64 &&& k1) >>> ((52 : Int64) &&& 63))]) rfl d11 _ ?_
  show Steps p.tables e below (T1.setTop (mkF mk 14 #[.val (.double b), .second] [.long k2, .long ((b.toInt64 &&& k1) >>> ((52 : Int64) &&& 63))])) _
  jvm_step hA1 [hA1.top, hexec, d14]
  jvm_step hA1 [hA1.top, hexec, d15]
  exact upRetI (v := (((b.toInt64 &&& k1) >>> ((52 : Int64) &&& 63)).toInt32 - k2.toInt32)) hA1 hexec hf1 hm1 hl hret hcg1 hdg (pc := 16) (Ls := #[.val (.double b), .second]) (rest := []) d16
end Ceil4
section Ceil6
open Jvm.Free.Hsc
open Jvm.Lib.Cold (StaticIs)
variable {p : Program} {l : Launch} {e : Env} {s : State} {args : Array Value} {below : List Frame}
theorem notFullM {U : State} {f0 g : JFrame} {FS : List Frame} {L : Nat × Nat} (hf : U.frames = .java f0 :: FS) (hL : e.platform.stackLimits U.me = L) {vars : Nat} (h1 : FS.length + 1 < L.1)
    (h2 : (stackUse FS).2 + (g.locals.size + 11 + 2 * g.monitorRoom + operandWords g.stack) + vars + 11 ≤ L.2) :
    e.platform.stackFull (((U.setTop g).threads[(U.setTop g).cur]?).getD { frames := [] }) (U.setTop g).frames vars = false := by
  have hcur : U.cur < U.threads.size := State.cur_lt_of_frames hf
  have hF : (U.setTop g).frames = .java g :: FS := by rw [State.setTop_of_frames _ hf, State.frames_setFrames _ hcur]
  have hm : e.platform.stackLimits (((U.setTop g).threads[(U.setTop g).cur]?).getD { frames := [] }) = L := by
    show e.platform.stackLimits (U.setTop g).me = L
    rw [State.setTop_of_frames _ hf, State.stackLimits_setFrames]; exact hL
  rw [hF]
  refine Platform.stackFull_eq_false ?_ ?_
  · rw [hm, List.length_cons]; exact h1
  · rw [hm, stackUse_java]; exact h2
abbrev focL (b nb pb sg : UInt64) (x y z u w : Slot) : Array Slot := #[.val (.double b), .second, .val (.double nb), .second, .val (.double pb), .second, .val (.double sg), .second, x, y, z, u, w, .unset, .unset]
theorem focEntry (m : MethodId) (b nb pb sg : UInt64) : entryFrame m #[.double b, .double nb, .double pb, .double sg] 15 = mkF m 0 #[.val (.double b), .second, .val (.double nb), .second, .val (.double pb), .second, .val (.double sg), .second, .unset, .unset, .unset, .unset, .unset, .unset, .unset] [] := by
  unfold entryFrame
  simp [argsToLocals, Value.category]
abbrev focE (b : UInt64) : Int32 := expF b 9218868437227405312 1023
theorem codeVm {U : State} {vm : Vm} {m : MethodId} (h : U.vm.Alike vm) : (U.setVm vm).code? m = U.code? m := by
  rw [State.code?_eq, State.code?_eq]; show (vm.method? _).bind _ = _; rw [h.method?]
theorem focHead {k1 k2 : Int64} {m : MethodId} {c : Code} {U : State} (hA : At U m c below) (hadm : l.admits e) (hW : s.WarmedH U.vm) (hexec : p.tables.exec = Jvm.exec) (hown : s.vm.findClass SM = some m.cls) (hLG : (Cond.methodLink SM 66 GetExp.yN).before args s = true) (hSG : (Cond.static GetExp.yN).before args s = true) (hIM : (Cond.initialized MA).before args s = true) (hCG : (Cond.code GetExp.yN GetExp.yB 2 (some .int)).before args s = true)
    (hLM : (Cond.methodLink MA 79 doubleToRawLongBitsName).before args s = true) (hNM : (Cond.native doubleToRawLongBitsName).before args s = true) (hSM : (Cond.static doubleToRawLongBitsName).before args s = true) (hIM2 : (Cond.initialized "java/lang/Double").before args s = true)
    (hk1 : (Cond.constantLong MA 87 k1).before args s = true) (hk2 : (Cond.constantLong MA 322 k2).before args s = true) (hb : c.code = Foc.yB)
    {f0 : JFrame} {FS : List Frame} (hf : U.frames = .java f0 :: FS) {L : Nat × Nat} (hL : e.platform.stackLimits U.me = L) (h1 : FS.length + 2 < L.1) (h2 : (stackUse FS).2 + 54 ≤ L.2) (b nb pb sg : UInt64) :
    ∃ vm1, s.WarmedH vm1 ∧ At (U.setVm vm1) m c below ∧ Steps p.tables e below (U.setTop (entryFrame m #[.double b, .double nb, .double pb, .double sg] 15)) ((U.setVm vm1).setTop (mkF m 8 (focL b nb pb sg (.val (.int (expF b k1 k2))) .unset .unset .unset .unset) [.int (expF b k1 k2)])) := by
  have hdg : decode c.code (mkF m 1 (focL b nb pb sg .unset .unset .unset .unset .unset) [.double b]).pc = .ok (.invokestatic 66, 3) := by rw [hb]; exact Foc.d1
  have hd0 : decode c.code 0 = .ok (.dload_n 0, 1) := by rw [hb]; exact Foc.d0
  have hd4 : decode c.code 4 = .ok (.istore 8, 2) := by rw [hb]; exact Foc.d4
  have hd6 : decode c.code 6 = .ok (.iload 8, 2) := by rw [hb]; exact Foc.d6
  obtain ⟨vm1, hW1, hA1, st1⟩ := upCall (x := GetExp.yN) (g := mkF m 1 (focL b nb pb sg .unset .unset .unset .unset .unset) [.double b]) (argsL := [.double b]) (rest := []) (v := .int (expF b k1 k2)) hA hadm hW hexec hown hLG hCG hSG hIM (by decide) (by decide +kernel) hf rfl
    (fun sig hs => by rw [show parseMethodDescriptor GetExp.yN.desc = some ⟨[.double], some .int⟩ from by decide +kernel] at hs; rw [← Option.some.inj hs]; rfl) rfl hdg
    (fun vm' => notFullM (show (U.setVm vm').frames = _ from hf) hL (by omega) (by show (stackUse FS).2 + (15 + 11 + 2 * 0 + 0) + 2 + 11 ≤ L.2; omega))
    (fun U' mk methk ck hAU hWU hownU hmU hl hret hby _ hfU hcU _ hLU => expRun hAU hadm hWU hexec hownU hLM hNM hSM hIM2 hk1 hk2 (by rw [hby]; exact GetExp.d0) (by rw [hby]; exact GetExp.d1) (by rw [hby]; exact GetExp.d4) (by rw [hby]; exact GetExp.d7) (by rw [hby]; exact GetExp.d8) (by rw [hby]; exact GetExp.d10)
      (by rw [hby]; exact GetExp.d11) (by rw [hby]; exact GetExp.d14) (by rw [hby]; exact GetExp.d15) (by rw [hby]; exact GetExp.d16) hmU hl hret hfU hcU hdg b
      (fun vm' => notFullM (show (U'.setVm vm').frames = _ from hfU) (show e.platform.stackLimits U'.me = L by rw [hLU]; exact hL) (by simp only [List.length_cons]; omega) (by rw [stackUse_java]; show (stackUse FS).2 + (15 + 11 + 2 * 0 + 0) + (2 + 11 + 2 * 0 + 0) + 4 + 11 ≤ L.2; omega)))
  refine ⟨vm1, hW1, hA1, ?_⟩
  rw [focEntry]
  generalize U.setVm vm1 = T1 at hA1 st1 ⊢
  generalize expF b k1 k2 = E at st1 ⊢
  jvm_step hA [hA.top, hexec, hd0]
  refine st1 _ ?_
  show Steps p.tables e below (T1.setTop (mkF m 4 (focL b nb pb sg .unset .unset .unset .unset .unset) [.int E])) _
  jvm_step hA1 [hA1.top, hexec, hd4]
  refine ⟨focL b nb pb sg (.val (.int E)) .unset .unset .unset .unset, rfl, ?_⟩
  jvm_step hA1 [hA1.top, hexec, hd6]
  exact Steps.refl _
end Ceil6
section Ceil7
open Jvm.Free.Hsc
variable {p : Program} {l : Launch} {e : Env} {s : State} {args : Array Value} {below : List Frame}
theorem focWhole {k1 k2 k3 : Int64} {m : MethodId} {c : Code} {U : State} (hA : At U m c below) (hadm : l.admits e) (hW : s.WarmedH U.vm) (hexec : p.tables.exec = Jvm.exec) (hown : s.vm.findClass SM = some m.cls) (hLG : (Cond.methodLink SM 66 GetExp.yN).before args s = true) (hSG : (Cond.static GetExp.yN).before args s = true) (hIM : (Cond.initialized MA).before args s = true) (hCG : (Cond.code GetExp.yN GetExp.yB 2 (some .int)).before args s = true)
    (hLM : (Cond.methodLink MA 79 doubleToRawLongBitsName).before args s = true) (hNM : (Cond.native doubleToRawLongBitsName).before args s = true) (hSM : (Cond.static doubleToRawLongBitsName).before args s = true) (hIM2 : (Cond.initialized "java/lang/Double").before args s = true)
    (hk1 : (Cond.constantLong MA 87 k1).before args s = true) (hk2 : (Cond.constantLong MA 322 k2).before args s = true) (hLA : (Cond.fieldLink SM 70 SM "$assertionsDisabled" "Z").before args s = true) (hLD : (Cond.methodLink SM 77 doubleToRawLongBitsName).before args s = true) (hk3 : (Cond.constantLong SM 85 k3).before args s = true) (hb : c.code = Foc.yB)
    {cf i : Nat} {k : Class} {f : Field} (hi : s.fieldFound? SM "$assertionsDisabled" "Z" = some (cf, k, i, f)) (hst : f.isStatic = true) (hinit : k.init = .initialized) {a₁ : Addr} {cell₁ : Cell} (hstatics : k.statics = some a₁) (hcell : U.heap[a₁]? = some cell₁) (hknown : cell₁.vm ≠ .unknown) (hslot : cell₁.slots[f.slot]? = some (.int 1))
    {f0 g : JFrame} {r : List Frame} (hf : U.frames = .java f0 :: .java g :: r) {meth : Method} (hm : U.vm.method? m = some meth) (hl : meth.locks = false) (hret : meth.sig.returnType = some .double) {cg : Code} {ig : Instr} {len : Nat} (hcg : U.code? g.method = some cg) (hdg : decode cg.code g.pc = .ok (ig, len))
    {L : Nat × Nat} (hL : e.platform.stackLimits U.me = L) (h1 : (Frame.java g :: r).length + 2 < L.1) (h2 : (stackUse (Frame.java g :: r)).2 + 54 ≤ L.2) (b nb pb sg : UInt64)
    {E : Int32} (hE : expF b k1 k2 = E) (hE0 : 0 ≤ E) (hE1 : E < 52) (hM : (k3 >>> (E.toInt64 &&& 63)) &&& b.toInt64 = 0) :
    ∃ vm2, s.WarmedH vm2 ∧ Steps p.tables e below (U.setTop (entryFrame m #[.double b, .double nb, .double pb, .double sg] 15)) ((U.setVm vm2).setFrames (.java { g with pc := g.pc + len, stack := .double b :: g.stack } :: r)) := by
  obtain ⟨vm1, hW1, hA1, st1⟩ := focHead hA hadm hW hexec hown hLG hSG hIM hCG hLM hNM hSM hIM2 hk1 hk2 hb hf hL h1 h2 b nb pb sg
  rw [hE] at st1
  obtain ⟨vm2, hW2, hA2, st2⟩ := upGetS hA1 hadm hW1 hexec hown hLA hi hst hinit hstatics (show (U.setVm vm1).heap[a₁]? = _ from hcell) hknown hslot (g := mkF m 43 (focL b nb pb sg (.val (.int E)) .unset .unset .unset .unset) []) rfl (by rw [hb]; exact Foc.d43)
  obtain ⟨vm3, hW3, hA3, st3⟩ := upNat hA2 hadm hW2 hexec hown hLD hNM hSM hIM2 (g := mkF m 70 (focL b nb pb sg (.val (.int E)) .unset .unset .unset .unset) [.double b]) rfl (rest := []) (b := b) rfl (by rw [hb]; exact Foc.d70)
    (fun vm' => notFullM (show (U.setVm vm').frames = _ from hf) hL (by omega) (by show (stackUse (Frame.java g :: r)).2 + (15 + 11 + 2 * 0 + 0) + 4 + 11 ≤ L.2; omega))
  have hm3 : (U.setVm vm3).vm.method? m = some meth := by show vm3.method? m = some meth; rw [hW3.alike.method?, ← hW.alike.method?]; exact hm
  have hcg3 : (U.setVm vm3).code? g.method = some cg := by rw [codeVm (hW.alike.symm.trans hW3.alike)]; exact hcg
  have hf3 : (U.setVm vm3).frames = .java f0 :: .java g :: r := hf
  have hW3' : s.WarmedH (U.setVm vm3).vm := hW3
  refine ⟨vm3, hW3, st1.trans ?_⟩
  change At (U.setVm vm2) m c below at hA2
  change At (U.setVm vm3) m c below at hA3
  change ∀ target, Steps p.tables e below ((U.setVm vm2).setTop _) target → Steps p.tables e below ((U.setVm vm1).setTop _) target at st2
  change ∀ target, Steps p.tables e below ((U.setVm vm3).setTop _) target → Steps p.tables e below ((U.setVm vm2).setTop _) target at st3
  generalize U.setVm vm1 = T1 at hA1 st2 ⊢
  generalize U.setVm vm2 = T2 at hA2 st2 st3
  generalize U.setVm vm3 = T3 at hA3 st3 hm3 hcg3 hf3 hW3' ⊢
  have d8 : decode c.code 8 = .ok (.ifCond .ge 26, 3) := by rw [hb]; exact Foc.d8
  have d34 : decode c.code 34 = .ok (.iload 8, 2) := by rw [hb]; exact Foc.d34
  have d36 : decode c.code 36 = .ok (.bipush 52, 2) := by rw [hb]; exact Foc.d36
  have d38 : decode c.code 38 = .ok (.if_icmp .lt 5, 3) := by rw [hb]; exact Foc.d38
  have d46 : decode c.code 46 = .ok (.ifCond .ne 23, 3) := by rw [hb]; exact Foc.d46
  have d69 : decode c.code 69 = .ok (.dload_n 0, 1) := by rw [hb]; exact Foc.d69
  have d73 : decode c.code 73 = .ok (.lstore 9, 2) := by rw [hb]; exact Foc.d73
  have d75 : decode c.code 75 = .ok (.ldc2_w 85, 3) := by rw [hb]; exact Foc.d75
  have d78 : decode c.code 78 = .ok (.iload 8, 2) := by rw [hb]; exact Foc.d78
  have d80 : decode c.code 80 = .ok (.lshr, 1) := by rw [hb]; exact Foc.d80
  have d81 : decode c.code 81 = .ok (.lstore 11, 2) := by rw [hb]; exact Foc.d81
  have d83 : decode c.code 83 = .ok (.lload 11, 2) := by rw [hb]; exact Foc.d83
  have d85 : decode c.code 85 = .ok (.lload 9, 2) := by rw [hb]; exact Foc.d85
  have d87 : decode c.code 87 = .ok (.land, 1) := by rw [hb]; exact Foc.d87
  have d88 : decode c.code 88 = .ok (.lconst 0, 1) := by rw [hb]; exact Foc.d88
  have d89 : decode c.code 89 = .ok (.lcmp, 1) := by rw [hb]; exact Foc.d89
  have d90 : decode c.code 90 = .ok (.ifCond .ne 5, 3) := by rw [hb]; exact Foc.d90
  have d93 : decode c.code 93 = .ok (.dload_n 0, 1) := by rw [hb]; exact Foc.d93
  have d94 : decode c.code 94 = .ok (.dreturn, 1) := by rw [hb]; exact Foc.d94
  clear st1 hA hW hE h1 h2 hL hcell
  jvm_step hA1 [hA1.top, hexec, d8, ifCond.wp_sem, ifCond.holds, hE0]
  show Steps p.tables e below (T1.setTop (mkF m 34 (focL b nb pb sg (.val (.int E)) .unset .unset .unset .unset) [])) _
  jvm_step hA1 [hA1.top, hexec, d34]
  jvm_step hA1 [hA1.top, hexec, d36]
  jvm_step hA1 [hA1.top, hexec, d38, if_icmp.holds, hE1]
  refine st2 _ ?_
  show Steps p.tables e below (T2.setTop (mkF m 46 (focL b nb pb sg (.val (.int E)) .unset .unset .unset .unset) [.int 1])) _
  jvm_step hA2 [hA2.top, hexec, d46, ifCond.wp_sem, ifCond.holds]
  show Steps p.tables e below (T2.setTop (mkF m 69 (focL b nb pb sg (.val (.int E)) .unset .unset .unset .unset) [])) _
  jvm_step hA2 [hA2.top, hexec, d69]
  refine st3 _ ?_
  show Steps p.tables e below (T3.setTop (mkF m 73 (focL b nb pb sg (.val (.int E)) .unset .unset .unset .unset) [.long b.toInt64])) _
  jvm_step hA3 [hA3.top, hexec, d73]
  refine ⟨focL b nb pb sg (.val (.int E)) (.val (.long b.toInt64)) .second .unset .unset, rfl, ?_⟩
  refine upLdcL hA3 hW3' hexec hown hk3 (g := mkF m 75 (focL b nb pb sg (.val (.int E)) (.val (.long b.toInt64)) .second .unset .unset) []) rfl d75 _ ?_
  show Steps p.tables e below (T3.setTop (mkF m 78 (focL b nb pb sg (.val (.int E)) (.val (.long b.toInt64)) .second .unset .unset) [.long k3])) _
  jvm_step hA3 [hA3.top, hexec, d78]
  jvm_step hA3 [hA3.top, hexec, d80]
  show Steps p.tables e below (T3.setTop (mkF m 81 (focL b nb pb sg (.val (.int E)) (.val (.long b.toInt64)) .second .unset .unset) [.long (k3 >>> (E.toInt64 &&& 63))])) _
  jvm_step hA3 [hA3.top, hexec, d81]
  refine ⟨focL b nb pb sg (.val (.int E)) (.val (.long b.toInt64)) .second (.val (.long (k3 >>> (E.toInt64 &&& 63)))) .second, rfl, ?_⟩
  jvm_step hA3 [hA3.top, hexec, d83]
  jvm_step hA3 [hA3.top, hexec, d85]
  jvm_step hA3 [hA3.top, hexec, d87]
  jvm_step hA3 [hA3.top, hexec, d88]
  jvm_step hA3 [hA3.top, hexec, d89, hM]
  jvm_step hA3 [hA3.top, hexec, d90, ifCond.wp_sem, ifCond.holds]
  jvm_step hA3 [hA3.top, hexec, d93]
  exact upRetD (v := b) hA3 hexec hf3 hm3 hl hret hcg3 hdg (pc := 94) (Ls := focL b nb pb sg (.val (.int E)) (.val (.long b.toInt64)) .second (.val (.long (k3 >>> (E.toInt64 &&& 63)))) .second) (rest := []) d94
end Ceil7
section Ceil8
open Jvm.Free.Hsc
variable {p : Program} {l : Launch} {e : Env} {s : State} {args : Array Value} {below : List Frame}
theorem focHalf {k1 k2 : Int64} {m : MethodId} {c : Code} {U : State} (hA : At U m c below) (hadm : l.admits e) (hW : s.WarmedH U.vm) (hexec : p.tables.exec = Jvm.exec) (hown : s.vm.findClass SM = some m.cls) (hLG : (Cond.methodLink SM 66 GetExp.yN).before args s = true) (hSG : (Cond.static GetExp.yN).before args s = true) (hIM : (Cond.initialized MA).before args s = true) (hCG : (Cond.code GetExp.yN GetExp.yB 2 (some .int)).before args s = true)
    (hLM : (Cond.methodLink MA 79 doubleToRawLongBitsName).before args s = true) (hNM : (Cond.native doubleToRawLongBitsName).before args s = true) (hSM : (Cond.static doubleToRawLongBitsName).before args s = true) (hIM2 : (Cond.initialized "java/lang/Double").before args s = true)
    (hk1 : (Cond.constantLong MA 87 k1).before args s = true) (hk2 : (Cond.constantLong MA 322 k2).before args s = true) (hb : c.code = Foc.yB)
    {f0 g : JFrame} {r : List Frame} (hf : U.frames = .java f0 :: .java g :: r) {meth : Method} (hm : U.vm.method? m = some meth) (hl : meth.locks = false) (hret : meth.sig.returnType = some .double) {cg : Code} {ig : Instr} {len : Nat} (hcg : U.code? g.method = some cg) (hdg : decode cg.code g.pc = .ok (ig, len))
    {L : Nat × Nat} (hL : e.platform.stackLimits U.me = L) (h1 : (Frame.java g :: r).length + 2 < L.1) (h2 : (stackUse (Frame.java g :: r)).2 + 54 ≤ L.2) (b nb pb sg : UInt64)
    {E : Int32} (hE : expF b k1 k2 = E) (hE0 : ¬ 0 ≤ E) (hz : ¬ cmpValue (FP.dcmp b 0) .l = 0) (hp : 0 ≤ cmpValue (FP.dcmp b 0) .g) :
    ∃ vm2, s.WarmedH vm2 ∧ Steps p.tables e below (U.setTop (entryFrame m #[.double b, .double nb, .double pb, .double sg] 15)) ((U.setVm vm2).setFrames (.java { g with pc := g.pc + len, stack := .double pb :: g.stack } :: r)) := by
  obtain ⟨vm1, hW1, hA1, st1⟩ := focHead hA hadm hW hexec hown hLG hSG hIM hCG hLM hNM hSM hIM2 hk1 hk2 hb hf hL h1 h2 b nb pb sg
  rw [hE] at st1
  have hm1 : (U.setVm vm1).vm.method? m = some meth := by show vm1.method? m = some meth; rw [hW1.alike.method?, ← hW.alike.method?]; exact hm
  have hcg1 : (U.setVm vm1).code? g.method = some cg := by rw [codeVm (hW.alike.symm.trans hW1.alike)]; exact hcg
  have hf1 : (U.setVm vm1).frames = .java f0 :: .java g :: r := hf
  refine ⟨vm1, hW1, st1.trans ?_⟩
  generalize U.setVm vm1 = T1 at hA1 hm1 hcg1 hf1 ⊢
  have d8 : decode c.code 8 = .ok (.ifCond .ge 26, 3) := by rw [hb]; exact Foc.d8
  have e11 : decode c.code 11 = .ok (.dload_n 0, 1) := by rw [hb]; exact FocA.e11
  have e12 : decode c.code 12 = .ok (.dconst 0, 1) := by rw [hb]; exact FocA.e12
  have e13 : decode c.code 13 = .ok (.dcmp .l, 1) := by rw [hb]; exact FocA.e13
  have e14 : decode c.code 14 = .ok (.ifCond .ne 7, 3) := by rw [hb]; exact FocA.e14
  have e21 : decode c.code 21 = .ok (.dload_n 0, 1) := by rw [hb]; exact FocA.e21
  have e22 : decode c.code 22 = .ok (.dconst 0, 1) := by rw [hb]; exact FocA.e22
  have e23 : decode c.code 23 = .ok (.dcmp .g, 1) := by rw [hb]; exact FocA.e23
  have e24 : decode c.code 24 = .ok (.ifCond .ge 7, 3) := by rw [hb]; exact FocA.e24
  have e31 : decode c.code 31 = .ok (.dload 4, 2) := by rw [hb]; exact FocA.e31
  have e33 : decode c.code 33 = .ok (.dreturn, 1) := by rw [hb]; exact FocA.e33
  clear st1 hA hW hE h1 h2 hL
  jvm_step hA1 [hA1.top, hexec, d8, ifCond.wp_sem, ifCond.holds, hE0]
  show Steps p.tables e below (T1.setTop (mkF m 11 (focL b nb pb sg (.val (.int E)) .unset .unset .unset .unset) [])) _
  jvm_step hA1 [hA1.top, hexec, e11]
  jvm_step hA1 [hA1.top, hexec, e12]
  show Steps p.tables e below (T1.setTop (mkF m 13 (focL b nb pb sg (.val (.int E)) .unset .unset .unset .unset) [.double 0, .double b])) _
  jvm_step hA1 [hA1.top, hexec, e13, dcmp.wp_sem]
  show Steps p.tables e below (T1.setTop (mkF m 14 (focL b nb pb sg (.val (.int E)) .unset .unset .unset .unset) [.int (cmpValue (FP.dcmp b 0) .l)])) _
  jvm_step hA1 [hA1.top, hexec, e14, ifCond.wp_sem, ifCond.holds, hz]
  show Steps p.tables e below (T1.setTop (mkF m 21 (focL b nb pb sg (.val (.int E)) .unset .unset .unset .unset) [])) _
  jvm_step hA1 [hA1.top, hexec, e21]
  jvm_step hA1 [hA1.top, hexec, e22]
  show Steps p.tables e below (T1.setTop (mkF m 23 (focL b nb pb sg (.val (.int E)) .unset .unset .unset .unset) [.double 0, .double b])) _
  jvm_step hA1 [hA1.top, hexec, e23, dcmp.wp_sem]
  show Steps p.tables e below (T1.setTop (mkF m 24 (focL b nb pb sg (.val (.int E)) .unset .unset .unset .unset) [.int (cmpValue (FP.dcmp b 0) .g)])) _
  jvm_step hA1 [hA1.top, hexec, e24, ifCond.wp_sem, ifCond.holds, hp]
  show Steps p.tables e below (T1.setTop (mkF m 31 (focL b nb pb sg (.val (.int E)) .unset .unset .unset .unset) [])) _
  jvm_step hA1 [hA1.top, hexec, e31]
  exact upRetD (v := pb) hA1 hexec hf1 hm1 hl hret hcg1 hdg (pc := 33) (Ls := (focL b nb pb sg (.val (.int E)) .unset .unset .unset .unset)) (rest := []) e33
end Ceil8
section Ceil9
open Jvm.Free.Hsc
variable {p : Program} {l : Launch} {e : Env} {s : State} {args : Array Value} {below : List Frame}
def FocGood (b v one : UInt64) (k1 k2 k3 : Int64) : Prop :=
  (0 ≤ expF b k1 k2 ∧ expF b k1 k2 < 52 ∧ (k3 >>> ((expF b k1 k2).toInt64 &&& 63)) &&& b.toInt64 = 0 ∧ v = b) ∨ (¬ 0 ≤ expF b k1 k2 ∧ ¬ cmpValue (FP.dcmp b 0) .l = 0 ∧ 0 ≤ cmpValue (FP.dcmp b 0) .g ∧ v = one)
theorem upRetDN {m : MethodId} {c : Code} {T : State} (hA : At T m c below) (hx : p.tables.exec = Jvm.exec) {f0 : JFrame} {nf : NFrame} {r : List Frame} (hf : T.frames = .java f0 :: .native nf :: r) {meth : Method} (hm : T.vm.method? m = some meth) (hl : meth.locks = false) (hret : meth.sig.returnType = some .double)
    {pc : Nat} {Ls : Array Slot} {v : UInt64} {rest : List Value} (hd : decode c.code pc = .ok (.dreturn, 1)) :
    Steps p.tables e below (T.setTop (mkF m pc Ls (.double v :: rest))) (T.setFrames (.native { nf with awaiting := false, answer := some (.returned (some (.double v))) } :: r)) := by
  have hfs : handOver T (some (.double v)) (.native nf :: r) = some (.native { nf with awaiting := false, answer := some (.returned (some (.double v))) } :: r) := rfl
  jvm_step hA [hA.top, hx, hd, hm, hret, narrow]
  intro acts
  rw [ret_to hf hm hl rfl rfl hfs acts]
  exact Steps.refl _
theorem scEntry (m : MethodId) (b : UInt64) : entryFrame m #[.double b] 2 = mkF m 0 #[.val (.double b), .second] [] := by
  unfold entryFrame
  simp [argsToLocals, Value.category]
theorem scHead {m : MethodId} {c : Code} {U : State} (hA : At U m c below) (hW : s.WarmedH U.vm) (hexec : p.tables.exec = Jvm.exec) (hown : s.vm.findClass SM = some m.cls) {kd : UInt64} (hkd : (Cond.constantDouble SM 58 kd).before args s = true) (hb : c.code = SCeilA.yB) (b : UInt64) :
    Steps p.tables e below (U.setTop (entryFrame m #[.double b] 2)) (U.setTop (mkF m 6 #[.val (.double b), .second] [.double 0x3FF0000000000000, .double 0x3FF0000000000000, .double kd, .double b])) := by
  have d0 : decode c.code 0 = .ok (.dload_n 0, 1) := by rw [hb]; exact SCeilA.d0
  have d1 : decode c.code 1 = .ok (.ldc2_w 58, 3) := by rw [hb]; exact SCeilA.d1
  have d4 : decode c.code 4 = .ok (.dconst 1, 1) := by rw [hb]; exact SCeilA.d4
  have d5 : decode c.code 5 = .ok (.dconst 1, 1) := by rw [hb]; exact SCeilA.d5
  rw [scEntry]
  jvm_step hA [hA.top, hexec, d0]
  refine upLdcD hA hW hexec hown hkd (g := mkF m 1 #[.val (.double b), .second] [.double b]) rfl d1 _ ?_
  show Steps p.tables e below (U.setTop (mkF m 4 #[.val (.double b), .second] [.double kd, .double b])) _
  jvm_step hA [hA.top, hexec, d4]
  jvm_step hA [hA.top, hexec, d5]
  exact Steps.refl _
theorem scRun {k1 k2 k3 : Int64} {kd one : UInt64} {m : MethodId} {c : Code} {U : State} (hA : At U m c below) (hadm : l.admits e) (hW : s.WarmedH U.vm) (hexec : p.tables.exec = Jvm.exec) (hown : s.vm.findClass SM = some m.cls) (hLG : (Cond.methodLink SM 66 GetExp.yN).before args s = true) (hSG : (Cond.static GetExp.yN).before args s = true) (hIM : (Cond.initialized MA).before args s = true) (hCG : (Cond.code GetExp.yN GetExp.yB 2 (some .int)).before args s = true)
    (hLM : (Cond.methodLink MA 79 doubleToRawLongBitsName).before args s = true) (hNM : (Cond.native doubleToRawLongBitsName).before args s = true) (hSM : (Cond.static doubleToRawLongBitsName).before args s = true) (hIM2 : (Cond.initialized "java/lang/Double").before args s = true)
    (hk1 : (Cond.constantLong MA 87 k1).before args s = true) (hk2 : (Cond.constantLong MA 322 k2).before args s = true) (hLA : (Cond.fieldLink SM 70 SM "$assertionsDisabled" "Z").before args s = true) (hLD : (Cond.methodLink SM 77 doubleToRawLongBitsName).before args s = true) (hk3 : (Cond.constantLong SM 85 k3).before args s = true)
    (hLF : (Cond.methodLink SM 60 Foc.yN).before args s = true) (hSF : (Cond.static Foc.yN).before args s = true) (hIS : (Cond.initialized SM).before args s = true) (hCF : (Cond.code Foc.yN Foc.yB 15 (some .double)).before args s = true) (hb : c.code = SCeilA.yB)
    {cf i : Nat} {k : Class} {f : Field} (hi : s.fieldFound? SM "$assertionsDisabled" "Z" = some (cf, k, i, f)) (hst : f.isStatic = true) (hinit : k.init = .initialized) {a₁ : Addr} {cell₁ : Cell} (hstatics : k.statics = some a₁) (hcell : U.heap[a₁]? = some cell₁) (hknown : cell₁.vm ≠ .unknown) (hslot : cell₁.slots[f.slot]? = some (.int 1))
    {f0 : JFrame} {nf : NFrame} {r : List Frame} (hf : U.frames = .java f0 :: .native nf :: r) {meth : Method} (hm : U.vm.method? m = some meth) (hl : meth.locks = false) (hret : meth.sig.returnType = some .double)
    {L : Nat × Nat} (hL : e.platform.stackLimits U.me = L) (h1 : (Frame.native nf :: r).length + 3 < L.1) (h2 : (stackUse (Frame.native nf :: r)).2 + 67 ≤ L.2) (b v : UInt64) (hG : FocGood b v one k1 k2 k3)
    (head : Steps p.tables e below (U.setTop (entryFrame m #[.double b] 2)) (U.setTop (mkF m 6 #[.val (.double b), .second] [.double one, .double one, .double kd, .double b]))) :
    ∃ vm2, s.WarmedH vm2 ∧ Steps p.tables e below (U.setTop (entryFrame m #[.double b] 2)) ((U.setVm vm2).setFrames (.native { nf with awaiting := false, answer := some (.returned (some (.double v))) } :: r)) := by
  have d9 : decode c.code 9 = .ok (.dreturn, 1) := by rw [hb]; exact SCeilA.d9
  have hdg : decode c.code (mkF m 6 #[.val (.double b), .second] [.double one, .double one, .double kd, .double b]).pc = .ok (.invokestatic 60, 3) := by rw [hb]; exact SCeilA.d6
  obtain ⟨vm1, hW1, hA1, st1⟩ := upCall (x := Foc.yN) (g := mkF m 6 #[.val (.double b), .second] [.double one, .double one, .double kd, .double b]) (argsL := [.double b, .double kd, .double one, .double one]) (rest := []) (v := .double v) hA hadm hW hexec hown hLF hCF hSF hIS (by decide) (by decide +kernel) hf rfl
    (fun sig hs => by rw [show parseMethodDescriptor Foc.yN.desc = some ⟨[.double, .double, .double, .double], some .double⟩ from by decide +kernel] at hs; rw [← Option.some.inj hs]; rfl) rfl hdg
    (fun vm' => notFullM (show (U.setVm vm').frames = _ from hf) hL (by omega) (by show (stackUse (Frame.native nf :: r)).2 + (2 + 11 + 2 * 0 + 0) + 15 + 11 ≤ L.2; omega))
    (fun U' mk methk ck hAU hWU hownU hmU hl' hret' hby hhU hfU hcU _ hLU => by
      have hLU' : e.platform.stackLimits U'.me = L := by rw [hLU]; exact hL
      have q1 : (Frame.java (mkF m 6 #[.val (.double b), .second] []) :: Frame.native nf :: r).length + 2 < L.1 := by simp only [List.length_cons] at h1 ⊢; omega
      have q2 : (stackUse (Frame.java (mkF m 6 #[.val (.double b), .second] []) :: Frame.native nf :: r)).2 + 54 ≤ L.2 := by rw [stackUse_java]; show (stackUse (Frame.native nf :: r)).2 + (2 + 11 + 2 * 0 + 0) + 54 ≤ L.2; omega
      rcases hG with ⟨g1, g2, g3, rfl⟩ | ⟨g1, g2, g3, rfl⟩
      · exact focWhole hAU hadm hWU hexec hownU hLG hSG hIM hCG hLM hNM hSM hIM2 hk1 hk2 hLA hLD hk3 hby hi hst hinit hstatics (by rw [hhU]; exact hcell) hknown hslot hfU hmU hl' hret' hcU hdg hLU' q1 q2 v kd one one rfl g1 g2 g3
      · exact focHalf hAU hadm hWU hexec hownU hLG hSG hIM hCG hLM hNM hSM hIM2 hk1 hk2 hby hfU hmU hl' hret' hcU hdg hLU' q1 q2 b kd v v rfl g1 g2 g3)
  have hm1 : (U.setVm vm1).vm.method? m = some meth := by show vm1.method? m = some meth; rw [hW1.alike.method?, ← hW.alike.method?]; exact hm
  have hf1 : (U.setVm vm1).frames = .java f0 :: .native nf :: r := hf
  refine ⟨vm1, hW1, head.trans (st1 _ ?_)⟩
  exact upRetDN hA1 hexec hf1 hm1 hl hret (pc := 9) (Ls := #[.val (.double b), .second]) (rest := []) d9
end Ceil9
section Ceil10
open Jvm.Free.Hsc
variable {p : Program} {l : Launch} {e : Env} {s : State} {args : Array Value} {below : List Frame}
abbrev ceilN (mM : MethodId) (b : UInt64) : NFrame := { method := mM, args := #[.double b], stage := 1, saved := #[], awaiting := true, answer := none, words := 0 }
/-- Math.ceil entered (her body is overridden: a native frame that calls StrictMath.ceil): up to the entry of StrictMath.ceil -/
theorem ceilIn {m : MethodId} {c : Code} {T : State} (hA : At T m c below) {g : JFrame} (hg : g.method = m) {b : UInt64} {f0 : JFrame} {r : List Frame} (hf : T.frames = .java f0 :: r)
    {mM : MethodId} {meth : Method} {k : Class} {cm : Code} (hk : T.vm.classes[mM.cls]? = some k) (hx : k.methods[mM.idx]? = some meth) (hboot : k.loader = none)
    (hkn : k.name = "java/lang/Math") (hmn : meth.name = "ceil") (hmd : meth.desc = "(D)D") (hsig : parseMethodDescriptor "(D)D" = some meth.sig) (hc : meth.code = some cm) (hml : cm.maxLocals = 2) (hl : meth.locks = false)
    {cS : ClassId} {kS : Class} {i : Nat} (hfS : T.vm.findClass "java/lang/StrictMath" = some cS) (hkS : T.vm.classes[cS]? = some kS) (hiS : kS.init = .initialized) (hmS : kS.findMethod "ceil" "(D)D" = some i)
    {methS : Method} {ck : Code} (hmethS : T.vm.method? ⟨cS, i⟩ = some methS) (hcS : methS.code = some ck) (hmlS : ck.maxLocals = 2) (hlS : methS.locks = false)
    {L : Nat × Nat} (hL : e.platform.stackLimits T.me = L) (h1 : r.length + 2 < L.1) (h2 : (stackUse (Frame.java g :: r)).2 + 13 ≤ L.2) (acts : List Action) :
    Steps p.tables e below (doInvoke e (T.setTop g) acts mM #[.double b]).1 (T.setFrames (.java (entryFrame ⟨cS, i⟩ #[.double b] 2) :: .native (ceilN mM b) :: .java g :: r)) := by
  obtain ⟨mid, hmid⟩ := hA.above
  have hcur : T.cur < T.threads.size := State.cur_lt_of_frames hf
  have hm : T.vm.method? mM = some meth := by simp [Vm.method?, hk, hx]
  have htop : T.setTop g = T.setFrames (.java g :: r) := State.setTop_of_frames _ hf
  have htail : T.frames.tail = r := by rw [hf]; rfl
  rw [htail] at hmid
  have hfull : e.platform.stackFull (((T.setTop g).threads[(T.setTop g).cur]?).getD { frames := [] }) (T.setTop g).frames cm.maxLocals = false := by
    rw [stackUse_java] at h2
    exact notFullM hf hL (by omega) (by rw [hml]; exact h2)
  rw [(doInvoke_java (s := T.setTop g) (e := e) (acts := acts) (args := #[.double b]) (meth := meth) (code := cm) hm hc hl hfull).1, hml]
  have hU : (T.setTop g).pushFrame (.java { method := mM, pc := 0, locals := argsToLocals #[.double b] 2, stack := [], locked := none }) = T.setFrames (.java (entryFrame mM #[.double b] 2) :: .java g :: r) := by
    rw [State.pushFrame, State.frames_setTop _ hf, htop, State.setFrames_setFrames]
    rfl
  rw [hU]
  have hf1 : (T.setFrames (.java (entryFrame mM #[.double b] 2) :: .java g :: r)).frames = .java (entryFrame mM #[.double b] 2) :: .java g :: r := State.frames_setFrames _ hcur
  have hov : overridden p.tables e (T.setFrames (.java (entryFrame mM #[.double b] 2) :: .java g :: r)) (entryFrame mM #[.double b] 2) = some ceilRow :=
    Jvm.Free.Fl.Abs.overridden_some (k := k) (x := meth) rfl hk (by rw [hkn]; decide) hboot hx (by rw [hkn, hmn, hmd]; exact ceil_row p)
  have hb2 : ∀ F : List Frame, ((T.setFrames F).vm.classes[mM.cls]?.bind fun y => y.methods[mM.idx]?) = some meth := by
    intro F
    show (T.vm.classes[mM.cls]?.bind fun y => y.methods[mM.idx]?) = some meth
    simp [hk, hx]
  have hsig2 : parseMethodDescriptor "(D)D" = some { parameters := [.double], returnType := some .double } := by decide +kernel
  have hparams : meth.sig.parameters.length = 1 := by
    have h3 := hsig
    rw [hsig2] at h3
    rw [← Option.some.inj h3]
    rfl
  have htake : ∀ n : Nat, List.take (1 + n) [Value.double b] = [Value.double b] := by
    intro n
    exact List.take_of_length_le (Nat.le_add_right 1 n)
  obtain ⟨acts₂, hr2⟩ := ceil_run b e (T.setFrames (.native { method := mM, args := #[.double b] } :: .java g :: r)) (cS := cS) (kS := kS) (i := i) hfS hkS hiS hmS
  have hwords : ∀ F : List Frame, (((T.setFrames F).vm.classes[mM.cls]?).bind fun k => (k.methods[mM.idx]?).map fun n => upcallWords k.name n.name).getD 0 = 0 := by
    intro F
    show ((T.vm.classes[mM.cls]?).bind fun k => (k.methods[mM.idx]?).map fun n => upcallWords k.name n.name).getD 0 = 0
    simp [hk, hx, hkn, upcallWords]
  have hstep2 : (stepThread p.tables e (T.setFrames (.java (entryFrame mM #[.double b] 2) :: .java g :: r))).1 = (doInvoke e (T.setFrames (.native (ceilN mM b) :: .java g :: r)) acts₂ ⟨cS, i⟩ #[.double b]).1 := by
    unfold stepThread
    simp only [hf1, hov]
    have hb3 : (T.vm.classes[mM.cls]?.bind fun x => x.methods[mM.idx]?) = some meth := by simp [hk, hx]
    have hw3 : ((T.vm.classes[mM.cls]?).bind fun k => Option.map (fun n => upcallWords k.name n.name) k.methods[mM.idx]?).getD 0 = 0 := by simp [hk, hx, hkn, upcallWords]
    simp [entryFrame, argsToLocals, Value.category, argCount, hb3, hparams, htake, hr2, afterNative, hw3, State.setFrames_setFrames]
  have hfN : (T.setFrames (.native (ceilN mM b) :: .java g :: r)).frames = .native (ceilN mM b) :: .java g :: r := State.frames_setFrames _ hcur
  have hLN : e.platform.stackLimits (T.setFrames (.native (ceilN mM b) :: .java g :: r)).me = L := by rw [State.stackLimits_setFrames]; exact hL
  have hfull2 : e.platform.stackFull (((T.setFrames (.native (ceilN mM b) :: .java g :: r)).threads[(T.setFrames (.native (ceilN mM b) :: .java g :: r)).cur]?).getD { frames := [] }) (T.setFrames (.native (ceilN mM b) :: .java g :: r)).frames ck.maxLocals = false := by
    rw [hfN, hmlS]
    refine Platform.stackFull_eq_false ?_ ?_
    · show _ < (e.platform.stackLimits (T.setFrames (.native (ceilN mM b) :: .java g :: r)).me).1
      rw [hLN]; simp only [List.length_cons]; exact h1
    · show _ ≤ (e.platform.stackLimits (T.setFrames (.native (ceilN mM b) :: .java g :: r)).me).2
      rw [hLN, stackUse_other _ _ (fun f h => by cases h)]
      show (stackUse (Frame.java g :: r)).2 + 0 + 2 + 11 ≤ L.2
      omega
  have hstep3 : (stepThread p.tables e (T.setFrames (.java (entryFrame mM #[.double b] 2) :: .java g :: r))).1 = T.setFrames (.java (entryFrame ⟨cS, i⟩ #[.double b] 2) :: .native (ceilN mM b) :: .java g :: r) := by
    rw [hstep2, (doInvoke_java (s := T.setFrames (.native (ceilN mM b) :: .java g :: r)) (e := e) (acts := acts₂) (args := #[.double b]) (meth := methS) (code := ck) hmethS hcS hlS hfull2).1, hmlS, State.pushFrame, hfN, State.setFrames_setFrames]
    rfl
  refine Steps.head ⟨hA.running, by simpa using hA.runnable, by simpa using hA.alone⟩ ⟨.java (entryFrame mM #[.double b] 2) :: .java g :: mid, by rw [hf1, hmid]; rfl, by simp, by simp⟩ ?_
  rw [hstep3]
  exact Steps.refl _
/-- the way back from StrictMath.ceil -/
theorem ceilOut {m : MethodId} {c : Code} {T : State} (hA : At T m c below) {g : JFrame} (hg : g.method = m) {b v : UInt64} (hn : v &&& 0x7fffffffffffffff ≤ 0x7ff0000000000000) {f0 : JFrame} {r : List Frame} (hf : T.frames = .java f0 :: r)
    {mM : MethodId} {meth : Method} {k : Class} (hk : T.vm.classes[mM.cls]? = some k) (hx : k.methods[mM.idx]? = some meth) (hboot : k.loader = none) (hkn : k.name = "java/lang/Math") (hmn : meth.name = "ceil") (hmd : meth.desc = "(D)D")
    {ig : Instr} {len : Nat} (hdg : decode c.code g.pc = .ok (ig, len)) :
    Steps p.tables e below (T.setFrames (.native { ceilN mM b with awaiting := false, answer := some (.returned (some (.double v))) } :: .java g :: r)) (T.setTop { g with pc := g.pc + len, stack := .double v :: g.stack }) := by
  obtain ⟨mid, hmid⟩ := hA.above
  have hcur : T.cur < T.threads.size := State.cur_lt_of_frames hf
  have htail : T.frames.tail = r := by rw [hf]; rfl
  rw [htail] at hmid
  generalize hS : T.setFrames (.native { ceilN mM b with awaiting := false, answer := some (.returned (some (.double v))) } :: .java g :: r) = S
  have hend : S.frames = .native { ceilN mM b with awaiting := false, answer := some (.returned (some (.double v))) } :: .java g :: r := by rw [← hS]; exact State.frames_setFrames _ hcur
  obtain ⟨acts₃, hr3⟩ := ceil_resume hn e S
  have hcode2 : S.code? g.method = some c := by rw [← hS, hg]; exact hA.code
  have hfs : handOver S (some (.double v)) (.java g :: r) = some (.java { g with pc := g.pc + len, stack := .double v :: g.stack } :: r) := by
    simp [handOver, hcode2, hdg, Except.toOption]
  have hstep4 : (stepThread p.tables e S).1 = S.setFrames (.java { g with pc := g.pc + len, stack := .double v :: g.stack } :: r) := by
    rw [stepThread_resumed' (f := { ceilN mM b with awaiting := false, answer := some (.returned (some (.double v))) }) (o := .returned (some (.double v))) hend (by rw [← hS]; exact hk) hboot hx (by rw [hkn, hmn, hmd]; exact ceil_row p) rfl]
    show (afterNative e _ _ ((ceilRow.resume 1 #[] (.returned (some (.double v)))).run e S)).1 = _
    rw [hr3]
    exact doReturn_native (f := { ceilN mM b with awaiting := false, answer := some (.returned (some (.double v))) }) hend rfl hfs
  refine Steps.head ⟨by rw [← hS]; exact hA.running, by rw [← hS]; simpa using hA.runnable, by rw [← hS]; simpa using hA.alone⟩ ⟨.native { ceilN mM b with awaiting := false, answer := some (.returned (some (.double v))) } :: .java g :: mid, by rw [hend, hmid]; rfl, by simp, by simp⟩ ?_
  rw [hstep4, ← hS, State.setFrames_setFrames, State.setTop_of_frames _ hf]
  exact Steps.refl _
end Ceil10
section Ceil11
open Jvm.Free.Hsc
variable {p : Program} {l : Launch} {e : Env} {s : State} {args : Array Value} {below : List Frame}
theorem upCeil {k1 k2 k3 : Int64} {kd : UInt64} {m : MethodId} {c : Code} {T : State} (hA : At T m c below) (hadm : l.admits e) (hW : s.WarmedH T.vm) (hexec : p.tables.exec = Jvm.exec)
    {own : String} {index : Nat} (hown : s.vm.findClass own = some m.cls) (hlink : (Cond.methodLink own index MCeilA.yN).before args s = true) (hstat : (Cond.static MCeilA.yN).before args s = true) {bM : ByteArray} (hCM : (Cond.code MCeilA.yN bM 2 (some .double)).before args s = true) (hCS : (Cond.code SCeilA.yN SCeilA.yB 2 (some .double)).before args s = true)
    (hkd : (Cond.constantDouble SM 58 kd).before args s = true)
    (hLG : (Cond.methodLink SM 66 GetExp.yN).before args s = true) (hSG : (Cond.static GetExp.yN).before args s = true) (hIM : (Cond.initialized MA).before args s = true) (hCG : (Cond.code GetExp.yN GetExp.yB 2 (some .int)).before args s = true)
    (hLM : (Cond.methodLink MA 79 doubleToRawLongBitsName).before args s = true) (hNM : (Cond.native doubleToRawLongBitsName).before args s = true) (hSM : (Cond.static doubleToRawLongBitsName).before args s = true) (hIM2 : (Cond.initialized "java/lang/Double").before args s = true)
    (hk1 : (Cond.constantLong MA 87 k1).before args s = true) (hk2 : (Cond.constantLong MA 322 k2).before args s = true) (hLA : (Cond.fieldLink SM 70 SM "$assertionsDisabled" "Z").before args s = true) (hLD : (Cond.methodLink SM 77 doubleToRawLongBitsName).before args s = true) (hk3 : (Cond.constantLong SM 85 k3).before args s = true)
    (hLF : (Cond.methodLink SM 60 Foc.yN).before args s = true) (hSF : (Cond.static Foc.yN).before args s = true) (hIS : (Cond.initialized SM).before args s = true) (hCF : (Cond.code Foc.yN Foc.yB 15 (some .double)).before args s = true)
    {cf i : Nat} {k : Class} {f : Field} (hi : s.fieldFound? SM "$assertionsDisabled" "Z" = some (cf, k, i, f)) (hst : f.isStatic = true) (hinit : k.init = .initialized) {a₁ : Addr} {cell₁ : Cell} (hstatics : k.statics = some a₁) (hcell : T.heap[a₁]? = some cell₁) (hknown : cell₁.vm ≠ .unknown) (hslot : cell₁.slots[f.slot]? = some (.int 1))
    {f0 : JFrame} {r : List Frame} (hf : T.frames = .java f0 :: r) {g : JFrame} (hg : g.method = m) {b v : UInt64} {rest : List Value} (hstack : g.stack = .double b :: rest) (hdg : decode c.code g.pc = .ok (.invokestatic index, 3))
    {L : Nat × Nat} (hL : e.platform.stackLimits T.me = L) (h1 : r.length + 5 < L.1) (h2 : (stackUse (Frame.java { g with stack := rest } :: r)).2 + 67 ≤ L.2) (hG : FocGood b v 0x3FF0000000000000 k1 k2 k3) (hn : v &&& 0x7fffffffffffffff ≤ 0x7ff0000000000000) :
    ∃ vm2, s.WarmedH vm2 ∧ At (T.setVm vm2) m c below ∧ ∀ target, Steps p.tables e below ((T.setVm vm2).setTop { g with pc := g.pc + 3, stack := .double v :: rest }) target → Steps p.tables e below (T.setTop g) target := by
  obtain ⟨mM, hnM⟩ := Cond.code_named hCM
  obtain ⟨methM, cM, hmethM, hcodeM, -, hmlM, -, hlkM, -, hsigM⟩ := Cond.code_spec hnM hCM
  have hstM : methM.isStatic = true := Cond.static_spec hnM hmethM hstat
  obtain ⟨kM, hkM, hknM⟩ := className_of_methodNamed hnM
  obtain ⟨hmnM, hmdM⟩ := name_of_methodNamed hnM hmethM
  have hiM : kM.init = .initialized := Cond.initialized_spec (findClass_of_methodNamed hnM) hkM hIM
  have hxM : kM.methods[mM.idx]? = some methM := by simpa [Vm.method?, hkM] using hmethM
  have hbootM : kM.loader = none := Vm.bootOf_findClass (findClass_of_methodNamed hnM) hkM
  obtain ⟨mS, hnS⟩ := Cond.code_named hCS
  obtain ⟨methS, ck, hmethS, hcodeS, hbyS, hmlS, hretS, hlkS, -, -⟩ := Cond.code_spec hnS hCS
  obtain ⟨kS, hkS, -⟩ := className_of_methodNamed hnS
  have hfS : s.vm.findClass "java/lang/StrictMath" = some mS.cls := findClass_of_methodNamed hnS
  have hiS : kS.init = .initialized := Cond.initialized_spec hfS hkS hIS
  have hmS : kS.findMethod "ceil" "(D)D" = some mS.idx := by
    have h := hnS
    simp only [State.methodNamed?, Option.bind_eq_bind, Option.pure_def] at h
    rw [show SCeilA.yN.cls = "java/lang/StrictMath" from rfl, hfS] at h
    simp only [Option.bind_some, hkS] at h
    cases hfm : kS.findMethod SCeilA.yN.name SCeilA.yN.desc with
    | none => rw [hfm] at h; cases h
    | some j => rw [hfm] at h; simp at h; rw [← h]; exact hfm
  obtain ⟨vm1, hW1, hA1, step⟩ := upStatic hA hadm hW hexec hown hlink hnM hmethM hstM hkM hiM (by decide) hg (argsL := [.double b]) (rest := rest) (by rw [show parseMethodDescriptor MCeilA.yN.desc = some ⟨[.double], some .double⟩ from by decide +kernel] at hsigM; rw [← Option.some.inj hsigM]; rfl) hstack hdg
  have hf1 : (T.setVm vm1).frames = .java f0 :: r := hf
  have hL1 : e.platform.stackLimits (T.setVm vm1).me = L := hL
  have hcur : (T.setVm vm1).cur < (T.setVm vm1).threads.size := State.cur_lt_of_frames hf1
  obtain ⟨kM', hkM', ekM⟩ := hW1.alike.2.2 _ _ hkM
  obtain ⟨kS', hkS', ekS⟩ := hW1.alike.2.2 _ _ hkS
  have hmethM1 : (T.setVm vm1).vm.method? mM = some methM := by show vm1.method? mM = _; rw [hW1.alike.method?]; exact hmethM
  have hmethS1 : (T.setVm vm1).vm.method? mS = some methS := by show vm1.method? mS = _; rw [hW1.alike.method?]; exact hmethS
  have hfS1 : (T.setVm vm1).vm.findClass "java/lang/StrictMath" = some mS.cls := by
    show vm1.findClass _ = _; rw [hW1.alike.findClass]; exact hfS
  obtain ⟨mid, hmid⟩ := hA1.above
  have htail : (T.setVm vm1).frames.tail = r := by rw [hf1]; rfl
  rw [htail] at hmid
  have inn : ∀ acts, Steps p.tables e below (doInvoke e ((T.setVm vm1).setTop { g with stack := rest }) acts mM #[.double b]).1 ((T.setVm vm1).setFrames (.java (entryFrame mS #[.double b] 2) :: .native (ceilN mM b) :: .java { g with stack := rest } :: r)) := fun acts =>
    ceilIn hA1 (g := { g with stack := rest }) hg hf1 hkM' (by rw [ekM]; exact hxM) (by rw [ekM]; exact hbootM) (by rw [ekM]; exact hknM) hmnM hmdM hsigM hcodeM hmlM hlkM hfS1 hkS' (by rw [ekS]; exact hiS) (by rw [ekS]; exact hmS) hmethS1 hcodeS hmlS hlkS hL1 (by omega) (by omega) acts
  generalize hUd : (T.setVm vm1).setFrames (.java (entryFrame mS #[.double b] 2) :: .native (ceilN mM b) :: .java { g with stack := rest } :: r) = U at inn
  have hfU : U.frames = .java (entryFrame mS #[.double b] 2) :: .native (ceilN mM b) :: .java { g with stack := rest } :: r := by rw [← hUd]; exact State.frames_setFrames _ hcur
  have hUvm : U.vm = vm1 := by rw [← hUd]; rfl
  have hnS1 : U.methodNamed? SCeilA.yN = some mS := by
    have q : (s.setVm vm1).methodNamed? SCeilA.yN = some mS := by rw [State.methodNamed?_setVm hW1.alike]; exact hnS
    rw [← hUd]; exact q
  have hmethSU : U.vm.method? mS = some methS := by rw [hUvm]; exact hmethS1
  have hAU : At U mS ck below := ⟨by rw [State.topJava?_of_frames hfU]; rfl, ⟨.native (ceilN mM b) :: .java { g with stack := rest } :: mid, by rw [hfU, hmid]; rfl⟩, by rw [← hUd]; exact hA1.running, by rw [← hUd]; simpa using hA1.runnable, by rw [← hUd]; simpa using hA1.alone,
    by rw [State.code?_eq, hmethSU]; exact hcodeS, State.plainMethod.of_named (by decide +kernel) hnS1 hmethSU⟩
  have hWU : s.WarmedH U.vm := by rw [hUvm]; exact hW1
  have hLU : e.platform.stackLimits U.me = L := by rw [← hUd, State.stackLimits_setFrames]; exact hL1
  obtain ⟨vm2, hW2, run⟩ := scRun (nf := ceilN mM b) hAU hadm hWU hexec hfS hLG hSG hIM hCG hLM hNM hSM hIM2 hk1 hk2 hLA hLD hk3 hLF hSF hIS hCF hbyS hi hst hinit hstatics (by rw [← hUd]; exact hcell) hknown hslot hfU hmethSU hlkS hretS hLU
    (by simp only [List.length_cons]; omega) (by rw [stackUse_other _ _ (fun f h => by cases h)]; show (stackUse (Frame.java { g with stack := rest } :: r)).2 + 0 + 67 ≤ L.2; omega) b v hG (scHead hAU hWU hexec hfS hkd hbyS b)
  have eU : U.setTop (entryFrame mS #[.double b] 2) = U := by rw [State.setTop_of_frames _ hfU, ← hUd, State.setFrames_setFrames]
  rw [eU] at run
  have hA2 : At (T.setVm vm2) m c below := hA.setVm (hW.alike.symm.trans hW2.alike)
  obtain ⟨kM2, hkM2, ekM2⟩ := hW2.alike.2.2 _ _ hkM
  have eU2 : ∀ F : List Frame, (U.setVm vm2).setFrames F = (T.setVm vm2).setFrames F := by
    intro F
    rw [← hUd]
    show ((T.setVm vm2).setFrames _).setFrames F = _
    rw [State.setFrames_setFrames]
  rw [eU2] at run
  refine ⟨vm2, hW2, hA2, fun target hrest => step target fun acts => (inn acts).trans (run.trans (Steps.trans ?_ hrest))⟩
  exact ceilOut hA2 (g := { g with stack := rest }) hg hn (show (T.setVm vm2).frames = _ from hf) (show (T.setVm vm2).vm.classes[mM.cls]? = some kM2 from hkM2) (by rw [ekM2]; exact hxM) (by rw [ekM2]; exact hbootM) (by rw [ekM2]; exact hknM) hmnM hmdM hdg
end Ceil11
section Ceil12
open Jvm.Free.Hsc
variable {p : Program} {l : Launch} {e : Env} {R : Room} {s : State} {m : MethodId} {args : Array Value} {below : List Frame} {meth : Method} {c : Code} {T : State} {locs : List Loc} {cells slots : Nat} {Z : State} {a0 : Array Value} {h : Heap}
theorem own_ceil {k1 k2 k3 : Int64} {kd : UInt64} (X : Stand p l e R s m args below meth c T locs cells slots) (hexec : p.tables.exec = Jvm.exec) (hZ : Z.Warmed39 s.vm)
    {own : String} {index : Nat} (hown : s.vm.findClass own = some m.cls) (hlink : (Cond.methodLink own index MCeilA.yN).before a0 Z = true) (hstat : (Cond.static MCeilA.yN).before a0 Z = true) {bM : ByteArray} (hCM : (Cond.code MCeilA.yN bM 2 (some .double)).before a0 Z = true) (hCS : (Cond.code SCeilA.yN SCeilA.yB 2 (some .double)).before a0 Z = true)
    (hkd : (Cond.constantDouble SM 58 kd).before a0 Z = true)
    (hLG : (Cond.methodLink SM 66 GetExp.yN).before a0 Z = true) (hSG : (Cond.static GetExp.yN).before a0 Z = true) (hIM : (Cond.initialized MA).before a0 Z = true) (hCG : (Cond.code GetExp.yN GetExp.yB 2 (some .int)).before a0 Z = true)
    (hLM : (Cond.methodLink MA 79 doubleToRawLongBitsName).before a0 Z = true) (hNM : (Cond.native doubleToRawLongBitsName).before a0 Z = true) (hSM : (Cond.static doubleToRawLongBitsName).before a0 Z = true) (hIM2 : (Cond.initialized "java/lang/Double").before a0 Z = true)
    (hk1 : (Cond.constantLong MA 87 k1).before a0 Z = true) (hk2 : (Cond.constantLong MA 322 k2).before a0 Z = true) (hLA : (Cond.fieldLink SM 70 SM "$assertionsDisabled" "Z").before a0 Z = true) (hLD : (Cond.methodLink SM 77 doubleToRawLongBitsName).before a0 Z = true) (hk3 : (Cond.constantLong SM 85 k3).before a0 Z = true)
    (hLF : (Cond.methodLink SM 60 Foc.yN).before a0 Z = true) (hSF : (Cond.static Foc.yN).before a0 Z = true) (hIS : (Cond.initialized SM).before a0 Z = true) (hCF : (Cond.code Foc.yN Foc.yB 15 (some .double)).before a0 Z = true)
    (eT : T.heap = h) (SA : Sta Z h SM "$assertionsDisabled" "Z" (.int 1)) {pc : Nat} {Ls : Array Slot} {b v : UInt64} {rest : List Value} (hsize : Ls.size = c.maxLocals) (hd : decode c.code pc = .ok (.invokestatic index, 3))
    (hfr : 6 ≤ R.frames) (hlo : (rest.map fun v => v.category).sum + 80 ≤ R.locals) (hG : FocGood b v 0x3FF0000000000000 k1 k2 k3) (hn : v &&& 0x7fffffffffffffff ≤ 0x7ff0000000000000) :
    ∃ T', Stand p l e R s m args below meth c T' locs cells slots ∧ T'.heap = h ∧ ∀ target, Steps p.tables e below (T'.setTop (mkF m (pc + 3) Ls (.double v :: rest))) target → Steps p.tables e below (T.setTop (mkF m pc Ls (.double b :: rest))) target := by
  obtain ⟨cf, i, k, f, st, cell, y1, y2, y3, y4, y5, y6, y7⟩ := SA
  obtain ⟨k', hi, ek⟩ := State.fieldFound?_setVm (s := Z) hZ.alike y1
  obtain ⟨-, r2, -, r4⟩ := State.hasRoom_stack X.room
  rw [State.localsInUse_invoking X.frames X.method X.code] at r4
  rw [X.frames, List.length_cons] at r2
  obtain ⟨g₀, hg0⟩ := Option.isSome_iff_exists.mp X.here.top
  obtain ⟨r, hr⟩ := State.topJava?_eq_some.mp hg0
  have htail : r = below := by have q := X.tail; rw [hr] at q; exact q
  subst htail
  have hw := stackUse_le_stackWeight r
  obtain ⟨vm2, hW2, hA2, stp⟩ := upCeil (args := a0) (g := mkF m pc Ls (.double b :: rest)) (rest := rest) (b := b) (v := v) X.here X.admits X.warmed hexec hown (mv hZ hlink) (mv hZ hstat) (mv hZ hCM) (mv hZ hCS) (mv hZ hkd) (mv hZ hLG) (mv hZ hSG) (mv hZ hIM) (mv hZ hCG) (mv hZ hLM) (mv hZ hNM) (mv hZ hSM) (mv hZ hIM2) (mv hZ hk1) (mv hZ hk2) (mv hZ hLA) (mv hZ hLD) (mv hZ hk3) (mv hZ hLF) (mv hZ hSF) (mv hZ hIS) (mv hZ hCF)
    hi y2 (by rw [ek]; exact y3) (by rw [ek]; exact y4) (by rw [eT]; exact y5) (fun q => by rw [q] at y6; cases y6) y7 hr rfl rfl hd X.limits (by omega)
    (by rw [stackUse_java, operandWords_eq]; show (stackUse r).2 + (Ls.size + 11 + 2 * 0 + (rest.map fun v => v.category).sum) + 67 ≤ _; rw [hsize]; omega) hG hn
  exact ⟨_, X.noted hW2, eT, stp⟩
theorem good1 : FocGood 0x3FF0000000000000 0x3FF0000000000000 0x3FF0000000000000 9218868437227405312 1023 4503599627370495 := Or.inl (by decide +kernel)
theorem good2 : FocGood 0x4000000000000000 0x4000000000000000 0x3FF0000000000000 9218868437227405312 1023 4503599627370495 := Or.inl (by decide +kernel)
theorem goodH : FocGood 0x3FE0000000000000 0x3FF0000000000000 0x3FF0000000000000 9218868437227405312 1023 4503599627370495 := Or.inr (by decide +kernel)
end Ceil12

section OwnCeil
variable {p : Program} {l : Launch} {e : Env} {R : Room} {s : State} {m : MethodId} {args : Array Value} {below : List Frame} {meth : Method} {c : Code} {T : State} {locs : List Loc} {cells slots : Nat} {Z : State} {a0 : Array Value} {h : Heap}
theorem own_ceilH (hw : ∀ d ∈ tables_1, d.before a0 Z = true) (X : Stand p l e R s m args below meth c T locs cells slots) (hexec : p.tables.exec = Jvm.exec) (hZ : Z.Warmed39 s.vm) (hown : s.vm.findClass "com/example/holdfast/holdfast/bench/LatencyHistogram" = some m.cls)
    (eT : T.heap = h) (SA : Sta Z h "java/lang/StrictMath" "$assertionsDisabled" "Z" (.int 1)) {pc : Nat} {Ls : Array Slot} {b v : UInt64} {rest : List Value} (hsize : Ls.size = c.maxLocals) (hd : decode c.code pc = .ok (.invokestatic 53, 3))
    (hfr : 6 ≤ R.frames) (hlo : (rest.map fun v => v.category).sum + 80 ≤ R.locals) (hG : FocGood b v 0x3FF0000000000000 9218868437227405312 1023 4503599627370495) (hn : v &&& 0x7fffffffffffffff ≤ 0x7ff0000000000000) :
    ∃ T', Stand p l e R s m args below meth c T' locs cells slots ∧ T'.heap = h ∧ ∀ target, Steps p.tables e below (T'.setTop (mkF m (pc + 3) Ls (.double v :: rest))) target → Steps p.tables e below (T.setTop (mkF m pc Ls (.double b :: rest))) target :=
  own_ceil (kd := 9223372036854775808) X hexec hZ hown (hw _ (List.mem_of_getElem? (i := 72) rfl)) (hw _ (List.mem_of_getElem? (i := 73) rfl)) (hw _ (List.mem_of_getElem? (i := 74) rfl)) (hw _ (List.mem_of_getElem? (i := 78) rfl)) (hw _ (List.mem_of_getElem? (i := 79) rfl)) (hw _ (List.mem_of_getElem? (i := 83) rfl)) (hw _ (List.mem_of_getElem? (i := 84) rfl)) (hw _ (List.mem_of_getElem? (i := 28) rfl)) (hw _ (List.mem_of_getElem? (i := 85) rfl)) (hw _ (List.mem_of_getElem? (i := 86) rfl)) (hw _ (List.mem_of_getElem? (i := 89) rfl)) (hw _ (List.mem_of_getElem? (i := 87) rfl)) (hw _ (List.mem_of_getElem? (i := 88) rfl)) (hw _ (List.mem_of_getElem? (i := 90) rfl)) (hw _ (List.mem_of_getElem? (i := 91) rfl)) (hw _ (List.mem_of_getElem? (i := 92) rfl)) (hw _ (List.mem_of_getElem? (i := 93) rfl)) (hw _ (List.mem_of_getElem? (i := 94) rfl)) (hw _ (List.mem_of_getElem? (i := 80) rfl)) (hw _ (List.mem_of_getElem? (i := 81) rfl)) (hw _ (List.mem_of_getElem? (i := 77) rfl)) (hw _ (List.mem_of_getElem? (i := 82) rfl)) eT SA hsize hd hfr hlo hG hn
end OwnCeil
def psum (f : Nat → Int64) : Nat → Int64
  | 0 => 0
  | k + 1 => psum f k + f k
theorem d8_0 : decode prog_14_method_4_code 0 = .ok (.dload_n 1, 1) := by decide +kernel
theorem d8_1 : decode prog_14_method_4_code 1 = .ok (.dconst 0, 1) := by decide +kernel
theorem d8_2 : decode prog_14_method_4_code 2 = .ok (.dcmp .g, 1) := by decide +kernel
theorem d8_3 : decode prog_14_method_4_code 3 = .ok (.ifCond .le 11, 3) := by decide +kernel
theorem d8_6 : decode prog_14_method_4_code 6 = .ok (.dload_n 1, 1) := by decide +kernel
theorem d8_7 : decode prog_14_method_4_code 7 = .ok (.ldc2_w 42, 3) := by decide +kernel
theorem d8_10 : decode prog_14_method_4_code 10 = .ok (.dcmp .l, 1) := by decide +kernel
theorem d8_11 : decode prog_14_method_4_code 11 = .ok (.ifCond .le 17, 3) := by decide +kernel
theorem d8_28 : decode prog_14_method_4_code 28 = .ok (.aload_n 0, 1) := by decide +kernel
theorem d8_29 : decode prog_14_method_4_code 29 = .ok (.getfield 38, 3) := by decide +kernel
theorem d8_32 : decode prog_14_method_4_code 32 = .ok (.lconst 0, 1) := by decide +kernel
theorem d8_33 : decode prog_14_method_4_code 33 = .ok (.lcmp, 1) := by decide +kernel
theorem d8_34 : decode prog_14_method_4_code 34 = .ok (.ifCond .ne 5, 3) := by decide +kernel
theorem d8_37 : decode prog_14_method_4_code 37 = .ok (.lconst 0, 1) := by decide +kernel
theorem d8_38 : decode prog_14_method_4_code 38 = .ok (.lreturn, 1) := by decide +kernel
theorem ef_pc0 (m : MethodId) (r0 : Addr) (d1 : UInt64)  : entryFrame m #[(.ref r0), (.double d1)] 8 = mkF m 0 #[.val (.ref r0), .val (.double d1), .second, .unset, .unset, .unset, .unset, .unset] [] := by (first | (simp [entryFrame, mkF, argsToLocals, Value.category]; done) | rfl)
theorem pn_8 : plainFor (⟨"com/example/holdfast/holdfast/bench/LatencyHistogram", "percentile", "(D)J"⟩ : MethodName) = true := plainFor_of_name (by first | (simp [plainName, overriddenIn]; done) | decide +kernel)
set_option maxRecDepth 65536 in
set_option maxHeartbeats 40000000 in
theorem rm_pc0 (l : Launch) (Z : State) (a0 : Array Value) (hw : ∀ d ∈ tables_1, d.before a0 Z = true) (ws : List Jvm.Cond) (r0 : Addr) (d1 : UInt64) (h0 : Heap) (c2 : Int32) (hc1 : cmpValue (FP.dcmp d1 (0 : UInt64)) .g = (1 : Int32)) (hc2 : cmpValue (FP.dcmp d1 (4636737291354636288 : UInt64)) .l = c2) (n2 : ¬ (0 : Int32) < c2) (ra : Addr) (f : Nat → Int64) (O : LHo Z h0 r0 ra f 0) :
    OMet l (⟨"com/example/holdfast/holdfast/bench/LatencyHistogram", "percentile", "(D)J"⟩ : MethodName) prog_14_method_4_code 8 (some .long) ws ({ frames := 0, cells := 0, slots := 0, locals := 0 } : Room) #[(.ref r0), (.double d1)] Z h0 (fun v h L => v = some (.long (0 : Int64)) ∧ L = [] ∧ h = h0) := by
  refine OMet.of pn_8 (fun m => ef_pc0 m r0 d1 ) ?_
  intro p e s m below meth c s₁ hx hby hml hown hnm hret hlk hZ X0 e0
  refine Owes.go ?_ fun t₀ k₀ => XS.dloadN X0.here hx rfl (hb hby d8_0) rfl k₀
  show Owes _ _ _ _ (s₁.setTop (mkF m 1 #[.val (.ref r0), .val (.double d1), .second, .unset, .unset, .unset, .unset, .unset] [(.double d1)]))
  refine Owes.go ?_ fun t₀ k₀ => XS.dconst0 X0.here hx rfl (hb hby d8_1) (v := (0 : UInt64)) rfl k₀
  show Owes _ _ _ _ (s₁.setTop (mkF m 2 #[.val (.ref r0), .val (.double d1), .second, .unset, .unset, .unset, .unset, .unset] [(.double (0 : UInt64)), (.double d1)]))
  refine Owes.go ?_ fun t₀ k₀ => XS.dcmpS X0.here hx rfl (hb hby d8_2) rfl hc1 k₀
  show Owes _ _ _ _ (s₁.setTop (mkF m 3 #[.val (.ref r0), .val (.double d1), .second, .unset, .unset, .unset, .unset, .unset] [(.int (1 : Int32))]))
  refine Owes.go ?_ fun t₀ k₀ => XS.ifNo X0.here hx rfl (hb hby d8_3) rfl ((if0 _ _).trans (tlt (by decide : (0 : Int32) < (1 : Int32))).2.2.2) k₀
  show Owes _ _ _ _ (s₁.setTop (mkF m 6 #[.val (.ref r0), .val (.double d1), .second, .unset, .unset, .unset, .unset, .unset] []))
  refine Owes.go ?_ fun t₀ k₀ => XS.dloadN X0.here hx rfl (hb hby d8_6) rfl k₀
  show Owes _ _ _ _ (s₁.setTop (mkF m 7 #[.val (.ref r0), .val (.double d1), .second, .unset, .unset, .unset, .unset, .unset] [(.double d1)]))
  refine Owes.go ?_ fun t₀ k₀ => X0.ldc2DoubleC hx hown (mv hZ (hw _ (List.mem_of_getElem? (i := 40) rfl))) (g := (mkF m 7 #[.val (.ref r0), .val (.double d1), .second, .unset, .unset, .unset, .unset, .unset] [(.double d1)])) rfl (hb hby d8_7) _ k₀
  show Owes _ _ _ _ (s₁.setTop (mkF m 10 #[.val (.ref r0), .val (.double d1), .second, .unset, .unset, .unset, .unset, .unset] [(.double (4636737291354636288 : UInt64)), (.double d1)]))
  refine Owes.go ?_ fun t₀ k₀ => XS.dcmpS X0.here hx rfl (hb hby d8_10) rfl hc2 k₀
  show Owes _ _ _ _ (s₁.setTop (mkF m 11 #[.val (.ref r0), .val (.double d1), .second, .unset, .unset, .unset, .unset, .unset] [(.int c2)]))
  refine Owes.go ?_ fun t₀ k₀ => XS.ifYes X0.here hx rfl (pc0 := 11) (pc' := 28) rfl (hb hby d8_11) rfl ((if0 _ _).trans (flt n2).2.2.2) (by decide) (by decide) k₀
  show Owes _ _ _ _ (s₁.setTop (mkF m 28 #[.val (.ref r0), .val (.double d1), .second, .unset, .unset, .unset, .unset, .unset] []))
  refine Owes.go ?_ fun t₀ k₀ => XS.aloadN X0.here hx rfl (hb hby d8_28) rfl rfl k₀
  show Owes _ _ _ _ (s₁.setTop (mkF m 29 #[.val (.ref r0), .val (.double d1), .second, .unset, .unset, .unset, .unset, .unset] [(.ref r0)]))
  obtain ⟨T31, X31, e31, st31⟩ := getF X0 hx hZ hown (host := "") (Or.inl (hw _ (List.mem_of_getElem? (i := 41) rfl))) Via.refl e0 O.2.2.1 (g := (mkF m 29 #[.val (.ref r0), .val (.double d1), .second, .unset, .unset, .unset, .unset, .unset] [(.ref r0)])) rfl rfl (hb hby d8_29)
  refine Owes.go ?_ st31
  show Owes _ _ _ _ (T31.setTop (mkF m 32 #[.val (.ref r0), .val (.double d1), .second, .unset, .unset, .unset, .unset, .unset] [(.long (0 : Int64))]))
  refine Owes.go ?_ fun t₀ k₀ => XS.lconst X31.here hx rfl (hb hby d8_32) k₀
  show Owes _ _ _ _ (T31.setTop (mkF m 33 #[.val (.ref r0), .val (.double d1), .second, .unset, .unset, .unset, .unset, .unset] [(.long (0 : Int64)), (.long (0 : Int64))]))
  refine Owes.go ?_ fun t₀ k₀ => XS.lcmp X31.here hx rfl (hb hby d8_33) rfl k₀
  show Owes _ _ _ _ (T31.setTop (mkF m 34 #[.val (.ref r0), .val (.double d1), .second, .unset, .unset, .unset, .unset, .unset] [(.int (lcmpW (0 : Int64) (0 : Int64)))]))
  refine Owes.go ?_ fun t₀ k₀ => XS.ifNo X31.here hx rfl (hb hby d8_34) rfl ((if0 _ _).trans (teq ((lw_eq _ _).mpr (by decide : ((0 : Int64) = (0 : Int64))))).2) k₀
  show Owes _ _ _ _ (T31.setTop (mkF m 37 #[.val (.ref r0), .val (.double d1), .second, .unset, .unset, .unset, .unset, .unset] []))
  refine Owes.go ?_ fun t₀ k₀ => XS.lconst X31.here hx rfl (hb hby d8_37) k₀
  show Owes _ _ _ _ (T31.setTop (mkF m 38 #[.val (.ref r0), .val (.double d1), .second, .unset, .unset, .unset, .unset, .unset] [(.long (0 : Int64))]))
  exact Owes.retJ X31 hx hlk hret (hb hby d8_38) (by decide) (by decide) ⟨rfl, rfl, e31⟩
theorem d8_39 : decode prog_14_method_4_code 39 = .ok (.dload_n 1, 1) := by decide +kernel
theorem d8_40 : decode prog_14_method_4_code 40 = .ok (.ldc2_w 42, 3) := by decide +kernel
theorem d8_43 : decode prog_14_method_4_code 43 = .ok (.ddiv, 1) := by decide +kernel
theorem d8_44 : decode prog_14_method_4_code 44 = .ok (.aload_n 0, 1) := by decide +kernel
theorem d8_45 : decode prog_14_method_4_code 45 = .ok (.getfield 38, 3) := by decide +kernel
theorem d8_48 : decode prog_14_method_4_code 48 = .ok (.l2d, 1) := by decide +kernel
theorem d8_49 : decode prog_14_method_4_code 49 = .ok (.dmul, 1) := by decide +kernel
theorem d8_50 : decode prog_14_method_4_code 50 = .ok (.invokestatic 53, 3) := by decide +kernel
theorem d8_53 : decode prog_14_method_4_code 53 = .ok (.d2l, 1) := by decide +kernel
theorem d8_54 : decode prog_14_method_4_code 54 = .ok (.lstore_n 3, 1) := by decide +kernel
theorem d8_55 : decode prog_14_method_4_code 55 = .ok (.lconst 0, 1) := by decide +kernel
theorem d8_56 : decode prog_14_method_4_code 56 = .ok (.lstore 5, 2) := by decide +kernel
theorem d8_58 : decode prog_14_method_4_code 58 = .ok (.iconst 0, 1) := by decide +kernel
theorem d8_59 : decode prog_14_method_4_code 59 = .ok (.istore 7, 2) := by decide +kernel
theorem d8_61 : decode prog_14_method_4_code 61 = .ok (.lload 5, 2) := by decide +kernel
theorem d8_63 : decode prog_14_method_4_code 63 = .ok (.aload_n 0, 1) := by decide +kernel
theorem d8_64 : decode prog_14_method_4_code 64 = .ok (.getfield 15, 3) := by decide +kernel
theorem d8_67 : decode prog_14_method_4_code 67 = .ok (.iload 7, 2) := by decide +kernel
theorem d8_69 : decode prog_14_method_4_code 69 = .ok (.laload, 1) := by decide +kernel
theorem d8_70 : decode prog_14_method_4_code 70 = .ok (.ladd, 1) := by decide +kernel
theorem d8_71 : decode prog_14_method_4_code 71 = .ok (.lstore 5, 2) := by decide +kernel
theorem d8_73 : decode prog_14_method_4_code 73 = .ok (.lload 5, 2) := by decide +kernel
theorem d8_75 : decode prog_14_method_4_code 75 = .ok (.lload_n 3, 1) := by decide +kernel
theorem d8_76 : decode prog_14_method_4_code 76 = .ok (.lcmp, 1) := by decide +kernel
theorem d8_77 : decode prog_14_method_4_code 77 = .ok (.ifCond .lt 9, 3) := by decide +kernel
theorem d8_80 : decode prog_14_method_4_code 80 = .ok (.iload 7, 2) := by decide +kernel
theorem d8_82 : decode prog_14_method_4_code 82 = .ok (.invokestatic 57, 3) := by decide +kernel
theorem pd_5 : parseMethodDescriptor "(I)J" = some ⟨[.int], some .long⟩ := by decide +kernel
theorem d8_85 : decode prog_14_method_4_code 85 = .ok (.lreturn, 1) := by decide +kernel
theorem d8_86 : decode prog_14_method_4_code 86 = .ok (.iinc 7 1, 3) := by decide +kernel
theorem d8_89 : decode prog_14_method_4_code 89 = .ok (.goto (-28), 3) := by decide +kernel
theorem ef_pc (m : MethodId) (r0 : Addr) (d1 : UInt64)  : entryFrame m #[(.ref r0), (.double d1)] 8 = mkF m 0 #[.val (.ref r0), .val (.double d1), .second, .unset, .unset, .unset, .unset, .unset] [] := by (first | (simp [entryFrame, mkF, argsToLocals, Value.category]; done) | rfl)
set_option maxRecDepth 65536 in
set_option maxHeartbeats 40000000 in
theorem rm_pc (l : Launch) (Z : State) (a0 : Array Value) (hw : ∀ d ∈ tables_1, d.before a0 Z = true) (ws : List Jvm.Cond) (r0 : Addr) (d1 : UInt64) (h0 : Heap) (c2 : Int32) (hc1 : cmpValue (FP.dcmp d1 (0 : UInt64)) .g = (1 : Int32)) (hc2 : cmpValue (FP.dcmp d1 (4636737291354636288 : UInt64)) .l = c2) (n2 : ¬ (0 : Int32) < c2) (ra : Addr) (f : Nat → Int64) (t : Int64) (nt : ¬ t = (0 : Int64)) (O : LHo Z h0 r0 ra f t) (dq dl db dv : UInt64) (rk : Int64) (nq : Jvm.Free.Fl.NoNaN64 (FP.ddiv d1 (4636737291354636288 : UInt64))) (hq : FP.ddiv d1 (4636737291354636288 : UInt64) = dq) (hl2 : FP.l2d t = dl) (nb : Jvm.Free.Fl.NoNaN64 (FP.dmul dq dl)) (hb1 : FP.dmul dq dl = db) (hG : FocGood db dv 0x3FF0000000000000 9218868437227405312 1023 4503599627370495) (hnn : dv &&& 0x7fffffffffffffff ≤ 0x7ff0000000000000) (hrk : FP.d2l dv = rk) (K : Nat) (hKn : K < 12288) (zK : Int32) (hzK : zK.toInt = (K : Int)) (hlo : ∀ j, j < K → psum f j + f j < rk) (hhi : ¬ psum f K + f K < rk) (SA : Sta Z h0 "java/lang/StrictMath" "$assertionsDisabled" "Z" (.int (1 : Int32))) (SE : Sta Z h0 "com/example/holdfast/holdfast/bench/LatencyHistogram" "EXACT_BELOW" "J" (.long (1024 : Int64))) :
    OMet l (⟨"com/example/holdfast/holdfast/bench/LatencyHistogram", "percentile", "(D)J"⟩ : MethodName) prog_14_method_4_code 8 (some .long) ws ({ frames := 6, cells := 0, slots := 0, locals := 80 } : Room) #[(.ref r0), (.double d1)] Z h0 (fun v h L => v = some (.long (f_lo zK)) ∧ L = [] ∧ h = h0) := by
  refine OMet.of pn_8 (fun m => ef_pc m r0 d1 ) ?_
  intro p e s m below meth c s₁ hx hby hml hown hnm hret hlk hZ X0 e0
  refine Owes.go ?_ fun t₀ k₀ => XS.dloadN X0.here hx rfl (hb hby d8_0) rfl k₀
  show Owes _ _ _ _ (s₁.setTop (mkF m 1 #[.val (.ref r0), .val (.double d1), .second, .unset, .unset, .unset, .unset, .unset] [(.double d1)]))
  refine Owes.go ?_ fun t₀ k₀ => XS.dconst0 X0.here hx rfl (hb hby d8_1) (v := (0 : UInt64)) rfl k₀
  show Owes _ _ _ _ (s₁.setTop (mkF m 2 #[.val (.ref r0), .val (.double d1), .second, .unset, .unset, .unset, .unset, .unset] [(.double (0 : UInt64)), (.double d1)]))
  refine Owes.go ?_ fun t₀ k₀ => XS.dcmpS X0.here hx rfl (hb hby d8_2) rfl hc1 k₀
  show Owes _ _ _ _ (s₁.setTop (mkF m 3 #[.val (.ref r0), .val (.double d1), .second, .unset, .unset, .unset, .unset, .unset] [(.int (1 : Int32))]))
  refine Owes.go ?_ fun t₀ k₀ => XS.ifNo X0.here hx rfl (hb hby d8_3) rfl ((if0 _ _).trans (tlt (by decide : (0 : Int32) < (1 : Int32))).2.2.2) k₀
  show Owes _ _ _ _ (s₁.setTop (mkF m 6 #[.val (.ref r0), .val (.double d1), .second, .unset, .unset, .unset, .unset, .unset] []))
  refine Owes.go ?_ fun t₀ k₀ => XS.dloadN X0.here hx rfl (hb hby d8_6) rfl k₀
  show Owes _ _ _ _ (s₁.setTop (mkF m 7 #[.val (.ref r0), .val (.double d1), .second, .unset, .unset, .unset, .unset, .unset] [(.double d1)]))
  refine Owes.go ?_ fun t₀ k₀ => X0.ldc2DoubleC hx hown (mv hZ (hw _ (List.mem_of_getElem? (i := 40) rfl))) (g := (mkF m 7 #[.val (.ref r0), .val (.double d1), .second, .unset, .unset, .unset, .unset, .unset] [(.double d1)])) rfl (hb hby d8_7) _ k₀
  show Owes _ _ _ _ (s₁.setTop (mkF m 10 #[.val (.ref r0), .val (.double d1), .second, .unset, .unset, .unset, .unset, .unset] [(.double (4636737291354636288 : UInt64)), (.double d1)]))
  refine Owes.go ?_ fun t₀ k₀ => XS.dcmpS X0.here hx rfl (hb hby d8_10) rfl hc2 k₀
  show Owes _ _ _ _ (s₁.setTop (mkF m 11 #[.val (.ref r0), .val (.double d1), .second, .unset, .unset, .unset, .unset, .unset] [(.int c2)]))
  refine Owes.go ?_ fun t₀ k₀ => XS.ifYes X0.here hx rfl (pc0 := 11) (pc' := 28) rfl (hb hby d8_11) rfl ((if0 _ _).trans (flt n2).2.2.2) (by decide) (by decide) k₀
  show Owes _ _ _ _ (s₁.setTop (mkF m 28 #[.val (.ref r0), .val (.double d1), .second, .unset, .unset, .unset, .unset, .unset] []))
  refine Owes.go ?_ fun t₀ k₀ => XS.aloadN X0.here hx rfl (hb hby d8_28) rfl rfl k₀
  show Owes _ _ _ _ (s₁.setTop (mkF m 29 #[.val (.ref r0), .val (.double d1), .second, .unset, .unset, .unset, .unset, .unset] [(.ref r0)]))
  obtain ⟨T32, X32, e32, st32⟩ := getF X0 hx hZ hown (host := "") (Or.inl (hw _ (List.mem_of_getElem? (i := 41) rfl))) Via.refl e0 O.2.2.1 (g := (mkF m 29 #[.val (.ref r0), .val (.double d1), .second, .unset, .unset, .unset, .unset, .unset] [(.ref r0)])) rfl rfl (hb hby d8_29)
  refine Owes.go ?_ st32
  show Owes _ _ _ _ (T32.setTop (mkF m 32 #[.val (.ref r0), .val (.double d1), .second, .unset, .unset, .unset, .unset, .unset] [(.long t)]))
  refine Owes.go ?_ fun t₀ k₀ => XS.lconst X32.here hx rfl (hb hby d8_32) k₀
  show Owes _ _ _ _ (T32.setTop (mkF m 33 #[.val (.ref r0), .val (.double d1), .second, .unset, .unset, .unset, .unset, .unset] [(.long (0 : Int64)), (.long t)]))
  refine Owes.go ?_ fun t₀ k₀ => XS.lcmp X32.here hx rfl (hb hby d8_33) rfl k₀
  show Owes _ _ _ _ (T32.setTop (mkF m 34 #[.val (.ref r0), .val (.double d1), .second, .unset, .unset, .unset, .unset, .unset] [(.int (lcmpW t (0 : Int64)))]))
  refine Owes.go ?_ fun t₀ k₀ => XS.ifYes X32.here hx rfl (pc0 := 34) (pc' := 39) rfl (hb hby d8_34) rfl ((if0 _ _).trans (feq (fun q => nt ((lw_eq _ _).mp q))).2) (by decide) (by decide) k₀
  show Owes _ _ _ _ (T32.setTop (mkF m 39 #[.val (.ref r0), .val (.double d1), .second, .unset, .unset, .unset, .unset, .unset] []))
  refine Owes.go ?_ fun t₀ k₀ => XS.dloadN X32.here hx rfl (hb hby d8_39) rfl k₀
  show Owes _ _ _ _ (T32.setTop (mkF m 40 #[.val (.ref r0), .val (.double d1), .second, .unset, .unset, .unset, .unset, .unset] [(.double d1)]))
  refine Owes.go ?_ fun t₀ k₀ => X32.ldc2DoubleC hx hown (mv hZ (hw _ (List.mem_of_getElem? (i := 40) rfl))) (g := (mkF m 40 #[.val (.ref r0), .val (.double d1), .second, .unset, .unset, .unset, .unset, .unset] [(.double d1)])) rfl (hb hby d8_40) _ k₀
  show Owes _ _ _ _ (T32.setTop (mkF m 43 #[.val (.ref r0), .val (.double d1), .second, .unset, .unset, .unset, .unset, .unset] [(.double (4636737291354636288 : UInt64)), (.double d1)]))
  refine Owes.go ?_ fun t₀ k₀ => XS.ddivS X32.here hx rfl (hb hby d8_43) rfl nq hq k₀
  show Owes _ _ _ _ (T32.setTop (mkF m 44 #[.val (.ref r0), .val (.double d1), .second, .unset, .unset, .unset, .unset, .unset] [(.double dq)]))
  refine Owes.go ?_ fun t₀ k₀ => XS.aloadN X32.here hx rfl (hb hby d8_44) rfl rfl k₀
  show Owes _ _ _ _ (T32.setTop (mkF m 45 #[.val (.ref r0), .val (.double d1), .second, .unset, .unset, .unset, .unset, .unset] [(.ref r0), (.double dq)]))
  obtain ⟨T33, X33, e33, st33⟩ := getF X32 hx hZ hown (host := "") (Or.inl (hw _ (List.mem_of_getElem? (i := 41) rfl))) Via.refl e32 O.2.2.1 (g := (mkF m 45 #[.val (.ref r0), .val (.double d1), .second, .unset, .unset, .unset, .unset, .unset] [(.ref r0), (.double dq)])) rfl rfl (hb hby d8_45)
  refine Owes.go ?_ st33
  show Owes _ _ _ _ (T33.setTop (mkF m 48 #[.val (.ref r0), .val (.double d1), .second, .unset, .unset, .unset, .unset, .unset] [(.long t), (.double dq)]))
  refine Owes.go ?_ fun t₀ k₀ => XS.l2dS X33.here hx rfl (hb hby d8_48) rfl hl2 k₀
  show Owes _ _ _ _ (T33.setTop (mkF m 49 #[.val (.ref r0), .val (.double d1), .second, .unset, .unset, .unset, .unset, .unset] [(.double dl), (.double dq)]))
  refine Owes.go ?_ fun t₀ k₀ => XS.dmulS X33.here hx rfl (hb hby d8_49) rfl nb hb1 k₀
  show Owes _ _ _ _ (T33.setTop (mkF m 50 #[.val (.ref r0), .val (.double d1), .second, .unset, .unset, .unset, .unset, .unset] [(.double db)]))
  obtain ⟨T34, X34, e34, st34⟩ := own_ceilH hw X33 hx hZ hown e33 SA (Ls := #[.val (.ref r0), .val (.double d1), .second, .unset, .unset, .unset, .unset, .unset]) (b := db) (v := dv) (rest := []) (by rw [hml]; rfl) (hb hby d8_50) (Nat.le_of_ble_eq_true rfl) (Nat.le_of_ble_eq_true rfl) hG hnn
  refine Owes.go ?_ st34
  show Owes _ _ _ _ (T34.setTop (mkF m 53 #[.val (.ref r0), .val (.double d1), .second, .unset, .unset, .unset, .unset, .unset] [(.double dv)]))
  refine Owes.go ?_ fun t₀ k₀ => XS.d2lS X34.here hx rfl (hb hby d8_53) rfl hrk k₀
  show Owes _ _ _ _ (T34.setTop (mkF m 54 #[.val (.ref r0), .val (.double d1), .second, .unset, .unset, .unset, .unset, .unset] [(.long rk)]))
  refine Owes.go ?_ fun t₀ k₀ => XS.lstoreN X34.here hx rfl (hb hby d8_54) rfl (l' := #[.val (.ref r0), .val (.double d1), .second, .val (.long rk), .second, .unset, .unset, .unset]) rfl k₀
  show Owes _ _ _ _ (T34.setTop (mkF m 55 #[.val (.ref r0), .val (.double d1), .second, .val (.long rk), .second, .unset, .unset, .unset] []))
  refine Owes.go ?_ fun t₀ k₀ => XS.lconst X34.here hx rfl (hb hby d8_55) k₀
  show Owes _ _ _ _ (T34.setTop (mkF m 56 #[.val (.ref r0), .val (.double d1), .second, .val (.long rk), .second, .unset, .unset, .unset] [(.long (0 : Int64))]))
  refine Owes.go ?_ fun t₀ k₀ => XS.lstore X34.here hx rfl (hb hby d8_56) rfl (l' := #[.val (.ref r0), .val (.double d1), .second, .val (.long rk), .second, .val (.long (0 : Int64)), .second, .unset]) rfl k₀
  show Owes _ _ _ _ (T34.setTop (mkF m 58 #[.val (.ref r0), .val (.double d1), .second, .val (.long rk), .second, .val (.long (0 : Int64)), .second, .unset] []))
  refine Owes.go ?_ fun t₀ k₀ => XS.iconst X34.here hx rfl (hb hby d8_58) k₀
  show Owes _ _ _ _ (T34.setTop (mkF m 59 #[.val (.ref r0), .val (.double d1), .second, .val (.long rk), .second, .val (.long (0 : Int64)), .second, .unset] [(.int (0 : Int32))]))
  refine Owes.go ?_ fun t₀ k₀ => XS.istore X34.here hx rfl (hb hby d8_59) rfl (l' := #[.val (.ref r0), .val (.double d1), .second, .val (.long rk), .second, .val (.long (0 : Int64)), .second, .val (.int (0 : Int32))]) rfl k₀
  show Owes _ _ _ _ (T34.setTop (mkF m 61 #[.val (.ref r0), .val (.double d1), .second, .val (.long rk), .second, .val (.long (0 : Int64)), .second, .val (.int (0 : Int32))] []))
  have lp : ∀ (q k : Nat), k + q = K → ∀ (kI : Int32) (T1 : State), Stand p l e ({ frames := 6, cells := 0, slots := 0, locals := 80 } : Room) s m #[(.ref r0), (.double d1)] below meth c T1 [] 0 0 → T1.heap = h0 → kI.toInt = (k : Int) → Owes p e below (EndN s (fun v h L => v = some (.long (f_lo zK)) ∧ L = [] ∧ h = h0) ({ frames := 6, cells := 0, slots := 0, locals := 80 } : Room).cells ({ frames := 6, cells := 0, slots := 0, locals := 80 } : Room).slots) (T1.setTop (mkF m 61 #[.val (.ref r0), .val (.double d1), .second, .val (.long rk), .second, .val (.long (psum f k)), .second, .val (.int kI)] [])) := by
    intro q
    induction q with
    | zero =>
      intro k hk kI T1 X eT hkI
      have hkK : k = K := by omega
      subst hkK
      have hkn := hKn
      refine Owes.go ?_ fun t₀ k₀ => XS.lload X.here hx rfl (hb hby d8_61) rfl k₀
      show Owes _ _ _ _ (T1.setTop (mkF m 63 #[.val (.ref r0), .val (.double d1), .second, .val (.long rk), .second, .val (.long (psum f k)), .second, .val (.int kI)] [(.long (psum f k))]))
      refine Owes.go ?_ fun t₀ k₀ => XS.aloadN X.here hx rfl (hb hby d8_63) rfl rfl k₀
      show Owes _ _ _ _ (T1.setTop (mkF m 64 #[.val (.ref r0), .val (.double d1), .second, .val (.long rk), .second, .val (.long (psum f k)), .second, .val (.int kI)] [(.ref r0), (.long (psum f k))]))
      obtain ⟨T35, X35, e35, st35⟩ := getF X hx hZ hown (host := "") (Or.inl (hw _ (List.mem_of_getElem? (i := 32) rfl))) Via.refl eT O.2.1 (g := (mkF m 64 #[.val (.ref r0), .val (.double d1), .second, .val (.long rk), .second, .val (.long (psum f k)), .second, .val (.int kI)] [(.ref r0), (.long (psum f k))])) rfl rfl (hb hby d8_64)
      refine Owes.go ?_ st35
      show Owes _ _ _ _ (T35.setTop (mkF m 67 #[.val (.ref r0), .val (.double d1), .second, .val (.long rk), .second, .val (.long (psum f k)), .second, .val (.int kI)] [(.ref ra), (.long (psum f k))]))
      refine Owes.go ?_ fun t₀ k₀ => XS.iload X35.here hx rfl (hb hby d8_67) rfl k₀
      show Owes _ _ _ _ (T35.setTop (mkF m 69 #[.val (.ref r0), .val (.double d1), .second, .val (.long rk), .second, .val (.long (psum f k)), .second, .val (.int kI)] [(.int kI), (.ref ra), (.long (psum f k))]))
      refine Owes.gJ X35 hx hZ e35 O.2.2.2 hkI hkn (v := .long (f k)) rfl (hb hby d8_69) ?_
      show Owes _ _ _ _ (T35.setTop (mkF m 70 #[.val (.ref r0), .val (.double d1), .second, .val (.long rk), .second, .val (.long (psum f k)), .second, .val (.int kI)] [(.long (f k)), (.long (psum f k))]))
      refine Owes.go ?_ fun t₀ k₀ => XS.ladd X35.here hx rfl (hb hby d8_70) rfl k₀
      show Owes _ _ _ _ (T35.setTop (mkF m 71 #[.val (.ref r0), .val (.double d1), .second, .val (.long rk), .second, .val (.long (psum f k)), .second, .val (.int kI)] [(.long ((psum f k) + (f k)))]))
      refine Owes.go ?_ fun t₀ k₀ => XS.lstore X35.here hx rfl (hb hby d8_71) rfl (l' := #[.val (.ref r0), .val (.double d1), .second, .val (.long rk), .second, .val (.long ((psum f k) + (f k))), .second, .val (.int kI)]) rfl k₀
      show Owes _ _ _ _ (T35.setTop (mkF m 73 #[.val (.ref r0), .val (.double d1), .second, .val (.long rk), .second, .val (.long ((psum f k) + (f k))), .second, .val (.int kI)] []))
      refine Owes.go ?_ fun t₀ k₀ => XS.lload X35.here hx rfl (hb hby d8_73) rfl k₀
      show Owes _ _ _ _ (T35.setTop (mkF m 75 #[.val (.ref r0), .val (.double d1), .second, .val (.long rk), .second, .val (.long ((psum f k) + (f k))), .second, .val (.int kI)] [(.long ((psum f k) + (f k)))]))
      refine Owes.go ?_ fun t₀ k₀ => XS.lloadN X35.here hx rfl (hb hby d8_75) rfl k₀
      show Owes _ _ _ _ (T35.setTop (mkF m 76 #[.val (.ref r0), .val (.double d1), .second, .val (.long rk), .second, .val (.long ((psum f k) + (f k))), .second, .val (.int kI)] [(.long rk), (.long ((psum f k) + (f k)))]))
      refine Owes.go ?_ fun t₀ k₀ => XS.lcmp X35.here hx rfl (hb hby d8_76) rfl k₀
      show Owes _ _ _ _ (T35.setTop (mkF m 77 #[.val (.ref r0), .val (.double d1), .second, .val (.long rk), .second, .val (.long ((psum f k) + (f k))), .second, .val (.int kI)] [(.int (lcmpW ((psum f k) + (f k)) rk))]))
      refine Owes.go ?_ fun t₀ k₀ => XS.ifNo X35.here hx rfl (hb hby d8_77) rfl ((if0 _ _).trans (flt (fun q => hhi ((lw_lt _ _).mp q))).1) k₀
      show Owes _ _ _ _ (T35.setTop (mkF m 80 #[.val (.ref r0), .val (.double d1), .second, .val (.long rk), .second, .val (.long ((psum f k) + (f k))), .second, .val (.int kI)] []))
      refine Owes.go ?_ fun t₀ k₀ => XS.iload X35.here hx rfl (hb hby d8_80) rfl k₀
      show Owes _ _ _ _ (T35.setTop (mkF m 82 #[.val (.ref r0), .val (.double d1), .second, .val (.long rk), .second, .val (.long ((psum f k) + (f k))), .second, .val (.int kI)] [(.int kI)]))
      refine Owes.callS X35 hx hZ hown (hw _ (List.mem_of_getElem? (i := 95) rfl)) (hw _ (List.mem_of_getElem? (i := 96) rfl)) (hw _ (List.mem_of_getElem? (i := 2) rfl)) (hw _ (List.mem_of_getElem? (i := 97) rfl)) (by decide) (argsL := [(.int kI)]) (rest := []) (rm_f_lo l Z a0 hw [] kI h0 SE) e35 (by rw [hml]; rfl) pd_5 rfl rfl (hb hby d8_82) (by decide) (Nat.le_of_ble_eq_true rfl) (by decide) (by decide) ?_
      rintro T36 _ _ X36 ⟨rfl, rfl, e36⟩
      rw [List.append_nil] at X36
      show Owes _ _ _ _ (T36.setTop (mkF m 85 #[.val (.ref r0), .val (.double d1), .second, .val (.long rk), .second, .val (.long ((psum f k) + (f k))), .second, .val (.int kI)] [(.long (f_lo kI))]))
      exact Owes.retJ X36 hx hlk hret (hb hby d8_85) (by decide) (by decide) ⟨congrArg (fun z => some (Value.long (f_lo z))) (Int32.toInt_inj.mp (hkI.trans hzK.symm)), rfl, e36⟩
    | succ q ih =>
      intro k hk kI T1 X eT hkI
      have hkn : k < 12288 := by omega
      refine Owes.go ?_ fun t₀ k₀ => XS.lload X.here hx rfl (hb hby d8_61) rfl k₀
      show Owes _ _ _ _ (T1.setTop (mkF m 63 #[.val (.ref r0), .val (.double d1), .second, .val (.long rk), .second, .val (.long (psum f k)), .second, .val (.int kI)] [(.long (psum f k))]))
      refine Owes.go ?_ fun t₀ k₀ => XS.aloadN X.here hx rfl (hb hby d8_63) rfl rfl k₀
      show Owes _ _ _ _ (T1.setTop (mkF m 64 #[.val (.ref r0), .val (.double d1), .second, .val (.long rk), .second, .val (.long (psum f k)), .second, .val (.int kI)] [(.ref r0), (.long (psum f k))]))
      obtain ⟨T37, X37, e37, st37⟩ := getF X hx hZ hown (host := "") (Or.inl (hw _ (List.mem_of_getElem? (i := 32) rfl))) Via.refl eT O.2.1 (g := (mkF m 64 #[.val (.ref r0), .val (.double d1), .second, .val (.long rk), .second, .val (.long (psum f k)), .second, .val (.int kI)] [(.ref r0), (.long (psum f k))])) rfl rfl (hb hby d8_64)
      refine Owes.go ?_ st37
      show Owes _ _ _ _ (T37.setTop (mkF m 67 #[.val (.ref r0), .val (.double d1), .second, .val (.long rk), .second, .val (.long (psum f k)), .second, .val (.int kI)] [(.ref ra), (.long (psum f k))]))
      refine Owes.go ?_ fun t₀ k₀ => XS.iload X37.here hx rfl (hb hby d8_67) rfl k₀
      show Owes _ _ _ _ (T37.setTop (mkF m 69 #[.val (.ref r0), .val (.double d1), .second, .val (.long rk), .second, .val (.long (psum f k)), .second, .val (.int kI)] [(.int kI), (.ref ra), (.long (psum f k))]))
      refine Owes.gJ X37 hx hZ e37 O.2.2.2 hkI hkn (v := .long (f k)) rfl (hb hby d8_69) ?_
      show Owes _ _ _ _ (T37.setTop (mkF m 70 #[.val (.ref r0), .val (.double d1), .second, .val (.long rk), .second, .val (.long (psum f k)), .second, .val (.int kI)] [(.long (f k)), (.long (psum f k))]))
      refine Owes.go ?_ fun t₀ k₀ => XS.ladd X37.here hx rfl (hb hby d8_70) rfl k₀
      show Owes _ _ _ _ (T37.setTop (mkF m 71 #[.val (.ref r0), .val (.double d1), .second, .val (.long rk), .second, .val (.long (psum f k)), .second, .val (.int kI)] [(.long ((psum f k) + (f k)))]))
      refine Owes.go ?_ fun t₀ k₀ => XS.lstore X37.here hx rfl (hb hby d8_71) rfl (l' := #[.val (.ref r0), .val (.double d1), .second, .val (.long rk), .second, .val (.long ((psum f k) + (f k))), .second, .val (.int kI)]) rfl k₀
      show Owes _ _ _ _ (T37.setTop (mkF m 73 #[.val (.ref r0), .val (.double d1), .second, .val (.long rk), .second, .val (.long ((psum f k) + (f k))), .second, .val (.int kI)] []))
      refine Owes.go ?_ fun t₀ k₀ => XS.lload X37.here hx rfl (hb hby d8_73) rfl k₀
      show Owes _ _ _ _ (T37.setTop (mkF m 75 #[.val (.ref r0), .val (.double d1), .second, .val (.long rk), .second, .val (.long ((psum f k) + (f k))), .second, .val (.int kI)] [(.long ((psum f k) + (f k)))]))
      refine Owes.go ?_ fun t₀ k₀ => XS.lloadN X37.here hx rfl (hb hby d8_75) rfl k₀
      show Owes _ _ _ _ (T37.setTop (mkF m 76 #[.val (.ref r0), .val (.double d1), .second, .val (.long rk), .second, .val (.long ((psum f k) + (f k))), .second, .val (.int kI)] [(.long rk), (.long ((psum f k) + (f k)))]))
      refine Owes.go ?_ fun t₀ k₀ => XS.lcmp X37.here hx rfl (hb hby d8_76) rfl k₀
      show Owes _ _ _ _ (T37.setTop (mkF m 77 #[.val (.ref r0), .val (.double d1), .second, .val (.long rk), .second, .val (.long ((psum f k) + (f k))), .second, .val (.int kI)] [(.int (lcmpW ((psum f k) + (f k)) rk))]))
      refine Owes.go ?_ fun t₀ k₀ => XS.ifYes X37.here hx rfl (pc0 := 77) (pc' := 86) rfl (hb hby d8_77) rfl ((if0 _ _).trans (tlt ((lw_lt _ _).mpr (hlo k (by omega)))).1) (by decide) (by decide) k₀
      show Owes _ _ _ _ (T37.setTop (mkF m 86 #[.val (.ref r0), .val (.double d1), .second, .val (.long rk), .second, .val (.long ((psum f k) + (f k))), .second, .val (.int kI)] []))
      refine Owes.go ?_ fun t₀ k₀ => XS.iinc X37.here hx rfl (hb hby d8_86) rfl (l' := #[.val (.ref r0), .val (.double d1), .second, .val (.long rk), .second, .val (.long ((psum f k) + (f k))), .second, .val (.int (kI + (1 : Int32)))]) rfl k₀
      show Owes _ _ _ _ (T37.setTop (mkF m 89 #[.val (.ref r0), .val (.double d1), .second, .val (.long rk), .second, .val (.long ((psum f k) + (f k))), .second, .val (.int (kI + (1 : Int32)))] []))
      refine Owes.go ?_ fun t₀ k₀ => XS.goto X37.here hx rfl (pc0 := 89) (pc' := 61) rfl (hb hby d8_89) (by decide) (by decide) k₀
      show Owes _ _ _ _ (T37.setTop (mkF m 61 #[.val (.ref r0), .val (.double d1), .second, .val (.long rk), .second, .val (.long ((psum f k) + (f k))), .second, .val (.int (kI + (1 : Int32)))] []))
      exact ih (k + 1) (by omega) _ _ X37 e37 (own_inc hkI (by omega))
  exact lp K 0 (Nat.zero_add K) _ _ X34 e34 rfl
section OwnLat
theorem i64_nat {q : Int64} {i : Nat} (h : q.toInt = (i : Int)) : q.toBitVec.toNat = i := by
  have h1 : q.toBitVec.toInt = (i : Int) := h
  rw [BitVec.toInt_eq_toNat_cond] at h1
  have := q.toBitVec.isLt
  split at h1 <;> omega
theorem High.rng {w : Int64} {t N : Nat} (H : High w t) (h : w.toInt = (N : Int)) : 2 ^ t ≤ N ∧ N < 2 ^ (t + 1) := by
  obtain ⟨h1, h2, h3⟩ := H
  have e := i64_nat h
  constructor
  · rw [← e]
    exact Nat.ge_two_pow_of_testBit h2
  · rw [← e]
    refine Nat.lt_pow_two_of_testBit _ fun i hi => ?_
    by_cases q : i < 64
    · exact h3 i (by omega) q
    · exact BitVec.getLsbD_of_ge _ _ (by omega)
theorem own_sh {w : Int64} {t : Nat} (H : High w t) (hn : (f_nlzJ w).toInt = 63 - (t : Int)) : (f_sh w).toInt = ((t - 9 : Nat) : Int) := by
  have h1 := c_isub 63 (f_nlzJ w)
  have h2 := c_iadd (63 - f_nlzJ w) 1
  have h3 := c_isub (63 - f_nlzJ w + 1) 10
  have r1 := rng32 (63 - f_nlzJ w)
  have r2 := rng32 (63 - f_nlzJ w + 1)
  have r3 := rng32 (63 - f_nlzJ w + 1 - 10)
  have ht := H.1
  rw [show (63 : Int32).toInt = 63 from rfl, hn] at h1
  rw [show (1 : Int32).toInt = 1 from rfl] at h2
  rw [show (10 : Int32).toInt = 10 from rfl] at h3
  have e : (63 - f_nlzJ w + 1 - 10).toInt = (t : Int) - 9 := by omega
  unfold f_sh f_maxI
  by_cases q : (0 : Int32) < (63 - f_nlzJ w + 1 - 10)
  · rw [if_pos q, e]
    rw [Int32.lt_iff_toInt_lt, e, show (0 : Int32).toInt = 0 from rfl] at q
    omega
  · rw [if_neg q, show (0 : Int32).toInt = 0 from rfl]
    rw [Int32.lt_iff_toInt_lt, e, show (0 : Int32).toInt = 0 from rfl] at q
    omega
theorem own_bkv {w : Int64} {N k : Nat} (hN : w.toInt = (N : Int)) (hk : (f_sh w).toInt = (k : Int)) (hk23 : k < 23) (hq : N / 2 ^ k < 1024) : (f_bk w).toInt = ((k * 512 + N / 2 ^ k : Nat) : Int) := by
  have e1 : ((w.toUInt64 >>> ((f_sh w) &&& 0x3f).toInt64.toUInt64).toInt64).toInt = ((N / 2 ^ k : Nat) : Int) := by
    by_cases q0 : k = 0
    · subst q0
      have e0 : f_sh w = 0 := Int32.toInt_inj.mp (by rw [hk]; rfl)
      rw [e0, show ((0 : Int32) &&& 0x3f).toInt64.toUInt64 = 0 from by decide]
      simpa using hN
    · have rw64 := rng64 w
      rw [c_lushr w (f_sh w) k (by rw [i32_nat hk]; omega) (by omega), hN]
      rw [show ((N : Int) % 18446744073709551616) = (N : Int) by omega]
      exact (Int.natCast_ediv N (2 ^ k)).symm
  unfold f_bk
  generalize ((w.toUInt64 >>> ((f_sh w) &&& 0x3f).toInt64.toUInt64).toInt64) = u at *
  have h1 := c_i2l (f_sh w)
  have h2 := c_lmul (f_sh w).toInt64 512
  have h3 := c_ladd ((f_sh w).toInt64 * 512) u
  have h4 := c_l2i ((f_sh w).toInt64 * 512 + u)
  have r2 := rng64 ((f_sh w).toInt64 * 512)
  have r3 := rng64 ((f_sh w).toInt64 * 512 + u)
  have r4 := rng32 ((f_sh w).toInt64 * 512 + u).toInt32
  rw [h1, hk, show (512 : Int64).toInt = 512 from rfl] at h2
  generalize ((f_sh w).toInt64 * 512 + u).toInt32.toInt = z4 at *
  generalize ((f_sh w).toInt64 * 512 + u).toInt = z3 at *
  generalize ((f_sh w).toInt64 * 512).toInt = z2 at *
  generalize N / 2 ^ k = d at *
  rw [e1] at h3
  have e2 : z2 = (k : Int) * 512 := by omega
  have e3 : z3 = (k : Int) * 512 + (d : Int) := by omega
  omega
theorem own_bk {w : Int64} (h0 : 0 ≤ w.toInt) (h1 : w.toInt < 4294967296) : ∃ k : Nat, (f_bk w).toInt = (k : Int) ∧ k < 12288 := by
  obtain ⟨N, hN⟩ : ∃ N : Nat, w.toInt = (N : Int) := ⟨w.toInt.toNat, by omega⟩
  by_cases q : w = 0
  · subst q
    exact ⟨0, by decide +kernel, by omega⟩
  · obtain ⟨t, H⟩ := High.ex q
    obtain ⟨a, b⟩ := H.rng hN
    have ht : t < 32 := by
      refine Decidable.byContradiction fun c => ?_
      have := Nat.pow_le_pow_right (n := 2) (by omega) (show 32 ≤ t by omega)
      rw [show (2 : Nat) ^ 32 = 4294967296 from rfl] at this
      omega
    have hs := own_sh H (own_nlzJ w t H)
    have hq : N / 2 ^ (t - 9) < 1024 := by
      rw [Nat.div_lt_iff_lt_mul (Nat.pow_pos (by omega)), show (1024 : Nat) = 2 ^ 10 from rfl, ← Nat.pow_add]
      exact Nat.lt_of_lt_of_le b (Nat.pow_le_pow_right (by omega) (by omega))
    exact ⟨_, own_bkv hN hs (by omega) hq, by omega⟩
theorem own_mic (q : Int64) : ∃ k : Nat, (f_bk (f_minJ (f_maxJ (0 : Int64) (f_tm q)) (4294967295 : Int64))).toInt = (k : Int) ∧ k < 12288 := by
  have e : 0 ≤ (f_minJ (f_maxJ (0 : Int64) (f_tm q)) (4294967295 : Int64)).toInt ∧ (f_minJ (f_maxJ (0 : Int64) (f_tm q)) (4294967295 : Int64)).toInt < 4294967296 := by
    generalize f_tm q = x
    have hx : 0 ≤ (f_maxJ (0 : Int64) x).toInt := by
      unfold f_maxJ
      by_cases c : (0 : Int64) < x
      · rw [if_pos c]
        rw [Int64.lt_iff_toInt_lt, show (0 : Int64).toInt = 0 from rfl] at c
        omega
      · rw [if_neg c]
        decide
    generalize f_maxJ (0 : Int64) x = y at *
    unfold f_minJ
    by_cases c : (4294967295 : Int64) < y
    · rw [if_pos c]; decide
    · rw [if_neg c]
      rw [Int64.lt_iff_toInt_lt, show (4294967295 : Int64).toInt = 4294967295 from rfl] at c
      omega
  exact own_bk e.1 e.2
theorem lo_step : ∀ a, a < 24 → ∀ b, b < 512 → f_lo (Int32.ofNat (512 * a + b)) ≤ f_lo (Int32.ofNat (512 * a + b + 1)) := by decide +kernel
theorem lo_mono {i j : Nat} (h : i ≤ j) (hj : j ≤ 12287) : f_lo (Int32.ofNat i) ≤ f_lo (Int32.ofNat j) := by
  induction h with
  | refl => exact Int64.le_refl _
  | step h ih =>
    rename_i m
    have h1 := lo_step (m / 512) (by omega) (m % 512) (by omega)
    rw [show 512 * (m / 512) + m % 512 = m by omega] at h1
    exact Int64.le_trans (ih (by omega)) h1
theorem own_lo {x y : Int32} {i j : Nat} (hx : x.toInt = (i : Int)) (hy : y.toInt = (j : Int)) (h : i ≤ j) (hj : j < 12288) : f_lo x ≤ f_lo y := by
  have e1 : x = Int32.ofNat i := Int32.toInt_inj.mp (by rw [hx, own_ofNat (by omega)])
  have e2 : y = Int32.ofNat j := Int32.toInt_inj.mp (by rw [hy, own_ofNat (by omega)])
  rw [e1, e2]
  exact lo_mono h (by omega)
theorem own_minL {x y : Int64} (h : x ≤ y) : x = f_minJ x y := (if_neg (Int64.not_lt.mpr h)).symm
theorem own_minR {x y : Int64} (h : y ≤ x) : y = f_minJ x y := by
  unfold f_minJ
  by_cases c : y < x
  · rw [if_pos c]
  · rw [if_neg c]; exact Int64.le_antisymm h (Int64.not_lt.mp c)
theorem own_maxR {x y : Int64} (h : x ≤ y) : y = f_maxJ x y := by
  unfold f_maxJ
  by_cases c : x < y
  · rw [if_pos c]
  · rw [if_neg c]; exact Int64.le_antisymm (Int64.not_lt.mp c) h
theorem own_maxL {x y : Int64} (h : y ≤ x) : x = f_maxJ x y := (if_neg (Int64.not_lt.mpr h)).symm
def hit (k : Nat) : Nat → Int64 := fun i => if i = k then 1 else 0
def two (i j : Nat) : Nat → Int64 := fun n => hit i n + hit j n
theorem own_hit (k i : Nat) : upd (fun _ => (0 : Int64)) k ((0 : Int64) + (1 : Int64)) i = hit k i := by
  unfold upd hit
  rw [show (0 : Int64) + 1 = 1 from rfl]
theorem psum_hit (k n : Nat) : psum (hit k) n = if k < n then 1 else 0 := by
  induction n with
  | zero => rfl
  | succ n ih =>
    show psum (hit k) n + hit k n = _
    rw [ih]
    unfold hit
    by_cases c1 : k < n
    · rw [if_pos c1, if_neg (by omega), if_pos (by omega)]; decide
    · by_cases c2 : n = k
      · rw [if_neg c1, if_pos c2, if_pos (by omega)]; decide
      · rw [if_neg c1, if_neg c2, if_neg (by omega)]; decide
theorem psum_two (i j n : Nat) : psum (two i j) n = (if i < n then 1 else 0) + (if j < n then 1 else 0) := by
  induction n with
  | zero => rfl
  | succ n ih =>
    show psum (two i j) n + (hit i n + hit j n) = _
    rw [ih, ← psum_hit i, ← psum_hit j, ← psum_hit i, ← psum_hit j]
    show psum (hit i) n + psum (hit j) n + (hit i n + hit j n) = (psum (hit i) n + hit i n) + (psum (hit j) n + hit j n)
    rw [Int64.add_assoc, ← Int64.add_assoc (psum (hit j) n), Int64.add_comm (psum (hit j) n) (hit i n), Int64.add_assoc (hit i n), ← Int64.add_assoc]
theorem lo_hit {k j : Nat} (h : j < k) : psum (hit k) j + hit k j < 1 := by
  show psum (hit k) (j + 1) < 1
  rw [psum_hit, if_neg (by omega)]; decide
theorem hi_hit (k : Nat) : ¬ psum (hit k) k + hit k k < 1 := by
  show ¬ psum (hit k) (k + 1) < 1
  rw [psum_hit, if_pos (by omega)]; decide
theorem lo_two1 {i j n : Nat} (h1 : n < i) (h2 : n < j) : psum (two i j) n + two i j n < 1 := by
  show psum (two i j) (n + 1) < 1
  rw [psum_two, if_neg (by omega), if_neg (by omega)]; decide
theorem hi_two1 {i j n : Nat} (h : n = i ∨ n = j) : ¬ psum (two i j) n + two i j n < 1 := by
  show ¬ psum (two i j) (n + 1) < 1
  rw [psum_two]
  by_cases c1 : i < n + 1
  · by_cases c2 : j < n + 1
    · rw [if_pos c1, if_pos c2]; decide
    · rw [if_pos c1, if_neg c2]; decide
  · rw [if_neg c1, if_pos (by omega)]; decide
theorem lo_two2 {i j n : Nat} (h : n < i ∨ n < j) : psum (two i j) n + two i j n < 2 := by
  show psum (two i j) (n + 1) < 2
  rw [psum_two]
  by_cases c1 : i < n + 1
  · by_cases c2 : j < n + 1
    · omega
    · rw [if_pos c1, if_neg c2]; decide
  · by_cases c2 : j < n + 1
    · rw [if_neg c1, if_pos c2]; decide
    · rw [if_neg c1, if_neg c2]; decide
theorem hi_two2 {i j n : Nat} (h1 : i ≤ n) (h2 : j ≤ n) : ¬ psum (two i j) n + two i j n < 2 := by
  show ¬ psum (two i j) (n + 1) < 2
  rw [psum_two, if_pos (by omega), if_pos (by omega)]; decide
end OwnLat

theorem fp_c1_100 : cmpValue (FP.dcmp (4636737291354636288 : UInt64) (0 : UInt64)) .g = (1 : Int32) := by decide +kernel
theorem fp_c2_100 : cmpValue (FP.dcmp (4636737291354636288 : UInt64) (4636737291354636288 : UInt64)) .l = (0 : Int32) := by decide +kernel
theorem fp_n2_100 : ¬ (0 : Int32) < (0 : Int32) := by decide
theorem fp_hq_100 : FP.ddiv (4636737291354636288 : UInt64) (4636737291354636288 : UInt64) = (4607182418800017408 : UInt64) := by decide +kernel
theorem fp_nq_100 : Jvm.Free.Fl.NoNaN64 (FP.ddiv (4636737291354636288 : UInt64) (4636737291354636288 : UInt64)) := by rw [fp_hq_100]; unfold Jvm.Free.Fl.NoNaN64; decide
theorem fp_c1_50 : cmpValue (FP.dcmp (4632233691727265792 : UInt64) (0 : UInt64)) .g = (1 : Int32) := by decide +kernel
theorem fp_c2_50 : cmpValue (FP.dcmp (4632233691727265792 : UInt64) (4636737291354636288 : UInt64)) .l = (-1 : Int32) := by decide +kernel
theorem fp_n2_50 : ¬ (0 : Int32) < (-1 : Int32) := by decide
theorem fp_hq_50 : FP.ddiv (4632233691727265792 : UInt64) (4636737291354636288 : UInt64) = (4602678819172646912 : UInt64) := by decide +kernel
theorem fp_nq_50 : Jvm.Free.Fl.NoNaN64 (FP.ddiv (4632233691727265792 : UInt64) (4636737291354636288 : UInt64)) := by rw [fp_hq_50]; unfold Jvm.Free.Fl.NoNaN64; decide
theorem fp_l2_1 : FP.l2d (1 : Int64) = (4607182418800017408 : UInt64) := by decide +kernel
theorem fp_l2_2 : FP.l2d (2 : Int64) = (4611686018427387904 : UInt64) := by decide +kernel
theorem fp_hb_100_1 : FP.dmul (4607182418800017408 : UInt64) (4607182418800017408 : UInt64) = (4607182418800017408 : UInt64) := by decide +kernel
theorem fp_nb_100_1 : Jvm.Free.Fl.NoNaN64 (FP.dmul (4607182418800017408 : UInt64) (4607182418800017408 : UInt64)) := by rw [fp_hb_100_1]; unfold Jvm.Free.Fl.NoNaN64; decide
theorem fp_rk_100_1 : FP.d2l (4607182418800017408 : UInt64) = (1 : Int64) := by decide +kernel
theorem fp_hb_100_2 : FP.dmul (4607182418800017408 : UInt64) (4611686018427387904 : UInt64) = (4611686018427387904 : UInt64) := by decide +kernel
theorem fp_nb_100_2 : Jvm.Free.Fl.NoNaN64 (FP.dmul (4607182418800017408 : UInt64) (4611686018427387904 : UInt64)) := by rw [fp_hb_100_2]; unfold Jvm.Free.Fl.NoNaN64; decide
theorem fp_rk_100_2 : FP.d2l (4611686018427387904 : UInt64) = (2 : Int64) := by decide +kernel
theorem fp_hb_50_1 : FP.dmul (4602678819172646912 : UInt64) (4607182418800017408 : UInt64) = (4602678819172646912 : UInt64) := by decide +kernel
theorem fp_nb_50_1 : Jvm.Free.Fl.NoNaN64 (FP.dmul (4602678819172646912 : UInt64) (4607182418800017408 : UInt64)) := by rw [fp_hb_50_1]; unfold Jvm.Free.Fl.NoNaN64; decide
theorem fp_rk_50_1 : FP.d2l (4607182418800017408 : UInt64) = (1 : Int64) := by decide +kernel
theorem fp_hb_50_2 : FP.dmul (4602678819172646912 : UInt64) (4611686018427387904 : UInt64) = (4607182418800017408 : UInt64) := by decide +kernel
theorem fp_nb_50_2 : Jvm.Free.Fl.NoNaN64 (FP.dmul (4602678819172646912 : UInt64) (4611686018427387904 : UInt64)) := by rw [fp_hb_50_2]; unfold Jvm.Free.Fl.NoNaN64; decide
theorem fp_rk_50_2 : FP.d2l (4607182418800017408 : UInt64) = (1 : Int64) := by decide +kernel
theorem own_eqL {args : Array Value} {s first : State} {o : Option Outcome} {idx : List Nat} {t : Term} {k : Int64} (q : (Cond.eq t (.long k)).value args first o s idx = some true) : t.eval args first o idx s = some (.long k) := by
  simp only [Cond.value, Term.eval] at q
  cases hv : t.eval args first o idx s with
  | none => simp [hv] at q
  | some v => cases v <;> simp_all
theorem pd_6 : parseMethodDescriptor "()V" = some ⟨[], none⟩ := by decide +kernel
theorem pd_7 : parseMethodDescriptor "(D)J" = some ⟨[.double], some .long⟩ := by decide +kernel
theorem pd_8 : parseMethodDescriptor "(Lcom/example/holdfast/holdfast/bench/LatencyHistogram;)V" = some ⟨[(.object "com/example/holdfast/holdfast/bench/LatencyHistogram")], none⟩ := by decide +kernel
theorem pd_9 : parseMethodDescriptor "(J)V" = some ⟨[.long], none⟩ := by decide +kernel
def QL (n0 : Nat) (v : Option Value) (h : Heap) (L : List Loc) : Prop := v = some (.int 1) ∧ Fr n0 L
theorem ef_0 (m : MethodId) (q0 : Int64) (q1 : Int64) (p2 : Int32) : entryFrame m #[(.long q0), (.long q1), (.int p2)] maxLocals = mkF m 0 #[.val (.long q0), .second, .val (.long q1), .second, .val (.int p2), .unset, .unset, .unset, .unset, .unset, .unset, .unset, .unset, .unset, .unset, .unset, .unset, .unset, .unset, .unset, .unset, .unset, .unset] [] := by first | (simp [entryFrame, mkF, argsToLocals, Value.category, maxLocals]; done) | rfl
theorem pn_0 : plainFor (⟨"com/example/holdfast/holdfast/bench/LatencyHistogramAddPinLaw", "law", "(JJI)Z"⟩ : MethodName) = true := plainFor_of_name (by first | (simp [plainName, overriddenIn]; done) | decide +kernel)
set_option maxRecDepth 65536 in
set_option maxHeartbeats 40000000 in
theorem rm0 (l : Launch) (Z : State) (a0 : Array Value) (hw : ∀ d ∈ tables_1, d.before a0 Z = true) (ws : List Jvm.Cond) (q0 : Int64) (q1 : Int64) (p2 : Int32) (h0 : Heap) (n0 : Nat) (Z0 : n0 ≤ h0.size) (SB : Sta Z h0 "com/example/holdfast/holdfast/bench/LatencyHistogram" "EXACT_BITS" "I" (.int (10 : Int32))) (SE : Sta Z h0 "com/example/holdfast/holdfast/bench/LatencyHistogram" "EXACT_BELOW" "J" (.long (1024 : Int64))) (rN : Addr) (SN : Sta Z h0 "java/util/concurrent/TimeUnit" "NANOSECONDS" "Ljava/util/concurrent/TimeUnit;" (.ref rN)) (EN : Exa Z h0 rN "java/util/concurrent/TimeUnit") (Fsc : Fld Z h0 rN "java/util/concurrent/TimeUnit" "scale" "J" (.long (1 : Int64))) (Fmr : Fld Z h0 rN "java/util/concurrent/TimeUnit" "microRatio" "J" (.long (1000 : Int64))) (SA : Sta Z h0 "java/lang/StrictMath" "$assertionsDisabled" "Z" (.int (1 : Int32))) :
    OMet l x code maxLocals ret ws room_1 #[(.long q0), (.long q1), (.int p2)] Z h0 (QL n0) := by
  have N0 := Fr.nil n0
  refine OMet.of pn_0 (fun m => ef_0 m q0 q1 p2) ?_
  intro p e s m below meth c s₁ hx hby hml hown hnm hret hlk hZ X0 e0
  have N0 := Fr.nil n0
  have K0 := Keep.refl h0 []
  have ST0 := StK.refl Z h0
  have wi := (hw _ (List.mem_of_getElem? (i := 1) rfl))
  obtain ⟨ia, hia, hian⟩ := own_mic q0
  obtain ⟨ib, hib, hibn⟩ := own_mic q1
  obtain ⟨zA, hzA⟩ : ∃ z : Int32, z.toInt = (ia : Int) := ⟨_, hia⟩
  obtain ⟨zB, hzB⟩ : ∃ z : Int32, z.toInt = (ib : Int) := ⟨_, hib⟩
  refine Owes.go ?_ fun t₀ k₀ => XS.iload X0.here hx rfl (hb hby at_0) rfl k₀
  show Owes _ _ _ _ (s₁.setTop (mkF m 2 #[.val (.long q0), .second, .val (.long q1), .second, .val (.int p2), .unset, .unset, .unset, .unset, .unset, .unset, .unset, .unset, .unset, .unset, .unset, .unset, .unset, .unset, .unset, .unset, .unset, .unset] [(.int p2)]))
  refine Owes.go ?_ fun t₀ k₀ => XS.iconst X0.here hx rfl (hb hby at_2) k₀
  show Owes _ _ _ _ (s₁.setTop (mkF m 3 #[.val (.long q0), .second, .val (.long q1), .second, .val (.int p2), .unset, .unset, .unset, .unset, .unset, .unset, .unset, .unset, .unset, .unset, .unset, .unset, .unset, .unset, .unset, .unset, .unset, .unset] [(.int (1 : Int32)), (.int p2)]))
  refine Owes.go ?_ fun t₀ k₀ => XS.iand X0.here hx rfl (hb hby at_3) rfl k₀
  show Owes _ _ _ _ (s₁.setTop (mkF m 4 #[.val (.long q0), .second, .val (.long q1), .second, .val (.int p2), .unset, .unset, .unset, .unset, .unset, .unset, .unset, .unset, .unset, .unset, .unset, .unset, .unset, .unset, .unset, .unset, .unset, .unset] [(.int (p2 &&& (1 : Int32)))]))
  by_cases hc1 : (p2 &&& (1 : Int32)) = (0 : Int32)
  · skip
    refine Owes.go ?_ fun t₀ k₀ => XS.ifYes X0.here hx rfl (pc0 := 4) (pc' := 11) rfl (hb hby at_4) rfl ((if0 _ _).trans (teq hc1).1) (by decide) (by decide) k₀
    show Owes _ _ _ _ (s₁.setTop (mkF m 11 #[.val (.long q0), .second, .val (.long q1), .second, .val (.int p2), .unset, .unset, .unset, .unset, .unset, .unset, .unset, .unset, .unset, .unset, .unset, .unset, .unset, .unset, .unset, .unset, .unset, .unset] []))
    refine Owes.go ?_ fun t₀ k₀ => XS.iconst X0.here hx rfl (hb hby at_11) k₀
    show Owes _ _ _ _ (s₁.setTop (mkF m 12 #[.val (.long q0), .second, .val (.long q1), .second, .val (.int p2), .unset, .unset, .unset, .unset, .unset, .unset, .unset, .unset, .unset, .unset, .unset, .unset, .unset, .unset, .unset, .unset, .unset, .unset] [(.int (0 : Int32))]))
    refine Owes.go ?_ fun t₀ k₀ => XS.istore X0.here hx rfl (hb hby at_12) rfl (l' := #[.val (.long q0), .second, .val (.long q1), .second, .val (.int p2), .val (.int (0 : Int32)), .unset, .unset, .unset, .unset, .unset, .unset, .unset, .unset, .unset, .unset, .unset, .unset, .unset, .unset, .unset, .unset, .unset]) rfl k₀
    show Owes _ _ _ _ (s₁.setTop (mkF m 14 #[.val (.long q0), .second, .val (.long q1), .second, .val (.int p2), .val (.int (0 : Int32)), .unset, .unset, .unset, .unset, .unset, .unset, .unset, .unset, .unset, .unset, .unset, .unset, .unset, .unset, .unset, .unset, .unset] []))
    refine Owes.go ?_ fun t₀ k₀ => XS.iload X0.here hx rfl (hb hby at_14) rfl k₀
    show Owes _ _ _ _ (s₁.setTop (mkF m 16 #[.val (.long q0), .second, .val (.long q1), .second, .val (.int p2), .val (.int (0 : Int32)), .unset, .unset, .unset, .unset, .unset, .unset, .unset, .unset, .unset, .unset, .unset, .unset, .unset, .unset, .unset, .unset, .unset] [(.int p2)]))
    refine Owes.go ?_ fun t₀ k₀ => XS.iconst X0.here hx rfl (hb hby at_16) k₀
    show Owes _ _ _ _ (s₁.setTop (mkF m 17 #[.val (.long q0), .second, .val (.long q1), .second, .val (.int p2), .val (.int (0 : Int32)), .unset, .unset, .unset, .unset, .unset, .unset, .unset, .unset, .unset, .unset, .unset, .unset, .unset, .unset, .unset, .unset, .unset] [(.int (2 : Int32)), (.int p2)]))
    refine Owes.go ?_ fun t₀ k₀ => XS.iand X0.here hx rfl (hb hby at_17) rfl k₀
    show Owes _ _ _ _ (s₁.setTop (mkF m 18 #[.val (.long q0), .second, .val (.long q1), .second, .val (.int p2), .val (.int (0 : Int32)), .unset, .unset, .unset, .unset, .unset, .unset, .unset, .unset, .unset, .unset, .unset, .unset, .unset, .unset, .unset, .unset, .unset] [(.int (p2 &&& (2 : Int32)))]))
    by_cases hc2 : (p2 &&& (2 : Int32)) = (0 : Int32)
    · skip
      refine Owes.go ?_ fun t₀ k₀ => XS.ifYes X0.here hx rfl (pc0 := 18) (pc' := 25) rfl (hb hby at_18) rfl ((if0 _ _).trans (teq hc2).1) (by decide) (by decide) k₀
      show Owes _ _ _ _ (s₁.setTop (mkF m 25 #[.val (.long q0), .second, .val (.long q1), .second, .val (.int p2), .val (.int (0 : Int32)), .unset, .unset, .unset, .unset, .unset, .unset, .unset, .unset, .unset, .unset, .unset, .unset, .unset, .unset, .unset, .unset, .unset] []))
      refine Owes.go ?_ fun t₀ k₀ => XS.iconst X0.here hx rfl (hb hby at_25) k₀
      show Owes _ _ _ _ (s₁.setTop (mkF m 26 #[.val (.long q0), .second, .val (.long q1), .second, .val (.int p2), .val (.int (0 : Int32)), .unset, .unset, .unset, .unset, .unset, .unset, .unset, .unset, .unset, .unset, .unset, .unset, .unset, .unset, .unset, .unset, .unset] [(.int (0 : Int32))]))
      refine Owes.go ?_ fun t₀ k₀ => XS.istore X0.here hx rfl (hb hby at_26) rfl (l' := #[.val (.long q0), .second, .val (.long q1), .second, .val (.int p2), .val (.int (0 : Int32)), .val (.int (0 : Int32)), .unset, .unset, .unset, .unset, .unset, .unset, .unset, .unset, .unset, .unset, .unset, .unset, .unset, .unset, .unset, .unset]) rfl k₀
      show Owes _ _ _ _ (s₁.setTop (mkF m 28 #[.val (.long q0), .second, .val (.long q1), .second, .val (.int p2), .val (.int (0 : Int32)), .val (.int (0 : Int32)), .unset, .unset, .unset, .unset, .unset, .unset, .unset, .unset, .unset, .unset, .unset, .unset, .unset, .unset, .unset, .unset] []))
      refine Owes.newO X0 hx hZ hown (hw _ (List.mem_of_getElem? (i := 0) rfl)) (hw _ (List.mem_of_getElem? (i := 1) rfl)) (hw _ (List.mem_of_getElem? (i := 2) rfl)) e0 (hb hby at_28) (by decide) (by decide) ?_
      intro T38 h38 X38 e38 E38 A38 D38
      obtain ⟨oa, goa⟩ : ∃ z, z = h0.size := ⟨_, rfl⟩
      rw [← goa] at A38 ⊢
      have ge_oa : h0.size ≤ oa := by rw [goa]; exact K0.1
      have gn_oa : n0 ≤ oa := Nat.le_trans Z0 ge_oa
      have K_38 := K0.ext E38
      have ST_38 := ST0.ext E38
      have F_oa_counts_38 : Fld Z h38 oa "com/example/holdfast/holdfast/bench/LatencyHistogram" "counts" "[J" .null := by rw [goa]; exact D38 (Or.inr (hw _ (List.mem_of_getElem? (i := 33) rfl))) (ty := (.array .long)) (by decide)
      have F_oa_total_38 : Fld Z h38 oa "com/example/holdfast/holdfast/bench/LatencyHistogram" "total" "J" (.long (0 : Int64)) := by rw [goa]; exact D38 (Or.inl (hw _ (List.mem_of_getElem? (i := 42) rfl))) (ty := .long) (by decide)
      show Owes _ _ _ _ (T38.setTop (mkF m 31 #[.val (.long q0), .second, .val (.long q1), .second, .val (.int p2), .val (.int (0 : Int32)), .val (.int (0 : Int32)), .unset, .unset, .unset, .unset, .unset, .unset, .unset, .unset, .unset, .unset, .unset, .unset, .unset, .unset, .unset, .unset] [(.ref oa)]))
      refine Owes.go ?_ fun t₀ k₀ => XS.dup X38.here hx rfl (hb hby at_31) rfl rfl k₀
      show Owes _ _ _ _ (T38.setTop (mkF m 32 #[.val (.long q0), .second, .val (.long q1), .second, .val (.int p2), .val (.int (0 : Int32)), .val (.int (0 : Int32)), .unset, .unset, .unset, .unset, .unset, .unset, .unset, .unset, .unset, .unset, .unset, .unset, .unset, .unset, .unset, .unset] [(.ref oa), (.ref oa)]))
      refine Owes.callC X38 hx hZ rfl hown (hw _ (List.mem_of_getElem? (i := 3) rfl)) (hw _ (List.mem_of_getElem? (i := 4) rfl)) (hw _ (List.mem_of_getElem? (i := 2) rfl)) (hw _ (List.mem_of_getElem? (i := 5) rfl)) (by decide) (a := oa) (argsL := []) (rest := [(.ref oa)]) (rm_init l Z a0 hw [] oa h38 n0 (Nat.le_trans Z0 K_38.1) gn_oa A38 F_oa_counts_38 F_oa_total_38 (Sta.keep0 SB K_38)) e38 (by rw [hml]; rfl) pd_6 rfl rfl (hb hby at_32) (by decide) (Nat.le_of_ble_eq_true rfl) (by decide) (by decide) ?_
      rintro T39 v39 L39 X39 ⟨rfl, N39, K39, raa, hr39, O39⟩
      have ge_raa : h0.size ≤ raa := Nat.le_trans K_38.1 hr39
      have gn_raa : n0 ≤ raa := Nat.le_trans Z0 ge_raa
      have NF39 := Fr.app N0 N39
      have KK39 := K_38.trans K39 (own_ge1 ge_oa)
      show Owes _ _ _ _ (T39.setTop (mkF m 35 #[.val (.long q0), .second, .val (.long q1), .second, .val (.int p2), .val (.int (0 : Int32)), .val (.int (0 : Int32)), .unset, .unset, .unset, .unset, .unset, .unset, .unset, .unset, .unset, .unset, .unset, .unset, .unset, .unset, .unset, .unset] [(.ref oa)]))
      refine Owes.go ?_ fun t₀ k₀ => XS.astore X39.here hx rfl (hb hby at_35) rfl rfl (l' := #[.val (.long q0), .second, .val (.long q1), .second, .val (.int p2), .val (.int (0 : Int32)), .val (.int (0 : Int32)), .val (.ref oa), .unset, .unset, .unset, .unset, .unset, .unset, .unset, .unset, .unset, .unset, .unset, .unset, .unset, .unset, .unset]) rfl k₀
      show Owes _ _ _ _ (T39.setTop (mkF m 37 #[.val (.long q0), .second, .val (.long q1), .second, .val (.int p2), .val (.int (0 : Int32)), .val (.int (0 : Int32)), .val (.ref oa), .unset, .unset, .unset, .unset, .unset, .unset, .unset, .unset, .unset, .unset, .unset, .unset, .unset, .unset, .unset] []))
      refine Owes.newO X39 hx hZ hown (hw _ (List.mem_of_getElem? (i := 0) rfl)) (hw _ (List.mem_of_getElem? (i := 1) rfl)) (hw _ (List.mem_of_getElem? (i := 2) rfl)) rfl (hb hby at_37) (by decide) (by decide) ?_
      intro T40 h40 X40 e40 E40 A40 D40
      obtain ⟨ob, gob⟩ : ∃ z, z = T39.heap.size := ⟨_, rfl⟩
      rw [← gob] at A40 ⊢
      have ge_ob : h0.size ≤ ob := by rw [gob]; exact KK39.1
      have gn_ob : n0 ≤ ob := Nat.le_trans Z0 ge_ob
      have K_40 := KK39.ext E40
      have ST_40 := (StK.of_keep (Z := Z) KK39).ext E40
      have F_ob_counts_40 : Fld Z h40 ob "com/example/holdfast/holdfast/bench/LatencyHistogram" "counts" "[J" .null := by rw [gob]; exact D40 (Or.inr (hw _ (List.mem_of_getElem? (i := 33) rfl))) (ty := (.array .long)) (by decide)
      have F_ob_total_40 : Fld Z h40 ob "com/example/holdfast/holdfast/bench/LatencyHistogram" "total" "J" (.long (0 : Int64)) := by rw [gob]; exact D40 (Or.inl (hw _ (List.mem_of_getElem? (i := 42) rfl))) (ty := .long) (by decide)
      have n_oa_ob : oa ≠ ob := Nat.ne_of_lt (by rw [gob]; exact (O39).1.lt)
      have OA40 := (O39).ext E40
      show Owes _ _ _ _ (T40.setTop (mkF m 40 #[.val (.long q0), .second, .val (.long q1), .second, .val (.int p2), .val (.int (0 : Int32)), .val (.int (0 : Int32)), .val (.ref oa), .unset, .unset, .unset, .unset, .unset, .unset, .unset, .unset, .unset, .unset, .unset, .unset, .unset, .unset, .unset] [(.ref ob)]))
      refine Owes.go ?_ fun t₀ k₀ => XS.dup X40.here hx rfl (hb hby at_40) rfl rfl k₀
      show Owes _ _ _ _ (T40.setTop (mkF m 41 #[.val (.long q0), .second, .val (.long q1), .second, .val (.int p2), .val (.int (0 : Int32)), .val (.int (0 : Int32)), .val (.ref oa), .unset, .unset, .unset, .unset, .unset, .unset, .unset, .unset, .unset, .unset, .unset, .unset, .unset, .unset, .unset] [(.ref ob), (.ref ob)]))
      refine Owes.callC X40 hx hZ rfl hown (hw _ (List.mem_of_getElem? (i := 3) rfl)) (hw _ (List.mem_of_getElem? (i := 4) rfl)) (hw _ (List.mem_of_getElem? (i := 2) rfl)) (hw _ (List.mem_of_getElem? (i := 5) rfl)) (by decide) (a := ob) (argsL := []) (rest := [(.ref ob)]) (rm_init l Z a0 hw [] ob h40 n0 (Nat.le_trans Z0 K_40.1) gn_ob A40 F_ob_counts_40 F_ob_total_40 (Sta.keep0 SB K_40)) e40 (by rw [hml]; rfl) pd_6 rfl rfl (hb hby at_41) (by decide) (Nat.le_of_ble_eq_true rfl) (by decide) (by decide) ?_
      rintro T41 v41 L41 X41 ⟨rfl, N41, K41, rbb, hr41, O41⟩
      have ge_rbb : h0.size ≤ rbb := Nat.le_trans K_40.1 hr41
      have gn_rbb : n0 ≤ rbb := Nat.le_trans Z0 ge_rbb
      have NF41 := Fr.app NF39 N41
      have KK41 := K_40.trans K41 (own_ge1 ge_ob)
      have n_ra_ob : raa ≠ ob := Ne.symm (GA.ne_obj A40 wi (OA40).2.2.2)
      have n_ra_rb : raa ≠ rbb := Nat.ne_of_lt (Nat.lt_of_lt_of_le (OA40).2.2.2.lt hr41)
      have OA41 := (OA40).keep K41 (own_ni1 n_oa_ob) (own_ni1 n_ra_ob)
      have n_oa_rb : oa ≠ rbb := GA.ne_obj (OA41).1 wi (O41).2.2.2
      have n_oa_ra := (OA41).ne wi
      have n_ob_rb := (O41).ne wi
      show Owes _ _ _ _ (T41.setTop (mkF m 44 #[.val (.long q0), .second, .val (.long q1), .second, .val (.int p2), .val (.int (0 : Int32)), .val (.int (0 : Int32)), .val (.ref oa), .unset, .unset, .unset, .unset, .unset, .unset, .unset, .unset, .unset, .unset, .unset, .unset, .unset, .unset, .unset] [(.ref ob)]))
      refine Owes.go ?_ fun t₀ k₀ => XS.astore X41.here hx rfl (hb hby at_44) rfl rfl (l' := #[.val (.long q0), .second, .val (.long q1), .second, .val (.int p2), .val (.int (0 : Int32)), .val (.int (0 : Int32)), .val (.ref oa), .val (.ref ob), .unset, .unset, .unset, .unset, .unset, .unset, .unset, .unset, .unset, .unset, .unset, .unset, .unset, .unset]) rfl k₀
      show Owes _ _ _ _ (T41.setTop (mkF m 46 #[.val (.long q0), .second, .val (.long q1), .second, .val (.int p2), .val (.int (0 : Int32)), .val (.int (0 : Int32)), .val (.ref oa), .val (.ref ob), .unset, .unset, .unset, .unset, .unset, .unset, .unset, .unset, .unset, .unset, .unset, .unset, .unset, .unset] []))
      refine Owes.go ?_ fun t₀ k₀ => XS.iload X41.here hx rfl (hb hby at_46) rfl k₀
      show Owes _ _ _ _ (T41.setTop (mkF m 48 #[.val (.long q0), .second, .val (.long q1), .second, .val (.int p2), .val (.int (0 : Int32)), .val (.int (0 : Int32)), .val (.ref oa), .val (.ref ob), .unset, .unset, .unset, .unset, .unset, .unset, .unset, .unset, .unset, .unset, .unset, .unset, .unset, .unset] [(.int (0 : Int32))]))
      refine Owes.go ?_ fun t₀ k₀ => XS.ifYes X41.here hx rfl (pc0 := 48) (pc' := 57) rfl (hb hby at_48) rfl ((if0 _ _).trans (teq (by decide : ((0 : Int32) = (0 : Int32)))).1) (by decide) (by decide) k₀
      show Owes _ _ _ _ (T41.setTop (mkF m 57 #[.val (.long q0), .second, .val (.long q1), .second, .val (.int p2), .val (.int (0 : Int32)), .val (.int (0 : Int32)), .val (.ref oa), .val (.ref ob), .unset, .unset, .unset, .unset, .unset, .unset, .unset, .unset, .unset, .unset, .unset, .unset, .unset, .unset] []))
      refine Owes.go ?_ fun t₀ k₀ => XS.iload X41.here hx rfl (hb hby at_57) rfl k₀
      show Owes _ _ _ _ (T41.setTop (mkF m 59 #[.val (.long q0), .second, .val (.long q1), .second, .val (.int p2), .val (.int (0 : Int32)), .val (.int (0 : Int32)), .val (.ref oa), .val (.ref ob), .unset, .unset, .unset, .unset, .unset, .unset, .unset, .unset, .unset, .unset, .unset, .unset, .unset, .unset] [(.int (0 : Int32))]))
      refine Owes.go ?_ fun t₀ k₀ => XS.ifYes X41.here hx rfl (pc0 := 59) (pc' := 68) rfl (hb hby at_59) rfl ((if0 _ _).trans (teq (by decide : ((0 : Int32) = (0 : Int32)))).1) (by decide) (by decide) k₀
      show Owes _ _ _ _ (T41.setTop (mkF m 68 #[.val (.long q0), .second, .val (.long q1), .second, .val (.int p2), .val (.int (0 : Int32)), .val (.int (0 : Int32)), .val (.ref oa), .val (.ref ob), .unset, .unset, .unset, .unset, .unset, .unset, .unset, .unset, .unset, .unset, .unset, .unset, .unset, .unset] []))
      refine Owes.go ?_ fun t₀ k₀ => XS.aload X41.here hx rfl (hb hby at_68) rfl rfl k₀
      show Owes _ _ _ _ (T41.setTop (mkF m 70 #[.val (.long q0), .second, .val (.long q1), .second, .val (.int p2), .val (.int (0 : Int32)), .val (.int (0 : Int32)), .val (.ref oa), .val (.ref ob), .unset, .unset, .unset, .unset, .unset, .unset, .unset, .unset, .unset, .unset, .unset, .unset, .unset, .unset] [(.ref oa)]))
      refine Owes.go ?_ fun t₀ k₀ => X41.ldc2DoubleC hx hown (mv hZ (hw _ (List.mem_of_getElem? (i := 34) rfl))) (g := (mkF m 70 #[.val (.long q0), .second, .val (.long q1), .second, .val (.int p2), .val (.int (0 : Int32)), .val (.int (0 : Int32)), .val (.ref oa), .val (.ref ob), .unset, .unset, .unset, .unset, .unset, .unset, .unset, .unset, .unset, .unset, .unset, .unset, .unset, .unset] [(.ref oa)])) rfl (hb hby at_70) _ k₀
      show Owes _ _ _ _ (T41.setTop (mkF m 73 #[.val (.long q0), .second, .val (.long q1), .second, .val (.int p2), .val (.int (0 : Int32)), .val (.int (0 : Int32)), .val (.ref oa), .val (.ref ob), .unset, .unset, .unset, .unset, .unset, .unset, .unset, .unset, .unset, .unset, .unset, .unset, .unset, .unset] [(.double (4636737291354636288 : UInt64)), (.ref oa)]))
      refine Owes.callV X41 hx hZ hown (hw _ (List.mem_of_getElem? (i := 35) rfl)) (hw _ (List.mem_of_getElem? (i := 36) rfl)) (notFace_of_selects (args := #[]) (mvT hZ (hw _ (List.mem_of_getElem? (i := 38) rfl)))) (hw _ (List.mem_of_getElem? (i := 38) rfl)) (hw _ (List.mem_of_getElem? (i := 37) rfl)) (hw _ (List.mem_of_getElem? (i := 2) rfl)) (hw _ (List.mem_of_getElem? (i := 39) rfl)) (by decide) (a := oa) (argsL := [(.double (4636737291354636288 : UInt64))]) (rest := []) (rm_pc0 l Z a0 hw [] oa (4636737291354636288 : UInt64) T41.heap (0 : Int32) fp_c1_100 fp_c2_100 fp_n2_100 raa (fun _ => (0 : Int64)) OA41) rfl OA41.1 (by rw [hml]; rfl) pd_7 rfl rfl (hb hby at_73) (by decide) (Nat.le_of_ble_eq_true rfl) (by decide) (by decide) ?_
      rintro T42 _ _ X42 ⟨rfl, rfl, e42⟩
      rw [List.append_nil] at X42
      show Owes _ _ _ _ (T42.setTop (mkF m 76 #[.val (.long q0), .second, .val (.long q1), .second, .val (.int p2), .val (.int (0 : Int32)), .val (.int (0 : Int32)), .val (.ref oa), .val (.ref ob), .unset, .unset, .unset, .unset, .unset, .unset, .unset, .unset, .unset, .unset, .unset, .unset, .unset, .unset] [(.long (0 : Int64))]))
      refine Owes.go ?_ fun t₀ k₀ => XS.lstore X42.here hx rfl (hb hby at_76) rfl (l' := #[.val (.long q0), .second, .val (.long q1), .second, .val (.int p2), .val (.int (0 : Int32)), .val (.int (0 : Int32)), .val (.ref oa), .val (.ref ob), .val (.long (0 : Int64)), .second, .unset, .unset, .unset, .unset, .unset, .unset, .unset, .unset, .unset, .unset, .unset, .unset]) rfl k₀
      show Owes _ _ _ _ (T42.setTop (mkF m 78 #[.val (.long q0), .second, .val (.long q1), .second, .val (.int p2), .val (.int (0 : Int32)), .val (.int (0 : Int32)), .val (.ref oa), .val (.ref ob), .val (.long (0 : Int64)), .second, .unset, .unset, .unset, .unset, .unset, .unset, .unset, .unset, .unset, .unset, .unset, .unset] []))
      refine Owes.go ?_ fun t₀ k₀ => XS.aload X42.here hx rfl (hb hby at_78) rfl rfl k₀
      show Owes _ _ _ _ (T42.setTop (mkF m 80 #[.val (.long q0), .second, .val (.long q1), .second, .val (.int p2), .val (.int (0 : Int32)), .val (.int (0 : Int32)), .val (.ref oa), .val (.ref ob), .val (.long (0 : Int64)), .second, .unset, .unset, .unset, .unset, .unset, .unset, .unset, .unset, .unset, .unset, .unset, .unset] [(.ref ob)]))
      refine Owes.go ?_ fun t₀ k₀ => X42.ldc2DoubleC hx hown (mv hZ (hw _ (List.mem_of_getElem? (i := 34) rfl))) (g := (mkF m 80 #[.val (.long q0), .second, .val (.long q1), .second, .val (.int p2), .val (.int (0 : Int32)), .val (.int (0 : Int32)), .val (.ref oa), .val (.ref ob), .val (.long (0 : Int64)), .second, .unset, .unset, .unset, .unset, .unset, .unset, .unset, .unset, .unset, .unset, .unset, .unset] [(.ref ob)])) rfl (hb hby at_80) _ k₀
      show Owes _ _ _ _ (T42.setTop (mkF m 83 #[.val (.long q0), .second, .val (.long q1), .second, .val (.int p2), .val (.int (0 : Int32)), .val (.int (0 : Int32)), .val (.ref oa), .val (.ref ob), .val (.long (0 : Int64)), .second, .unset, .unset, .unset, .unset, .unset, .unset, .unset, .unset, .unset, .unset, .unset, .unset] [(.double (4636737291354636288 : UInt64)), (.ref ob)]))
      refine Owes.callV X42 hx hZ hown (hw _ (List.mem_of_getElem? (i := 35) rfl)) (hw _ (List.mem_of_getElem? (i := 36) rfl)) (notFace_of_selects (args := #[]) (mvT hZ (hw _ (List.mem_of_getElem? (i := 38) rfl)))) (hw _ (List.mem_of_getElem? (i := 38) rfl)) (hw _ (List.mem_of_getElem? (i := 37) rfl)) (hw _ (List.mem_of_getElem? (i := 2) rfl)) (hw _ (List.mem_of_getElem? (i := 39) rfl)) (by decide) (a := ob) (argsL := [(.double (4636737291354636288 : UInt64))]) (rest := []) (rm_pc0 l Z a0 hw [] ob (4636737291354636288 : UInt64) T41.heap (0 : Int32) fp_c1_100 fp_c2_100 fp_n2_100 rbb (fun _ => (0 : Int64)) O41) e42 O41.1 (by rw [hml]; rfl) pd_7 rfl rfl (hb hby at_83) (by decide) (Nat.le_of_ble_eq_true rfl) (by decide) (by decide) ?_
      rintro T43 _ _ X43 ⟨rfl, rfl, e43⟩
      rw [List.append_nil] at X43
      show Owes _ _ _ _ (T43.setTop (mkF m 86 #[.val (.long q0), .second, .val (.long q1), .second, .val (.int p2), .val (.int (0 : Int32)), .val (.int (0 : Int32)), .val (.ref oa), .val (.ref ob), .val (.long (0 : Int64)), .second, .unset, .unset, .unset, .unset, .unset, .unset, .unset, .unset, .unset, .unset, .unset, .unset] [(.long (0 : Int64))]))
      refine Owes.go ?_ fun t₀ k₀ => XS.lstore X43.here hx rfl (hb hby at_86) rfl (l' := #[.val (.long q0), .second, .val (.long q1), .second, .val (.int p2), .val (.int (0 : Int32)), .val (.int (0 : Int32)), .val (.ref oa), .val (.ref ob), .val (.long (0 : Int64)), .second, .val (.long (0 : Int64)), .second, .unset, .unset, .unset, .unset, .unset, .unset, .unset, .unset, .unset, .unset]) rfl k₀
      show Owes _ _ _ _ (T43.setTop (mkF m 88 #[.val (.long q0), .second, .val (.long q1), .second, .val (.int p2), .val (.int (0 : Int32)), .val (.int (0 : Int32)), .val (.ref oa), .val (.ref ob), .val (.long (0 : Int64)), .second, .val (.long (0 : Int64)), .second, .unset, .unset, .unset, .unset, .unset, .unset, .unset, .unset, .unset, .unset] []))
      refine Owes.go ?_ fun t₀ k₀ => XS.aload X43.here hx rfl (hb hby at_88) rfl rfl k₀
      show Owes _ _ _ _ (T43.setTop (mkF m 90 #[.val (.long q0), .second, .val (.long q1), .second, .val (.int p2), .val (.int (0 : Int32)), .val (.int (0 : Int32)), .val (.ref oa), .val (.ref ob), .val (.long (0 : Int64)), .second, .val (.long (0 : Int64)), .second, .unset, .unset, .unset, .unset, .unset, .unset, .unset, .unset, .unset, .unset] [(.ref oa)]))
      refine Owes.go ?_ fun t₀ k₀ => XS.aload X43.here hx rfl (hb hby at_90) rfl rfl k₀
      show Owes _ _ _ _ (T43.setTop (mkF m 92 #[.val (.long q0), .second, .val (.long q1), .second, .val (.int p2), .val (.int (0 : Int32)), .val (.int (0 : Int32)), .val (.ref oa), .val (.ref ob), .val (.long (0 : Int64)), .second, .val (.long (0 : Int64)), .second, .unset, .unset, .unset, .unset, .unset, .unset, .unset, .unset, .unset, .unset] [(.ref ob), (.ref oa)]))
      refine Owes.callV X43 hx hZ hown (hw _ (List.mem_of_getElem? (i := 43) rfl)) (hw _ (List.mem_of_getElem? (i := 44) rfl)) (notFace_of_selects (args := #[]) (mvT hZ (hw _ (List.mem_of_getElem? (i := 46) rfl)))) (hw _ (List.mem_of_getElem? (i := 46) rfl)) (hw _ (List.mem_of_getElem? (i := 45) rfl)) (hw _ (List.mem_of_getElem? (i := 2) rfl)) (hw _ (List.mem_of_getElem? (i := 47) rfl)) (by decide) (a := oa) (argsL := [(.ref ob)]) (rest := []) (rm_add l Z a0 hw [] oa ob T41.heap raa rbb (fun _ => (0 : Int64)) (fun _ => (0 : Int64)) (fun _ => (0 : Int64)) (0 : Int64) (0 : Int64) (0 : Int64) rfl n0 gn_oa gn_raa (Ne.symm n_ra_ob) (Ne.symm n_ra_rb) (fun i _ => Int64.add_zero _) OA41 O41) e43 OA41.1 (by rw [hml]; rfl) pd_8 rfl rfl (hb hby at_92) (by decide) (Nat.le_of_ble_eq_true rfl) (by decide) (by decide) ?_
      rintro T44 v44 L44 X44 ⟨rfl, N44, K44, O44⟩
      have NF44 := Fr.app NF41 N44
      have KK44 := KK41.trans K44 (own_ge2 ge_raa ge_oa)
      have OB44 := (O41).keep K44 (own_ni2 (Ne.symm n_ra_ob) (Ne.symm n_oa_ob)) (own_ni2 (Ne.symm n_ra_rb) (Ne.symm n_oa_rb))
      show Owes _ _ _ _ (T44.setTop (mkF m 95 #[.val (.long q0), .second, .val (.long q1), .second, .val (.int p2), .val (.int (0 : Int32)), .val (.int (0 : Int32)), .val (.ref oa), .val (.ref ob), .val (.long (0 : Int64)), .second, .val (.long (0 : Int64)), .second, .unset, .unset, .unset, .unset, .unset, .unset, .unset, .unset, .unset, .unset] []))
      refine Owes.go ?_ fun t₀ k₀ => XS.aload X44.here hx rfl (hb hby at_95) rfl rfl k₀
      show Owes _ _ _ _ (T44.setTop (mkF m 97 #[.val (.long q0), .second, .val (.long q1), .second, .val (.int p2), .val (.int (0 : Int32)), .val (.int (0 : Int32)), .val (.ref oa), .val (.ref ob), .val (.long (0 : Int64)), .second, .val (.long (0 : Int64)), .second, .unset, .unset, .unset, .unset, .unset, .unset, .unset, .unset, .unset, .unset] [(.ref oa)]))
      refine Owes.go ?_ fun t₀ k₀ => X44.ldc2DoubleC hx hown (mv hZ (hw _ (List.mem_of_getElem? (i := 48) rfl))) (g := (mkF m 97 #[.val (.long q0), .second, .val (.long q1), .second, .val (.int p2), .val (.int (0 : Int32)), .val (.int (0 : Int32)), .val (.ref oa), .val (.ref ob), .val (.long (0 : Int64)), .second, .val (.long (0 : Int64)), .second, .unset, .unset, .unset, .unset, .unset, .unset, .unset, .unset, .unset, .unset] [(.ref oa)])) rfl (hb hby at_97) _ k₀
      show Owes _ _ _ _ (T44.setTop (mkF m 100 #[.val (.long q0), .second, .val (.long q1), .second, .val (.int p2), .val (.int (0 : Int32)), .val (.int (0 : Int32)), .val (.ref oa), .val (.ref ob), .val (.long (0 : Int64)), .second, .val (.long (0 : Int64)), .second, .unset, .unset, .unset, .unset, .unset, .unset, .unset, .unset, .unset, .unset] [(.double (4632233691727265792 : UInt64)), (.ref oa)]))
      refine Owes.callV X44 hx hZ hown (hw _ (List.mem_of_getElem? (i := 35) rfl)) (hw _ (List.mem_of_getElem? (i := 36) rfl)) (notFace_of_selects (args := #[]) (mvT hZ (hw _ (List.mem_of_getElem? (i := 38) rfl)))) (hw _ (List.mem_of_getElem? (i := 38) rfl)) (hw _ (List.mem_of_getElem? (i := 37) rfl)) (hw _ (List.mem_of_getElem? (i := 2) rfl)) (hw _ (List.mem_of_getElem? (i := 39) rfl)) (by decide) (a := oa) (argsL := [(.double (4632233691727265792 : UInt64))]) (rest := []) (rm_pc0 l Z a0 hw [] oa (4632233691727265792 : UInt64) T44.heap (-1 : Int32) fp_c1_50 fp_c2_50 fp_n2_50 raa (fun _ => (0 : Int64)) O44) rfl O44.1 (by rw [hml]; rfl) pd_7 rfl rfl (hb hby at_100) (by decide) (Nat.le_of_ble_eq_true rfl) (by decide) (by decide) ?_
      rintro T45 _ _ X45 ⟨rfl, rfl, e45⟩
      rw [List.append_nil] at X45
      show Owes _ _ _ _ (T45.setTop (mkF m 103 #[.val (.long q0), .second, .val (.long q1), .second, .val (.int p2), .val (.int (0 : Int32)), .val (.int (0 : Int32)), .val (.ref oa), .val (.ref ob), .val (.long (0 : Int64)), .second, .val (.long (0 : Int64)), .second, .unset, .unset, .unset, .unset, .unset, .unset, .unset, .unset, .unset, .unset] [(.long (0 : Int64))]))
      refine Owes.go ?_ fun t₀ k₀ => XS.lstore X45.here hx rfl (hb hby at_103) rfl (l' := #[.val (.long q0), .second, .val (.long q1), .second, .val (.int p2), .val (.int (0 : Int32)), .val (.int (0 : Int32)), .val (.ref oa), .val (.ref ob), .val (.long (0 : Int64)), .second, .val (.long (0 : Int64)), .second, .val (.long (0 : Int64)), .second, .unset, .unset, .unset, .unset, .unset, .unset, .unset, .unset]) rfl k₀
      show Owes _ _ _ _ (T45.setTop (mkF m 105 #[.val (.long q0), .second, .val (.long q1), .second, .val (.int p2), .val (.int (0 : Int32)), .val (.int (0 : Int32)), .val (.ref oa), .val (.ref ob), .val (.long (0 : Int64)), .second, .val (.long (0 : Int64)), .second, .val (.long (0 : Int64)), .second, .unset, .unset, .unset, .unset, .unset, .unset, .unset, .unset] []))
      refine Owes.go ?_ fun t₀ k₀ => XS.aload X45.here hx rfl (hb hby at_105) rfl rfl k₀
      show Owes _ _ _ _ (T45.setTop (mkF m 107 #[.val (.long q0), .second, .val (.long q1), .second, .val (.int p2), .val (.int (0 : Int32)), .val (.int (0 : Int32)), .val (.ref oa), .val (.ref ob), .val (.long (0 : Int64)), .second, .val (.long (0 : Int64)), .second, .val (.long (0 : Int64)), .second, .unset, .unset, .unset, .unset, .unset, .unset, .unset, .unset] [(.ref oa)]))
      refine Owes.go ?_ fun t₀ k₀ => X45.ldc2DoubleC hx hown (mv hZ (hw _ (List.mem_of_getElem? (i := 34) rfl))) (g := (mkF m 107 #[.val (.long q0), .second, .val (.long q1), .second, .val (.int p2), .val (.int (0 : Int32)), .val (.int (0 : Int32)), .val (.ref oa), .val (.ref ob), .val (.long (0 : Int64)), .second, .val (.long (0 : Int64)), .second, .val (.long (0 : Int64)), .second, .unset, .unset, .unset, .unset, .unset, .unset, .unset, .unset] [(.ref oa)])) rfl (hb hby at_107) _ k₀
      show Owes _ _ _ _ (T45.setTop (mkF m 110 #[.val (.long q0), .second, .val (.long q1), .second, .val (.int p2), .val (.int (0 : Int32)), .val (.int (0 : Int32)), .val (.ref oa), .val (.ref ob), .val (.long (0 : Int64)), .second, .val (.long (0 : Int64)), .second, .val (.long (0 : Int64)), .second, .unset, .unset, .unset, .unset, .unset, .unset, .unset, .unset] [(.double (4636737291354636288 : UInt64)), (.ref oa)]))
      refine Owes.callV X45 hx hZ hown (hw _ (List.mem_of_getElem? (i := 35) rfl)) (hw _ (List.mem_of_getElem? (i := 36) rfl)) (notFace_of_selects (args := #[]) (mvT hZ (hw _ (List.mem_of_getElem? (i := 38) rfl)))) (hw _ (List.mem_of_getElem? (i := 38) rfl)) (hw _ (List.mem_of_getElem? (i := 37) rfl)) (hw _ (List.mem_of_getElem? (i := 2) rfl)) (hw _ (List.mem_of_getElem? (i := 39) rfl)) (by decide) (a := oa) (argsL := [(.double (4636737291354636288 : UInt64))]) (rest := []) (rm_pc0 l Z a0 hw [] oa (4636737291354636288 : UInt64) T44.heap (0 : Int32) fp_c1_100 fp_c2_100 fp_n2_100 raa (fun _ => (0 : Int64)) O44) e45 O44.1 (by rw [hml]; rfl) pd_7 rfl rfl (hb hby at_110) (by decide) (Nat.le_of_ble_eq_true rfl) (by decide) (by decide) ?_
      rintro T46 _ _ X46 ⟨rfl, rfl, e46⟩
      rw [List.append_nil] at X46
      show Owes _ _ _ _ (T46.setTop (mkF m 113 #[.val (.long q0), .second, .val (.long q1), .second, .val (.int p2), .val (.int (0 : Int32)), .val (.int (0 : Int32)), .val (.ref oa), .val (.ref ob), .val (.long (0 : Int64)), .second, .val (.long (0 : Int64)), .second, .val (.long (0 : Int64)), .second, .unset, .unset, .unset, .unset, .unset, .unset, .unset, .unset] [(.long (0 : Int64))]))
      refine Owes.go ?_ fun t₀ k₀ => XS.lstore X46.here hx rfl (hb hby at_113) rfl (l' := #[.val (.long q0), .second, .val (.long q1), .second, .val (.int p2), .val (.int (0 : Int32)), .val (.int (0 : Int32)), .val (.ref oa), .val (.ref ob), .val (.long (0 : Int64)), .second, .val (.long (0 : Int64)), .second, .val (.long (0 : Int64)), .second, .val (.long (0 : Int64)), .second, .unset, .unset, .unset, .unset, .unset, .unset]) rfl k₀
      show Owes _ _ _ _ (T46.setTop (mkF m 115 #[.val (.long q0), .second, .val (.long q1), .second, .val (.int p2), .val (.int (0 : Int32)), .val (.int (0 : Int32)), .val (.ref oa), .val (.ref ob), .val (.long (0 : Int64)), .second, .val (.long (0 : Int64)), .second, .val (.long (0 : Int64)), .second, .val (.long (0 : Int64)), .second, .unset, .unset, .unset, .unset, .unset, .unset] []))
      refine Owes.go ?_ fun t₀ k₀ => XS.aload X46.here hx rfl (hb hby at_115) rfl rfl k₀
      show Owes _ _ _ _ (T46.setTop (mkF m 117 #[.val (.long q0), .second, .val (.long q1), .second, .val (.int p2), .val (.int (0 : Int32)), .val (.int (0 : Int32)), .val (.ref oa), .val (.ref ob), .val (.long (0 : Int64)), .second, .val (.long (0 : Int64)), .second, .val (.long (0 : Int64)), .second, .val (.long (0 : Int64)), .second, .unset, .unset, .unset, .unset, .unset, .unset] [(.ref ob)]))
      refine Owes.go ?_ fun t₀ k₀ => X46.ldc2DoubleC hx hown (mv hZ (hw _ (List.mem_of_getElem? (i := 34) rfl))) (g := (mkF m 117 #[.val (.long q0), .second, .val (.long q1), .second, .val (.int p2), .val (.int (0 : Int32)), .val (.int (0 : Int32)), .val (.ref oa), .val (.ref ob), .val (.long (0 : Int64)), .second, .val (.long (0 : Int64)), .second, .val (.long (0 : Int64)), .second, .val (.long (0 : Int64)), .second, .unset, .unset, .unset, .unset, .unset, .unset] [(.ref ob)])) rfl (hb hby at_117) _ k₀
      show Owes _ _ _ _ (T46.setTop (mkF m 120 #[.val (.long q0), .second, .val (.long q1), .second, .val (.int p2), .val (.int (0 : Int32)), .val (.int (0 : Int32)), .val (.ref oa), .val (.ref ob), .val (.long (0 : Int64)), .second, .val (.long (0 : Int64)), .second, .val (.long (0 : Int64)), .second, .val (.long (0 : Int64)), .second, .unset, .unset, .unset, .unset, .unset, .unset] [(.double (4636737291354636288 : UInt64)), (.ref ob)]))
      refine Owes.callV X46 hx hZ hown (hw _ (List.mem_of_getElem? (i := 35) rfl)) (hw _ (List.mem_of_getElem? (i := 36) rfl)) (notFace_of_selects (args := #[]) (mvT hZ (hw _ (List.mem_of_getElem? (i := 38) rfl)))) (hw _ (List.mem_of_getElem? (i := 38) rfl)) (hw _ (List.mem_of_getElem? (i := 37) rfl)) (hw _ (List.mem_of_getElem? (i := 2) rfl)) (hw _ (List.mem_of_getElem? (i := 39) rfl)) (by decide) (a := ob) (argsL := [(.double (4636737291354636288 : UInt64))]) (rest := []) (rm_pc0 l Z a0 hw [] ob (4636737291354636288 : UInt64) T44.heap (0 : Int32) fp_c1_100 fp_c2_100 fp_n2_100 rbb (fun _ => (0 : Int64)) OB44) e46 OB44.1 (by rw [hml]; rfl) pd_7 rfl rfl (hb hby at_120) (by decide) (Nat.le_of_ble_eq_true rfl) (by decide) (by decide) ?_
      rintro T47 _ _ X47 ⟨rfl, rfl, e47⟩
      rw [List.append_nil] at X47
      show Owes _ _ _ _ (T47.setTop (mkF m 123 #[.val (.long q0), .second, .val (.long q1), .second, .val (.int p2), .val (.int (0 : Int32)), .val (.int (0 : Int32)), .val (.ref oa), .val (.ref ob), .val (.long (0 : Int64)), .second, .val (.long (0 : Int64)), .second, .val (.long (0 : Int64)), .second, .val (.long (0 : Int64)), .second, .unset, .unset, .unset, .unset, .unset, .unset] [(.long (0 : Int64))]))
      refine Owes.go ?_ fun t₀ k₀ => XS.lstore X47.here hx rfl (hb hby at_123) rfl (l' := #[.val (.long q0), .second, .val (.long q1), .second, .val (.int p2), .val (.int (0 : Int32)), .val (.int (0 : Int32)), .val (.ref oa), .val (.ref ob), .val (.long (0 : Int64)), .second, .val (.long (0 : Int64)), .second, .val (.long (0 : Int64)), .second, .val (.long (0 : Int64)), .second, .val (.long (0 : Int64)), .second, .unset, .unset, .unset, .unset]) rfl k₀
      show Owes _ _ _ _ (T47.setTop (mkF m 125 #[.val (.long q0), .second, .val (.long q1), .second, .val (.int p2), .val (.int (0 : Int32)), .val (.int (0 : Int32)), .val (.ref oa), .val (.ref ob), .val (.long (0 : Int64)), .second, .val (.long (0 : Int64)), .second, .val (.long (0 : Int64)), .second, .val (.long (0 : Int64)), .second, .val (.long (0 : Int64)), .second, .unset, .unset, .unset, .unset] []))
      refine Owes.go ?_ fun t₀ k₀ => XS.iload X47.here hx rfl (hb hby at_125) rfl k₀
      show Owes _ _ _ _ (T47.setTop (mkF m 127 #[.val (.long q0), .second, .val (.long q1), .second, .val (.int p2), .val (.int (0 : Int32)), .val (.int (0 : Int32)), .val (.ref oa), .val (.ref ob), .val (.long (0 : Int64)), .second, .val (.long (0 : Int64)), .second, .val (.long (0 : Int64)), .second, .val (.long (0 : Int64)), .second, .val (.long (0 : Int64)), .second, .unset, .unset, .unset, .unset] [(.int (0 : Int32))]))
      refine Owes.go ?_ fun t₀ k₀ => XS.ifYes X47.here hx rfl (pc0 := 127) (pc' := 156) rfl (hb hby at_127) rfl ((if0 _ _).trans (teq (by decide : ((0 : Int32) = (0 : Int32)))).1) (by decide) (by decide) k₀
      show Owes _ _ _ _ (T47.setTop (mkF m 156 #[.val (.long q0), .second, .val (.long q1), .second, .val (.int p2), .val (.int (0 : Int32)), .val (.int (0 : Int32)), .val (.ref oa), .val (.ref ob), .val (.long (0 : Int64)), .second, .val (.long (0 : Int64)), .second, .val (.long (0 : Int64)), .second, .val (.long (0 : Int64)), .second, .val (.long (0 : Int64)), .second, .unset, .unset, .unset, .unset] []))
      refine Owes.go ?_ fun t₀ k₀ => XS.iload X47.here hx rfl (hb hby at_156) rfl k₀
      show Owes _ _ _ _ (T47.setTop (mkF m 158 #[.val (.long q0), .second, .val (.long q1), .second, .val (.int p2), .val (.int (0 : Int32)), .val (.int (0 : Int32)), .val (.ref oa), .val (.ref ob), .val (.long (0 : Int64)), .second, .val (.long (0 : Int64)), .second, .val (.long (0 : Int64)), .second, .val (.long (0 : Int64)), .second, .val (.long (0 : Int64)), .second, .unset, .unset, .unset, .unset] [(.int (0 : Int32))]))
      refine Owes.go ?_ fun t₀ k₀ => XS.ifYes X47.here hx rfl (pc0 := 158) (pc' := 172) rfl (hb hby at_158) rfl ((if0 _ _).trans (teq (by decide : ((0 : Int32) = (0 : Int32)))).1) (by decide) (by decide) k₀
      show Owes _ _ _ _ (T47.setTop (mkF m 172 #[.val (.long q0), .second, .val (.long q1), .second, .val (.int p2), .val (.int (0 : Int32)), .val (.int (0 : Int32)), .val (.ref oa), .val (.ref ob), .val (.long (0 : Int64)), .second, .val (.long (0 : Int64)), .second, .val (.long (0 : Int64)), .second, .val (.long (0 : Int64)), .second, .val (.long (0 : Int64)), .second, .unset, .unset, .unset, .unset] []))
      refine Owes.go ?_ fun t₀ k₀ => XS.iload X47.here hx rfl (hb hby at_172) rfl k₀
      show Owes _ _ _ _ (T47.setTop (mkF m 174 #[.val (.long q0), .second, .val (.long q1), .second, .val (.int p2), .val (.int (0 : Int32)), .val (.int (0 : Int32)), .val (.ref oa), .val (.ref ob), .val (.long (0 : Int64)), .second, .val (.long (0 : Int64)), .second, .val (.long (0 : Int64)), .second, .val (.long (0 : Int64)), .second, .val (.long (0 : Int64)), .second, .unset, .unset, .unset, .unset] [(.int (0 : Int32))]))
      refine Owes.go ?_ fun t₀ k₀ => XS.ifYes X47.here hx rfl (pc0 := 174) (pc' := 188) rfl (hb hby at_174) rfl ((if0 _ _).trans (teq (by decide : ((0 : Int32) = (0 : Int32)))).1) (by decide) (by decide) k₀
      show Owes _ _ _ _ (T47.setTop (mkF m 188 #[.val (.long q0), .second, .val (.long q1), .second, .val (.int p2), .val (.int (0 : Int32)), .val (.int (0 : Int32)), .val (.ref oa), .val (.ref ob), .val (.long (0 : Int64)), .second, .val (.long (0 : Int64)), .second, .val (.long (0 : Int64)), .second, .val (.long (0 : Int64)), .second, .val (.long (0 : Int64)), .second, .unset, .unset, .unset, .unset] []))
      refine Owes.go ?_ fun t₀ k₀ => XS.lconst X47.here hx rfl (hb hby at_188) k₀
      show Owes _ _ _ _ (T47.setTop (mkF m 189 #[.val (.long q0), .second, .val (.long q1), .second, .val (.int p2), .val (.int (0 : Int32)), .val (.int (0 : Int32)), .val (.ref oa), .val (.ref ob), .val (.long (0 : Int64)), .second, .val (.long (0 : Int64)), .second, .val (.long (0 : Int64)), .second, .val (.long (0 : Int64)), .second, .val (.long (0 : Int64)), .second, .unset, .unset, .unset, .unset] [(.long (0 : Int64))]))
      refine Owes.go ?_ fun t₀ k₀ => XS.lstore X47.here hx rfl (hb hby at_189) rfl (l' := #[.val (.long q0), .second, .val (.long q1), .second, .val (.int p2), .val (.int (0 : Int32)), .val (.int (0 : Int32)), .val (.ref oa), .val (.ref ob), .val (.long (0 : Int64)), .second, .val (.long (0 : Int64)), .second, .val (.long (0 : Int64)), .second, .val (.long (0 : Int64)), .second, .val (.long (0 : Int64)), .second, .val (.long (0 : Int64)), .second, .unset, .unset]) rfl k₀
      show Owes _ _ _ _ (T47.setTop (mkF m 191 #[.val (.long q0), .second, .val (.long q1), .second, .val (.int p2), .val (.int (0 : Int32)), .val (.int (0 : Int32)), .val (.ref oa), .val (.ref ob), .val (.long (0 : Int64)), .second, .val (.long (0 : Int64)), .second, .val (.long (0 : Int64)), .second, .val (.long (0 : Int64)), .second, .val (.long (0 : Int64)), .second, .val (.long (0 : Int64)), .second, .unset, .unset] []))
      refine Owes.go ?_ fun t₀ k₀ => XS.lconst X47.here hx rfl (hb hby at_191) k₀
      show Owes _ _ _ _ (T47.setTop (mkF m 192 #[.val (.long q0), .second, .val (.long q1), .second, .val (.int p2), .val (.int (0 : Int32)), .val (.int (0 : Int32)), .val (.ref oa), .val (.ref ob), .val (.long (0 : Int64)), .second, .val (.long (0 : Int64)), .second, .val (.long (0 : Int64)), .second, .val (.long (0 : Int64)), .second, .val (.long (0 : Int64)), .second, .val (.long (0 : Int64)), .second, .unset, .unset] [(.long (0 : Int64))]))
      refine Owes.go ?_ fun t₀ k₀ => XS.lstore X47.here hx rfl (hb hby at_192) rfl (l' := #[.val (.long q0), .second, .val (.long q1), .second, .val (.int p2), .val (.int (0 : Int32)), .val (.int (0 : Int32)), .val (.ref oa), .val (.ref ob), .val (.long (0 : Int64)), .second, .val (.long (0 : Int64)), .second, .val (.long (0 : Int64)), .second, .val (.long (0 : Int64)), .second, .val (.long (0 : Int64)), .second, .val (.long (0 : Int64)), .second, .val (.long (0 : Int64)), .second]) rfl k₀
      show Owes _ _ _ _ (T47.setTop (mkF m 194 #[.val (.long q0), .second, .val (.long q1), .second, .val (.int p2), .val (.int (0 : Int32)), .val (.int (0 : Int32)), .val (.ref oa), .val (.ref ob), .val (.long (0 : Int64)), .second, .val (.long (0 : Int64)), .second, .val (.long (0 : Int64)), .second, .val (.long (0 : Int64)), .second, .val (.long (0 : Int64)), .second, .val (.long (0 : Int64)), .second, .val (.long (0 : Int64)), .second] []))
      refine Owes.go ?_ fun t₀ k₀ => XS.lload X47.here hx rfl (hb hby at_194) rfl k₀
      show Owes _ _ _ _ (T47.setTop (mkF m 196 #[.val (.long q0), .second, .val (.long q1), .second, .val (.int p2), .val (.int (0 : Int32)), .val (.int (0 : Int32)), .val (.ref oa), .val (.ref ob), .val (.long (0 : Int64)), .second, .val (.long (0 : Int64)), .second, .val (.long (0 : Int64)), .second, .val (.long (0 : Int64)), .second, .val (.long (0 : Int64)), .second, .val (.long (0 : Int64)), .second, .val (.long (0 : Int64)), .second] [(.long (0 : Int64))]))
      refine Owes.go ?_ fun t₀ k₀ => XS.lload X47.here hx rfl (hb hby at_196) rfl k₀
      show Owes _ _ _ _ (T47.setTop (mkF m 198 #[.val (.long q0), .second, .val (.long q1), .second, .val (.int p2), .val (.int (0 : Int32)), .val (.int (0 : Int32)), .val (.ref oa), .val (.ref ob), .val (.long (0 : Int64)), .second, .val (.long (0 : Int64)), .second, .val (.long (0 : Int64)), .second, .val (.long (0 : Int64)), .second, .val (.long (0 : Int64)), .second, .val (.long (0 : Int64)), .second, .val (.long (0 : Int64)), .second] [(.long (0 : Int64)), (.long (0 : Int64))]))
      refine Owes.go ?_ fun t₀ k₀ => XS.lcmp X47.here hx rfl (hb hby at_198) rfl k₀
      show Owes _ _ _ _ (T47.setTop (mkF m 199 #[.val (.long q0), .second, .val (.long q1), .second, .val (.int p2), .val (.int (0 : Int32)), .val (.int (0 : Int32)), .val (.ref oa), .val (.ref ob), .val (.long (0 : Int64)), .second, .val (.long (0 : Int64)), .second, .val (.long (0 : Int64)), .second, .val (.long (0 : Int64)), .second, .val (.long (0 : Int64)), .second, .val (.long (0 : Int64)), .second, .val (.long (0 : Int64)), .second] [(.int (lcmpW (0 : Int64) (0 : Int64)))]))
      refine Owes.go ?_ fun t₀ k₀ => XS.ifNo X47.here hx rfl (hb hby at_199) rfl ((if0 _ _).trans (teq ((lw_eq _ _).mpr (rfl))).2) k₀
      show Owes _ _ _ _ (T47.setTop (mkF m 202 #[.val (.long q0), .second, .val (.long q1), .second, .val (.int p2), .val (.int (0 : Int32)), .val (.int (0 : Int32)), .val (.ref oa), .val (.ref ob), .val (.long (0 : Int64)), .second, .val (.long (0 : Int64)), .second, .val (.long (0 : Int64)), .second, .val (.long (0 : Int64)), .second, .val (.long (0 : Int64)), .second, .val (.long (0 : Int64)), .second, .val (.long (0 : Int64)), .second] []))
      refine Owes.go ?_ fun t₀ k₀ => XS.lload X47.here hx rfl (hb hby at_202) rfl k₀
      show Owes _ _ _ _ (T47.setTop (mkF m 204 #[.val (.long q0), .second, .val (.long q1), .second, .val (.int p2), .val (.int (0 : Int32)), .val (.int (0 : Int32)), .val (.ref oa), .val (.ref ob), .val (.long (0 : Int64)), .second, .val (.long (0 : Int64)), .second, .val (.long (0 : Int64)), .second, .val (.long (0 : Int64)), .second, .val (.long (0 : Int64)), .second, .val (.long (0 : Int64)), .second, .val (.long (0 : Int64)), .second] [(.long (0 : Int64))]))
      refine Owes.go ?_ fun t₀ k₀ => XS.lload X47.here hx rfl (hb hby at_204) rfl k₀
      show Owes _ _ _ _ (T47.setTop (mkF m 206 #[.val (.long q0), .second, .val (.long q1), .second, .val (.int p2), .val (.int (0 : Int32)), .val (.int (0 : Int32)), .val (.ref oa), .val (.ref ob), .val (.long (0 : Int64)), .second, .val (.long (0 : Int64)), .second, .val (.long (0 : Int64)), .second, .val (.long (0 : Int64)), .second, .val (.long (0 : Int64)), .second, .val (.long (0 : Int64)), .second, .val (.long (0 : Int64)), .second] [(.long (0 : Int64)), (.long (0 : Int64))]))
      refine Owes.go ?_ fun t₀ k₀ => XS.lcmp X47.here hx rfl (hb hby at_206) rfl k₀
      show Owes _ _ _ _ (T47.setTop (mkF m 207 #[.val (.long q0), .second, .val (.long q1), .second, .val (.int p2), .val (.int (0 : Int32)), .val (.int (0 : Int32)), .val (.ref oa), .val (.ref ob), .val (.long (0 : Int64)), .second, .val (.long (0 : Int64)), .second, .val (.long (0 : Int64)), .second, .val (.long (0 : Int64)), .second, .val (.long (0 : Int64)), .second, .val (.long (0 : Int64)), .second, .val (.long (0 : Int64)), .second] [(.int (lcmpW (0 : Int64) (0 : Int64)))]))
      refine Owes.go ?_ fun t₀ k₀ => XS.ifNo X47.here hx rfl (hb hby at_207) rfl ((if0 _ _).trans (teq ((lw_eq _ _).mpr (rfl))).2) k₀
      show Owes _ _ _ _ (T47.setTop (mkF m 210 #[.val (.long q0), .second, .val (.long q1), .second, .val (.int p2), .val (.int (0 : Int32)), .val (.int (0 : Int32)), .val (.ref oa), .val (.ref ob), .val (.long (0 : Int64)), .second, .val (.long (0 : Int64)), .second, .val (.long (0 : Int64)), .second, .val (.long (0 : Int64)), .second, .val (.long (0 : Int64)), .second, .val (.long (0 : Int64)), .second, .val (.long (0 : Int64)), .second] []))
      refine Owes.go ?_ fun t₀ k₀ => XS.lload X47.here hx rfl (hb hby at_210) rfl k₀
      show Owes _ _ _ _ (T47.setTop (mkF m 212 #[.val (.long q0), .second, .val (.long q1), .second, .val (.int p2), .val (.int (0 : Int32)), .val (.int (0 : Int32)), .val (.ref oa), .val (.ref ob), .val (.long (0 : Int64)), .second, .val (.long (0 : Int64)), .second, .val (.long (0 : Int64)), .second, .val (.long (0 : Int64)), .second, .val (.long (0 : Int64)), .second, .val (.long (0 : Int64)), .second, .val (.long (0 : Int64)), .second] [(.long (0 : Int64))]))
      refine Owes.go ?_ fun t₀ k₀ => XS.lload X47.here hx rfl (hb hby at_212) rfl k₀
      show Owes _ _ _ _ (T47.setTop (mkF m 214 #[.val (.long q0), .second, .val (.long q1), .second, .val (.int p2), .val (.int (0 : Int32)), .val (.int (0 : Int32)), .val (.ref oa), .val (.ref ob), .val (.long (0 : Int64)), .second, .val (.long (0 : Int64)), .second, .val (.long (0 : Int64)), .second, .val (.long (0 : Int64)), .second, .val (.long (0 : Int64)), .second, .val (.long (0 : Int64)), .second, .val (.long (0 : Int64)), .second] [(.long (0 : Int64)), (.long (0 : Int64))]))
      refine Owes.go ?_ fun t₀ k₀ => XS.lcmp X47.here hx rfl (hb hby at_214) rfl k₀
      show Owes _ _ _ _ (T47.setTop (mkF m 215 #[.val (.long q0), .second, .val (.long q1), .second, .val (.int p2), .val (.int (0 : Int32)), .val (.int (0 : Int32)), .val (.ref oa), .val (.ref ob), .val (.long (0 : Int64)), .second, .val (.long (0 : Int64)), .second, .val (.long (0 : Int64)), .second, .val (.long (0 : Int64)), .second, .val (.long (0 : Int64)), .second, .val (.long (0 : Int64)), .second, .val (.long (0 : Int64)), .second] [(.int (lcmpW (0 : Int64) (0 : Int64)))]))
      refine Owes.go ?_ fun t₀ k₀ => XS.ifNo X47.here hx rfl (hb hby at_215) rfl ((if0 _ _).trans (teq ((lw_eq _ _).mpr (rfl))).2) k₀
      show Owes _ _ _ _ (T47.setTop (mkF m 218 #[.val (.long q0), .second, .val (.long q1), .second, .val (.int p2), .val (.int (0 : Int32)), .val (.int (0 : Int32)), .val (.ref oa), .val (.ref ob), .val (.long (0 : Int64)), .second, .val (.long (0 : Int64)), .second, .val (.long (0 : Int64)), .second, .val (.long (0 : Int64)), .second, .val (.long (0 : Int64)), .second, .val (.long (0 : Int64)), .second, .val (.long (0 : Int64)), .second] []))
      refine Owes.go ?_ fun t₀ k₀ => XS.iconst X47.here hx rfl (hb hby at_218) k₀
      show Owes _ _ _ _ (T47.setTop (mkF m 219 #[.val (.long q0), .second, .val (.long q1), .second, .val (.int p2), .val (.int (0 : Int32)), .val (.int (0 : Int32)), .val (.ref oa), .val (.ref ob), .val (.long (0 : Int64)), .second, .val (.long (0 : Int64)), .second, .val (.long (0 : Int64)), .second, .val (.long (0 : Int64)), .second, .val (.long (0 : Int64)), .second, .val (.long (0 : Int64)), .second, .val (.long (0 : Int64)), .second] [(.int (1 : Int32))]))
      refine Owes.go ?_ fun t₀ k₀ => XS.goto X47.here hx rfl (pc0 := 219) (pc' := 223) rfl (hb hby at_219) (by decide) (by decide) k₀
      show Owes _ _ _ _ (T47.setTop (mkF m 223 #[.val (.long q0), .second, .val (.long q1), .second, .val (.int p2), .val (.int (0 : Int32)), .val (.int (0 : Int32)), .val (.ref oa), .val (.ref ob), .val (.long (0 : Int64)), .second, .val (.long (0 : Int64)), .second, .val (.long (0 : Int64)), .second, .val (.long (0 : Int64)), .second, .val (.long (0 : Int64)), .second, .val (.long (0 : Int64)), .second, .val (.long (0 : Int64)), .second] [(.int (1 : Int32))]))
      exact Owes.retN X47 hx hlk hret (by simp) (hb hby at_223) (by decide) (by decide) ⟨rfl, NF44⟩
    · skip
      refine Owes.go ?_ fun t₀ k₀ => XS.ifNo X0.here hx rfl (hb hby at_18) rfl ((if0 _ _).trans (feq hc2).1) k₀
      show Owes _ _ _ _ (s₁.setTop (mkF m 21 #[.val (.long q0), .second, .val (.long q1), .second, .val (.int p2), .val (.int (0 : Int32)), .unset, .unset, .unset, .unset, .unset, .unset, .unset, .unset, .unset, .unset, .unset, .unset, .unset, .unset, .unset, .unset, .unset] []))
      refine Owes.go ?_ fun t₀ k₀ => XS.iconst X0.here hx rfl (hb hby at_21) k₀
      show Owes _ _ _ _ (s₁.setTop (mkF m 22 #[.val (.long q0), .second, .val (.long q1), .second, .val (.int p2), .val (.int (0 : Int32)), .unset, .unset, .unset, .unset, .unset, .unset, .unset, .unset, .unset, .unset, .unset, .unset, .unset, .unset, .unset, .unset, .unset] [(.int (1 : Int32))]))
      refine Owes.go ?_ fun t₀ k₀ => XS.goto X0.here hx rfl (pc0 := 22) (pc' := 26) rfl (hb hby at_22) (by decide) (by decide) k₀
      show Owes _ _ _ _ (s₁.setTop (mkF m 26 #[.val (.long q0), .second, .val (.long q1), .second, .val (.int p2), .val (.int (0 : Int32)), .unset, .unset, .unset, .unset, .unset, .unset, .unset, .unset, .unset, .unset, .unset, .unset, .unset, .unset, .unset, .unset, .unset] [(.int (1 : Int32))]))
      refine Owes.go ?_ fun t₀ k₀ => XS.istore X0.here hx rfl (hb hby at_26) rfl (l' := #[.val (.long q0), .second, .val (.long q1), .second, .val (.int p2), .val (.int (0 : Int32)), .val (.int (1 : Int32)), .unset, .unset, .unset, .unset, .unset, .unset, .unset, .unset, .unset, .unset, .unset, .unset, .unset, .unset, .unset, .unset]) rfl k₀
      show Owes _ _ _ _ (s₁.setTop (mkF m 28 #[.val (.long q0), .second, .val (.long q1), .second, .val (.int p2), .val (.int (0 : Int32)), .val (.int (1 : Int32)), .unset, .unset, .unset, .unset, .unset, .unset, .unset, .unset, .unset, .unset, .unset, .unset, .unset, .unset, .unset, .unset] []))
      refine Owes.newO X0 hx hZ hown (hw _ (List.mem_of_getElem? (i := 0) rfl)) (hw _ (List.mem_of_getElem? (i := 1) rfl)) (hw _ (List.mem_of_getElem? (i := 2) rfl)) e0 (hb hby at_28) (by decide) (by decide) ?_
      intro T48 h48 X48 e48 E48 A48 D48
      obtain ⟨oa, goa⟩ : ∃ z, z = h0.size := ⟨_, rfl⟩
      rw [← goa] at A48 ⊢
      have ge_oa : h0.size ≤ oa := by rw [goa]; exact K0.1
      have gn_oa : n0 ≤ oa := Nat.le_trans Z0 ge_oa
      have K_48 := K0.ext E48
      have ST_48 := ST0.ext E48
      have F_oa_counts_48 : Fld Z h48 oa "com/example/holdfast/holdfast/bench/LatencyHistogram" "counts" "[J" .null := by rw [goa]; exact D48 (Or.inr (hw _ (List.mem_of_getElem? (i := 33) rfl))) (ty := (.array .long)) (by decide)
      have F_oa_total_48 : Fld Z h48 oa "com/example/holdfast/holdfast/bench/LatencyHistogram" "total" "J" (.long (0 : Int64)) := by rw [goa]; exact D48 (Or.inl (hw _ (List.mem_of_getElem? (i := 42) rfl))) (ty := .long) (by decide)
      show Owes _ _ _ _ (T48.setTop (mkF m 31 #[.val (.long q0), .second, .val (.long q1), .second, .val (.int p2), .val (.int (0 : Int32)), .val (.int (1 : Int32)), .unset, .unset, .unset, .unset, .unset, .unset, .unset, .unset, .unset, .unset, .unset, .unset, .unset, .unset, .unset, .unset] [(.ref oa)]))
      refine Owes.go ?_ fun t₀ k₀ => XS.dup X48.here hx rfl (hb hby at_31) rfl rfl k₀
      show Owes _ _ _ _ (T48.setTop (mkF m 32 #[.val (.long q0), .second, .val (.long q1), .second, .val (.int p2), .val (.int (0 : Int32)), .val (.int (1 : Int32)), .unset, .unset, .unset, .unset, .unset, .unset, .unset, .unset, .unset, .unset, .unset, .unset, .unset, .unset, .unset, .unset] [(.ref oa), (.ref oa)]))
      refine Owes.callC X48 hx hZ rfl hown (hw _ (List.mem_of_getElem? (i := 3) rfl)) (hw _ (List.mem_of_getElem? (i := 4) rfl)) (hw _ (List.mem_of_getElem? (i := 2) rfl)) (hw _ (List.mem_of_getElem? (i := 5) rfl)) (by decide) (a := oa) (argsL := []) (rest := [(.ref oa)]) (rm_init l Z a0 hw [] oa h48 n0 (Nat.le_trans Z0 K_48.1) gn_oa A48 F_oa_counts_48 F_oa_total_48 (Sta.keep0 SB K_48)) e48 (by rw [hml]; rfl) pd_6 rfl rfl (hb hby at_32) (by decide) (Nat.le_of_ble_eq_true rfl) (by decide) (by decide) ?_
      rintro T49 v49 L49 X49 ⟨rfl, N49, K49, raa, hr49, O49⟩
      have ge_raa : h0.size ≤ raa := Nat.le_trans K_48.1 hr49
      have gn_raa : n0 ≤ raa := Nat.le_trans Z0 ge_raa
      have NF49 := Fr.app N0 N49
      have KK49 := K_48.trans K49 (own_ge1 ge_oa)
      show Owes _ _ _ _ (T49.setTop (mkF m 35 #[.val (.long q0), .second, .val (.long q1), .second, .val (.int p2), .val (.int (0 : Int32)), .val (.int (1 : Int32)), .unset, .unset, .unset, .unset, .unset, .unset, .unset, .unset, .unset, .unset, .unset, .unset, .unset, .unset, .unset, .unset] [(.ref oa)]))
      refine Owes.go ?_ fun t₀ k₀ => XS.astore X49.here hx rfl (hb hby at_35) rfl rfl (l' := #[.val (.long q0), .second, .val (.long q1), .second, .val (.int p2), .val (.int (0 : Int32)), .val (.int (1 : Int32)), .val (.ref oa), .unset, .unset, .unset, .unset, .unset, .unset, .unset, .unset, .unset, .unset, .unset, .unset, .unset, .unset, .unset]) rfl k₀
      show Owes _ _ _ _ (T49.setTop (mkF m 37 #[.val (.long q0), .second, .val (.long q1), .second, .val (.int p2), .val (.int (0 : Int32)), .val (.int (1 : Int32)), .val (.ref oa), .unset, .unset, .unset, .unset, .unset, .unset, .unset, .unset, .unset, .unset, .unset, .unset, .unset, .unset, .unset] []))
      refine Owes.newO X49 hx hZ hown (hw _ (List.mem_of_getElem? (i := 0) rfl)) (hw _ (List.mem_of_getElem? (i := 1) rfl)) (hw _ (List.mem_of_getElem? (i := 2) rfl)) rfl (hb hby at_37) (by decide) (by decide) ?_
      intro T50 h50 X50 e50 E50 A50 D50
      obtain ⟨ob, gob⟩ : ∃ z, z = T49.heap.size := ⟨_, rfl⟩
      rw [← gob] at A50 ⊢
      have ge_ob : h0.size ≤ ob := by rw [gob]; exact KK49.1
      have gn_ob : n0 ≤ ob := Nat.le_trans Z0 ge_ob
      have K_50 := KK49.ext E50
      have ST_50 := (StK.of_keep (Z := Z) KK49).ext E50
      have F_ob_counts_50 : Fld Z h50 ob "com/example/holdfast/holdfast/bench/LatencyHistogram" "counts" "[J" .null := by rw [gob]; exact D50 (Or.inr (hw _ (List.mem_of_getElem? (i := 33) rfl))) (ty := (.array .long)) (by decide)
      have F_ob_total_50 : Fld Z h50 ob "com/example/holdfast/holdfast/bench/LatencyHistogram" "total" "J" (.long (0 : Int64)) := by rw [gob]; exact D50 (Or.inl (hw _ (List.mem_of_getElem? (i := 42) rfl))) (ty := .long) (by decide)
      have n_oa_ob : oa ≠ ob := Nat.ne_of_lt (by rw [gob]; exact (O49).1.lt)
      have OA50 := (O49).ext E50
      show Owes _ _ _ _ (T50.setTop (mkF m 40 #[.val (.long q0), .second, .val (.long q1), .second, .val (.int p2), .val (.int (0 : Int32)), .val (.int (1 : Int32)), .val (.ref oa), .unset, .unset, .unset, .unset, .unset, .unset, .unset, .unset, .unset, .unset, .unset, .unset, .unset, .unset, .unset] [(.ref ob)]))
      refine Owes.go ?_ fun t₀ k₀ => XS.dup X50.here hx rfl (hb hby at_40) rfl rfl k₀
      show Owes _ _ _ _ (T50.setTop (mkF m 41 #[.val (.long q0), .second, .val (.long q1), .second, .val (.int p2), .val (.int (0 : Int32)), .val (.int (1 : Int32)), .val (.ref oa), .unset, .unset, .unset, .unset, .unset, .unset, .unset, .unset, .unset, .unset, .unset, .unset, .unset, .unset, .unset] [(.ref ob), (.ref ob)]))
      refine Owes.callC X50 hx hZ rfl hown (hw _ (List.mem_of_getElem? (i := 3) rfl)) (hw _ (List.mem_of_getElem? (i := 4) rfl)) (hw _ (List.mem_of_getElem? (i := 2) rfl)) (hw _ (List.mem_of_getElem? (i := 5) rfl)) (by decide) (a := ob) (argsL := []) (rest := [(.ref ob)]) (rm_init l Z a0 hw [] ob h50 n0 (Nat.le_trans Z0 K_50.1) gn_ob A50 F_ob_counts_50 F_ob_total_50 (Sta.keep0 SB K_50)) e50 (by rw [hml]; rfl) pd_6 rfl rfl (hb hby at_41) (by decide) (Nat.le_of_ble_eq_true rfl) (by decide) (by decide) ?_
      rintro T51 v51 L51 X51 ⟨rfl, N51, K51, rbb, hr51, O51⟩
      have ge_rbb : h0.size ≤ rbb := Nat.le_trans K_50.1 hr51
      have gn_rbb : n0 ≤ rbb := Nat.le_trans Z0 ge_rbb
      have NF51 := Fr.app NF49 N51
      have KK51 := K_50.trans K51 (own_ge1 ge_ob)
      have n_ra_ob : raa ≠ ob := Ne.symm (GA.ne_obj A50 wi (OA50).2.2.2)
      have n_ra_rb : raa ≠ rbb := Nat.ne_of_lt (Nat.lt_of_lt_of_le (OA50).2.2.2.lt hr51)
      have OA51 := (OA50).keep K51 (own_ni1 n_oa_ob) (own_ni1 n_ra_ob)
      have n_oa_rb : oa ≠ rbb := GA.ne_obj (OA51).1 wi (O51).2.2.2
      have n_oa_ra := (OA51).ne wi
      have n_ob_rb := (O51).ne wi
      show Owes _ _ _ _ (T51.setTop (mkF m 44 #[.val (.long q0), .second, .val (.long q1), .second, .val (.int p2), .val (.int (0 : Int32)), .val (.int (1 : Int32)), .val (.ref oa), .unset, .unset, .unset, .unset, .unset, .unset, .unset, .unset, .unset, .unset, .unset, .unset, .unset, .unset, .unset] [(.ref ob)]))
      refine Owes.go ?_ fun t₀ k₀ => XS.astore X51.here hx rfl (hb hby at_44) rfl rfl (l' := #[.val (.long q0), .second, .val (.long q1), .second, .val (.int p2), .val (.int (0 : Int32)), .val (.int (1 : Int32)), .val (.ref oa), .val (.ref ob), .unset, .unset, .unset, .unset, .unset, .unset, .unset, .unset, .unset, .unset, .unset, .unset, .unset, .unset]) rfl k₀
      show Owes _ _ _ _ (T51.setTop (mkF m 46 #[.val (.long q0), .second, .val (.long q1), .second, .val (.int p2), .val (.int (0 : Int32)), .val (.int (1 : Int32)), .val (.ref oa), .val (.ref ob), .unset, .unset, .unset, .unset, .unset, .unset, .unset, .unset, .unset, .unset, .unset, .unset, .unset, .unset] []))
      refine Owes.go ?_ fun t₀ k₀ => XS.iload X51.here hx rfl (hb hby at_46) rfl k₀
      show Owes _ _ _ _ (T51.setTop (mkF m 48 #[.val (.long q0), .second, .val (.long q1), .second, .val (.int p2), .val (.int (0 : Int32)), .val (.int (1 : Int32)), .val (.ref oa), .val (.ref ob), .unset, .unset, .unset, .unset, .unset, .unset, .unset, .unset, .unset, .unset, .unset, .unset, .unset, .unset] [(.int (0 : Int32))]))
      refine Owes.go ?_ fun t₀ k₀ => XS.ifYes X51.here hx rfl (pc0 := 48) (pc' := 57) rfl (hb hby at_48) rfl ((if0 _ _).trans (teq (by decide : ((0 : Int32) = (0 : Int32)))).1) (by decide) (by decide) k₀
      show Owes _ _ _ _ (T51.setTop (mkF m 57 #[.val (.long q0), .second, .val (.long q1), .second, .val (.int p2), .val (.int (0 : Int32)), .val (.int (1 : Int32)), .val (.ref oa), .val (.ref ob), .unset, .unset, .unset, .unset, .unset, .unset, .unset, .unset, .unset, .unset, .unset, .unset, .unset, .unset] []))
      refine Owes.go ?_ fun t₀ k₀ => XS.iload X51.here hx rfl (hb hby at_57) rfl k₀
      show Owes _ _ _ _ (T51.setTop (mkF m 59 #[.val (.long q0), .second, .val (.long q1), .second, .val (.int p2), .val (.int (0 : Int32)), .val (.int (1 : Int32)), .val (.ref oa), .val (.ref ob), .unset, .unset, .unset, .unset, .unset, .unset, .unset, .unset, .unset, .unset, .unset, .unset, .unset, .unset] [(.int (1 : Int32))]))
      refine Owes.go ?_ fun t₀ k₀ => XS.ifNo X51.here hx rfl (hb hby at_59) rfl ((if0 _ _).trans (feq (by decide : ¬ ((1 : Int32) = (0 : Int32)))).1) k₀
      show Owes _ _ _ _ (T51.setTop (mkF m 62 #[.val (.long q0), .second, .val (.long q1), .second, .val (.int p2), .val (.int (0 : Int32)), .val (.int (1 : Int32)), .val (.ref oa), .val (.ref ob), .unset, .unset, .unset, .unset, .unset, .unset, .unset, .unset, .unset, .unset, .unset, .unset, .unset, .unset] []))
      refine Owes.go ?_ fun t₀ k₀ => XS.aload X51.here hx rfl (hb hby at_62) rfl rfl k₀
      show Owes _ _ _ _ (T51.setTop (mkF m 64 #[.val (.long q0), .second, .val (.long q1), .second, .val (.int p2), .val (.int (0 : Int32)), .val (.int (1 : Int32)), .val (.ref oa), .val (.ref ob), .unset, .unset, .unset, .unset, .unset, .unset, .unset, .unset, .unset, .unset, .unset, .unset, .unset, .unset] [(.ref ob)]))
      refine Owes.go ?_ fun t₀ k₀ => XS.lloadN X51.here hx rfl (hb hby at_64) rfl k₀
      show Owes _ _ _ _ (T51.setTop (mkF m 65 #[.val (.long q0), .second, .val (.long q1), .second, .val (.int p2), .val (.int (0 : Int32)), .val (.int (1 : Int32)), .val (.ref oa), .val (.ref ob), .unset, .unset, .unset, .unset, .unset, .unset, .unset, .unset, .unset, .unset, .unset, .unset, .unset, .unset] [(.long q1), (.ref ob)]))
      refine Owes.callV X51 hx hZ hown (hw _ (List.mem_of_getElem? (i := 49) rfl)) (hw _ (List.mem_of_getElem? (i := 50) rfl)) (notFace_of_selects (args := #[]) (mvT hZ (hw _ (List.mem_of_getElem? (i := 52) rfl)))) (hw _ (List.mem_of_getElem? (i := 52) rfl)) (hw _ (List.mem_of_getElem? (i := 51) rfl)) (hw _ (List.mem_of_getElem? (i := 2) rfl)) (hw _ (List.mem_of_getElem? (i := 53) rfl)) (by decide) (a := ob) (argsL := [(.long q1)]) (rest := []) (rm_rec l Z a0 hw [] ob q1 T51.heap rbb (fun _ => (0 : Int64)) (hit ib) 0 1 rfl n0 gn_ob gn_rbb ib hib hibn (fun i _ => own_hit ib i) O51 (Sta.keep0 SB KK51) rN (Sta.keep0 SN KK51) (EN.keep KK51) (Fsc.keep KK51 List.not_mem_nil) (Fmr.keep KK51 List.not_mem_nil)) rfl O51.1 (by rw [hml]; rfl) pd_9 rfl rfl (hb hby at_65) (by decide) (Nat.le_of_ble_eq_true rfl) (by decide) (by decide) ?_
      rintro T52 v52 L52 X52 ⟨rfl, N52, K52, O52⟩
      have NF52 := Fr.app NF51 N52
      have KK52 := KK51.trans K52 (own_ge2 ge_ob ge_rbb)
      have OA52 := (OA51).keep K52 (own_ni2 n_oa_ob n_oa_rb) (own_ni2 n_ra_ob n_ra_rb)
      show Owes _ _ _ _ (T52.setTop (mkF m 68 #[.val (.long q0), .second, .val (.long q1), .second, .val (.int p2), .val (.int (0 : Int32)), .val (.int (1 : Int32)), .val (.ref oa), .val (.ref ob), .unset, .unset, .unset, .unset, .unset, .unset, .unset, .unset, .unset, .unset, .unset, .unset, .unset, .unset] []))
      refine Owes.go ?_ fun t₀ k₀ => XS.aload X52.here hx rfl (hb hby at_68) rfl rfl k₀
      show Owes _ _ _ _ (T52.setTop (mkF m 70 #[.val (.long q0), .second, .val (.long q1), .second, .val (.int p2), .val (.int (0 : Int32)), .val (.int (1 : Int32)), .val (.ref oa), .val (.ref ob), .unset, .unset, .unset, .unset, .unset, .unset, .unset, .unset, .unset, .unset, .unset, .unset, .unset, .unset] [(.ref oa)]))
      refine Owes.go ?_ fun t₀ k₀ => X52.ldc2DoubleC hx hown (mv hZ (hw _ (List.mem_of_getElem? (i := 34) rfl))) (g := (mkF m 70 #[.val (.long q0), .second, .val (.long q1), .second, .val (.int p2), .val (.int (0 : Int32)), .val (.int (1 : Int32)), .val (.ref oa), .val (.ref ob), .unset, .unset, .unset, .unset, .unset, .unset, .unset, .unset, .unset, .unset, .unset, .unset, .unset, .unset] [(.ref oa)])) rfl (hb hby at_70) _ k₀
      show Owes _ _ _ _ (T52.setTop (mkF m 73 #[.val (.long q0), .second, .val (.long q1), .second, .val (.int p2), .val (.int (0 : Int32)), .val (.int (1 : Int32)), .val (.ref oa), .val (.ref ob), .unset, .unset, .unset, .unset, .unset, .unset, .unset, .unset, .unset, .unset, .unset, .unset, .unset, .unset] [(.double (4636737291354636288 : UInt64)), (.ref oa)]))
      refine Owes.callV X52 hx hZ hown (hw _ (List.mem_of_getElem? (i := 35) rfl)) (hw _ (List.mem_of_getElem? (i := 36) rfl)) (notFace_of_selects (args := #[]) (mvT hZ (hw _ (List.mem_of_getElem? (i := 38) rfl)))) (hw _ (List.mem_of_getElem? (i := 38) rfl)) (hw _ (List.mem_of_getElem? (i := 37) rfl)) (hw _ (List.mem_of_getElem? (i := 2) rfl)) (hw _ (List.mem_of_getElem? (i := 39) rfl)) (by decide) (a := oa) (argsL := [(.double (4636737291354636288 : UInt64))]) (rest := []) (rm_pc0 l Z a0 hw [] oa (4636737291354636288 : UInt64) T52.heap (0 : Int32) fp_c1_100 fp_c2_100 fp_n2_100 raa (fun _ => (0 : Int64)) OA52) rfl OA52.1 (by rw [hml]; rfl) pd_7 rfl rfl (hb hby at_73) (by decide) (Nat.le_of_ble_eq_true rfl) (by decide) (by decide) ?_
      rintro T53 _ _ X53 ⟨rfl, rfl, e53⟩
      rw [List.append_nil] at X53
      show Owes _ _ _ _ (T53.setTop (mkF m 76 #[.val (.long q0), .second, .val (.long q1), .second, .val (.int p2), .val (.int (0 : Int32)), .val (.int (1 : Int32)), .val (.ref oa), .val (.ref ob), .unset, .unset, .unset, .unset, .unset, .unset, .unset, .unset, .unset, .unset, .unset, .unset, .unset, .unset] [(.long (0 : Int64))]))
      refine Owes.go ?_ fun t₀ k₀ => XS.lstore X53.here hx rfl (hb hby at_76) rfl (l' := #[.val (.long q0), .second, .val (.long q1), .second, .val (.int p2), .val (.int (0 : Int32)), .val (.int (1 : Int32)), .val (.ref oa), .val (.ref ob), .val (.long (0 : Int64)), .second, .unset, .unset, .unset, .unset, .unset, .unset, .unset, .unset, .unset, .unset, .unset, .unset]) rfl k₀
      show Owes _ _ _ _ (T53.setTop (mkF m 78 #[.val (.long q0), .second, .val (.long q1), .second, .val (.int p2), .val (.int (0 : Int32)), .val (.int (1 : Int32)), .val (.ref oa), .val (.ref ob), .val (.long (0 : Int64)), .second, .unset, .unset, .unset, .unset, .unset, .unset, .unset, .unset, .unset, .unset, .unset, .unset] []))
      refine Owes.go ?_ fun t₀ k₀ => XS.aload X53.here hx rfl (hb hby at_78) rfl rfl k₀
      show Owes _ _ _ _ (T53.setTop (mkF m 80 #[.val (.long q0), .second, .val (.long q1), .second, .val (.int p2), .val (.int (0 : Int32)), .val (.int (1 : Int32)), .val (.ref oa), .val (.ref ob), .val (.long (0 : Int64)), .second, .unset, .unset, .unset, .unset, .unset, .unset, .unset, .unset, .unset, .unset, .unset, .unset] [(.ref ob)]))
      refine Owes.go ?_ fun t₀ k₀ => X53.ldc2DoubleC hx hown (mv hZ (hw _ (List.mem_of_getElem? (i := 34) rfl))) (g := (mkF m 80 #[.val (.long q0), .second, .val (.long q1), .second, .val (.int p2), .val (.int (0 : Int32)), .val (.int (1 : Int32)), .val (.ref oa), .val (.ref ob), .val (.long (0 : Int64)), .second, .unset, .unset, .unset, .unset, .unset, .unset, .unset, .unset, .unset, .unset, .unset, .unset] [(.ref ob)])) rfl (hb hby at_80) _ k₀
      show Owes _ _ _ _ (T53.setTop (mkF m 83 #[.val (.long q0), .second, .val (.long q1), .second, .val (.int p2), .val (.int (0 : Int32)), .val (.int (1 : Int32)), .val (.ref oa), .val (.ref ob), .val (.long (0 : Int64)), .second, .unset, .unset, .unset, .unset, .unset, .unset, .unset, .unset, .unset, .unset, .unset, .unset] [(.double (4636737291354636288 : UInt64)), (.ref ob)]))
      refine Owes.callV X53 hx hZ hown (hw _ (List.mem_of_getElem? (i := 35) rfl)) (hw _ (List.mem_of_getElem? (i := 36) rfl)) (notFace_of_selects (args := #[]) (mvT hZ (hw _ (List.mem_of_getElem? (i := 38) rfl)))) (hw _ (List.mem_of_getElem? (i := 38) rfl)) (hw _ (List.mem_of_getElem? (i := 37) rfl)) (hw _ (List.mem_of_getElem? (i := 2) rfl)) (hw _ (List.mem_of_getElem? (i := 39) rfl)) (by decide) (a := ob) (argsL := [(.double (4636737291354636288 : UInt64))]) (rest := []) (rm_pc l Z a0 hw [] ob (4636737291354636288 : UInt64) T52.heap (0 : Int32) fp_c1_100 fp_c2_100 fp_n2_100 rbb (hit ib) (1 : Int64) (by decide) O52 (4607182418800017408 : UInt64) (4607182418800017408 : UInt64) (4607182418800017408 : UInt64) (4607182418800017408 : UInt64) (1 : Int64) fp_nq_100 fp_hq_100 fp_l2_1 fp_nb_100_1 fp_hb_100_1 good1 (by decide) fp_rk_100_1 ib hibn zB hzB (fun j h => lo_hit h) (hi_hit ib) (Sta.keep0 SA KK52) (Sta.keep0 SE KK52)) e53 O52.1 (by rw [hml]; rfl) pd_7 rfl rfl (hb hby at_83) (by decide) (Nat.le_of_ble_eq_true rfl) (by decide) (by decide) ?_
      rintro T54 _ _ X54 ⟨rfl, rfl, e54⟩
      rw [List.append_nil] at X54
      show Owes _ _ _ _ (T54.setTop (mkF m 86 #[.val (.long q0), .second, .val (.long q1), .second, .val (.int p2), .val (.int (0 : Int32)), .val (.int (1 : Int32)), .val (.ref oa), .val (.ref ob), .val (.long (0 : Int64)), .second, .unset, .unset, .unset, .unset, .unset, .unset, .unset, .unset, .unset, .unset, .unset, .unset] [(.long (f_lo zB))]))
      refine Owes.go ?_ fun t₀ k₀ => XS.lstore X54.here hx rfl (hb hby at_86) rfl (l' := #[.val (.long q0), .second, .val (.long q1), .second, .val (.int p2), .val (.int (0 : Int32)), .val (.int (1 : Int32)), .val (.ref oa), .val (.ref ob), .val (.long (0 : Int64)), .second, .val (.long (f_lo zB)), .second, .unset, .unset, .unset, .unset, .unset, .unset, .unset, .unset, .unset, .unset]) rfl k₀
      show Owes _ _ _ _ (T54.setTop (mkF m 88 #[.val (.long q0), .second, .val (.long q1), .second, .val (.int p2), .val (.int (0 : Int32)), .val (.int (1 : Int32)), .val (.ref oa), .val (.ref ob), .val (.long (0 : Int64)), .second, .val (.long (f_lo zB)), .second, .unset, .unset, .unset, .unset, .unset, .unset, .unset, .unset, .unset, .unset] []))
      refine Owes.go ?_ fun t₀ k₀ => XS.aload X54.here hx rfl (hb hby at_88) rfl rfl k₀
      show Owes _ _ _ _ (T54.setTop (mkF m 90 #[.val (.long q0), .second, .val (.long q1), .second, .val (.int p2), .val (.int (0 : Int32)), .val (.int (1 : Int32)), .val (.ref oa), .val (.ref ob), .val (.long (0 : Int64)), .second, .val (.long (f_lo zB)), .second, .unset, .unset, .unset, .unset, .unset, .unset, .unset, .unset, .unset, .unset] [(.ref oa)]))
      refine Owes.go ?_ fun t₀ k₀ => XS.aload X54.here hx rfl (hb hby at_90) rfl rfl k₀
      show Owes _ _ _ _ (T54.setTop (mkF m 92 #[.val (.long q0), .second, .val (.long q1), .second, .val (.int p2), .val (.int (0 : Int32)), .val (.int (1 : Int32)), .val (.ref oa), .val (.ref ob), .val (.long (0 : Int64)), .second, .val (.long (f_lo zB)), .second, .unset, .unset, .unset, .unset, .unset, .unset, .unset, .unset, .unset, .unset] [(.ref ob), (.ref oa)]))
      refine Owes.callV X54 hx hZ hown (hw _ (List.mem_of_getElem? (i := 43) rfl)) (hw _ (List.mem_of_getElem? (i := 44) rfl)) (notFace_of_selects (args := #[]) (mvT hZ (hw _ (List.mem_of_getElem? (i := 46) rfl)))) (hw _ (List.mem_of_getElem? (i := 46) rfl)) (hw _ (List.mem_of_getElem? (i := 45) rfl)) (hw _ (List.mem_of_getElem? (i := 2) rfl)) (hw _ (List.mem_of_getElem? (i := 47) rfl)) (by decide) (a := oa) (argsL := [(.ref ob)]) (rest := []) (rm_add l Z a0 hw [] oa ob T52.heap raa rbb (fun _ => (0 : Int64)) (hit ib) (hit ib) (0 : Int64) (1 : Int64) (1 : Int64) rfl n0 gn_oa gn_raa (Ne.symm n_ra_ob) (Ne.symm n_ra_rb) (fun i _ => Int64.zero_add _) OA52 O52) e54 OA52.1 (by rw [hml]; rfl) pd_8 rfl rfl (hb hby at_92) (by decide) (Nat.le_of_ble_eq_true rfl) (by decide) (by decide) ?_
      rintro T55 v55 L55 X55 ⟨rfl, N55, K55, O55⟩
      have NF55 := Fr.app NF52 N55
      have KK55 := KK52.trans K55 (own_ge2 ge_raa ge_oa)
      have OB55 := (O52).keep K55 (own_ni2 (Ne.symm n_ra_ob) (Ne.symm n_oa_ob)) (own_ni2 (Ne.symm n_ra_rb) (Ne.symm n_oa_rb))
      show Owes _ _ _ _ (T55.setTop (mkF m 95 #[.val (.long q0), .second, .val (.long q1), .second, .val (.int p2), .val (.int (0 : Int32)), .val (.int (1 : Int32)), .val (.ref oa), .val (.ref ob), .val (.long (0 : Int64)), .second, .val (.long (f_lo zB)), .second, .unset, .unset, .unset, .unset, .unset, .unset, .unset, .unset, .unset, .unset] []))
      refine Owes.go ?_ fun t₀ k₀ => XS.aload X55.here hx rfl (hb hby at_95) rfl rfl k₀
      show Owes _ _ _ _ (T55.setTop (mkF m 97 #[.val (.long q0), .second, .val (.long q1), .second, .val (.int p2), .val (.int (0 : Int32)), .val (.int (1 : Int32)), .val (.ref oa), .val (.ref ob), .val (.long (0 : Int64)), .second, .val (.long (f_lo zB)), .second, .unset, .unset, .unset, .unset, .unset, .unset, .unset, .unset, .unset, .unset] [(.ref oa)]))
      refine Owes.go ?_ fun t₀ k₀ => X55.ldc2DoubleC hx hown (mv hZ (hw _ (List.mem_of_getElem? (i := 48) rfl))) (g := (mkF m 97 #[.val (.long q0), .second, .val (.long q1), .second, .val (.int p2), .val (.int (0 : Int32)), .val (.int (1 : Int32)), .val (.ref oa), .val (.ref ob), .val (.long (0 : Int64)), .second, .val (.long (f_lo zB)), .second, .unset, .unset, .unset, .unset, .unset, .unset, .unset, .unset, .unset, .unset] [(.ref oa)])) rfl (hb hby at_97) _ k₀
      show Owes _ _ _ _ (T55.setTop (mkF m 100 #[.val (.long q0), .second, .val (.long q1), .second, .val (.int p2), .val (.int (0 : Int32)), .val (.int (1 : Int32)), .val (.ref oa), .val (.ref ob), .val (.long (0 : Int64)), .second, .val (.long (f_lo zB)), .second, .unset, .unset, .unset, .unset, .unset, .unset, .unset, .unset, .unset, .unset] [(.double (4632233691727265792 : UInt64)), (.ref oa)]))
      refine Owes.callV X55 hx hZ hown (hw _ (List.mem_of_getElem? (i := 35) rfl)) (hw _ (List.mem_of_getElem? (i := 36) rfl)) (notFace_of_selects (args := #[]) (mvT hZ (hw _ (List.mem_of_getElem? (i := 38) rfl)))) (hw _ (List.mem_of_getElem? (i := 38) rfl)) (hw _ (List.mem_of_getElem? (i := 37) rfl)) (hw _ (List.mem_of_getElem? (i := 2) rfl)) (hw _ (List.mem_of_getElem? (i := 39) rfl)) (by decide) (a := oa) (argsL := [(.double (4632233691727265792 : UInt64))]) (rest := []) (rm_pc l Z a0 hw [] oa (4632233691727265792 : UInt64) T55.heap (-1 : Int32) fp_c1_50 fp_c2_50 fp_n2_50 raa (hit ib) (1 : Int64) (by decide) O55 (4602678819172646912 : UInt64) (4607182418800017408 : UInt64) (4602678819172646912 : UInt64) (4607182418800017408 : UInt64) (1 : Int64) fp_nq_50 fp_hq_50 fp_l2_1 fp_nb_50_1 fp_hb_50_1 goodH (by decide) fp_rk_50_1 ib hibn zB hzB (fun j h => lo_hit h) (hi_hit ib) (Sta.keep0 SA KK55) (Sta.keep0 SE KK55)) rfl O55.1 (by rw [hml]; rfl) pd_7 rfl rfl (hb hby at_100) (by decide) (Nat.le_of_ble_eq_true rfl) (by decide) (by decide) ?_
      rintro T56 _ _ X56 ⟨rfl, rfl, e56⟩
      rw [List.append_nil] at X56
      show Owes _ _ _ _ (T56.setTop (mkF m 103 #[.val (.long q0), .second, .val (.long q1), .second, .val (.int p2), .val (.int (0 : Int32)), .val (.int (1 : Int32)), .val (.ref oa), .val (.ref ob), .val (.long (0 : Int64)), .second, .val (.long (f_lo zB)), .second, .unset, .unset, .unset, .unset, .unset, .unset, .unset, .unset, .unset, .unset] [(.long (f_lo zB))]))
      refine Owes.go ?_ fun t₀ k₀ => XS.lstore X56.here hx rfl (hb hby at_103) rfl (l' := #[.val (.long q0), .second, .val (.long q1), .second, .val (.int p2), .val (.int (0 : Int32)), .val (.int (1 : Int32)), .val (.ref oa), .val (.ref ob), .val (.long (0 : Int64)), .second, .val (.long (f_lo zB)), .second, .val (.long (f_lo zB)), .second, .unset, .unset, .unset, .unset, .unset, .unset, .unset, .unset]) rfl k₀
      show Owes _ _ _ _ (T56.setTop (mkF m 105 #[.val (.long q0), .second, .val (.long q1), .second, .val (.int p2), .val (.int (0 : Int32)), .val (.int (1 : Int32)), .val (.ref oa), .val (.ref ob), .val (.long (0 : Int64)), .second, .val (.long (f_lo zB)), .second, .val (.long (f_lo zB)), .second, .unset, .unset, .unset, .unset, .unset, .unset, .unset, .unset] []))
      refine Owes.go ?_ fun t₀ k₀ => XS.aload X56.here hx rfl (hb hby at_105) rfl rfl k₀
      show Owes _ _ _ _ (T56.setTop (mkF m 107 #[.val (.long q0), .second, .val (.long q1), .second, .val (.int p2), .val (.int (0 : Int32)), .val (.int (1 : Int32)), .val (.ref oa), .val (.ref ob), .val (.long (0 : Int64)), .second, .val (.long (f_lo zB)), .second, .val (.long (f_lo zB)), .second, .unset, .unset, .unset, .unset, .unset, .unset, .unset, .unset] [(.ref oa)]))
      refine Owes.go ?_ fun t₀ k₀ => X56.ldc2DoubleC hx hown (mv hZ (hw _ (List.mem_of_getElem? (i := 34) rfl))) (g := (mkF m 107 #[.val (.long q0), .second, .val (.long q1), .second, .val (.int p2), .val (.int (0 : Int32)), .val (.int (1 : Int32)), .val (.ref oa), .val (.ref ob), .val (.long (0 : Int64)), .second, .val (.long (f_lo zB)), .second, .val (.long (f_lo zB)), .second, .unset, .unset, .unset, .unset, .unset, .unset, .unset, .unset] [(.ref oa)])) rfl (hb hby at_107) _ k₀
      show Owes _ _ _ _ (T56.setTop (mkF m 110 #[.val (.long q0), .second, .val (.long q1), .second, .val (.int p2), .val (.int (0 : Int32)), .val (.int (1 : Int32)), .val (.ref oa), .val (.ref ob), .val (.long (0 : Int64)), .second, .val (.long (f_lo zB)), .second, .val (.long (f_lo zB)), .second, .unset, .unset, .unset, .unset, .unset, .unset, .unset, .unset] [(.double (4636737291354636288 : UInt64)), (.ref oa)]))
      refine Owes.callV X56 hx hZ hown (hw _ (List.mem_of_getElem? (i := 35) rfl)) (hw _ (List.mem_of_getElem? (i := 36) rfl)) (notFace_of_selects (args := #[]) (mvT hZ (hw _ (List.mem_of_getElem? (i := 38) rfl)))) (hw _ (List.mem_of_getElem? (i := 38) rfl)) (hw _ (List.mem_of_getElem? (i := 37) rfl)) (hw _ (List.mem_of_getElem? (i := 2) rfl)) (hw _ (List.mem_of_getElem? (i := 39) rfl)) (by decide) (a := oa) (argsL := [(.double (4636737291354636288 : UInt64))]) (rest := []) (rm_pc l Z a0 hw [] oa (4636737291354636288 : UInt64) T55.heap (0 : Int32) fp_c1_100 fp_c2_100 fp_n2_100 raa (hit ib) (1 : Int64) (by decide) O55 (4607182418800017408 : UInt64) (4607182418800017408 : UInt64) (4607182418800017408 : UInt64) (4607182418800017408 : UInt64) (1 : Int64) fp_nq_100 fp_hq_100 fp_l2_1 fp_nb_100_1 fp_hb_100_1 good1 (by decide) fp_rk_100_1 ib hibn zB hzB (fun j h => lo_hit h) (hi_hit ib) (Sta.keep0 SA KK55) (Sta.keep0 SE KK55)) e56 O55.1 (by rw [hml]; rfl) pd_7 rfl rfl (hb hby at_110) (by decide) (Nat.le_of_ble_eq_true rfl) (by decide) (by decide) ?_
      rintro T57 _ _ X57 ⟨rfl, rfl, e57⟩
      rw [List.append_nil] at X57
      show Owes _ _ _ _ (T57.setTop (mkF m 113 #[.val (.long q0), .second, .val (.long q1), .second, .val (.int p2), .val (.int (0 : Int32)), .val (.int (1 : Int32)), .val (.ref oa), .val (.ref ob), .val (.long (0 : Int64)), .second, .val (.long (f_lo zB)), .second, .val (.long (f_lo zB)), .second, .unset, .unset, .unset, .unset, .unset, .unset, .unset, .unset] [(.long (f_lo zB))]))
      refine Owes.go ?_ fun t₀ k₀ => XS.lstore X57.here hx rfl (hb hby at_113) rfl (l' := #[.val (.long q0), .second, .val (.long q1), .second, .val (.int p2), .val (.int (0 : Int32)), .val (.int (1 : Int32)), .val (.ref oa), .val (.ref ob), .val (.long (0 : Int64)), .second, .val (.long (f_lo zB)), .second, .val (.long (f_lo zB)), .second, .val (.long (f_lo zB)), .second, .unset, .unset, .unset, .unset, .unset, .unset]) rfl k₀
      show Owes _ _ _ _ (T57.setTop (mkF m 115 #[.val (.long q0), .second, .val (.long q1), .second, .val (.int p2), .val (.int (0 : Int32)), .val (.int (1 : Int32)), .val (.ref oa), .val (.ref ob), .val (.long (0 : Int64)), .second, .val (.long (f_lo zB)), .second, .val (.long (f_lo zB)), .second, .val (.long (f_lo zB)), .second, .unset, .unset, .unset, .unset, .unset, .unset] []))
      refine Owes.go ?_ fun t₀ k₀ => XS.aload X57.here hx rfl (hb hby at_115) rfl rfl k₀
      show Owes _ _ _ _ (T57.setTop (mkF m 117 #[.val (.long q0), .second, .val (.long q1), .second, .val (.int p2), .val (.int (0 : Int32)), .val (.int (1 : Int32)), .val (.ref oa), .val (.ref ob), .val (.long (0 : Int64)), .second, .val (.long (f_lo zB)), .second, .val (.long (f_lo zB)), .second, .val (.long (f_lo zB)), .second, .unset, .unset, .unset, .unset, .unset, .unset] [(.ref ob)]))
      refine Owes.go ?_ fun t₀ k₀ => X57.ldc2DoubleC hx hown (mv hZ (hw _ (List.mem_of_getElem? (i := 34) rfl))) (g := (mkF m 117 #[.val (.long q0), .second, .val (.long q1), .second, .val (.int p2), .val (.int (0 : Int32)), .val (.int (1 : Int32)), .val (.ref oa), .val (.ref ob), .val (.long (0 : Int64)), .second, .val (.long (f_lo zB)), .second, .val (.long (f_lo zB)), .second, .val (.long (f_lo zB)), .second, .unset, .unset, .unset, .unset, .unset, .unset] [(.ref ob)])) rfl (hb hby at_117) _ k₀
      show Owes _ _ _ _ (T57.setTop (mkF m 120 #[.val (.long q0), .second, .val (.long q1), .second, .val (.int p2), .val (.int (0 : Int32)), .val (.int (1 : Int32)), .val (.ref oa), .val (.ref ob), .val (.long (0 : Int64)), .second, .val (.long (f_lo zB)), .second, .val (.long (f_lo zB)), .second, .val (.long (f_lo zB)), .second, .unset, .unset, .unset, .unset, .unset, .unset] [(.double (4636737291354636288 : UInt64)), (.ref ob)]))
      refine Owes.callV X57 hx hZ hown (hw _ (List.mem_of_getElem? (i := 35) rfl)) (hw _ (List.mem_of_getElem? (i := 36) rfl)) (notFace_of_selects (args := #[]) (mvT hZ (hw _ (List.mem_of_getElem? (i := 38) rfl)))) (hw _ (List.mem_of_getElem? (i := 38) rfl)) (hw _ (List.mem_of_getElem? (i := 37) rfl)) (hw _ (List.mem_of_getElem? (i := 2) rfl)) (hw _ (List.mem_of_getElem? (i := 39) rfl)) (by decide) (a := ob) (argsL := [(.double (4636737291354636288 : UInt64))]) (rest := []) (rm_pc l Z a0 hw [] ob (4636737291354636288 : UInt64) T55.heap (0 : Int32) fp_c1_100 fp_c2_100 fp_n2_100 rbb (hit ib) (1 : Int64) (by decide) OB55 (4607182418800017408 : UInt64) (4607182418800017408 : UInt64) (4607182418800017408 : UInt64) (4607182418800017408 : UInt64) (1 : Int64) fp_nq_100 fp_hq_100 fp_l2_1 fp_nb_100_1 fp_hb_100_1 good1 (by decide) fp_rk_100_1 ib hibn zB hzB (fun j h => lo_hit h) (hi_hit ib) (Sta.keep0 SA KK55) (Sta.keep0 SE KK55)) e57 OB55.1 (by rw [hml]; rfl) pd_7 rfl rfl (hb hby at_120) (by decide) (Nat.le_of_ble_eq_true rfl) (by decide) (by decide) ?_
      rintro T58 _ _ X58 ⟨rfl, rfl, e58⟩
      rw [List.append_nil] at X58
      show Owes _ _ _ _ (T58.setTop (mkF m 123 #[.val (.long q0), .second, .val (.long q1), .second, .val (.int p2), .val (.int (0 : Int32)), .val (.int (1 : Int32)), .val (.ref oa), .val (.ref ob), .val (.long (0 : Int64)), .second, .val (.long (f_lo zB)), .second, .val (.long (f_lo zB)), .second, .val (.long (f_lo zB)), .second, .unset, .unset, .unset, .unset, .unset, .unset] [(.long (f_lo zB))]))
      refine Owes.go ?_ fun t₀ k₀ => XS.lstore X58.here hx rfl (hb hby at_123) rfl (l' := #[.val (.long q0), .second, .val (.long q1), .second, .val (.int p2), .val (.int (0 : Int32)), .val (.int (1 : Int32)), .val (.ref oa), .val (.ref ob), .val (.long (0 : Int64)), .second, .val (.long (f_lo zB)), .second, .val (.long (f_lo zB)), .second, .val (.long (f_lo zB)), .second, .val (.long (f_lo zB)), .second, .unset, .unset, .unset, .unset]) rfl k₀
      show Owes _ _ _ _ (T58.setTop (mkF m 125 #[.val (.long q0), .second, .val (.long q1), .second, .val (.int p2), .val (.int (0 : Int32)), .val (.int (1 : Int32)), .val (.ref oa), .val (.ref ob), .val (.long (0 : Int64)), .second, .val (.long (f_lo zB)), .second, .val (.long (f_lo zB)), .second, .val (.long (f_lo zB)), .second, .val (.long (f_lo zB)), .second, .unset, .unset, .unset, .unset] []))
      refine Owes.go ?_ fun t₀ k₀ => XS.iload X58.here hx rfl (hb hby at_125) rfl k₀
      show Owes _ _ _ _ (T58.setTop (mkF m 127 #[.val (.long q0), .second, .val (.long q1), .second, .val (.int p2), .val (.int (0 : Int32)), .val (.int (1 : Int32)), .val (.ref oa), .val (.ref ob), .val (.long (0 : Int64)), .second, .val (.long (f_lo zB)), .second, .val (.long (f_lo zB)), .second, .val (.long (f_lo zB)), .second, .val (.long (f_lo zB)), .second, .unset, .unset, .unset, .unset] [(.int (0 : Int32))]))
      refine Owes.go ?_ fun t₀ k₀ => XS.ifYes X58.here hx rfl (pc0 := 127) (pc' := 156) rfl (hb hby at_127) rfl ((if0 _ _).trans (teq (by decide : ((0 : Int32) = (0 : Int32)))).1) (by decide) (by decide) k₀
      show Owes _ _ _ _ (T58.setTop (mkF m 156 #[.val (.long q0), .second, .val (.long q1), .second, .val (.int p2), .val (.int (0 : Int32)), .val (.int (1 : Int32)), .val (.ref oa), .val (.ref ob), .val (.long (0 : Int64)), .second, .val (.long (f_lo zB)), .second, .val (.long (f_lo zB)), .second, .val (.long (f_lo zB)), .second, .val (.long (f_lo zB)), .second, .unset, .unset, .unset, .unset] []))
      refine Owes.go ?_ fun t₀ k₀ => XS.iload X58.here hx rfl (hb hby at_156) rfl k₀
      show Owes _ _ _ _ (T58.setTop (mkF m 158 #[.val (.long q0), .second, .val (.long q1), .second, .val (.int p2), .val (.int (0 : Int32)), .val (.int (1 : Int32)), .val (.ref oa), .val (.ref ob), .val (.long (0 : Int64)), .second, .val (.long (f_lo zB)), .second, .val (.long (f_lo zB)), .second, .val (.long (f_lo zB)), .second, .val (.long (f_lo zB)), .second, .unset, .unset, .unset, .unset] [(.int (0 : Int32))]))
      refine Owes.go ?_ fun t₀ k₀ => XS.ifYes X58.here hx rfl (pc0 := 158) (pc' := 172) rfl (hb hby at_158) rfl ((if0 _ _).trans (teq (by decide : ((0 : Int32) = (0 : Int32)))).1) (by decide) (by decide) k₀
      show Owes _ _ _ _ (T58.setTop (mkF m 172 #[.val (.long q0), .second, .val (.long q1), .second, .val (.int p2), .val (.int (0 : Int32)), .val (.int (1 : Int32)), .val (.ref oa), .val (.ref ob), .val (.long (0 : Int64)), .second, .val (.long (f_lo zB)), .second, .val (.long (f_lo zB)), .second, .val (.long (f_lo zB)), .second, .val (.long (f_lo zB)), .second, .unset, .unset, .unset, .unset] []))
      refine Owes.go ?_ fun t₀ k₀ => XS.iload X58.here hx rfl (hb hby at_172) rfl k₀
      show Owes _ _ _ _ (T58.setTop (mkF m 174 #[.val (.long q0), .second, .val (.long q1), .second, .val (.int p2), .val (.int (0 : Int32)), .val (.int (1 : Int32)), .val (.ref oa), .val (.ref ob), .val (.long (0 : Int64)), .second, .val (.long (f_lo zB)), .second, .val (.long (f_lo zB)), .second, .val (.long (f_lo zB)), .second, .val (.long (f_lo zB)), .second, .unset, .unset, .unset, .unset] [(.int (1 : Int32))]))
      refine Owes.go ?_ fun t₀ k₀ => XS.ifNo X58.here hx rfl (hb hby at_174) rfl ((if0 _ _).trans (feq (by decide : ¬ ((1 : Int32) = (0 : Int32)))).1) k₀
      show Owes _ _ _ _ (T58.setTop (mkF m 177 #[.val (.long q0), .second, .val (.long q1), .second, .val (.int p2), .val (.int (0 : Int32)), .val (.int (1 : Int32)), .val (.ref oa), .val (.ref ob), .val (.long (0 : Int64)), .second, .val (.long (f_lo zB)), .second, .val (.long (f_lo zB)), .second, .val (.long (f_lo zB)), .second, .val (.long (f_lo zB)), .second, .unset, .unset, .unset, .unset] []))
      refine Owes.go ?_ fun t₀ k₀ => XS.lload X58.here hx rfl (hb hby at_177) rfl k₀
      show Owes _ _ _ _ (T58.setTop (mkF m 179 #[.val (.long q0), .second, .val (.long q1), .second, .val (.int p2), .val (.int (0 : Int32)), .val (.int (1 : Int32)), .val (.ref oa), .val (.ref ob), .val (.long (0 : Int64)), .second, .val (.long (f_lo zB)), .second, .val (.long (f_lo zB)), .second, .val (.long (f_lo zB)), .second, .val (.long (f_lo zB)), .second, .unset, .unset, .unset, .unset] [(.long (f_lo zB))]))
      refine Owes.go ?_ fun t₀ k₀ => XS.lstore X58.here hx rfl (hb hby at_179) rfl (l' := #[.val (.long q0), .second, .val (.long q1), .second, .val (.int p2), .val (.int (0 : Int32)), .val (.int (1 : Int32)), .val (.ref oa), .val (.ref ob), .val (.long (0 : Int64)), .second, .val (.long (f_lo zB)), .second, .val (.long (f_lo zB)), .second, .val (.long (f_lo zB)), .second, .val (.long (f_lo zB)), .second, .val (.long (f_lo zB)), .second, .unset, .unset]) rfl k₀
      show Owes _ _ _ _ (T58.setTop (mkF m 181 #[.val (.long q0), .second, .val (.long q1), .second, .val (.int p2), .val (.int (0 : Int32)), .val (.int (1 : Int32)), .val (.ref oa), .val (.ref ob), .val (.long (0 : Int64)), .second, .val (.long (f_lo zB)), .second, .val (.long (f_lo zB)), .second, .val (.long (f_lo zB)), .second, .val (.long (f_lo zB)), .second, .val (.long (f_lo zB)), .second, .unset, .unset] []))
      refine Owes.go ?_ fun t₀ k₀ => XS.lload X58.here hx rfl (hb hby at_181) rfl k₀
      show Owes _ _ _ _ (T58.setTop (mkF m 183 #[.val (.long q0), .second, .val (.long q1), .second, .val (.int p2), .val (.int (0 : Int32)), .val (.int (1 : Int32)), .val (.ref oa), .val (.ref ob), .val (.long (0 : Int64)), .second, .val (.long (f_lo zB)), .second, .val (.long (f_lo zB)), .second, .val (.long (f_lo zB)), .second, .val (.long (f_lo zB)), .second, .val (.long (f_lo zB)), .second, .unset, .unset] [(.long (f_lo zB))]))
      refine Owes.go ?_ fun t₀ k₀ => XS.lstore X58.here hx rfl (hb hby at_183) rfl (l' := #[.val (.long q0), .second, .val (.long q1), .second, .val (.int p2), .val (.int (0 : Int32)), .val (.int (1 : Int32)), .val (.ref oa), .val (.ref ob), .val (.long (0 : Int64)), .second, .val (.long (f_lo zB)), .second, .val (.long (f_lo zB)), .second, .val (.long (f_lo zB)), .second, .val (.long (f_lo zB)), .second, .val (.long (f_lo zB)), .second, .val (.long (f_lo zB)), .second]) rfl k₀
      show Owes _ _ _ _ (T58.setTop (mkF m 185 #[.val (.long q0), .second, .val (.long q1), .second, .val (.int p2), .val (.int (0 : Int32)), .val (.int (1 : Int32)), .val (.ref oa), .val (.ref ob), .val (.long (0 : Int64)), .second, .val (.long (f_lo zB)), .second, .val (.long (f_lo zB)), .second, .val (.long (f_lo zB)), .second, .val (.long (f_lo zB)), .second, .val (.long (f_lo zB)), .second, .val (.long (f_lo zB)), .second] []))
      refine Owes.go ?_ fun t₀ k₀ => XS.goto X58.here hx rfl (pc0 := 185) (pc' := 194) rfl (hb hby at_185) (by decide) (by decide) k₀
      show Owes _ _ _ _ (T58.setTop (mkF m 194 #[.val (.long q0), .second, .val (.long q1), .second, .val (.int p2), .val (.int (0 : Int32)), .val (.int (1 : Int32)), .val (.ref oa), .val (.ref ob), .val (.long (0 : Int64)), .second, .val (.long (f_lo zB)), .second, .val (.long (f_lo zB)), .second, .val (.long (f_lo zB)), .second, .val (.long (f_lo zB)), .second, .val (.long (f_lo zB)), .second, .val (.long (f_lo zB)), .second] []))
      refine Owes.go ?_ fun t₀ k₀ => XS.lload X58.here hx rfl (hb hby at_194) rfl k₀
      show Owes _ _ _ _ (T58.setTop (mkF m 196 #[.val (.long q0), .second, .val (.long q1), .second, .val (.int p2), .val (.int (0 : Int32)), .val (.int (1 : Int32)), .val (.ref oa), .val (.ref ob), .val (.long (0 : Int64)), .second, .val (.long (f_lo zB)), .second, .val (.long (f_lo zB)), .second, .val (.long (f_lo zB)), .second, .val (.long (f_lo zB)), .second, .val (.long (f_lo zB)), .second, .val (.long (f_lo zB)), .second] [(.long (f_lo zB))]))
      refine Owes.go ?_ fun t₀ k₀ => XS.lload X58.here hx rfl (hb hby at_196) rfl k₀
      show Owes _ _ _ _ (T58.setTop (mkF m 198 #[.val (.long q0), .second, .val (.long q1), .second, .val (.int p2), .val (.int (0 : Int32)), .val (.int (1 : Int32)), .val (.ref oa), .val (.ref ob), .val (.long (0 : Int64)), .second, .val (.long (f_lo zB)), .second, .val (.long (f_lo zB)), .second, .val (.long (f_lo zB)), .second, .val (.long (f_lo zB)), .second, .val (.long (f_lo zB)), .second, .val (.long (f_lo zB)), .second] [(.long (f_lo zB)), (.long (f_lo zB))]))
      refine Owes.go ?_ fun t₀ k₀ => XS.lcmp X58.here hx rfl (hb hby at_198) rfl k₀
      show Owes _ _ _ _ (T58.setTop (mkF m 199 #[.val (.long q0), .second, .val (.long q1), .second, .val (.int p2), .val (.int (0 : Int32)), .val (.int (1 : Int32)), .val (.ref oa), .val (.ref ob), .val (.long (0 : Int64)), .second, .val (.long (f_lo zB)), .second, .val (.long (f_lo zB)), .second, .val (.long (f_lo zB)), .second, .val (.long (f_lo zB)), .second, .val (.long (f_lo zB)), .second, .val (.long (f_lo zB)), .second] [(.int (lcmpW (f_lo zB) (f_lo zB)))]))
      refine Owes.go ?_ fun t₀ k₀ => XS.ifNo X58.here hx rfl (hb hby at_199) rfl ((if0 _ _).trans (teq ((lw_eq _ _).mpr (rfl))).2) k₀
      show Owes _ _ _ _ (T58.setTop (mkF m 202 #[.val (.long q0), .second, .val (.long q1), .second, .val (.int p2), .val (.int (0 : Int32)), .val (.int (1 : Int32)), .val (.ref oa), .val (.ref ob), .val (.long (0 : Int64)), .second, .val (.long (f_lo zB)), .second, .val (.long (f_lo zB)), .second, .val (.long (f_lo zB)), .second, .val (.long (f_lo zB)), .second, .val (.long (f_lo zB)), .second, .val (.long (f_lo zB)), .second] []))
      refine Owes.go ?_ fun t₀ k₀ => XS.lload X58.here hx rfl (hb hby at_202) rfl k₀
      show Owes _ _ _ _ (T58.setTop (mkF m 204 #[.val (.long q0), .second, .val (.long q1), .second, .val (.int p2), .val (.int (0 : Int32)), .val (.int (1 : Int32)), .val (.ref oa), .val (.ref ob), .val (.long (0 : Int64)), .second, .val (.long (f_lo zB)), .second, .val (.long (f_lo zB)), .second, .val (.long (f_lo zB)), .second, .val (.long (f_lo zB)), .second, .val (.long (f_lo zB)), .second, .val (.long (f_lo zB)), .second] [(.long (f_lo zB))]))
      refine Owes.go ?_ fun t₀ k₀ => XS.lload X58.here hx rfl (hb hby at_204) rfl k₀
      show Owes _ _ _ _ (T58.setTop (mkF m 206 #[.val (.long q0), .second, .val (.long q1), .second, .val (.int p2), .val (.int (0 : Int32)), .val (.int (1 : Int32)), .val (.ref oa), .val (.ref ob), .val (.long (0 : Int64)), .second, .val (.long (f_lo zB)), .second, .val (.long (f_lo zB)), .second, .val (.long (f_lo zB)), .second, .val (.long (f_lo zB)), .second, .val (.long (f_lo zB)), .second, .val (.long (f_lo zB)), .second] [(.long (f_lo zB)), (.long (f_lo zB))]))
      refine Owes.go ?_ fun t₀ k₀ => XS.lcmp X58.here hx rfl (hb hby at_206) rfl k₀
      show Owes _ _ _ _ (T58.setTop (mkF m 207 #[.val (.long q0), .second, .val (.long q1), .second, .val (.int p2), .val (.int (0 : Int32)), .val (.int (1 : Int32)), .val (.ref oa), .val (.ref ob), .val (.long (0 : Int64)), .second, .val (.long (f_lo zB)), .second, .val (.long (f_lo zB)), .second, .val (.long (f_lo zB)), .second, .val (.long (f_lo zB)), .second, .val (.long (f_lo zB)), .second, .val (.long (f_lo zB)), .second] [(.int (lcmpW (f_lo zB) (f_lo zB)))]))
      refine Owes.go ?_ fun t₀ k₀ => XS.ifNo X58.here hx rfl (hb hby at_207) rfl ((if0 _ _).trans (teq ((lw_eq _ _).mpr (rfl))).2) k₀
      show Owes _ _ _ _ (T58.setTop (mkF m 210 #[.val (.long q0), .second, .val (.long q1), .second, .val (.int p2), .val (.int (0 : Int32)), .val (.int (1 : Int32)), .val (.ref oa), .val (.ref ob), .val (.long (0 : Int64)), .second, .val (.long (f_lo zB)), .second, .val (.long (f_lo zB)), .second, .val (.long (f_lo zB)), .second, .val (.long (f_lo zB)), .second, .val (.long (f_lo zB)), .second, .val (.long (f_lo zB)), .second] []))
      refine Owes.go ?_ fun t₀ k₀ => XS.lload X58.here hx rfl (hb hby at_210) rfl k₀
      show Owes _ _ _ _ (T58.setTop (mkF m 212 #[.val (.long q0), .second, .val (.long q1), .second, .val (.int p2), .val (.int (0 : Int32)), .val (.int (1 : Int32)), .val (.ref oa), .val (.ref ob), .val (.long (0 : Int64)), .second, .val (.long (f_lo zB)), .second, .val (.long (f_lo zB)), .second, .val (.long (f_lo zB)), .second, .val (.long (f_lo zB)), .second, .val (.long (f_lo zB)), .second, .val (.long (f_lo zB)), .second] [(.long (f_lo zB))]))
      refine Owes.go ?_ fun t₀ k₀ => XS.lload X58.here hx rfl (hb hby at_212) rfl k₀
      show Owes _ _ _ _ (T58.setTop (mkF m 214 #[.val (.long q0), .second, .val (.long q1), .second, .val (.int p2), .val (.int (0 : Int32)), .val (.int (1 : Int32)), .val (.ref oa), .val (.ref ob), .val (.long (0 : Int64)), .second, .val (.long (f_lo zB)), .second, .val (.long (f_lo zB)), .second, .val (.long (f_lo zB)), .second, .val (.long (f_lo zB)), .second, .val (.long (f_lo zB)), .second, .val (.long (f_lo zB)), .second] [(.long (f_lo zB)), (.long (f_lo zB))]))
      refine Owes.go ?_ fun t₀ k₀ => XS.lcmp X58.here hx rfl (hb hby at_214) rfl k₀
      show Owes _ _ _ _ (T58.setTop (mkF m 215 #[.val (.long q0), .second, .val (.long q1), .second, .val (.int p2), .val (.int (0 : Int32)), .val (.int (1 : Int32)), .val (.ref oa), .val (.ref ob), .val (.long (0 : Int64)), .second, .val (.long (f_lo zB)), .second, .val (.long (f_lo zB)), .second, .val (.long (f_lo zB)), .second, .val (.long (f_lo zB)), .second, .val (.long (f_lo zB)), .second, .val (.long (f_lo zB)), .second] [(.int (lcmpW (f_lo zB) (f_lo zB)))]))
      refine Owes.go ?_ fun t₀ k₀ => XS.ifNo X58.here hx rfl (hb hby at_215) rfl ((if0 _ _).trans (teq ((lw_eq _ _).mpr (rfl))).2) k₀
      show Owes _ _ _ _ (T58.setTop (mkF m 218 #[.val (.long q0), .second, .val (.long q1), .second, .val (.int p2), .val (.int (0 : Int32)), .val (.int (1 : Int32)), .val (.ref oa), .val (.ref ob), .val (.long (0 : Int64)), .second, .val (.long (f_lo zB)), .second, .val (.long (f_lo zB)), .second, .val (.long (f_lo zB)), .second, .val (.long (f_lo zB)), .second, .val (.long (f_lo zB)), .second, .val (.long (f_lo zB)), .second] []))
      refine Owes.go ?_ fun t₀ k₀ => XS.iconst X58.here hx rfl (hb hby at_218) k₀
      show Owes _ _ _ _ (T58.setTop (mkF m 219 #[.val (.long q0), .second, .val (.long q1), .second, .val (.int p2), .val (.int (0 : Int32)), .val (.int (1 : Int32)), .val (.ref oa), .val (.ref ob), .val (.long (0 : Int64)), .second, .val (.long (f_lo zB)), .second, .val (.long (f_lo zB)), .second, .val (.long (f_lo zB)), .second, .val (.long (f_lo zB)), .second, .val (.long (f_lo zB)), .second, .val (.long (f_lo zB)), .second] [(.int (1 : Int32))]))
      refine Owes.go ?_ fun t₀ k₀ => XS.goto X58.here hx rfl (pc0 := 219) (pc' := 223) rfl (hb hby at_219) (by decide) (by decide) k₀
      show Owes _ _ _ _ (T58.setTop (mkF m 223 #[.val (.long q0), .second, .val (.long q1), .second, .val (.int p2), .val (.int (0 : Int32)), .val (.int (1 : Int32)), .val (.ref oa), .val (.ref ob), .val (.long (0 : Int64)), .second, .val (.long (f_lo zB)), .second, .val (.long (f_lo zB)), .second, .val (.long (f_lo zB)), .second, .val (.long (f_lo zB)), .second, .val (.long (f_lo zB)), .second, .val (.long (f_lo zB)), .second] [(.int (1 : Int32))]))
      exact Owes.retN X58 hx hlk hret (by simp) (hb hby at_223) (by decide) (by decide) ⟨rfl, NF55⟩
  · skip
    refine Owes.go ?_ fun t₀ k₀ => XS.ifNo X0.here hx rfl (hb hby at_4) rfl ((if0 _ _).trans (feq hc1).1) k₀
    show Owes _ _ _ _ (s₁.setTop (mkF m 7 #[.val (.long q0), .second, .val (.long q1), .second, .val (.int p2), .unset, .unset, .unset, .unset, .unset, .unset, .unset, .unset, .unset, .unset, .unset, .unset, .unset, .unset, .unset, .unset, .unset, .unset] []))
    refine Owes.go ?_ fun t₀ k₀ => XS.iconst X0.here hx rfl (hb hby at_7) k₀
    show Owes _ _ _ _ (s₁.setTop (mkF m 8 #[.val (.long q0), .second, .val (.long q1), .second, .val (.int p2), .unset, .unset, .unset, .unset, .unset, .unset, .unset, .unset, .unset, .unset, .unset, .unset, .unset, .unset, .unset, .unset, .unset, .unset] [(.int (1 : Int32))]))
    refine Owes.go ?_ fun t₀ k₀ => XS.goto X0.here hx rfl (pc0 := 8) (pc' := 12) rfl (hb hby at_8) (by decide) (by decide) k₀
    show Owes _ _ _ _ (s₁.setTop (mkF m 12 #[.val (.long q0), .second, .val (.long q1), .second, .val (.int p2), .unset, .unset, .unset, .unset, .unset, .unset, .unset, .unset, .unset, .unset, .unset, .unset, .unset, .unset, .unset, .unset, .unset, .unset] [(.int (1 : Int32))]))
    refine Owes.go ?_ fun t₀ k₀ => XS.istore X0.here hx rfl (hb hby at_12) rfl (l' := #[.val (.long q0), .second, .val (.long q1), .second, .val (.int p2), .val (.int (1 : Int32)), .unset, .unset, .unset, .unset, .unset, .unset, .unset, .unset, .unset, .unset, .unset, .unset, .unset, .unset, .unset, .unset, .unset]) rfl k₀
    show Owes _ _ _ _ (s₁.setTop (mkF m 14 #[.val (.long q0), .second, .val (.long q1), .second, .val (.int p2), .val (.int (1 : Int32)), .unset, .unset, .unset, .unset, .unset, .unset, .unset, .unset, .unset, .unset, .unset, .unset, .unset, .unset, .unset, .unset, .unset] []))
    refine Owes.go ?_ fun t₀ k₀ => XS.iload X0.here hx rfl (hb hby at_14) rfl k₀
    show Owes _ _ _ _ (s₁.setTop (mkF m 16 #[.val (.long q0), .second, .val (.long q1), .second, .val (.int p2), .val (.int (1 : Int32)), .unset, .unset, .unset, .unset, .unset, .unset, .unset, .unset, .unset, .unset, .unset, .unset, .unset, .unset, .unset, .unset, .unset] [(.int p2)]))
    refine Owes.go ?_ fun t₀ k₀ => XS.iconst X0.here hx rfl (hb hby at_16) k₀
    show Owes _ _ _ _ (s₁.setTop (mkF m 17 #[.val (.long q0), .second, .val (.long q1), .second, .val (.int p2), .val (.int (1 : Int32)), .unset, .unset, .unset, .unset, .unset, .unset, .unset, .unset, .unset, .unset, .unset, .unset, .unset, .unset, .unset, .unset, .unset] [(.int (2 : Int32)), (.int p2)]))
    refine Owes.go ?_ fun t₀ k₀ => XS.iand X0.here hx rfl (hb hby at_17) rfl k₀
    show Owes _ _ _ _ (s₁.setTop (mkF m 18 #[.val (.long q0), .second, .val (.long q1), .second, .val (.int p2), .val (.int (1 : Int32)), .unset, .unset, .unset, .unset, .unset, .unset, .unset, .unset, .unset, .unset, .unset, .unset, .unset, .unset, .unset, .unset, .unset] [(.int (p2 &&& (2 : Int32)))]))
    by_cases hc3 : (p2 &&& (2 : Int32)) = (0 : Int32)
    · skip
      refine Owes.go ?_ fun t₀ k₀ => XS.ifYes X0.here hx rfl (pc0 := 18) (pc' := 25) rfl (hb hby at_18) rfl ((if0 _ _).trans (teq hc3).1) (by decide) (by decide) k₀
      show Owes _ _ _ _ (s₁.setTop (mkF m 25 #[.val (.long q0), .second, .val (.long q1), .second, .val (.int p2), .val (.int (1 : Int32)), .unset, .unset, .unset, .unset, .unset, .unset, .unset, .unset, .unset, .unset, .unset, .unset, .unset, .unset, .unset, .unset, .unset] []))
      refine Owes.go ?_ fun t₀ k₀ => XS.iconst X0.here hx rfl (hb hby at_25) k₀
      show Owes _ _ _ _ (s₁.setTop (mkF m 26 #[.val (.long q0), .second, .val (.long q1), .second, .val (.int p2), .val (.int (1 : Int32)), .unset, .unset, .unset, .unset, .unset, .unset, .unset, .unset, .unset, .unset, .unset, .unset, .unset, .unset, .unset, .unset, .unset] [(.int (0 : Int32))]))
      refine Owes.go ?_ fun t₀ k₀ => XS.istore X0.here hx rfl (hb hby at_26) rfl (l' := #[.val (.long q0), .second, .val (.long q1), .second, .val (.int p2), .val (.int (1 : Int32)), .val (.int (0 : Int32)), .unset, .unset, .unset, .unset, .unset, .unset, .unset, .unset, .unset, .unset, .unset, .unset, .unset, .unset, .unset, .unset]) rfl k₀
      show Owes _ _ _ _ (s₁.setTop (mkF m 28 #[.val (.long q0), .second, .val (.long q1), .second, .val (.int p2), .val (.int (1 : Int32)), .val (.int (0 : Int32)), .unset, .unset, .unset, .unset, .unset, .unset, .unset, .unset, .unset, .unset, .unset, .unset, .unset, .unset, .unset, .unset] []))
      refine Owes.newO X0 hx hZ hown (hw _ (List.mem_of_getElem? (i := 0) rfl)) (hw _ (List.mem_of_getElem? (i := 1) rfl)) (hw _ (List.mem_of_getElem? (i := 2) rfl)) e0 (hb hby at_28) (by decide) (by decide) ?_
      intro T59 h59 X59 e59 E59 A59 D59
      obtain ⟨oa, goa⟩ : ∃ z, z = h0.size := ⟨_, rfl⟩
      rw [← goa] at A59 ⊢
      have ge_oa : h0.size ≤ oa := by rw [goa]; exact K0.1
      have gn_oa : n0 ≤ oa := Nat.le_trans Z0 ge_oa
      have K_59 := K0.ext E59
      have ST_59 := ST0.ext E59
      have F_oa_counts_59 : Fld Z h59 oa "com/example/holdfast/holdfast/bench/LatencyHistogram" "counts" "[J" .null := by rw [goa]; exact D59 (Or.inr (hw _ (List.mem_of_getElem? (i := 33) rfl))) (ty := (.array .long)) (by decide)
      have F_oa_total_59 : Fld Z h59 oa "com/example/holdfast/holdfast/bench/LatencyHistogram" "total" "J" (.long (0 : Int64)) := by rw [goa]; exact D59 (Or.inl (hw _ (List.mem_of_getElem? (i := 42) rfl))) (ty := .long) (by decide)
      show Owes _ _ _ _ (T59.setTop (mkF m 31 #[.val (.long q0), .second, .val (.long q1), .second, .val (.int p2), .val (.int (1 : Int32)), .val (.int (0 : Int32)), .unset, .unset, .unset, .unset, .unset, .unset, .unset, .unset, .unset, .unset, .unset, .unset, .unset, .unset, .unset, .unset] [(.ref oa)]))
      refine Owes.go ?_ fun t₀ k₀ => XS.dup X59.here hx rfl (hb hby at_31) rfl rfl k₀
      show Owes _ _ _ _ (T59.setTop (mkF m 32 #[.val (.long q0), .second, .val (.long q1), .second, .val (.int p2), .val (.int (1 : Int32)), .val (.int (0 : Int32)), .unset, .unset, .unset, .unset, .unset, .unset, .unset, .unset, .unset, .unset, .unset, .unset, .unset, .unset, .unset, .unset] [(.ref oa), (.ref oa)]))
      refine Owes.callC X59 hx hZ rfl hown (hw _ (List.mem_of_getElem? (i := 3) rfl)) (hw _ (List.mem_of_getElem? (i := 4) rfl)) (hw _ (List.mem_of_getElem? (i := 2) rfl)) (hw _ (List.mem_of_getElem? (i := 5) rfl)) (by decide) (a := oa) (argsL := []) (rest := [(.ref oa)]) (rm_init l Z a0 hw [] oa h59 n0 (Nat.le_trans Z0 K_59.1) gn_oa A59 F_oa_counts_59 F_oa_total_59 (Sta.keep0 SB K_59)) e59 (by rw [hml]; rfl) pd_6 rfl rfl (hb hby at_32) (by decide) (Nat.le_of_ble_eq_true rfl) (by decide) (by decide) ?_
      rintro T60 v60 L60 X60 ⟨rfl, N60, K60, raa, hr60, O60⟩
      have ge_raa : h0.size ≤ raa := Nat.le_trans K_59.1 hr60
      have gn_raa : n0 ≤ raa := Nat.le_trans Z0 ge_raa
      have NF60 := Fr.app N0 N60
      have KK60 := K_59.trans K60 (own_ge1 ge_oa)
      show Owes _ _ _ _ (T60.setTop (mkF m 35 #[.val (.long q0), .second, .val (.long q1), .second, .val (.int p2), .val (.int (1 : Int32)), .val (.int (0 : Int32)), .unset, .unset, .unset, .unset, .unset, .unset, .unset, .unset, .unset, .unset, .unset, .unset, .unset, .unset, .unset, .unset] [(.ref oa)]))
      refine Owes.go ?_ fun t₀ k₀ => XS.astore X60.here hx rfl (hb hby at_35) rfl rfl (l' := #[.val (.long q0), .second, .val (.long q1), .second, .val (.int p2), .val (.int (1 : Int32)), .val (.int (0 : Int32)), .val (.ref oa), .unset, .unset, .unset, .unset, .unset, .unset, .unset, .unset, .unset, .unset, .unset, .unset, .unset, .unset, .unset]) rfl k₀
      show Owes _ _ _ _ (T60.setTop (mkF m 37 #[.val (.long q0), .second, .val (.long q1), .second, .val (.int p2), .val (.int (1 : Int32)), .val (.int (0 : Int32)), .val (.ref oa), .unset, .unset, .unset, .unset, .unset, .unset, .unset, .unset, .unset, .unset, .unset, .unset, .unset, .unset, .unset] []))
      refine Owes.newO X60 hx hZ hown (hw _ (List.mem_of_getElem? (i := 0) rfl)) (hw _ (List.mem_of_getElem? (i := 1) rfl)) (hw _ (List.mem_of_getElem? (i := 2) rfl)) rfl (hb hby at_37) (by decide) (by decide) ?_
      intro T61 h61 X61 e61 E61 A61 D61
      obtain ⟨ob, gob⟩ : ∃ z, z = T60.heap.size := ⟨_, rfl⟩
      rw [← gob] at A61 ⊢
      have ge_ob : h0.size ≤ ob := by rw [gob]; exact KK60.1
      have gn_ob : n0 ≤ ob := Nat.le_trans Z0 ge_ob
      have K_61 := KK60.ext E61
      have ST_61 := (StK.of_keep (Z := Z) KK60).ext E61
      have F_ob_counts_61 : Fld Z h61 ob "com/example/holdfast/holdfast/bench/LatencyHistogram" "counts" "[J" .null := by rw [gob]; exact D61 (Or.inr (hw _ (List.mem_of_getElem? (i := 33) rfl))) (ty := (.array .long)) (by decide)
      have F_ob_total_61 : Fld Z h61 ob "com/example/holdfast/holdfast/bench/LatencyHistogram" "total" "J" (.long (0 : Int64)) := by rw [gob]; exact D61 (Or.inl (hw _ (List.mem_of_getElem? (i := 42) rfl))) (ty := .long) (by decide)
      have n_oa_ob : oa ≠ ob := Nat.ne_of_lt (by rw [gob]; exact (O60).1.lt)
      have OA61 := (O60).ext E61
      show Owes _ _ _ _ (T61.setTop (mkF m 40 #[.val (.long q0), .second, .val (.long q1), .second, .val (.int p2), .val (.int (1 : Int32)), .val (.int (0 : Int32)), .val (.ref oa), .unset, .unset, .unset, .unset, .unset, .unset, .unset, .unset, .unset, .unset, .unset, .unset, .unset, .unset, .unset] [(.ref ob)]))
      refine Owes.go ?_ fun t₀ k₀ => XS.dup X61.here hx rfl (hb hby at_40) rfl rfl k₀
      show Owes _ _ _ _ (T61.setTop (mkF m 41 #[.val (.long q0), .second, .val (.long q1), .second, .val (.int p2), .val (.int (1 : Int32)), .val (.int (0 : Int32)), .val (.ref oa), .unset, .unset, .unset, .unset, .unset, .unset, .unset, .unset, .unset, .unset, .unset, .unset, .unset, .unset, .unset] [(.ref ob), (.ref ob)]))
      refine Owes.callC X61 hx hZ rfl hown (hw _ (List.mem_of_getElem? (i := 3) rfl)) (hw _ (List.mem_of_getElem? (i := 4) rfl)) (hw _ (List.mem_of_getElem? (i := 2) rfl)) (hw _ (List.mem_of_getElem? (i := 5) rfl)) (by decide) (a := ob) (argsL := []) (rest := [(.ref ob)]) (rm_init l Z a0 hw [] ob h61 n0 (Nat.le_trans Z0 K_61.1) gn_ob A61 F_ob_counts_61 F_ob_total_61 (Sta.keep0 SB K_61)) e61 (by rw [hml]; rfl) pd_6 rfl rfl (hb hby at_41) (by decide) (Nat.le_of_ble_eq_true rfl) (by decide) (by decide) ?_
      rintro T62 v62 L62 X62 ⟨rfl, N62, K62, rbb, hr62, O62⟩
      have ge_rbb : h0.size ≤ rbb := Nat.le_trans K_61.1 hr62
      have gn_rbb : n0 ≤ rbb := Nat.le_trans Z0 ge_rbb
      have NF62 := Fr.app NF60 N62
      have KK62 := K_61.trans K62 (own_ge1 ge_ob)
      have n_ra_ob : raa ≠ ob := Ne.symm (GA.ne_obj A61 wi (OA61).2.2.2)
      have n_ra_rb : raa ≠ rbb := Nat.ne_of_lt (Nat.lt_of_lt_of_le (OA61).2.2.2.lt hr62)
      have OA62 := (OA61).keep K62 (own_ni1 n_oa_ob) (own_ni1 n_ra_ob)
      have n_oa_rb : oa ≠ rbb := GA.ne_obj (OA62).1 wi (O62).2.2.2
      have n_oa_ra := (OA62).ne wi
      have n_ob_rb := (O62).ne wi
      show Owes _ _ _ _ (T62.setTop (mkF m 44 #[.val (.long q0), .second, .val (.long q1), .second, .val (.int p2), .val (.int (1 : Int32)), .val (.int (0 : Int32)), .val (.ref oa), .unset, .unset, .unset, .unset, .unset, .unset, .unset, .unset, .unset, .unset, .unset, .unset, .unset, .unset, .unset] [(.ref ob)]))
      refine Owes.go ?_ fun t₀ k₀ => XS.astore X62.here hx rfl (hb hby at_44) rfl rfl (l' := #[.val (.long q0), .second, .val (.long q1), .second, .val (.int p2), .val (.int (1 : Int32)), .val (.int (0 : Int32)), .val (.ref oa), .val (.ref ob), .unset, .unset, .unset, .unset, .unset, .unset, .unset, .unset, .unset, .unset, .unset, .unset, .unset, .unset]) rfl k₀
      show Owes _ _ _ _ (T62.setTop (mkF m 46 #[.val (.long q0), .second, .val (.long q1), .second, .val (.int p2), .val (.int (1 : Int32)), .val (.int (0 : Int32)), .val (.ref oa), .val (.ref ob), .unset, .unset, .unset, .unset, .unset, .unset, .unset, .unset, .unset, .unset, .unset, .unset, .unset, .unset] []))
      refine Owes.go ?_ fun t₀ k₀ => XS.iload X62.here hx rfl (hb hby at_46) rfl k₀
      show Owes _ _ _ _ (T62.setTop (mkF m 48 #[.val (.long q0), .second, .val (.long q1), .second, .val (.int p2), .val (.int (1 : Int32)), .val (.int (0 : Int32)), .val (.ref oa), .val (.ref ob), .unset, .unset, .unset, .unset, .unset, .unset, .unset, .unset, .unset, .unset, .unset, .unset, .unset, .unset] [(.int (1 : Int32))]))
      refine Owes.go ?_ fun t₀ k₀ => XS.ifNo X62.here hx rfl (hb hby at_48) rfl ((if0 _ _).trans (feq (by decide : ¬ ((1 : Int32) = (0 : Int32)))).1) k₀
      show Owes _ _ _ _ (T62.setTop (mkF m 51 #[.val (.long q0), .second, .val (.long q1), .second, .val (.int p2), .val (.int (1 : Int32)), .val (.int (0 : Int32)), .val (.ref oa), .val (.ref ob), .unset, .unset, .unset, .unset, .unset, .unset, .unset, .unset, .unset, .unset, .unset, .unset, .unset, .unset] []))
      refine Owes.go ?_ fun t₀ k₀ => XS.aload X62.here hx rfl (hb hby at_51) rfl rfl k₀
      show Owes _ _ _ _ (T62.setTop (mkF m 53 #[.val (.long q0), .second, .val (.long q1), .second, .val (.int p2), .val (.int (1 : Int32)), .val (.int (0 : Int32)), .val (.ref oa), .val (.ref ob), .unset, .unset, .unset, .unset, .unset, .unset, .unset, .unset, .unset, .unset, .unset, .unset, .unset, .unset] [(.ref oa)]))
      refine Owes.go ?_ fun t₀ k₀ => XS.lloadN X62.here hx rfl (hb hby at_53) rfl k₀
      show Owes _ _ _ _ (T62.setTop (mkF m 54 #[.val (.long q0), .second, .val (.long q1), .second, .val (.int p2), .val (.int (1 : Int32)), .val (.int (0 : Int32)), .val (.ref oa), .val (.ref ob), .unset, .unset, .unset, .unset, .unset, .unset, .unset, .unset, .unset, .unset, .unset, .unset, .unset, .unset] [(.long q0), (.ref oa)]))
      refine Owes.callV X62 hx hZ hown (hw _ (List.mem_of_getElem? (i := 49) rfl)) (hw _ (List.mem_of_getElem? (i := 50) rfl)) (notFace_of_selects (args := #[]) (mvT hZ (hw _ (List.mem_of_getElem? (i := 52) rfl)))) (hw _ (List.mem_of_getElem? (i := 52) rfl)) (hw _ (List.mem_of_getElem? (i := 51) rfl)) (hw _ (List.mem_of_getElem? (i := 2) rfl)) (hw _ (List.mem_of_getElem? (i := 53) rfl)) (by decide) (a := oa) (argsL := [(.long q0)]) (rest := []) (rm_rec l Z a0 hw [] oa q0 T62.heap raa (fun _ => (0 : Int64)) (hit ia) 0 1 rfl n0 gn_oa gn_raa ia hia hian (fun i _ => own_hit ia i) OA62 (Sta.keep0 SB KK62) rN (Sta.keep0 SN KK62) (EN.keep KK62) (Fsc.keep KK62 List.not_mem_nil) (Fmr.keep KK62 List.not_mem_nil)) rfl OA62.1 (by rw [hml]; rfl) pd_9 rfl rfl (hb hby at_54) (by decide) (Nat.le_of_ble_eq_true rfl) (by decide) (by decide) ?_
      rintro T63 v63 L63 X63 ⟨rfl, N63, K63, O63⟩
      have NF63 := Fr.app NF62 N63
      have KK63 := KK62.trans K63 (own_ge2 ge_oa ge_raa)
      have OB63 := (O62).keep K63 (own_ni2 (Ne.symm n_oa_ob) (Ne.symm n_ra_ob)) (own_ni2 (Ne.symm n_oa_rb) (Ne.symm n_ra_rb))
      show Owes _ _ _ _ (T63.setTop (mkF m 57 #[.val (.long q0), .second, .val (.long q1), .second, .val (.int p2), .val (.int (1 : Int32)), .val (.int (0 : Int32)), .val (.ref oa), .val (.ref ob), .unset, .unset, .unset, .unset, .unset, .unset, .unset, .unset, .unset, .unset, .unset, .unset, .unset, .unset] []))
      refine Owes.go ?_ fun t₀ k₀ => XS.iload X63.here hx rfl (hb hby at_57) rfl k₀
      show Owes _ _ _ _ (T63.setTop (mkF m 59 #[.val (.long q0), .second, .val (.long q1), .second, .val (.int p2), .val (.int (1 : Int32)), .val (.int (0 : Int32)), .val (.ref oa), .val (.ref ob), .unset, .unset, .unset, .unset, .unset, .unset, .unset, .unset, .unset, .unset, .unset, .unset, .unset, .unset] [(.int (0 : Int32))]))
      refine Owes.go ?_ fun t₀ k₀ => XS.ifYes X63.here hx rfl (pc0 := 59) (pc' := 68) rfl (hb hby at_59) rfl ((if0 _ _).trans (teq (by decide : ((0 : Int32) = (0 : Int32)))).1) (by decide) (by decide) k₀
      show Owes _ _ _ _ (T63.setTop (mkF m 68 #[.val (.long q0), .second, .val (.long q1), .second, .val (.int p2), .val (.int (1 : Int32)), .val (.int (0 : Int32)), .val (.ref oa), .val (.ref ob), .unset, .unset, .unset, .unset, .unset, .unset, .unset, .unset, .unset, .unset, .unset, .unset, .unset, .unset] []))
      refine Owes.go ?_ fun t₀ k₀ => XS.aload X63.here hx rfl (hb hby at_68) rfl rfl k₀
      show Owes _ _ _ _ (T63.setTop (mkF m 70 #[.val (.long q0), .second, .val (.long q1), .second, .val (.int p2), .val (.int (1 : Int32)), .val (.int (0 : Int32)), .val (.ref oa), .val (.ref ob), .unset, .unset, .unset, .unset, .unset, .unset, .unset, .unset, .unset, .unset, .unset, .unset, .unset, .unset] [(.ref oa)]))
      refine Owes.go ?_ fun t₀ k₀ => X63.ldc2DoubleC hx hown (mv hZ (hw _ (List.mem_of_getElem? (i := 34) rfl))) (g := (mkF m 70 #[.val (.long q0), .second, .val (.long q1), .second, .val (.int p2), .val (.int (1 : Int32)), .val (.int (0 : Int32)), .val (.ref oa), .val (.ref ob), .unset, .unset, .unset, .unset, .unset, .unset, .unset, .unset, .unset, .unset, .unset, .unset, .unset, .unset] [(.ref oa)])) rfl (hb hby at_70) _ k₀
      show Owes _ _ _ _ (T63.setTop (mkF m 73 #[.val (.long q0), .second, .val (.long q1), .second, .val (.int p2), .val (.int (1 : Int32)), .val (.int (0 : Int32)), .val (.ref oa), .val (.ref ob), .unset, .unset, .unset, .unset, .unset, .unset, .unset, .unset, .unset, .unset, .unset, .unset, .unset, .unset] [(.double (4636737291354636288 : UInt64)), (.ref oa)]))
      refine Owes.callV X63 hx hZ hown (hw _ (List.mem_of_getElem? (i := 35) rfl)) (hw _ (List.mem_of_getElem? (i := 36) rfl)) (notFace_of_selects (args := #[]) (mvT hZ (hw _ (List.mem_of_getElem? (i := 38) rfl)))) (hw _ (List.mem_of_getElem? (i := 38) rfl)) (hw _ (List.mem_of_getElem? (i := 37) rfl)) (hw _ (List.mem_of_getElem? (i := 2) rfl)) (hw _ (List.mem_of_getElem? (i := 39) rfl)) (by decide) (a := oa) (argsL := [(.double (4636737291354636288 : UInt64))]) (rest := []) (rm_pc l Z a0 hw [] oa (4636737291354636288 : UInt64) T63.heap (0 : Int32) fp_c1_100 fp_c2_100 fp_n2_100 raa (hit ia) (1 : Int64) (by decide) O63 (4607182418800017408 : UInt64) (4607182418800017408 : UInt64) (4607182418800017408 : UInt64) (4607182418800017408 : UInt64) (1 : Int64) fp_nq_100 fp_hq_100 fp_l2_1 fp_nb_100_1 fp_hb_100_1 good1 (by decide) fp_rk_100_1 ia hian zA hzA (fun j h => lo_hit h) (hi_hit ia) (Sta.keep0 SA KK63) (Sta.keep0 SE KK63)) rfl O63.1 (by rw [hml]; rfl) pd_7 rfl rfl (hb hby at_73) (by decide) (Nat.le_of_ble_eq_true rfl) (by decide) (by decide) ?_
      rintro T64 _ _ X64 ⟨rfl, rfl, e64⟩
      rw [List.append_nil] at X64
      show Owes _ _ _ _ (T64.setTop (mkF m 76 #[.val (.long q0), .second, .val (.long q1), .second, .val (.int p2), .val (.int (1 : Int32)), .val (.int (0 : Int32)), .val (.ref oa), .val (.ref ob), .unset, .unset, .unset, .unset, .unset, .unset, .unset, .unset, .unset, .unset, .unset, .unset, .unset, .unset] [(.long (f_lo zA))]))
      refine Owes.go ?_ fun t₀ k₀ => XS.lstore X64.here hx rfl (hb hby at_76) rfl (l' := #[.val (.long q0), .second, .val (.long q1), .second, .val (.int p2), .val (.int (1 : Int32)), .val (.int (0 : Int32)), .val (.ref oa), .val (.ref ob), .val (.long (f_lo zA)), .second, .unset, .unset, .unset, .unset, .unset, .unset, .unset, .unset, .unset, .unset, .unset, .unset]) rfl k₀
      show Owes _ _ _ _ (T64.setTop (mkF m 78 #[.val (.long q0), .second, .val (.long q1), .second, .val (.int p2), .val (.int (1 : Int32)), .val (.int (0 : Int32)), .val (.ref oa), .val (.ref ob), .val (.long (f_lo zA)), .second, .unset, .unset, .unset, .unset, .unset, .unset, .unset, .unset, .unset, .unset, .unset, .unset] []))
      refine Owes.go ?_ fun t₀ k₀ => XS.aload X64.here hx rfl (hb hby at_78) rfl rfl k₀
      show Owes _ _ _ _ (T64.setTop (mkF m 80 #[.val (.long q0), .second, .val (.long q1), .second, .val (.int p2), .val (.int (1 : Int32)), .val (.int (0 : Int32)), .val (.ref oa), .val (.ref ob), .val (.long (f_lo zA)), .second, .unset, .unset, .unset, .unset, .unset, .unset, .unset, .unset, .unset, .unset, .unset, .unset] [(.ref ob)]))
      refine Owes.go ?_ fun t₀ k₀ => X64.ldc2DoubleC hx hown (mv hZ (hw _ (List.mem_of_getElem? (i := 34) rfl))) (g := (mkF m 80 #[.val (.long q0), .second, .val (.long q1), .second, .val (.int p2), .val (.int (1 : Int32)), .val (.int (0 : Int32)), .val (.ref oa), .val (.ref ob), .val (.long (f_lo zA)), .second, .unset, .unset, .unset, .unset, .unset, .unset, .unset, .unset, .unset, .unset, .unset, .unset] [(.ref ob)])) rfl (hb hby at_80) _ k₀
      show Owes _ _ _ _ (T64.setTop (mkF m 83 #[.val (.long q0), .second, .val (.long q1), .second, .val (.int p2), .val (.int (1 : Int32)), .val (.int (0 : Int32)), .val (.ref oa), .val (.ref ob), .val (.long (f_lo zA)), .second, .unset, .unset, .unset, .unset, .unset, .unset, .unset, .unset, .unset, .unset, .unset, .unset] [(.double (4636737291354636288 : UInt64)), (.ref ob)]))
      refine Owes.callV X64 hx hZ hown (hw _ (List.mem_of_getElem? (i := 35) rfl)) (hw _ (List.mem_of_getElem? (i := 36) rfl)) (notFace_of_selects (args := #[]) (mvT hZ (hw _ (List.mem_of_getElem? (i := 38) rfl)))) (hw _ (List.mem_of_getElem? (i := 38) rfl)) (hw _ (List.mem_of_getElem? (i := 37) rfl)) (hw _ (List.mem_of_getElem? (i := 2) rfl)) (hw _ (List.mem_of_getElem? (i := 39) rfl)) (by decide) (a := ob) (argsL := [(.double (4636737291354636288 : UInt64))]) (rest := []) (rm_pc0 l Z a0 hw [] ob (4636737291354636288 : UInt64) T63.heap (0 : Int32) fp_c1_100 fp_c2_100 fp_n2_100 rbb (fun _ => (0 : Int64)) OB63) e64 OB63.1 (by rw [hml]; rfl) pd_7 rfl rfl (hb hby at_83) (by decide) (Nat.le_of_ble_eq_true rfl) (by decide) (by decide) ?_
      rintro T65 _ _ X65 ⟨rfl, rfl, e65⟩
      rw [List.append_nil] at X65
      show Owes _ _ _ _ (T65.setTop (mkF m 86 #[.val (.long q0), .second, .val (.long q1), .second, .val (.int p2), .val (.int (1 : Int32)), .val (.int (0 : Int32)), .val (.ref oa), .val (.ref ob), .val (.long (f_lo zA)), .second, .unset, .unset, .unset, .unset, .unset, .unset, .unset, .unset, .unset, .unset, .unset, .unset] [(.long (0 : Int64))]))
      refine Owes.go ?_ fun t₀ k₀ => XS.lstore X65.here hx rfl (hb hby at_86) rfl (l' := #[.val (.long q0), .second, .val (.long q1), .second, .val (.int p2), .val (.int (1 : Int32)), .val (.int (0 : Int32)), .val (.ref oa), .val (.ref ob), .val (.long (f_lo zA)), .second, .val (.long (0 : Int64)), .second, .unset, .unset, .unset, .unset, .unset, .unset, .unset, .unset, .unset, .unset]) rfl k₀
      show Owes _ _ _ _ (T65.setTop (mkF m 88 #[.val (.long q0), .second, .val (.long q1), .second, .val (.int p2), .val (.int (1 : Int32)), .val (.int (0 : Int32)), .val (.ref oa), .val (.ref ob), .val (.long (f_lo zA)), .second, .val (.long (0 : Int64)), .second, .unset, .unset, .unset, .unset, .unset, .unset, .unset, .unset, .unset, .unset] []))
      refine Owes.go ?_ fun t₀ k₀ => XS.aload X65.here hx rfl (hb hby at_88) rfl rfl k₀
      show Owes _ _ _ _ (T65.setTop (mkF m 90 #[.val (.long q0), .second, .val (.long q1), .second, .val (.int p2), .val (.int (1 : Int32)), .val (.int (0 : Int32)), .val (.ref oa), .val (.ref ob), .val (.long (f_lo zA)), .second, .val (.long (0 : Int64)), .second, .unset, .unset, .unset, .unset, .unset, .unset, .unset, .unset, .unset, .unset] [(.ref oa)]))
      refine Owes.go ?_ fun t₀ k₀ => XS.aload X65.here hx rfl (hb hby at_90) rfl rfl k₀
      show Owes _ _ _ _ (T65.setTop (mkF m 92 #[.val (.long q0), .second, .val (.long q1), .second, .val (.int p2), .val (.int (1 : Int32)), .val (.int (0 : Int32)), .val (.ref oa), .val (.ref ob), .val (.long (f_lo zA)), .second, .val (.long (0 : Int64)), .second, .unset, .unset, .unset, .unset, .unset, .unset, .unset, .unset, .unset, .unset] [(.ref ob), (.ref oa)]))
      refine Owes.callV X65 hx hZ hown (hw _ (List.mem_of_getElem? (i := 43) rfl)) (hw _ (List.mem_of_getElem? (i := 44) rfl)) (notFace_of_selects (args := #[]) (mvT hZ (hw _ (List.mem_of_getElem? (i := 46) rfl)))) (hw _ (List.mem_of_getElem? (i := 46) rfl)) (hw _ (List.mem_of_getElem? (i := 45) rfl)) (hw _ (List.mem_of_getElem? (i := 2) rfl)) (hw _ (List.mem_of_getElem? (i := 47) rfl)) (by decide) (a := oa) (argsL := [(.ref ob)]) (rest := []) (rm_add l Z a0 hw [] oa ob T63.heap raa rbb (hit ia) (fun _ => (0 : Int64)) (hit ia) (1 : Int64) (0 : Int64) (1 : Int64) rfl n0 gn_oa gn_raa (Ne.symm n_ra_ob) (Ne.symm n_ra_rb) (fun i _ => Int64.add_zero _) O63 OB63) e65 O63.1 (by rw [hml]; rfl) pd_8 rfl rfl (hb hby at_92) (by decide) (Nat.le_of_ble_eq_true rfl) (by decide) (by decide) ?_
      rintro T66 v66 L66 X66 ⟨rfl, N66, K66, O66⟩
      have NF66 := Fr.app NF63 N66
      have KK66 := KK63.trans K66 (own_ge2 ge_raa ge_oa)
      have OB66 := (OB63).keep K66 (own_ni2 (Ne.symm n_ra_ob) (Ne.symm n_oa_ob)) (own_ni2 (Ne.symm n_ra_rb) (Ne.symm n_oa_rb))
      show Owes _ _ _ _ (T66.setTop (mkF m 95 #[.val (.long q0), .second, .val (.long q1), .second, .val (.int p2), .val (.int (1 : Int32)), .val (.int (0 : Int32)), .val (.ref oa), .val (.ref ob), .val (.long (f_lo zA)), .second, .val (.long (0 : Int64)), .second, .unset, .unset, .unset, .unset, .unset, .unset, .unset, .unset, .unset, .unset] []))
      refine Owes.go ?_ fun t₀ k₀ => XS.aload X66.here hx rfl (hb hby at_95) rfl rfl k₀
      show Owes _ _ _ _ (T66.setTop (mkF m 97 #[.val (.long q0), .second, .val (.long q1), .second, .val (.int p2), .val (.int (1 : Int32)), .val (.int (0 : Int32)), .val (.ref oa), .val (.ref ob), .val (.long (f_lo zA)), .second, .val (.long (0 : Int64)), .second, .unset, .unset, .unset, .unset, .unset, .unset, .unset, .unset, .unset, .unset] [(.ref oa)]))
      refine Owes.go ?_ fun t₀ k₀ => X66.ldc2DoubleC hx hown (mv hZ (hw _ (List.mem_of_getElem? (i := 48) rfl))) (g := (mkF m 97 #[.val (.long q0), .second, .val (.long q1), .second, .val (.int p2), .val (.int (1 : Int32)), .val (.int (0 : Int32)), .val (.ref oa), .val (.ref ob), .val (.long (f_lo zA)), .second, .val (.long (0 : Int64)), .second, .unset, .unset, .unset, .unset, .unset, .unset, .unset, .unset, .unset, .unset] [(.ref oa)])) rfl (hb hby at_97) _ k₀
      show Owes _ _ _ _ (T66.setTop (mkF m 100 #[.val (.long q0), .second, .val (.long q1), .second, .val (.int p2), .val (.int (1 : Int32)), .val (.int (0 : Int32)), .val (.ref oa), .val (.ref ob), .val (.long (f_lo zA)), .second, .val (.long (0 : Int64)), .second, .unset, .unset, .unset, .unset, .unset, .unset, .unset, .unset, .unset, .unset] [(.double (4632233691727265792 : UInt64)), (.ref oa)]))
      refine Owes.callV X66 hx hZ hown (hw _ (List.mem_of_getElem? (i := 35) rfl)) (hw _ (List.mem_of_getElem? (i := 36) rfl)) (notFace_of_selects (args := #[]) (mvT hZ (hw _ (List.mem_of_getElem? (i := 38) rfl)))) (hw _ (List.mem_of_getElem? (i := 38) rfl)) (hw _ (List.mem_of_getElem? (i := 37) rfl)) (hw _ (List.mem_of_getElem? (i := 2) rfl)) (hw _ (List.mem_of_getElem? (i := 39) rfl)) (by decide) (a := oa) (argsL := [(.double (4632233691727265792 : UInt64))]) (rest := []) (rm_pc l Z a0 hw [] oa (4632233691727265792 : UInt64) T66.heap (-1 : Int32) fp_c1_50 fp_c2_50 fp_n2_50 raa (hit ia) (1 : Int64) (by decide) O66 (4602678819172646912 : UInt64) (4607182418800017408 : UInt64) (4602678819172646912 : UInt64) (4607182418800017408 : UInt64) (1 : Int64) fp_nq_50 fp_hq_50 fp_l2_1 fp_nb_50_1 fp_hb_50_1 goodH (by decide) fp_rk_50_1 ia hian zA hzA (fun j h => lo_hit h) (hi_hit ia) (Sta.keep0 SA KK66) (Sta.keep0 SE KK66)) rfl O66.1 (by rw [hml]; rfl) pd_7 rfl rfl (hb hby at_100) (by decide) (Nat.le_of_ble_eq_true rfl) (by decide) (by decide) ?_
      rintro T67 _ _ X67 ⟨rfl, rfl, e67⟩
      rw [List.append_nil] at X67
      show Owes _ _ _ _ (T67.setTop (mkF m 103 #[.val (.long q0), .second, .val (.long q1), .second, .val (.int p2), .val (.int (1 : Int32)), .val (.int (0 : Int32)), .val (.ref oa), .val (.ref ob), .val (.long (f_lo zA)), .second, .val (.long (0 : Int64)), .second, .unset, .unset, .unset, .unset, .unset, .unset, .unset, .unset, .unset, .unset] [(.long (f_lo zA))]))
      refine Owes.go ?_ fun t₀ k₀ => XS.lstore X67.here hx rfl (hb hby at_103) rfl (l' := #[.val (.long q0), .second, .val (.long q1), .second, .val (.int p2), .val (.int (1 : Int32)), .val (.int (0 : Int32)), .val (.ref oa), .val (.ref ob), .val (.long (f_lo zA)), .second, .val (.long (0 : Int64)), .second, .val (.long (f_lo zA)), .second, .unset, .unset, .unset, .unset, .unset, .unset, .unset, .unset]) rfl k₀
      show Owes _ _ _ _ (T67.setTop (mkF m 105 #[.val (.long q0), .second, .val (.long q1), .second, .val (.int p2), .val (.int (1 : Int32)), .val (.int (0 : Int32)), .val (.ref oa), .val (.ref ob), .val (.long (f_lo zA)), .second, .val (.long (0 : Int64)), .second, .val (.long (f_lo zA)), .second, .unset, .unset, .unset, .unset, .unset, .unset, .unset, .unset] []))
      refine Owes.go ?_ fun t₀ k₀ => XS.aload X67.here hx rfl (hb hby at_105) rfl rfl k₀
      show Owes _ _ _ _ (T67.setTop (mkF m 107 #[.val (.long q0), .second, .val (.long q1), .second, .val (.int p2), .val (.int (1 : Int32)), .val (.int (0 : Int32)), .val (.ref oa), .val (.ref ob), .val (.long (f_lo zA)), .second, .val (.long (0 : Int64)), .second, .val (.long (f_lo zA)), .second, .unset, .unset, .unset, .unset, .unset, .unset, .unset, .unset] [(.ref oa)]))
      refine Owes.go ?_ fun t₀ k₀ => X67.ldc2DoubleC hx hown (mv hZ (hw _ (List.mem_of_getElem? (i := 34) rfl))) (g := (mkF m 107 #[.val (.long q0), .second, .val (.long q1), .second, .val (.int p2), .val (.int (1 : Int32)), .val (.int (0 : Int32)), .val (.ref oa), .val (.ref ob), .val (.long (f_lo zA)), .second, .val (.long (0 : Int64)), .second, .val (.long (f_lo zA)), .second, .unset, .unset, .unset, .unset, .unset, .unset, .unset, .unset] [(.ref oa)])) rfl (hb hby at_107) _ k₀
      show Owes _ _ _ _ (T67.setTop (mkF m 110 #[.val (.long q0), .second, .val (.long q1), .second, .val (.int p2), .val (.int (1 : Int32)), .val (.int (0 : Int32)), .val (.ref oa), .val (.ref ob), .val (.long (f_lo zA)), .second, .val (.long (0 : Int64)), .second, .val (.long (f_lo zA)), .second, .unset, .unset, .unset, .unset, .unset, .unset, .unset, .unset] [(.double (4636737291354636288 : UInt64)), (.ref oa)]))
      refine Owes.callV X67 hx hZ hown (hw _ (List.mem_of_getElem? (i := 35) rfl)) (hw _ (List.mem_of_getElem? (i := 36) rfl)) (notFace_of_selects (args := #[]) (mvT hZ (hw _ (List.mem_of_getElem? (i := 38) rfl)))) (hw _ (List.mem_of_getElem? (i := 38) rfl)) (hw _ (List.mem_of_getElem? (i := 37) rfl)) (hw _ (List.mem_of_getElem? (i := 2) rfl)) (hw _ (List.mem_of_getElem? (i := 39) rfl)) (by decide) (a := oa) (argsL := [(.double (4636737291354636288 : UInt64))]) (rest := []) (rm_pc l Z a0 hw [] oa (4636737291354636288 : UInt64) T66.heap (0 : Int32) fp_c1_100 fp_c2_100 fp_n2_100 raa (hit ia) (1 : Int64) (by decide) O66 (4607182418800017408 : UInt64) (4607182418800017408 : UInt64) (4607182418800017408 : UInt64) (4607182418800017408 : UInt64) (1 : Int64) fp_nq_100 fp_hq_100 fp_l2_1 fp_nb_100_1 fp_hb_100_1 good1 (by decide) fp_rk_100_1 ia hian zA hzA (fun j h => lo_hit h) (hi_hit ia) (Sta.keep0 SA KK66) (Sta.keep0 SE KK66)) e67 O66.1 (by rw [hml]; rfl) pd_7 rfl rfl (hb hby at_110) (by decide) (Nat.le_of_ble_eq_true rfl) (by decide) (by decide) ?_
      rintro T68 _ _ X68 ⟨rfl, rfl, e68⟩
      rw [List.append_nil] at X68
      show Owes _ _ _ _ (T68.setTop (mkF m 113 #[.val (.long q0), .second, .val (.long q1), .second, .val (.int p2), .val (.int (1 : Int32)), .val (.int (0 : Int32)), .val (.ref oa), .val (.ref ob), .val (.long (f_lo zA)), .second, .val (.long (0 : Int64)), .second, .val (.long (f_lo zA)), .second, .unset, .unset, .unset, .unset, .unset, .unset, .unset, .unset] [(.long (f_lo zA))]))
      refine Owes.go ?_ fun t₀ k₀ => XS.lstore X68.here hx rfl (hb hby at_113) rfl (l' := #[.val (.long q0), .second, .val (.long q1), .second, .val (.int p2), .val (.int (1 : Int32)), .val (.int (0 : Int32)), .val (.ref oa), .val (.ref ob), .val (.long (f_lo zA)), .second, .val (.long (0 : Int64)), .second, .val (.long (f_lo zA)), .second, .val (.long (f_lo zA)), .second, .unset, .unset, .unset, .unset, .unset, .unset]) rfl k₀
      show Owes _ _ _ _ (T68.setTop (mkF m 115 #[.val (.long q0), .second, .val (.long q1), .second, .val (.int p2), .val (.int (1 : Int32)), .val (.int (0 : Int32)), .val (.ref oa), .val (.ref ob), .val (.long (f_lo zA)), .second, .val (.long (0 : Int64)), .second, .val (.long (f_lo zA)), .second, .val (.long (f_lo zA)), .second, .unset, .unset, .unset, .unset, .unset, .unset] []))
      refine Owes.go ?_ fun t₀ k₀ => XS.aload X68.here hx rfl (hb hby at_115) rfl rfl k₀
      show Owes _ _ _ _ (T68.setTop (mkF m 117 #[.val (.long q0), .second, .val (.long q1), .second, .val (.int p2), .val (.int (1 : Int32)), .val (.int (0 : Int32)), .val (.ref oa), .val (.ref ob), .val (.long (f_lo zA)), .second, .val (.long (0 : Int64)), .second, .val (.long (f_lo zA)), .second, .val (.long (f_lo zA)), .second, .unset, .unset, .unset, .unset, .unset, .unset] [(.ref ob)]))
      refine Owes.go ?_ fun t₀ k₀ => X68.ldc2DoubleC hx hown (mv hZ (hw _ (List.mem_of_getElem? (i := 34) rfl))) (g := (mkF m 117 #[.val (.long q0), .second, .val (.long q1), .second, .val (.int p2), .val (.int (1 : Int32)), .val (.int (0 : Int32)), .val (.ref oa), .val (.ref ob), .val (.long (f_lo zA)), .second, .val (.long (0 : Int64)), .second, .val (.long (f_lo zA)), .second, .val (.long (f_lo zA)), .second, .unset, .unset, .unset, .unset, .unset, .unset] [(.ref ob)])) rfl (hb hby at_117) _ k₀
      show Owes _ _ _ _ (T68.setTop (mkF m 120 #[.val (.long q0), .second, .val (.long q1), .second, .val (.int p2), .val (.int (1 : Int32)), .val (.int (0 : Int32)), .val (.ref oa), .val (.ref ob), .val (.long (f_lo zA)), .second, .val (.long (0 : Int64)), .second, .val (.long (f_lo zA)), .second, .val (.long (f_lo zA)), .second, .unset, .unset, .unset, .unset, .unset, .unset] [(.double (4636737291354636288 : UInt64)), (.ref ob)]))
      refine Owes.callV X68 hx hZ hown (hw _ (List.mem_of_getElem? (i := 35) rfl)) (hw _ (List.mem_of_getElem? (i := 36) rfl)) (notFace_of_selects (args := #[]) (mvT hZ (hw _ (List.mem_of_getElem? (i := 38) rfl)))) (hw _ (List.mem_of_getElem? (i := 38) rfl)) (hw _ (List.mem_of_getElem? (i := 37) rfl)) (hw _ (List.mem_of_getElem? (i := 2) rfl)) (hw _ (List.mem_of_getElem? (i := 39) rfl)) (by decide) (a := ob) (argsL := [(.double (4636737291354636288 : UInt64))]) (rest := []) (rm_pc0 l Z a0 hw [] ob (4636737291354636288 : UInt64) T66.heap (0 : Int32) fp_c1_100 fp_c2_100 fp_n2_100 rbb (fun _ => (0 : Int64)) OB66) e68 OB66.1 (by rw [hml]; rfl) pd_7 rfl rfl (hb hby at_120) (by decide) (Nat.le_of_ble_eq_true rfl) (by decide) (by decide) ?_
      rintro T69 _ _ X69 ⟨rfl, rfl, e69⟩
      rw [List.append_nil] at X69
      show Owes _ _ _ _ (T69.setTop (mkF m 123 #[.val (.long q0), .second, .val (.long q1), .second, .val (.int p2), .val (.int (1 : Int32)), .val (.int (0 : Int32)), .val (.ref oa), .val (.ref ob), .val (.long (f_lo zA)), .second, .val (.long (0 : Int64)), .second, .val (.long (f_lo zA)), .second, .val (.long (f_lo zA)), .second, .unset, .unset, .unset, .unset, .unset, .unset] [(.long (0 : Int64))]))
      refine Owes.go ?_ fun t₀ k₀ => XS.lstore X69.here hx rfl (hb hby at_123) rfl (l' := #[.val (.long q0), .second, .val (.long q1), .second, .val (.int p2), .val (.int (1 : Int32)), .val (.int (0 : Int32)), .val (.ref oa), .val (.ref ob), .val (.long (f_lo zA)), .second, .val (.long (0 : Int64)), .second, .val (.long (f_lo zA)), .second, .val (.long (f_lo zA)), .second, .val (.long (0 : Int64)), .second, .unset, .unset, .unset, .unset]) rfl k₀
      show Owes _ _ _ _ (T69.setTop (mkF m 125 #[.val (.long q0), .second, .val (.long q1), .second, .val (.int p2), .val (.int (1 : Int32)), .val (.int (0 : Int32)), .val (.ref oa), .val (.ref ob), .val (.long (f_lo zA)), .second, .val (.long (0 : Int64)), .second, .val (.long (f_lo zA)), .second, .val (.long (f_lo zA)), .second, .val (.long (0 : Int64)), .second, .unset, .unset, .unset, .unset] []))
      refine Owes.go ?_ fun t₀ k₀ => XS.iload X69.here hx rfl (hb hby at_125) rfl k₀
      show Owes _ _ _ _ (T69.setTop (mkF m 127 #[.val (.long q0), .second, .val (.long q1), .second, .val (.int p2), .val (.int (1 : Int32)), .val (.int (0 : Int32)), .val (.ref oa), .val (.ref ob), .val (.long (f_lo zA)), .second, .val (.long (0 : Int64)), .second, .val (.long (f_lo zA)), .second, .val (.long (f_lo zA)), .second, .val (.long (0 : Int64)), .second, .unset, .unset, .unset, .unset] [(.int (1 : Int32))]))
      refine Owes.go ?_ fun t₀ k₀ => XS.ifNo X69.here hx rfl (hb hby at_127) rfl ((if0 _ _).trans (feq (by decide : ¬ ((1 : Int32) = (0 : Int32)))).1) k₀
      show Owes _ _ _ _ (T69.setTop (mkF m 130 #[.val (.long q0), .second, .val (.long q1), .second, .val (.int p2), .val (.int (1 : Int32)), .val (.int (0 : Int32)), .val (.ref oa), .val (.ref ob), .val (.long (f_lo zA)), .second, .val (.long (0 : Int64)), .second, .val (.long (f_lo zA)), .second, .val (.long (f_lo zA)), .second, .val (.long (0 : Int64)), .second, .unset, .unset, .unset, .unset] []))
      refine Owes.go ?_ fun t₀ k₀ => XS.iload X69.here hx rfl (hb hby at_130) rfl k₀
      show Owes _ _ _ _ (T69.setTop (mkF m 132 #[.val (.long q0), .second, .val (.long q1), .second, .val (.int p2), .val (.int (1 : Int32)), .val (.int (0 : Int32)), .val (.ref oa), .val (.ref ob), .val (.long (f_lo zA)), .second, .val (.long (0 : Int64)), .second, .val (.long (f_lo zA)), .second, .val (.long (f_lo zA)), .second, .val (.long (0 : Int64)), .second, .unset, .unset, .unset, .unset] [(.int (0 : Int32))]))
      refine Owes.go ?_ fun t₀ k₀ => XS.ifYes X69.here hx rfl (pc0 := 132) (pc' := 156) rfl (hb hby at_132) rfl ((if0 _ _).trans (teq (by decide : ((0 : Int32) = (0 : Int32)))).1) (by decide) (by decide) k₀
      show Owes _ _ _ _ (T69.setTop (mkF m 156 #[.val (.long q0), .second, .val (.long q1), .second, .val (.int p2), .val (.int (1 : Int32)), .val (.int (0 : Int32)), .val (.ref oa), .val (.ref ob), .val (.long (f_lo zA)), .second, .val (.long (0 : Int64)), .second, .val (.long (f_lo zA)), .second, .val (.long (f_lo zA)), .second, .val (.long (0 : Int64)), .second, .unset, .unset, .unset, .unset] []))
      refine Owes.go ?_ fun t₀ k₀ => XS.iload X69.here hx rfl (hb hby at_156) rfl k₀
      show Owes _ _ _ _ (T69.setTop (mkF m 158 #[.val (.long q0), .second, .val (.long q1), .second, .val (.int p2), .val (.int (1 : Int32)), .val (.int (0 : Int32)), .val (.ref oa), .val (.ref ob), .val (.long (f_lo zA)), .second, .val (.long (0 : Int64)), .second, .val (.long (f_lo zA)), .second, .val (.long (f_lo zA)), .second, .val (.long (0 : Int64)), .second, .unset, .unset, .unset, .unset] [(.int (1 : Int32))]))
      refine Owes.go ?_ fun t₀ k₀ => XS.ifNo X69.here hx rfl (hb hby at_158) rfl ((if0 _ _).trans (feq (by decide : ¬ ((1 : Int32) = (0 : Int32)))).1) k₀
      show Owes _ _ _ _ (T69.setTop (mkF m 161 #[.val (.long q0), .second, .val (.long q1), .second, .val (.int p2), .val (.int (1 : Int32)), .val (.int (0 : Int32)), .val (.ref oa), .val (.ref ob), .val (.long (f_lo zA)), .second, .val (.long (0 : Int64)), .second, .val (.long (f_lo zA)), .second, .val (.long (f_lo zA)), .second, .val (.long (0 : Int64)), .second, .unset, .unset, .unset, .unset] []))
      refine Owes.go ?_ fun t₀ k₀ => XS.lload X69.here hx rfl (hb hby at_161) rfl k₀
      show Owes _ _ _ _ (T69.setTop (mkF m 163 #[.val (.long q0), .second, .val (.long q1), .second, .val (.int p2), .val (.int (1 : Int32)), .val (.int (0 : Int32)), .val (.ref oa), .val (.ref ob), .val (.long (f_lo zA)), .second, .val (.long (0 : Int64)), .second, .val (.long (f_lo zA)), .second, .val (.long (f_lo zA)), .second, .val (.long (0 : Int64)), .second, .unset, .unset, .unset, .unset] [(.long (f_lo zA))]))
      refine Owes.go ?_ fun t₀ k₀ => XS.lstore X69.here hx rfl (hb hby at_163) rfl (l' := #[.val (.long q0), .second, .val (.long q1), .second, .val (.int p2), .val (.int (1 : Int32)), .val (.int (0 : Int32)), .val (.ref oa), .val (.ref ob), .val (.long (f_lo zA)), .second, .val (.long (0 : Int64)), .second, .val (.long (f_lo zA)), .second, .val (.long (f_lo zA)), .second, .val (.long (0 : Int64)), .second, .val (.long (f_lo zA)), .second, .unset, .unset]) rfl k₀
      show Owes _ _ _ _ (T69.setTop (mkF m 165 #[.val (.long q0), .second, .val (.long q1), .second, .val (.int p2), .val (.int (1 : Int32)), .val (.int (0 : Int32)), .val (.ref oa), .val (.ref ob), .val (.long (f_lo zA)), .second, .val (.long (0 : Int64)), .second, .val (.long (f_lo zA)), .second, .val (.long (f_lo zA)), .second, .val (.long (0 : Int64)), .second, .val (.long (f_lo zA)), .second, .unset, .unset] []))
      refine Owes.go ?_ fun t₀ k₀ => XS.lload X69.here hx rfl (hb hby at_165) rfl k₀
      show Owes _ _ _ _ (T69.setTop (mkF m 167 #[.val (.long q0), .second, .val (.long q1), .second, .val (.int p2), .val (.int (1 : Int32)), .val (.int (0 : Int32)), .val (.ref oa), .val (.ref ob), .val (.long (f_lo zA)), .second, .val (.long (0 : Int64)), .second, .val (.long (f_lo zA)), .second, .val (.long (f_lo zA)), .second, .val (.long (0 : Int64)), .second, .val (.long (f_lo zA)), .second, .unset, .unset] [(.long (f_lo zA))]))
      refine Owes.go ?_ fun t₀ k₀ => XS.lstore X69.here hx rfl (hb hby at_167) rfl (l' := #[.val (.long q0), .second, .val (.long q1), .second, .val (.int p2), .val (.int (1 : Int32)), .val (.int (0 : Int32)), .val (.ref oa), .val (.ref ob), .val (.long (f_lo zA)), .second, .val (.long (0 : Int64)), .second, .val (.long (f_lo zA)), .second, .val (.long (f_lo zA)), .second, .val (.long (0 : Int64)), .second, .val (.long (f_lo zA)), .second, .val (.long (f_lo zA)), .second]) rfl k₀
      show Owes _ _ _ _ (T69.setTop (mkF m 169 #[.val (.long q0), .second, .val (.long q1), .second, .val (.int p2), .val (.int (1 : Int32)), .val (.int (0 : Int32)), .val (.ref oa), .val (.ref ob), .val (.long (f_lo zA)), .second, .val (.long (0 : Int64)), .second, .val (.long (f_lo zA)), .second, .val (.long (f_lo zA)), .second, .val (.long (0 : Int64)), .second, .val (.long (f_lo zA)), .second, .val (.long (f_lo zA)), .second] []))
      refine Owes.go ?_ fun t₀ k₀ => XS.goto X69.here hx rfl (pc0 := 169) (pc' := 194) rfl (hb hby at_169) (by decide) (by decide) k₀
      show Owes _ _ _ _ (T69.setTop (mkF m 194 #[.val (.long q0), .second, .val (.long q1), .second, .val (.int p2), .val (.int (1 : Int32)), .val (.int (0 : Int32)), .val (.ref oa), .val (.ref ob), .val (.long (f_lo zA)), .second, .val (.long (0 : Int64)), .second, .val (.long (f_lo zA)), .second, .val (.long (f_lo zA)), .second, .val (.long (0 : Int64)), .second, .val (.long (f_lo zA)), .second, .val (.long (f_lo zA)), .second] []))
      refine Owes.go ?_ fun t₀ k₀ => XS.lload X69.here hx rfl (hb hby at_194) rfl k₀
      show Owes _ _ _ _ (T69.setTop (mkF m 196 #[.val (.long q0), .second, .val (.long q1), .second, .val (.int p2), .val (.int (1 : Int32)), .val (.int (0 : Int32)), .val (.ref oa), .val (.ref ob), .val (.long (f_lo zA)), .second, .val (.long (0 : Int64)), .second, .val (.long (f_lo zA)), .second, .val (.long (f_lo zA)), .second, .val (.long (0 : Int64)), .second, .val (.long (f_lo zA)), .second, .val (.long (f_lo zA)), .second] [(.long (f_lo zA))]))
      refine Owes.go ?_ fun t₀ k₀ => XS.lload X69.here hx rfl (hb hby at_196) rfl k₀
      show Owes _ _ _ _ (T69.setTop (mkF m 198 #[.val (.long q0), .second, .val (.long q1), .second, .val (.int p2), .val (.int (1 : Int32)), .val (.int (0 : Int32)), .val (.ref oa), .val (.ref ob), .val (.long (f_lo zA)), .second, .val (.long (0 : Int64)), .second, .val (.long (f_lo zA)), .second, .val (.long (f_lo zA)), .second, .val (.long (0 : Int64)), .second, .val (.long (f_lo zA)), .second, .val (.long (f_lo zA)), .second] [(.long (f_lo zA)), (.long (f_lo zA))]))
      refine Owes.go ?_ fun t₀ k₀ => XS.lcmp X69.here hx rfl (hb hby at_198) rfl k₀
      show Owes _ _ _ _ (T69.setTop (mkF m 199 #[.val (.long q0), .second, .val (.long q1), .second, .val (.int p2), .val (.int (1 : Int32)), .val (.int (0 : Int32)), .val (.ref oa), .val (.ref ob), .val (.long (f_lo zA)), .second, .val (.long (0 : Int64)), .second, .val (.long (f_lo zA)), .second, .val (.long (f_lo zA)), .second, .val (.long (0 : Int64)), .second, .val (.long (f_lo zA)), .second, .val (.long (f_lo zA)), .second] [(.int (lcmpW (f_lo zA) (f_lo zA)))]))
      refine Owes.go ?_ fun t₀ k₀ => XS.ifNo X69.here hx rfl (hb hby at_199) rfl ((if0 _ _).trans (teq ((lw_eq _ _).mpr (rfl))).2) k₀
      show Owes _ _ _ _ (T69.setTop (mkF m 202 #[.val (.long q0), .second, .val (.long q1), .second, .val (.int p2), .val (.int (1 : Int32)), .val (.int (0 : Int32)), .val (.ref oa), .val (.ref ob), .val (.long (f_lo zA)), .second, .val (.long (0 : Int64)), .second, .val (.long (f_lo zA)), .second, .val (.long (f_lo zA)), .second, .val (.long (0 : Int64)), .second, .val (.long (f_lo zA)), .second, .val (.long (f_lo zA)), .second] []))
      refine Owes.go ?_ fun t₀ k₀ => XS.lload X69.here hx rfl (hb hby at_202) rfl k₀
      show Owes _ _ _ _ (T69.setTop (mkF m 204 #[.val (.long q0), .second, .val (.long q1), .second, .val (.int p2), .val (.int (1 : Int32)), .val (.int (0 : Int32)), .val (.ref oa), .val (.ref ob), .val (.long (f_lo zA)), .second, .val (.long (0 : Int64)), .second, .val (.long (f_lo zA)), .second, .val (.long (f_lo zA)), .second, .val (.long (0 : Int64)), .second, .val (.long (f_lo zA)), .second, .val (.long (f_lo zA)), .second] [(.long (f_lo zA))]))
      refine Owes.go ?_ fun t₀ k₀ => XS.lload X69.here hx rfl (hb hby at_204) rfl k₀
      show Owes _ _ _ _ (T69.setTop (mkF m 206 #[.val (.long q0), .second, .val (.long q1), .second, .val (.int p2), .val (.int (1 : Int32)), .val (.int (0 : Int32)), .val (.ref oa), .val (.ref ob), .val (.long (f_lo zA)), .second, .val (.long (0 : Int64)), .second, .val (.long (f_lo zA)), .second, .val (.long (f_lo zA)), .second, .val (.long (0 : Int64)), .second, .val (.long (f_lo zA)), .second, .val (.long (f_lo zA)), .second] [(.long (f_lo zA)), (.long (f_lo zA))]))
      refine Owes.go ?_ fun t₀ k₀ => XS.lcmp X69.here hx rfl (hb hby at_206) rfl k₀
      show Owes _ _ _ _ (T69.setTop (mkF m 207 #[.val (.long q0), .second, .val (.long q1), .second, .val (.int p2), .val (.int (1 : Int32)), .val (.int (0 : Int32)), .val (.ref oa), .val (.ref ob), .val (.long (f_lo zA)), .second, .val (.long (0 : Int64)), .second, .val (.long (f_lo zA)), .second, .val (.long (f_lo zA)), .second, .val (.long (0 : Int64)), .second, .val (.long (f_lo zA)), .second, .val (.long (f_lo zA)), .second] [(.int (lcmpW (f_lo zA) (f_lo zA)))]))
      refine Owes.go ?_ fun t₀ k₀ => XS.ifNo X69.here hx rfl (hb hby at_207) rfl ((if0 _ _).trans (teq ((lw_eq _ _).mpr (rfl))).2) k₀
      show Owes _ _ _ _ (T69.setTop (mkF m 210 #[.val (.long q0), .second, .val (.long q1), .second, .val (.int p2), .val (.int (1 : Int32)), .val (.int (0 : Int32)), .val (.ref oa), .val (.ref ob), .val (.long (f_lo zA)), .second, .val (.long (0 : Int64)), .second, .val (.long (f_lo zA)), .second, .val (.long (f_lo zA)), .second, .val (.long (0 : Int64)), .second, .val (.long (f_lo zA)), .second, .val (.long (f_lo zA)), .second] []))
      refine Owes.go ?_ fun t₀ k₀ => XS.lload X69.here hx rfl (hb hby at_210) rfl k₀
      show Owes _ _ _ _ (T69.setTop (mkF m 212 #[.val (.long q0), .second, .val (.long q1), .second, .val (.int p2), .val (.int (1 : Int32)), .val (.int (0 : Int32)), .val (.ref oa), .val (.ref ob), .val (.long (f_lo zA)), .second, .val (.long (0 : Int64)), .second, .val (.long (f_lo zA)), .second, .val (.long (f_lo zA)), .second, .val (.long (0 : Int64)), .second, .val (.long (f_lo zA)), .second, .val (.long (f_lo zA)), .second] [(.long (0 : Int64))]))
      refine Owes.go ?_ fun t₀ k₀ => XS.lload X69.here hx rfl (hb hby at_212) rfl k₀
      show Owes _ _ _ _ (T69.setTop (mkF m 214 #[.val (.long q0), .second, .val (.long q1), .second, .val (.int p2), .val (.int (1 : Int32)), .val (.int (0 : Int32)), .val (.ref oa), .val (.ref ob), .val (.long (f_lo zA)), .second, .val (.long (0 : Int64)), .second, .val (.long (f_lo zA)), .second, .val (.long (f_lo zA)), .second, .val (.long (0 : Int64)), .second, .val (.long (f_lo zA)), .second, .val (.long (f_lo zA)), .second] [(.long (0 : Int64)), (.long (0 : Int64))]))
      refine Owes.go ?_ fun t₀ k₀ => XS.lcmp X69.here hx rfl (hb hby at_214) rfl k₀
      show Owes _ _ _ _ (T69.setTop (mkF m 215 #[.val (.long q0), .second, .val (.long q1), .second, .val (.int p2), .val (.int (1 : Int32)), .val (.int (0 : Int32)), .val (.ref oa), .val (.ref ob), .val (.long (f_lo zA)), .second, .val (.long (0 : Int64)), .second, .val (.long (f_lo zA)), .second, .val (.long (f_lo zA)), .second, .val (.long (0 : Int64)), .second, .val (.long (f_lo zA)), .second, .val (.long (f_lo zA)), .second] [(.int (lcmpW (0 : Int64) (0 : Int64)))]))
      refine Owes.go ?_ fun t₀ k₀ => XS.ifNo X69.here hx rfl (hb hby at_215) rfl ((if0 _ _).trans (teq ((lw_eq _ _).mpr (rfl))).2) k₀
      show Owes _ _ _ _ (T69.setTop (mkF m 218 #[.val (.long q0), .second, .val (.long q1), .second, .val (.int p2), .val (.int (1 : Int32)), .val (.int (0 : Int32)), .val (.ref oa), .val (.ref ob), .val (.long (f_lo zA)), .second, .val (.long (0 : Int64)), .second, .val (.long (f_lo zA)), .second, .val (.long (f_lo zA)), .second, .val (.long (0 : Int64)), .second, .val (.long (f_lo zA)), .second, .val (.long (f_lo zA)), .second] []))
      refine Owes.go ?_ fun t₀ k₀ => XS.iconst X69.here hx rfl (hb hby at_218) k₀
      show Owes _ _ _ _ (T69.setTop (mkF m 219 #[.val (.long q0), .second, .val (.long q1), .second, .val (.int p2), .val (.int (1 : Int32)), .val (.int (0 : Int32)), .val (.ref oa), .val (.ref ob), .val (.long (f_lo zA)), .second, .val (.long (0 : Int64)), .second, .val (.long (f_lo zA)), .second, .val (.long (f_lo zA)), .second, .val (.long (0 : Int64)), .second, .val (.long (f_lo zA)), .second, .val (.long (f_lo zA)), .second] [(.int (1 : Int32))]))
      refine Owes.go ?_ fun t₀ k₀ => XS.goto X69.here hx rfl (pc0 := 219) (pc' := 223) rfl (hb hby at_219) (by decide) (by decide) k₀
      show Owes _ _ _ _ (T69.setTop (mkF m 223 #[.val (.long q0), .second, .val (.long q1), .second, .val (.int p2), .val (.int (1 : Int32)), .val (.int (0 : Int32)), .val (.ref oa), .val (.ref ob), .val (.long (f_lo zA)), .second, .val (.long (0 : Int64)), .second, .val (.long (f_lo zA)), .second, .val (.long (f_lo zA)), .second, .val (.long (0 : Int64)), .second, .val (.long (f_lo zA)), .second, .val (.long (f_lo zA)), .second] [(.int (1 : Int32))]))
      exact Owes.retN X69 hx hlk hret (by simp) (hb hby at_223) (by decide) (by decide) ⟨rfl, NF66⟩
    · skip
      refine Owes.go ?_ fun t₀ k₀ => XS.ifNo X0.here hx rfl (hb hby at_18) rfl ((if0 _ _).trans (feq hc3).1) k₀
      show Owes _ _ _ _ (s₁.setTop (mkF m 21 #[.val (.long q0), .second, .val (.long q1), .second, .val (.int p2), .val (.int (1 : Int32)), .unset, .unset, .unset, .unset, .unset, .unset, .unset, .unset, .unset, .unset, .unset, .unset, .unset, .unset, .unset, .unset, .unset] []))
      refine Owes.go ?_ fun t₀ k₀ => XS.iconst X0.here hx rfl (hb hby at_21) k₀
      show Owes _ _ _ _ (s₁.setTop (mkF m 22 #[.val (.long q0), .second, .val (.long q1), .second, .val (.int p2), .val (.int (1 : Int32)), .unset, .unset, .unset, .unset, .unset, .unset, .unset, .unset, .unset, .unset, .unset, .unset, .unset, .unset, .unset, .unset, .unset] [(.int (1 : Int32))]))
      refine Owes.go ?_ fun t₀ k₀ => XS.goto X0.here hx rfl (pc0 := 22) (pc' := 26) rfl (hb hby at_22) (by decide) (by decide) k₀
      show Owes _ _ _ _ (s₁.setTop (mkF m 26 #[.val (.long q0), .second, .val (.long q1), .second, .val (.int p2), .val (.int (1 : Int32)), .unset, .unset, .unset, .unset, .unset, .unset, .unset, .unset, .unset, .unset, .unset, .unset, .unset, .unset, .unset, .unset, .unset] [(.int (1 : Int32))]))
      refine Owes.go ?_ fun t₀ k₀ => XS.istore X0.here hx rfl (hb hby at_26) rfl (l' := #[.val (.long q0), .second, .val (.long q1), .second, .val (.int p2), .val (.int (1 : Int32)), .val (.int (1 : Int32)), .unset, .unset, .unset, .unset, .unset, .unset, .unset, .unset, .unset, .unset, .unset, .unset, .unset, .unset, .unset, .unset]) rfl k₀
      show Owes _ _ _ _ (s₁.setTop (mkF m 28 #[.val (.long q0), .second, .val (.long q1), .second, .val (.int p2), .val (.int (1 : Int32)), .val (.int (1 : Int32)), .unset, .unset, .unset, .unset, .unset, .unset, .unset, .unset, .unset, .unset, .unset, .unset, .unset, .unset, .unset, .unset] []))
      refine Owes.newO X0 hx hZ hown (hw _ (List.mem_of_getElem? (i := 0) rfl)) (hw _ (List.mem_of_getElem? (i := 1) rfl)) (hw _ (List.mem_of_getElem? (i := 2) rfl)) e0 (hb hby at_28) (by decide) (by decide) ?_
      intro T70 h70 X70 e70 E70 A70 D70
      obtain ⟨oa, goa⟩ : ∃ z, z = h0.size := ⟨_, rfl⟩
      rw [← goa] at A70 ⊢
      have ge_oa : h0.size ≤ oa := by rw [goa]; exact K0.1
      have gn_oa : n0 ≤ oa := Nat.le_trans Z0 ge_oa
      have K_70 := K0.ext E70
      have ST_70 := ST0.ext E70
      have F_oa_counts_70 : Fld Z h70 oa "com/example/holdfast/holdfast/bench/LatencyHistogram" "counts" "[J" .null := by rw [goa]; exact D70 (Or.inr (hw _ (List.mem_of_getElem? (i := 33) rfl))) (ty := (.array .long)) (by decide)
      have F_oa_total_70 : Fld Z h70 oa "com/example/holdfast/holdfast/bench/LatencyHistogram" "total" "J" (.long (0 : Int64)) := by rw [goa]; exact D70 (Or.inl (hw _ (List.mem_of_getElem? (i := 42) rfl))) (ty := .long) (by decide)
      show Owes _ _ _ _ (T70.setTop (mkF m 31 #[.val (.long q0), .second, .val (.long q1), .second, .val (.int p2), .val (.int (1 : Int32)), .val (.int (1 : Int32)), .unset, .unset, .unset, .unset, .unset, .unset, .unset, .unset, .unset, .unset, .unset, .unset, .unset, .unset, .unset, .unset] [(.ref oa)]))
      refine Owes.go ?_ fun t₀ k₀ => XS.dup X70.here hx rfl (hb hby at_31) rfl rfl k₀
      show Owes _ _ _ _ (T70.setTop (mkF m 32 #[.val (.long q0), .second, .val (.long q1), .second, .val (.int p2), .val (.int (1 : Int32)), .val (.int (1 : Int32)), .unset, .unset, .unset, .unset, .unset, .unset, .unset, .unset, .unset, .unset, .unset, .unset, .unset, .unset, .unset, .unset] [(.ref oa), (.ref oa)]))
      refine Owes.callC X70 hx hZ rfl hown (hw _ (List.mem_of_getElem? (i := 3) rfl)) (hw _ (List.mem_of_getElem? (i := 4) rfl)) (hw _ (List.mem_of_getElem? (i := 2) rfl)) (hw _ (List.mem_of_getElem? (i := 5) rfl)) (by decide) (a := oa) (argsL := []) (rest := [(.ref oa)]) (rm_init l Z a0 hw [] oa h70 n0 (Nat.le_trans Z0 K_70.1) gn_oa A70 F_oa_counts_70 F_oa_total_70 (Sta.keep0 SB K_70)) e70 (by rw [hml]; rfl) pd_6 rfl rfl (hb hby at_32) (by decide) (Nat.le_of_ble_eq_true rfl) (by decide) (by decide) ?_
      rintro T71 v71 L71 X71 ⟨rfl, N71, K71, raa, hr71, O71⟩
      have ge_raa : h0.size ≤ raa := Nat.le_trans K_70.1 hr71
      have gn_raa : n0 ≤ raa := Nat.le_trans Z0 ge_raa
      have NF71 := Fr.app N0 N71
      have KK71 := K_70.trans K71 (own_ge1 ge_oa)
      show Owes _ _ _ _ (T71.setTop (mkF m 35 #[.val (.long q0), .second, .val (.long q1), .second, .val (.int p2), .val (.int (1 : Int32)), .val (.int (1 : Int32)), .unset, .unset, .unset, .unset, .unset, .unset, .unset, .unset, .unset, .unset, .unset, .unset, .unset, .unset, .unset, .unset] [(.ref oa)]))
      refine Owes.go ?_ fun t₀ k₀ => XS.astore X71.here hx rfl (hb hby at_35) rfl rfl (l' := #[.val (.long q0), .second, .val (.long q1), .second, .val (.int p2), .val (.int (1 : Int32)), .val (.int (1 : Int32)), .val (.ref oa), .unset, .unset, .unset, .unset, .unset, .unset, .unset, .unset, .unset, .unset, .unset, .unset, .unset, .unset, .unset]) rfl k₀
      show Owes _ _ _ _ (T71.setTop (mkF m 37 #[.val (.long q0), .second, .val (.long q1), .second, .val (.int p2), .val (.int (1 : Int32)), .val (.int (1 : Int32)), .val (.ref oa), .unset, .unset, .unset, .unset, .unset, .unset, .unset, .unset, .unset, .unset, .unset, .unset, .unset, .unset, .unset] []))
      refine Owes.newO X71 hx hZ hown (hw _ (List.mem_of_getElem? (i := 0) rfl)) (hw _ (List.mem_of_getElem? (i := 1) rfl)) (hw _ (List.mem_of_getElem? (i := 2) rfl)) rfl (hb hby at_37) (by decide) (by decide) ?_
      intro T72 h72 X72 e72 E72 A72 D72
      obtain ⟨ob, gob⟩ : ∃ z, z = T71.heap.size := ⟨_, rfl⟩
      rw [← gob] at A72 ⊢
      have ge_ob : h0.size ≤ ob := by rw [gob]; exact KK71.1
      have gn_ob : n0 ≤ ob := Nat.le_trans Z0 ge_ob
      have K_72 := KK71.ext E72
      have ST_72 := (StK.of_keep (Z := Z) KK71).ext E72
      have F_ob_counts_72 : Fld Z h72 ob "com/example/holdfast/holdfast/bench/LatencyHistogram" "counts" "[J" .null := by rw [gob]; exact D72 (Or.inr (hw _ (List.mem_of_getElem? (i := 33) rfl))) (ty := (.array .long)) (by decide)
      have F_ob_total_72 : Fld Z h72 ob "com/example/holdfast/holdfast/bench/LatencyHistogram" "total" "J" (.long (0 : Int64)) := by rw [gob]; exact D72 (Or.inl (hw _ (List.mem_of_getElem? (i := 42) rfl))) (ty := .long) (by decide)
      have n_oa_ob : oa ≠ ob := Nat.ne_of_lt (by rw [gob]; exact (O71).1.lt)
      have OA72 := (O71).ext E72
      show Owes _ _ _ _ (T72.setTop (mkF m 40 #[.val (.long q0), .second, .val (.long q1), .second, .val (.int p2), .val (.int (1 : Int32)), .val (.int (1 : Int32)), .val (.ref oa), .unset, .unset, .unset, .unset, .unset, .unset, .unset, .unset, .unset, .unset, .unset, .unset, .unset, .unset, .unset] [(.ref ob)]))
      refine Owes.go ?_ fun t₀ k₀ => XS.dup X72.here hx rfl (hb hby at_40) rfl rfl k₀
      show Owes _ _ _ _ (T72.setTop (mkF m 41 #[.val (.long q0), .second, .val (.long q1), .second, .val (.int p2), .val (.int (1 : Int32)), .val (.int (1 : Int32)), .val (.ref oa), .unset, .unset, .unset, .unset, .unset, .unset, .unset, .unset, .unset, .unset, .unset, .unset, .unset, .unset, .unset] [(.ref ob), (.ref ob)]))
      refine Owes.callC X72 hx hZ rfl hown (hw _ (List.mem_of_getElem? (i := 3) rfl)) (hw _ (List.mem_of_getElem? (i := 4) rfl)) (hw _ (List.mem_of_getElem? (i := 2) rfl)) (hw _ (List.mem_of_getElem? (i := 5) rfl)) (by decide) (a := ob) (argsL := []) (rest := [(.ref ob)]) (rm_init l Z a0 hw [] ob h72 n0 (Nat.le_trans Z0 K_72.1) gn_ob A72 F_ob_counts_72 F_ob_total_72 (Sta.keep0 SB K_72)) e72 (by rw [hml]; rfl) pd_6 rfl rfl (hb hby at_41) (by decide) (Nat.le_of_ble_eq_true rfl) (by decide) (by decide) ?_
      rintro T73 v73 L73 X73 ⟨rfl, N73, K73, rbb, hr73, O73⟩
      have ge_rbb : h0.size ≤ rbb := Nat.le_trans K_72.1 hr73
      have gn_rbb : n0 ≤ rbb := Nat.le_trans Z0 ge_rbb
      have NF73 := Fr.app NF71 N73
      have KK73 := K_72.trans K73 (own_ge1 ge_ob)
      have n_ra_ob : raa ≠ ob := Ne.symm (GA.ne_obj A72 wi (OA72).2.2.2)
      have n_ra_rb : raa ≠ rbb := Nat.ne_of_lt (Nat.lt_of_lt_of_le (OA72).2.2.2.lt hr73)
      have OA73 := (OA72).keep K73 (own_ni1 n_oa_ob) (own_ni1 n_ra_ob)
      have n_oa_rb : oa ≠ rbb := GA.ne_obj (OA73).1 wi (O73).2.2.2
      have n_oa_ra := (OA73).ne wi
      have n_ob_rb := (O73).ne wi
      show Owes _ _ _ _ (T73.setTop (mkF m 44 #[.val (.long q0), .second, .val (.long q1), .second, .val (.int p2), .val (.int (1 : Int32)), .val (.int (1 : Int32)), .val (.ref oa), .unset, .unset, .unset, .unset, .unset, .unset, .unset, .unset, .unset, .unset, .unset, .unset, .unset, .unset, .unset] [(.ref ob)]))
      refine Owes.go ?_ fun t₀ k₀ => XS.astore X73.here hx rfl (hb hby at_44) rfl rfl (l' := #[.val (.long q0), .second, .val (.long q1), .second, .val (.int p2), .val (.int (1 : Int32)), .val (.int (1 : Int32)), .val (.ref oa), .val (.ref ob), .unset, .unset, .unset, .unset, .unset, .unset, .unset, .unset, .unset, .unset, .unset, .unset, .unset, .unset]) rfl k₀
      show Owes _ _ _ _ (T73.setTop (mkF m 46 #[.val (.long q0), .second, .val (.long q1), .second, .val (.int p2), .val (.int (1 : Int32)), .val (.int (1 : Int32)), .val (.ref oa), .val (.ref ob), .unset, .unset, .unset, .unset, .unset, .unset, .unset, .unset, .unset, .unset, .unset, .unset, .unset, .unset] []))
      refine Owes.go ?_ fun t₀ k₀ => XS.iload X73.here hx rfl (hb hby at_46) rfl k₀
      show Owes _ _ _ _ (T73.setTop (mkF m 48 #[.val (.long q0), .second, .val (.long q1), .second, .val (.int p2), .val (.int (1 : Int32)), .val (.int (1 : Int32)), .val (.ref oa), .val (.ref ob), .unset, .unset, .unset, .unset, .unset, .unset, .unset, .unset, .unset, .unset, .unset, .unset, .unset, .unset] [(.int (1 : Int32))]))
      refine Owes.go ?_ fun t₀ k₀ => XS.ifNo X73.here hx rfl (hb hby at_48) rfl ((if0 _ _).trans (feq (by decide : ¬ ((1 : Int32) = (0 : Int32)))).1) k₀
      show Owes _ _ _ _ (T73.setTop (mkF m 51 #[.val (.long q0), .second, .val (.long q1), .second, .val (.int p2), .val (.int (1 : Int32)), .val (.int (1 : Int32)), .val (.ref oa), .val (.ref ob), .unset, .unset, .unset, .unset, .unset, .unset, .unset, .unset, .unset, .unset, .unset, .unset, .unset, .unset] []))
      refine Owes.go ?_ fun t₀ k₀ => XS.aload X73.here hx rfl (hb hby at_51) rfl rfl k₀
      show Owes _ _ _ _ (T73.setTop (mkF m 53 #[.val (.long q0), .second, .val (.long q1), .second, .val (.int p2), .val (.int (1 : Int32)), .val (.int (1 : Int32)), .val (.ref oa), .val (.ref ob), .unset, .unset, .unset, .unset, .unset, .unset, .unset, .unset, .unset, .unset, .unset, .unset, .unset, .unset] [(.ref oa)]))
      refine Owes.go ?_ fun t₀ k₀ => XS.lloadN X73.here hx rfl (hb hby at_53) rfl k₀
      show Owes _ _ _ _ (T73.setTop (mkF m 54 #[.val (.long q0), .second, .val (.long q1), .second, .val (.int p2), .val (.int (1 : Int32)), .val (.int (1 : Int32)), .val (.ref oa), .val (.ref ob), .unset, .unset, .unset, .unset, .unset, .unset, .unset, .unset, .unset, .unset, .unset, .unset, .unset, .unset] [(.long q0), (.ref oa)]))
      refine Owes.callV X73 hx hZ hown (hw _ (List.mem_of_getElem? (i := 49) rfl)) (hw _ (List.mem_of_getElem? (i := 50) rfl)) (notFace_of_selects (args := #[]) (mvT hZ (hw _ (List.mem_of_getElem? (i := 52) rfl)))) (hw _ (List.mem_of_getElem? (i := 52) rfl)) (hw _ (List.mem_of_getElem? (i := 51) rfl)) (hw _ (List.mem_of_getElem? (i := 2) rfl)) (hw _ (List.mem_of_getElem? (i := 53) rfl)) (by decide) (a := oa) (argsL := [(.long q0)]) (rest := []) (rm_rec l Z a0 hw [] oa q0 T73.heap raa (fun _ => (0 : Int64)) (hit ia) 0 1 rfl n0 gn_oa gn_raa ia hia hian (fun i _ => own_hit ia i) OA73 (Sta.keep0 SB KK73) rN (Sta.keep0 SN KK73) (EN.keep KK73) (Fsc.keep KK73 List.not_mem_nil) (Fmr.keep KK73 List.not_mem_nil)) rfl OA73.1 (by rw [hml]; rfl) pd_9 rfl rfl (hb hby at_54) (by decide) (Nat.le_of_ble_eq_true rfl) (by decide) (by decide) ?_
      rintro T74 v74 L74 X74 ⟨rfl, N74, K74, O74⟩
      have NF74 := Fr.app NF73 N74
      have KK74 := KK73.trans K74 (own_ge2 ge_oa ge_raa)
      have OB74 := (O73).keep K74 (own_ni2 (Ne.symm n_oa_ob) (Ne.symm n_ra_ob)) (own_ni2 (Ne.symm n_oa_rb) (Ne.symm n_ra_rb))
      show Owes _ _ _ _ (T74.setTop (mkF m 57 #[.val (.long q0), .second, .val (.long q1), .second, .val (.int p2), .val (.int (1 : Int32)), .val (.int (1 : Int32)), .val (.ref oa), .val (.ref ob), .unset, .unset, .unset, .unset, .unset, .unset, .unset, .unset, .unset, .unset, .unset, .unset, .unset, .unset] []))
      refine Owes.go ?_ fun t₀ k₀ => XS.iload X74.here hx rfl (hb hby at_57) rfl k₀
      show Owes _ _ _ _ (T74.setTop (mkF m 59 #[.val (.long q0), .second, .val (.long q1), .second, .val (.int p2), .val (.int (1 : Int32)), .val (.int (1 : Int32)), .val (.ref oa), .val (.ref ob), .unset, .unset, .unset, .unset, .unset, .unset, .unset, .unset, .unset, .unset, .unset, .unset, .unset, .unset] [(.int (1 : Int32))]))
      refine Owes.go ?_ fun t₀ k₀ => XS.ifNo X74.here hx rfl (hb hby at_59) rfl ((if0 _ _).trans (feq (by decide : ¬ ((1 : Int32) = (0 : Int32)))).1) k₀
      show Owes _ _ _ _ (T74.setTop (mkF m 62 #[.val (.long q0), .second, .val (.long q1), .second, .val (.int p2), .val (.int (1 : Int32)), .val (.int (1 : Int32)), .val (.ref oa), .val (.ref ob), .unset, .unset, .unset, .unset, .unset, .unset, .unset, .unset, .unset, .unset, .unset, .unset, .unset, .unset] []))
      refine Owes.go ?_ fun t₀ k₀ => XS.aload X74.here hx rfl (hb hby at_62) rfl rfl k₀
      show Owes _ _ _ _ (T74.setTop (mkF m 64 #[.val (.long q0), .second, .val (.long q1), .second, .val (.int p2), .val (.int (1 : Int32)), .val (.int (1 : Int32)), .val (.ref oa), .val (.ref ob), .unset, .unset, .unset, .unset, .unset, .unset, .unset, .unset, .unset, .unset, .unset, .unset, .unset, .unset] [(.ref ob)]))
      refine Owes.go ?_ fun t₀ k₀ => XS.lloadN X74.here hx rfl (hb hby at_64) rfl k₀
      show Owes _ _ _ _ (T74.setTop (mkF m 65 #[.val (.long q0), .second, .val (.long q1), .second, .val (.int p2), .val (.int (1 : Int32)), .val (.int (1 : Int32)), .val (.ref oa), .val (.ref ob), .unset, .unset, .unset, .unset, .unset, .unset, .unset, .unset, .unset, .unset, .unset, .unset, .unset, .unset] [(.long q1), (.ref ob)]))
      refine Owes.callV X74 hx hZ hown (hw _ (List.mem_of_getElem? (i := 49) rfl)) (hw _ (List.mem_of_getElem? (i := 50) rfl)) (notFace_of_selects (args := #[]) (mvT hZ (hw _ (List.mem_of_getElem? (i := 52) rfl)))) (hw _ (List.mem_of_getElem? (i := 52) rfl)) (hw _ (List.mem_of_getElem? (i := 51) rfl)) (hw _ (List.mem_of_getElem? (i := 2) rfl)) (hw _ (List.mem_of_getElem? (i := 53) rfl)) (by decide) (a := ob) (argsL := [(.long q1)]) (rest := []) (rm_rec l Z a0 hw [] ob q1 T74.heap rbb (fun _ => (0 : Int64)) (hit ib) 0 1 rfl n0 gn_ob gn_rbb ib hib hibn (fun i _ => own_hit ib i) OB74 (Sta.keep0 SB KK74) rN (Sta.keep0 SN KK74) (EN.keep KK74) (Fsc.keep KK74 List.not_mem_nil) (Fmr.keep KK74 List.not_mem_nil)) rfl OB74.1 (by rw [hml]; rfl) pd_9 rfl rfl (hb hby at_65) (by decide) (Nat.le_of_ble_eq_true rfl) (by decide) (by decide) ?_
      rintro T75 v75 L75 X75 ⟨rfl, N75, K75, O75⟩
      have NF75 := Fr.app NF74 N75
      have KK75 := KK74.trans K75 (own_ge2 ge_ob ge_rbb)
      have OA75 := (O74).keep K75 (own_ni2 n_oa_ob n_oa_rb) (own_ni2 n_ra_ob n_ra_rb)
      show Owes _ _ _ _ (T75.setTop (mkF m 68 #[.val (.long q0), .second, .val (.long q1), .second, .val (.int p2), .val (.int (1 : Int32)), .val (.int (1 : Int32)), .val (.ref oa), .val (.ref ob), .unset, .unset, .unset, .unset, .unset, .unset, .unset, .unset, .unset, .unset, .unset, .unset, .unset, .unset] []))
      refine Owes.go ?_ fun t₀ k₀ => XS.aload X75.here hx rfl (hb hby at_68) rfl rfl k₀
      show Owes _ _ _ _ (T75.setTop (mkF m 70 #[.val (.long q0), .second, .val (.long q1), .second, .val (.int p2), .val (.int (1 : Int32)), .val (.int (1 : Int32)), .val (.ref oa), .val (.ref ob), .unset, .unset, .unset, .unset, .unset, .unset, .unset, .unset, .unset, .unset, .unset, .unset, .unset, .unset] [(.ref oa)]))
      refine Owes.go ?_ fun t₀ k₀ => X75.ldc2DoubleC hx hown (mv hZ (hw _ (List.mem_of_getElem? (i := 34) rfl))) (g := (mkF m 70 #[.val (.long q0), .second, .val (.long q1), .second, .val (.int p2), .val (.int (1 : Int32)), .val (.int (1 : Int32)), .val (.ref oa), .val (.ref ob), .unset, .unset, .unset, .unset, .unset, .unset, .unset, .unset, .unset, .unset, .unset, .unset, .unset, .unset] [(.ref oa)])) rfl (hb hby at_70) _ k₀
      show Owes _ _ _ _ (T75.setTop (mkF m 73 #[.val (.long q0), .second, .val (.long q1), .second, .val (.int p2), .val (.int (1 : Int32)), .val (.int (1 : Int32)), .val (.ref oa), .val (.ref ob), .unset, .unset, .unset, .unset, .unset, .unset, .unset, .unset, .unset, .unset, .unset, .unset, .unset, .unset] [(.double (4636737291354636288 : UInt64)), (.ref oa)]))
      refine Owes.callV X75 hx hZ hown (hw _ (List.mem_of_getElem? (i := 35) rfl)) (hw _ (List.mem_of_getElem? (i := 36) rfl)) (notFace_of_selects (args := #[]) (mvT hZ (hw _ (List.mem_of_getElem? (i := 38) rfl)))) (hw _ (List.mem_of_getElem? (i := 38) rfl)) (hw _ (List.mem_of_getElem? (i := 37) rfl)) (hw _ (List.mem_of_getElem? (i := 2) rfl)) (hw _ (List.mem_of_getElem? (i := 39) rfl)) (by decide) (a := oa) (argsL := [(.double (4636737291354636288 : UInt64))]) (rest := []) (rm_pc l Z a0 hw [] oa (4636737291354636288 : UInt64) T75.heap (0 : Int32) fp_c1_100 fp_c2_100 fp_n2_100 raa (hit ia) (1 : Int64) (by decide) OA75 (4607182418800017408 : UInt64) (4607182418800017408 : UInt64) (4607182418800017408 : UInt64) (4607182418800017408 : UInt64) (1 : Int64) fp_nq_100 fp_hq_100 fp_l2_1 fp_nb_100_1 fp_hb_100_1 good1 (by decide) fp_rk_100_1 ia hian zA hzA (fun j h => lo_hit h) (hi_hit ia) (Sta.keep0 SA KK75) (Sta.keep0 SE KK75)) rfl OA75.1 (by rw [hml]; rfl) pd_7 rfl rfl (hb hby at_73) (by decide) (Nat.le_of_ble_eq_true rfl) (by decide) (by decide) ?_
      rintro T76 _ _ X76 ⟨rfl, rfl, e76⟩
      rw [List.append_nil] at X76
      show Owes _ _ _ _ (T76.setTop (mkF m 76 #[.val (.long q0), .second, .val (.long q1), .second, .val (.int p2), .val (.int (1 : Int32)), .val (.int (1 : Int32)), .val (.ref oa), .val (.ref ob), .unset, .unset, .unset, .unset, .unset, .unset, .unset, .unset, .unset, .unset, .unset, .unset, .unset, .unset] [(.long (f_lo zA))]))
      refine Owes.go ?_ fun t₀ k₀ => XS.lstore X76.here hx rfl (hb hby at_76) rfl (l' := #[.val (.long q0), .second, .val (.long q1), .second, .val (.int p2), .val (.int (1 : Int32)), .val (.int (1 : Int32)), .val (.ref oa), .val (.ref ob), .val (.long (f_lo zA)), .second, .unset, .unset, .unset, .unset, .unset, .unset, .unset, .unset, .unset, .unset, .unset, .unset]) rfl k₀
      show Owes _ _ _ _ (T76.setTop (mkF m 78 #[.val (.long q0), .second, .val (.long q1), .second, .val (.int p2), .val (.int (1 : Int32)), .val (.int (1 : Int32)), .val (.ref oa), .val (.ref ob), .val (.long (f_lo zA)), .second, .unset, .unset, .unset, .unset, .unset, .unset, .unset, .unset, .unset, .unset, .unset, .unset] []))
      refine Owes.go ?_ fun t₀ k₀ => XS.aload X76.here hx rfl (hb hby at_78) rfl rfl k₀
      show Owes _ _ _ _ (T76.setTop (mkF m 80 #[.val (.long q0), .second, .val (.long q1), .second, .val (.int p2), .val (.int (1 : Int32)), .val (.int (1 : Int32)), .val (.ref oa), .val (.ref ob), .val (.long (f_lo zA)), .second, .unset, .unset, .unset, .unset, .unset, .unset, .unset, .unset, .unset, .unset, .unset, .unset] [(.ref ob)]))
      refine Owes.go ?_ fun t₀ k₀ => X76.ldc2DoubleC hx hown (mv hZ (hw _ (List.mem_of_getElem? (i := 34) rfl))) (g := (mkF m 80 #[.val (.long q0), .second, .val (.long q1), .second, .val (.int p2), .val (.int (1 : Int32)), .val (.int (1 : Int32)), .val (.ref oa), .val (.ref ob), .val (.long (f_lo zA)), .second, .unset, .unset, .unset, .unset, .unset, .unset, .unset, .unset, .unset, .unset, .unset, .unset] [(.ref ob)])) rfl (hb hby at_80) _ k₀
      show Owes _ _ _ _ (T76.setTop (mkF m 83 #[.val (.long q0), .second, .val (.long q1), .second, .val (.int p2), .val (.int (1 : Int32)), .val (.int (1 : Int32)), .val (.ref oa), .val (.ref ob), .val (.long (f_lo zA)), .second, .unset, .unset, .unset, .unset, .unset, .unset, .unset, .unset, .unset, .unset, .unset, .unset] [(.double (4636737291354636288 : UInt64)), (.ref ob)]))
      refine Owes.callV X76 hx hZ hown (hw _ (List.mem_of_getElem? (i := 35) rfl)) (hw _ (List.mem_of_getElem? (i := 36) rfl)) (notFace_of_selects (args := #[]) (mvT hZ (hw _ (List.mem_of_getElem? (i := 38) rfl)))) (hw _ (List.mem_of_getElem? (i := 38) rfl)) (hw _ (List.mem_of_getElem? (i := 37) rfl)) (hw _ (List.mem_of_getElem? (i := 2) rfl)) (hw _ (List.mem_of_getElem? (i := 39) rfl)) (by decide) (a := ob) (argsL := [(.double (4636737291354636288 : UInt64))]) (rest := []) (rm_pc l Z a0 hw [] ob (4636737291354636288 : UInt64) T75.heap (0 : Int32) fp_c1_100 fp_c2_100 fp_n2_100 rbb (hit ib) (1 : Int64) (by decide) O75 (4607182418800017408 : UInt64) (4607182418800017408 : UInt64) (4607182418800017408 : UInt64) (4607182418800017408 : UInt64) (1 : Int64) fp_nq_100 fp_hq_100 fp_l2_1 fp_nb_100_1 fp_hb_100_1 good1 (by decide) fp_rk_100_1 ib hibn zB hzB (fun j h => lo_hit h) (hi_hit ib) (Sta.keep0 SA KK75) (Sta.keep0 SE KK75)) e76 O75.1 (by rw [hml]; rfl) pd_7 rfl rfl (hb hby at_83) (by decide) (Nat.le_of_ble_eq_true rfl) (by decide) (by decide) ?_
      rintro T77 _ _ X77 ⟨rfl, rfl, e77⟩
      rw [List.append_nil] at X77
      show Owes _ _ _ _ (T77.setTop (mkF m 86 #[.val (.long q0), .second, .val (.long q1), .second, .val (.int p2), .val (.int (1 : Int32)), .val (.int (1 : Int32)), .val (.ref oa), .val (.ref ob), .val (.long (f_lo zA)), .second, .unset, .unset, .unset, .unset, .unset, .unset, .unset, .unset, .unset, .unset, .unset, .unset] [(.long (f_lo zB))]))
      refine Owes.go ?_ fun t₀ k₀ => XS.lstore X77.here hx rfl (hb hby at_86) rfl (l' := #[.val (.long q0), .second, .val (.long q1), .second, .val (.int p2), .val (.int (1 : Int32)), .val (.int (1 : Int32)), .val (.ref oa), .val (.ref ob), .val (.long (f_lo zA)), .second, .val (.long (f_lo zB)), .second, .unset, .unset, .unset, .unset, .unset, .unset, .unset, .unset, .unset, .unset]) rfl k₀
      show Owes _ _ _ _ (T77.setTop (mkF m 88 #[.val (.long q0), .second, .val (.long q1), .second, .val (.int p2), .val (.int (1 : Int32)), .val (.int (1 : Int32)), .val (.ref oa), .val (.ref ob), .val (.long (f_lo zA)), .second, .val (.long (f_lo zB)), .second, .unset, .unset, .unset, .unset, .unset, .unset, .unset, .unset, .unset, .unset] []))
      refine Owes.go ?_ fun t₀ k₀ => XS.aload X77.here hx rfl (hb hby at_88) rfl rfl k₀
      show Owes _ _ _ _ (T77.setTop (mkF m 90 #[.val (.long q0), .second, .val (.long q1), .second, .val (.int p2), .val (.int (1 : Int32)), .val (.int (1 : Int32)), .val (.ref oa), .val (.ref ob), .val (.long (f_lo zA)), .second, .val (.long (f_lo zB)), .second, .unset, .unset, .unset, .unset, .unset, .unset, .unset, .unset, .unset, .unset] [(.ref oa)]))
      refine Owes.go ?_ fun t₀ k₀ => XS.aload X77.here hx rfl (hb hby at_90) rfl rfl k₀
      show Owes _ _ _ _ (T77.setTop (mkF m 92 #[.val (.long q0), .second, .val (.long q1), .second, .val (.int p2), .val (.int (1 : Int32)), .val (.int (1 : Int32)), .val (.ref oa), .val (.ref ob), .val (.long (f_lo zA)), .second, .val (.long (f_lo zB)), .second, .unset, .unset, .unset, .unset, .unset, .unset, .unset, .unset, .unset, .unset] [(.ref ob), (.ref oa)]))
      refine Owes.callV X77 hx hZ hown (hw _ (List.mem_of_getElem? (i := 43) rfl)) (hw _ (List.mem_of_getElem? (i := 44) rfl)) (notFace_of_selects (args := #[]) (mvT hZ (hw _ (List.mem_of_getElem? (i := 46) rfl)))) (hw _ (List.mem_of_getElem? (i := 46) rfl)) (hw _ (List.mem_of_getElem? (i := 45) rfl)) (hw _ (List.mem_of_getElem? (i := 2) rfl)) (hw _ (List.mem_of_getElem? (i := 47) rfl)) (by decide) (a := oa) (argsL := [(.ref ob)]) (rest := []) (rm_add l Z a0 hw [] oa ob T75.heap raa rbb (hit ia) (hit ib) (two ia ib) (1 : Int64) (1 : Int64) (2 : Int64) rfl n0 gn_oa gn_raa (Ne.symm n_ra_ob) (Ne.symm n_ra_rb) (fun i _ => rfl) OA75 O75) e77 OA75.1 (by rw [hml]; rfl) pd_8 rfl rfl (hb hby at_92) (by decide) (Nat.le_of_ble_eq_true rfl) (by decide) (by decide) ?_
      rintro T78 v78 L78 X78 ⟨rfl, N78, K78, O78⟩
      have NF78 := Fr.app NF75 N78
      have KK78 := KK75.trans K78 (own_ge2 ge_raa ge_oa)
      have OB78 := (O75).keep K78 (own_ni2 (Ne.symm n_ra_ob) (Ne.symm n_oa_ob)) (own_ni2 (Ne.symm n_ra_rb) (Ne.symm n_oa_rb))
      show Owes _ _ _ _ (T78.setTop (mkF m 95 #[.val (.long q0), .second, .val (.long q1), .second, .val (.int p2), .val (.int (1 : Int32)), .val (.int (1 : Int32)), .val (.ref oa), .val (.ref ob), .val (.long (f_lo zA)), .second, .val (.long (f_lo zB)), .second, .unset, .unset, .unset, .unset, .unset, .unset, .unset, .unset, .unset, .unset] []))
      by_cases hle : ia ≤ ib
      · skip
        have hlo := own_lo hzA hzB (by omega) hibn
        refine Owes.go ?_ fun t₀ k₀ => XS.aload X78.here hx rfl (hb hby at_95) rfl rfl k₀
        show Owes _ _ _ _ (T78.setTop (mkF m 97 #[.val (.long q0), .second, .val (.long q1), .second, .val (.int p2), .val (.int (1 : Int32)), .val (.int (1 : Int32)), .val (.ref oa), .val (.ref ob), .val (.long (f_lo zA)), .second, .val (.long (f_lo zB)), .second, .unset, .unset, .unset, .unset, .unset, .unset, .unset, .unset, .unset, .unset] [(.ref oa)]))
        refine Owes.go ?_ fun t₀ k₀ => X78.ldc2DoubleC hx hown (mv hZ (hw _ (List.mem_of_getElem? (i := 48) rfl))) (g := (mkF m 97 #[.val (.long q0), .second, .val (.long q1), .second, .val (.int p2), .val (.int (1 : Int32)), .val (.int (1 : Int32)), .val (.ref oa), .val (.ref ob), .val (.long (f_lo zA)), .second, .val (.long (f_lo zB)), .second, .unset, .unset, .unset, .unset, .unset, .unset, .unset, .unset, .unset, .unset] [(.ref oa)])) rfl (hb hby at_97) _ k₀
        show Owes _ _ _ _ (T78.setTop (mkF m 100 #[.val (.long q0), .second, .val (.long q1), .second, .val (.int p2), .val (.int (1 : Int32)), .val (.int (1 : Int32)), .val (.ref oa), .val (.ref ob), .val (.long (f_lo zA)), .second, .val (.long (f_lo zB)), .second, .unset, .unset, .unset, .unset, .unset, .unset, .unset, .unset, .unset, .unset] [(.double (4632233691727265792 : UInt64)), (.ref oa)]))
        refine Owes.callV X78 hx hZ hown (hw _ (List.mem_of_getElem? (i := 35) rfl)) (hw _ (List.mem_of_getElem? (i := 36) rfl)) (notFace_of_selects (args := #[]) (mvT hZ (hw _ (List.mem_of_getElem? (i := 38) rfl)))) (hw _ (List.mem_of_getElem? (i := 38) rfl)) (hw _ (List.mem_of_getElem? (i := 37) rfl)) (hw _ (List.mem_of_getElem? (i := 2) rfl)) (hw _ (List.mem_of_getElem? (i := 39) rfl)) (by decide) (a := oa) (argsL := [(.double (4632233691727265792 : UInt64))]) (rest := []) (rm_pc l Z a0 hw [] oa (4632233691727265792 : UInt64) T78.heap (-1 : Int32) fp_c1_50 fp_c2_50 fp_n2_50 raa (two ia ib) (2 : Int64) (by decide) O78 (4602678819172646912 : UInt64) (4611686018427387904 : UInt64) (4607182418800017408 : UInt64) (4607182418800017408 : UInt64) (1 : Int64) fp_nq_50 fp_hq_50 fp_l2_2 fp_nb_50_2 fp_hb_50_2 good1 (by decide) fp_rk_50_2 ia hian zA hzA (fun j h => lo_two1 (by omega) (by omega)) (hi_two1 (by omega)) (Sta.keep0 SA KK78) (Sta.keep0 SE KK78)) rfl O78.1 (by rw [hml]; rfl) pd_7 rfl rfl (hb hby at_100) (by decide) (Nat.le_of_ble_eq_true rfl) (by decide) (by decide) ?_
        rintro T79 _ _ X79 ⟨rfl, rfl, e79⟩
        rw [List.append_nil] at X79
        show Owes _ _ _ _ (T79.setTop (mkF m 103 #[.val (.long q0), .second, .val (.long q1), .second, .val (.int p2), .val (.int (1 : Int32)), .val (.int (1 : Int32)), .val (.ref oa), .val (.ref ob), .val (.long (f_lo zA)), .second, .val (.long (f_lo zB)), .second, .unset, .unset, .unset, .unset, .unset, .unset, .unset, .unset, .unset, .unset] [(.long (f_lo zA))]))
        refine Owes.go ?_ fun t₀ k₀ => XS.lstore X79.here hx rfl (hb hby at_103) rfl (l' := #[.val (.long q0), .second, .val (.long q1), .second, .val (.int p2), .val (.int (1 : Int32)), .val (.int (1 : Int32)), .val (.ref oa), .val (.ref ob), .val (.long (f_lo zA)), .second, .val (.long (f_lo zB)), .second, .val (.long (f_lo zA)), .second, .unset, .unset, .unset, .unset, .unset, .unset, .unset, .unset]) rfl k₀
        show Owes _ _ _ _ (T79.setTop (mkF m 105 #[.val (.long q0), .second, .val (.long q1), .second, .val (.int p2), .val (.int (1 : Int32)), .val (.int (1 : Int32)), .val (.ref oa), .val (.ref ob), .val (.long (f_lo zA)), .second, .val (.long (f_lo zB)), .second, .val (.long (f_lo zA)), .second, .unset, .unset, .unset, .unset, .unset, .unset, .unset, .unset] []))
        refine Owes.go ?_ fun t₀ k₀ => XS.aload X79.here hx rfl (hb hby at_105) rfl rfl k₀
        show Owes _ _ _ _ (T79.setTop (mkF m 107 #[.val (.long q0), .second, .val (.long q1), .second, .val (.int p2), .val (.int (1 : Int32)), .val (.int (1 : Int32)), .val (.ref oa), .val (.ref ob), .val (.long (f_lo zA)), .second, .val (.long (f_lo zB)), .second, .val (.long (f_lo zA)), .second, .unset, .unset, .unset, .unset, .unset, .unset, .unset, .unset] [(.ref oa)]))
        refine Owes.go ?_ fun t₀ k₀ => X79.ldc2DoubleC hx hown (mv hZ (hw _ (List.mem_of_getElem? (i := 34) rfl))) (g := (mkF m 107 #[.val (.long q0), .second, .val (.long q1), .second, .val (.int p2), .val (.int (1 : Int32)), .val (.int (1 : Int32)), .val (.ref oa), .val (.ref ob), .val (.long (f_lo zA)), .second, .val (.long (f_lo zB)), .second, .val (.long (f_lo zA)), .second, .unset, .unset, .unset, .unset, .unset, .unset, .unset, .unset] [(.ref oa)])) rfl (hb hby at_107) _ k₀
        show Owes _ _ _ _ (T79.setTop (mkF m 110 #[.val (.long q0), .second, .val (.long q1), .second, .val (.int p2), .val (.int (1 : Int32)), .val (.int (1 : Int32)), .val (.ref oa), .val (.ref ob), .val (.long (f_lo zA)), .second, .val (.long (f_lo zB)), .second, .val (.long (f_lo zA)), .second, .unset, .unset, .unset, .unset, .unset, .unset, .unset, .unset] [(.double (4636737291354636288 : UInt64)), (.ref oa)]))
        refine Owes.callV X79 hx hZ hown (hw _ (List.mem_of_getElem? (i := 35) rfl)) (hw _ (List.mem_of_getElem? (i := 36) rfl)) (notFace_of_selects (args := #[]) (mvT hZ (hw _ (List.mem_of_getElem? (i := 38) rfl)))) (hw _ (List.mem_of_getElem? (i := 38) rfl)) (hw _ (List.mem_of_getElem? (i := 37) rfl)) (hw _ (List.mem_of_getElem? (i := 2) rfl)) (hw _ (List.mem_of_getElem? (i := 39) rfl)) (by decide) (a := oa) (argsL := [(.double (4636737291354636288 : UInt64))]) (rest := []) (rm_pc l Z a0 hw [] oa (4636737291354636288 : UInt64) T78.heap (0 : Int32) fp_c1_100 fp_c2_100 fp_n2_100 raa (two ia ib) (2 : Int64) (by decide) O78 (4607182418800017408 : UInt64) (4611686018427387904 : UInt64) (4611686018427387904 : UInt64) (4611686018427387904 : UInt64) (2 : Int64) fp_nq_100 fp_hq_100 fp_l2_2 fp_nb_100_2 fp_hb_100_2 good2 (by decide) fp_rk_100_2 ib hibn zB hzB (fun j h => lo_two2 (by omega)) (hi_two2 (by omega) (by omega)) (Sta.keep0 SA KK78) (Sta.keep0 SE KK78)) e79 O78.1 (by rw [hml]; rfl) pd_7 rfl rfl (hb hby at_110) (by decide) (Nat.le_of_ble_eq_true rfl) (by decide) (by decide) ?_
        rintro T80 _ _ X80 ⟨rfl, rfl, e80⟩
        rw [List.append_nil] at X80
        show Owes _ _ _ _ (T80.setTop (mkF m 113 #[.val (.long q0), .second, .val (.long q1), .second, .val (.int p2), .val (.int (1 : Int32)), .val (.int (1 : Int32)), .val (.ref oa), .val (.ref ob), .val (.long (f_lo zA)), .second, .val (.long (f_lo zB)), .second, .val (.long (f_lo zA)), .second, .unset, .unset, .unset, .unset, .unset, .unset, .unset, .unset] [(.long (f_lo zB))]))
        refine Owes.go ?_ fun t₀ k₀ => XS.lstore X80.here hx rfl (hb hby at_113) rfl (l' := #[.val (.long q0), .second, .val (.long q1), .second, .val (.int p2), .val (.int (1 : Int32)), .val (.int (1 : Int32)), .val (.ref oa), .val (.ref ob), .val (.long (f_lo zA)), .second, .val (.long (f_lo zB)), .second, .val (.long (f_lo zA)), .second, .val (.long (f_lo zB)), .second, .unset, .unset, .unset, .unset, .unset, .unset]) rfl k₀
        show Owes _ _ _ _ (T80.setTop (mkF m 115 #[.val (.long q0), .second, .val (.long q1), .second, .val (.int p2), .val (.int (1 : Int32)), .val (.int (1 : Int32)), .val (.ref oa), .val (.ref ob), .val (.long (f_lo zA)), .second, .val (.long (f_lo zB)), .second, .val (.long (f_lo zA)), .second, .val (.long (f_lo zB)), .second, .unset, .unset, .unset, .unset, .unset, .unset] []))
        refine Owes.go ?_ fun t₀ k₀ => XS.aload X80.here hx rfl (hb hby at_115) rfl rfl k₀
        show Owes _ _ _ _ (T80.setTop (mkF m 117 #[.val (.long q0), .second, .val (.long q1), .second, .val (.int p2), .val (.int (1 : Int32)), .val (.int (1 : Int32)), .val (.ref oa), .val (.ref ob), .val (.long (f_lo zA)), .second, .val (.long (f_lo zB)), .second, .val (.long (f_lo zA)), .second, .val (.long (f_lo zB)), .second, .unset, .unset, .unset, .unset, .unset, .unset] [(.ref ob)]))
        refine Owes.go ?_ fun t₀ k₀ => X80.ldc2DoubleC hx hown (mv hZ (hw _ (List.mem_of_getElem? (i := 34) rfl))) (g := (mkF m 117 #[.val (.long q0), .second, .val (.long q1), .second, .val (.int p2), .val (.int (1 : Int32)), .val (.int (1 : Int32)), .val (.ref oa), .val (.ref ob), .val (.long (f_lo zA)), .second, .val (.long (f_lo zB)), .second, .val (.long (f_lo zA)), .second, .val (.long (f_lo zB)), .second, .unset, .unset, .unset, .unset, .unset, .unset] [(.ref ob)])) rfl (hb hby at_117) _ k₀
        show Owes _ _ _ _ (T80.setTop (mkF m 120 #[.val (.long q0), .second, .val (.long q1), .second, .val (.int p2), .val (.int (1 : Int32)), .val (.int (1 : Int32)), .val (.ref oa), .val (.ref ob), .val (.long (f_lo zA)), .second, .val (.long (f_lo zB)), .second, .val (.long (f_lo zA)), .second, .val (.long (f_lo zB)), .second, .unset, .unset, .unset, .unset, .unset, .unset] [(.double (4636737291354636288 : UInt64)), (.ref ob)]))
        refine Owes.callV X80 hx hZ hown (hw _ (List.mem_of_getElem? (i := 35) rfl)) (hw _ (List.mem_of_getElem? (i := 36) rfl)) (notFace_of_selects (args := #[]) (mvT hZ (hw _ (List.mem_of_getElem? (i := 38) rfl)))) (hw _ (List.mem_of_getElem? (i := 38) rfl)) (hw _ (List.mem_of_getElem? (i := 37) rfl)) (hw _ (List.mem_of_getElem? (i := 2) rfl)) (hw _ (List.mem_of_getElem? (i := 39) rfl)) (by decide) (a := ob) (argsL := [(.double (4636737291354636288 : UInt64))]) (rest := []) (rm_pc l Z a0 hw [] ob (4636737291354636288 : UInt64) T78.heap (0 : Int32) fp_c1_100 fp_c2_100 fp_n2_100 rbb (hit ib) (1 : Int64) (by decide) OB78 (4607182418800017408 : UInt64) (4607182418800017408 : UInt64) (4607182418800017408 : UInt64) (4607182418800017408 : UInt64) (1 : Int64) fp_nq_100 fp_hq_100 fp_l2_1 fp_nb_100_1 fp_hb_100_1 good1 (by decide) fp_rk_100_1 ib hibn zB hzB (fun j h => lo_hit h) (hi_hit ib) (Sta.keep0 SA KK78) (Sta.keep0 SE KK78)) e80 OB78.1 (by rw [hml]; rfl) pd_7 rfl rfl (hb hby at_120) (by decide) (Nat.le_of_ble_eq_true rfl) (by decide) (by decide) ?_
        rintro T81 _ _ X81 ⟨rfl, rfl, e81⟩
        rw [List.append_nil] at X81
        show Owes _ _ _ _ (T81.setTop (mkF m 123 #[.val (.long q0), .second, .val (.long q1), .second, .val (.int p2), .val (.int (1 : Int32)), .val (.int (1 : Int32)), .val (.ref oa), .val (.ref ob), .val (.long (f_lo zA)), .second, .val (.long (f_lo zB)), .second, .val (.long (f_lo zA)), .second, .val (.long (f_lo zB)), .second, .unset, .unset, .unset, .unset, .unset, .unset] [(.long (f_lo zB))]))
        refine Owes.go ?_ fun t₀ k₀ => XS.lstore X81.here hx rfl (hb hby at_123) rfl (l' := #[.val (.long q0), .second, .val (.long q1), .second, .val (.int p2), .val (.int (1 : Int32)), .val (.int (1 : Int32)), .val (.ref oa), .val (.ref ob), .val (.long (f_lo zA)), .second, .val (.long (f_lo zB)), .second, .val (.long (f_lo zA)), .second, .val (.long (f_lo zB)), .second, .val (.long (f_lo zB)), .second, .unset, .unset, .unset, .unset]) rfl k₀
        show Owes _ _ _ _ (T81.setTop (mkF m 125 #[.val (.long q0), .second, .val (.long q1), .second, .val (.int p2), .val (.int (1 : Int32)), .val (.int (1 : Int32)), .val (.ref oa), .val (.ref ob), .val (.long (f_lo zA)), .second, .val (.long (f_lo zB)), .second, .val (.long (f_lo zA)), .second, .val (.long (f_lo zB)), .second, .val (.long (f_lo zB)), .second, .unset, .unset, .unset, .unset] []))
        refine Owes.go ?_ fun t₀ k₀ => XS.iload X81.here hx rfl (hb hby at_125) rfl k₀
        show Owes _ _ _ _ (T81.setTop (mkF m 127 #[.val (.long q0), .second, .val (.long q1), .second, .val (.int p2), .val (.int (1 : Int32)), .val (.int (1 : Int32)), .val (.ref oa), .val (.ref ob), .val (.long (f_lo zA)), .second, .val (.long (f_lo zB)), .second, .val (.long (f_lo zA)), .second, .val (.long (f_lo zB)), .second, .val (.long (f_lo zB)), .second, .unset, .unset, .unset, .unset] [(.int (1 : Int32))]))
        refine Owes.go ?_ fun t₀ k₀ => XS.ifNo X81.here hx rfl (hb hby at_127) rfl ((if0 _ _).trans (feq (by decide : ¬ ((1 : Int32) = (0 : Int32)))).1) k₀
        show Owes _ _ _ _ (T81.setTop (mkF m 130 #[.val (.long q0), .second, .val (.long q1), .second, .val (.int p2), .val (.int (1 : Int32)), .val (.int (1 : Int32)), .val (.ref oa), .val (.ref ob), .val (.long (f_lo zA)), .second, .val (.long (f_lo zB)), .second, .val (.long (f_lo zA)), .second, .val (.long (f_lo zB)), .second, .val (.long (f_lo zB)), .second, .unset, .unset, .unset, .unset] []))
        refine Owes.go ?_ fun t₀ k₀ => XS.iload X81.here hx rfl (hb hby at_130) rfl k₀
        show Owes _ _ _ _ (T81.setTop (mkF m 132 #[.val (.long q0), .second, .val (.long q1), .second, .val (.int p2), .val (.int (1 : Int32)), .val (.int (1 : Int32)), .val (.ref oa), .val (.ref ob), .val (.long (f_lo zA)), .second, .val (.long (f_lo zB)), .second, .val (.long (f_lo zA)), .second, .val (.long (f_lo zB)), .second, .val (.long (f_lo zB)), .second, .unset, .unset, .unset, .unset] [(.int (1 : Int32))]))
        refine Owes.go ?_ fun t₀ k₀ => XS.ifNo X81.here hx rfl (hb hby at_132) rfl ((if0 _ _).trans (feq (by decide : ¬ ((1 : Int32) = (0 : Int32)))).1) k₀
        show Owes _ _ _ _ (T81.setTop (mkF m 135 #[.val (.long q0), .second, .val (.long q1), .second, .val (.int p2), .val (.int (1 : Int32)), .val (.int (1 : Int32)), .val (.ref oa), .val (.ref ob), .val (.long (f_lo zA)), .second, .val (.long (f_lo zB)), .second, .val (.long (f_lo zA)), .second, .val (.long (f_lo zB)), .second, .val (.long (f_lo zB)), .second, .unset, .unset, .unset, .unset] []))
        refine Owes.go ?_ fun t₀ k₀ => XS.lload X81.here hx rfl (hb hby at_135) rfl k₀
        show Owes _ _ _ _ (T81.setTop (mkF m 137 #[.val (.long q0), .second, .val (.long q1), .second, .val (.int p2), .val (.int (1 : Int32)), .val (.int (1 : Int32)), .val (.ref oa), .val (.ref ob), .val (.long (f_lo zA)), .second, .val (.long (f_lo zB)), .second, .val (.long (f_lo zA)), .second, .val (.long (f_lo zB)), .second, .val (.long (f_lo zB)), .second, .unset, .unset, .unset, .unset] [(.long (f_lo zA))]))
        refine Owes.go ?_ fun t₀ k₀ => XS.lload X81.here hx rfl (hb hby at_137) rfl k₀
        show Owes _ _ _ _ (T81.setTop (mkF m 139 #[.val (.long q0), .second, .val (.long q1), .second, .val (.int p2), .val (.int (1 : Int32)), .val (.int (1 : Int32)), .val (.ref oa), .val (.ref ob), .val (.long (f_lo zA)), .second, .val (.long (f_lo zB)), .second, .val (.long (f_lo zA)), .second, .val (.long (f_lo zB)), .second, .val (.long (f_lo zB)), .second, .unset, .unset, .unset, .unset] [(.long (f_lo zB)), (.long (f_lo zA))]))
        refine Owes.callS X81 hx hZ hown (hw _ (List.mem_of_getElem? (i := 100) rfl)) (hw _ (List.mem_of_getElem? (i := 70) rfl)) (hw _ (List.mem_of_getElem? (i := 28) rfl)) (hw _ (List.mem_of_getElem? (i := 71) rfl)) (by decide) (argsL := [(.long (f_lo zA)), (.long (f_lo zB))]) (rest := []) (rm_f_minJ l Z a0 hw [] (f_lo zA) (f_lo zB) T78.heap ) e81 (by rw [hml]; rfl) pd_4 rfl rfl (hb hby at_139) (by decide) (Nat.le_of_ble_eq_true rfl) (by decide) (by decide) ?_
        rintro T82 _ _ X82 ⟨rfl, rfl, e82⟩
        rw [List.append_nil] at X82
        show Owes _ _ _ _ (T82.setTop (mkF m 142 #[.val (.long q0), .second, .val (.long q1), .second, .val (.int p2), .val (.int (1 : Int32)), .val (.int (1 : Int32)), .val (.ref oa), .val (.ref ob), .val (.long (f_lo zA)), .second, .val (.long (f_lo zB)), .second, .val (.long (f_lo zA)), .second, .val (.long (f_lo zB)), .second, .val (.long (f_lo zB)), .second, .unset, .unset, .unset, .unset] [(.long (f_minJ (f_lo zA) (f_lo zB)))]))
        refine Owes.go ?_ fun t₀ k₀ => XS.lstore X82.here hx rfl (hb hby at_142) rfl (l' := #[.val (.long q0), .second, .val (.long q1), .second, .val (.int p2), .val (.int (1 : Int32)), .val (.int (1 : Int32)), .val (.ref oa), .val (.ref ob), .val (.long (f_lo zA)), .second, .val (.long (f_lo zB)), .second, .val (.long (f_lo zA)), .second, .val (.long (f_lo zB)), .second, .val (.long (f_lo zB)), .second, .val (.long (f_minJ (f_lo zA) (f_lo zB))), .second, .unset, .unset]) rfl k₀
        show Owes _ _ _ _ (T82.setTop (mkF m 144 #[.val (.long q0), .second, .val (.long q1), .second, .val (.int p2), .val (.int (1 : Int32)), .val (.int (1 : Int32)), .val (.ref oa), .val (.ref ob), .val (.long (f_lo zA)), .second, .val (.long (f_lo zB)), .second, .val (.long (f_lo zA)), .second, .val (.long (f_lo zB)), .second, .val (.long (f_lo zB)), .second, .val (.long (f_minJ (f_lo zA) (f_lo zB))), .second, .unset, .unset] []))
        refine Owes.go ?_ fun t₀ k₀ => XS.lload X82.here hx rfl (hb hby at_144) rfl k₀
        show Owes _ _ _ _ (T82.setTop (mkF m 146 #[.val (.long q0), .second, .val (.long q1), .second, .val (.int p2), .val (.int (1 : Int32)), .val (.int (1 : Int32)), .val (.ref oa), .val (.ref ob), .val (.long (f_lo zA)), .second, .val (.long (f_lo zB)), .second, .val (.long (f_lo zA)), .second, .val (.long (f_lo zB)), .second, .val (.long (f_lo zB)), .second, .val (.long (f_minJ (f_lo zA) (f_lo zB))), .second, .unset, .unset] [(.long (f_lo zA))]))
        refine Owes.go ?_ fun t₀ k₀ => XS.lload X82.here hx rfl (hb hby at_146) rfl k₀
        show Owes _ _ _ _ (T82.setTop (mkF m 148 #[.val (.long q0), .second, .val (.long q1), .second, .val (.int p2), .val (.int (1 : Int32)), .val (.int (1 : Int32)), .val (.ref oa), .val (.ref ob), .val (.long (f_lo zA)), .second, .val (.long (f_lo zB)), .second, .val (.long (f_lo zA)), .second, .val (.long (f_lo zB)), .second, .val (.long (f_lo zB)), .second, .val (.long (f_minJ (f_lo zA) (f_lo zB))), .second, .unset, .unset] [(.long (f_lo zB)), (.long (f_lo zA))]))
        refine Owes.callS X82 hx hZ hown (hw _ (List.mem_of_getElem? (i := 101) rfl)) (hw _ (List.mem_of_getElem? (i := 67) rfl)) (hw _ (List.mem_of_getElem? (i := 28) rfl)) (hw _ (List.mem_of_getElem? (i := 68) rfl)) (by decide) (argsL := [(.long (f_lo zA)), (.long (f_lo zB))]) (rest := []) (rm_f_maxJ l Z a0 hw [] (f_lo zA) (f_lo zB) T78.heap ) e82 (by rw [hml]; rfl) pd_4 rfl rfl (hb hby at_148) (by decide) (Nat.le_of_ble_eq_true rfl) (by decide) (by decide) ?_
        rintro T83 _ _ X83 ⟨rfl, rfl, e83⟩
        rw [List.append_nil] at X83
        show Owes _ _ _ _ (T83.setTop (mkF m 151 #[.val (.long q0), .second, .val (.long q1), .second, .val (.int p2), .val (.int (1 : Int32)), .val (.int (1 : Int32)), .val (.ref oa), .val (.ref ob), .val (.long (f_lo zA)), .second, .val (.long (f_lo zB)), .second, .val (.long (f_lo zA)), .second, .val (.long (f_lo zB)), .second, .val (.long (f_lo zB)), .second, .val (.long (f_minJ (f_lo zA) (f_lo zB))), .second, .unset, .unset] [(.long (f_maxJ (f_lo zA) (f_lo zB)))]))
        refine Owes.go ?_ fun t₀ k₀ => XS.lstore X83.here hx rfl (hb hby at_151) rfl (l' := #[.val (.long q0), .second, .val (.long q1), .second, .val (.int p2), .val (.int (1 : Int32)), .val (.int (1 : Int32)), .val (.ref oa), .val (.ref ob), .val (.long (f_lo zA)), .second, .val (.long (f_lo zB)), .second, .val (.long (f_lo zA)), .second, .val (.long (f_lo zB)), .second, .val (.long (f_lo zB)), .second, .val (.long (f_minJ (f_lo zA) (f_lo zB))), .second, .val (.long (f_maxJ (f_lo zA) (f_lo zB))), .second]) rfl k₀
        show Owes _ _ _ _ (T83.setTop (mkF m 153 #[.val (.long q0), .second, .val (.long q1), .second, .val (.int p2), .val (.int (1 : Int32)), .val (.int (1 : Int32)), .val (.ref oa), .val (.ref ob), .val (.long (f_lo zA)), .second, .val (.long (f_lo zB)), .second, .val (.long (f_lo zA)), .second, .val (.long (f_lo zB)), .second, .val (.long (f_lo zB)), .second, .val (.long (f_minJ (f_lo zA) (f_lo zB))), .second, .val (.long (f_maxJ (f_lo zA) (f_lo zB))), .second] []))
        refine Owes.go ?_ fun t₀ k₀ => XS.goto X83.here hx rfl (pc0 := 153) (pc' := 194) rfl (hb hby at_153) (by decide) (by decide) k₀
        show Owes _ _ _ _ (T83.setTop (mkF m 194 #[.val (.long q0), .second, .val (.long q1), .second, .val (.int p2), .val (.int (1 : Int32)), .val (.int (1 : Int32)), .val (.ref oa), .val (.ref ob), .val (.long (f_lo zA)), .second, .val (.long (f_lo zB)), .second, .val (.long (f_lo zA)), .second, .val (.long (f_lo zB)), .second, .val (.long (f_lo zB)), .second, .val (.long (f_minJ (f_lo zA) (f_lo zB))), .second, .val (.long (f_maxJ (f_lo zA) (f_lo zB))), .second] []))
        refine Owes.go ?_ fun t₀ k₀ => XS.lload X83.here hx rfl (hb hby at_194) rfl k₀
        show Owes _ _ _ _ (T83.setTop (mkF m 196 #[.val (.long q0), .second, .val (.long q1), .second, .val (.int p2), .val (.int (1 : Int32)), .val (.int (1 : Int32)), .val (.ref oa), .val (.ref ob), .val (.long (f_lo zA)), .second, .val (.long (f_lo zB)), .second, .val (.long (f_lo zA)), .second, .val (.long (f_lo zB)), .second, .val (.long (f_lo zB)), .second, .val (.long (f_minJ (f_lo zA) (f_lo zB))), .second, .val (.long (f_maxJ (f_lo zA) (f_lo zB))), .second] [(.long (f_lo zA))]))
        refine Owes.go ?_ fun t₀ k₀ => XS.lload X83.here hx rfl (hb hby at_196) rfl k₀
        show Owes _ _ _ _ (T83.setTop (mkF m 198 #[.val (.long q0), .second, .val (.long q1), .second, .val (.int p2), .val (.int (1 : Int32)), .val (.int (1 : Int32)), .val (.ref oa), .val (.ref ob), .val (.long (f_lo zA)), .second, .val (.long (f_lo zB)), .second, .val (.long (f_lo zA)), .second, .val (.long (f_lo zB)), .second, .val (.long (f_lo zB)), .second, .val (.long (f_minJ (f_lo zA) (f_lo zB))), .second, .val (.long (f_maxJ (f_lo zA) (f_lo zB))), .second] [(.long (f_minJ (f_lo zA) (f_lo zB))), (.long (f_lo zA))]))
        refine Owes.go ?_ fun t₀ k₀ => XS.lcmp X83.here hx rfl (hb hby at_198) rfl k₀
        show Owes _ _ _ _ (T83.setTop (mkF m 199 #[.val (.long q0), .second, .val (.long q1), .second, .val (.int p2), .val (.int (1 : Int32)), .val (.int (1 : Int32)), .val (.ref oa), .val (.ref ob), .val (.long (f_lo zA)), .second, .val (.long (f_lo zB)), .second, .val (.long (f_lo zA)), .second, .val (.long (f_lo zB)), .second, .val (.long (f_lo zB)), .second, .val (.long (f_minJ (f_lo zA) (f_lo zB))), .second, .val (.long (f_maxJ (f_lo zA) (f_lo zB))), .second] [(.int (lcmpW (f_lo zA) (f_minJ (f_lo zA) (f_lo zB))))]))
        refine Owes.go ?_ fun t₀ k₀ => XS.ifNo X83.here hx rfl (hb hby at_199) rfl ((if0 _ _).trans (teq ((lw_eq _ _).mpr (own_minL hlo))).2) k₀
        show Owes _ _ _ _ (T83.setTop (mkF m 202 #[.val (.long q0), .second, .val (.long q1), .second, .val (.int p2), .val (.int (1 : Int32)), .val (.int (1 : Int32)), .val (.ref oa), .val (.ref ob), .val (.long (f_lo zA)), .second, .val (.long (f_lo zB)), .second, .val (.long (f_lo zA)), .second, .val (.long (f_lo zB)), .second, .val (.long (f_lo zB)), .second, .val (.long (f_minJ (f_lo zA) (f_lo zB))), .second, .val (.long (f_maxJ (f_lo zA) (f_lo zB))), .second] []))
        refine Owes.go ?_ fun t₀ k₀ => XS.lload X83.here hx rfl (hb hby at_202) rfl k₀
        show Owes _ _ _ _ (T83.setTop (mkF m 204 #[.val (.long q0), .second, .val (.long q1), .second, .val (.int p2), .val (.int (1 : Int32)), .val (.int (1 : Int32)), .val (.ref oa), .val (.ref ob), .val (.long (f_lo zA)), .second, .val (.long (f_lo zB)), .second, .val (.long (f_lo zA)), .second, .val (.long (f_lo zB)), .second, .val (.long (f_lo zB)), .second, .val (.long (f_minJ (f_lo zA) (f_lo zB))), .second, .val (.long (f_maxJ (f_lo zA) (f_lo zB))), .second] [(.long (f_lo zB))]))
        refine Owes.go ?_ fun t₀ k₀ => XS.lload X83.here hx rfl (hb hby at_204) rfl k₀
        show Owes _ _ _ _ (T83.setTop (mkF m 206 #[.val (.long q0), .second, .val (.long q1), .second, .val (.int p2), .val (.int (1 : Int32)), .val (.int (1 : Int32)), .val (.ref oa), .val (.ref ob), .val (.long (f_lo zA)), .second, .val (.long (f_lo zB)), .second, .val (.long (f_lo zA)), .second, .val (.long (f_lo zB)), .second, .val (.long (f_lo zB)), .second, .val (.long (f_minJ (f_lo zA) (f_lo zB))), .second, .val (.long (f_maxJ (f_lo zA) (f_lo zB))), .second] [(.long (f_maxJ (f_lo zA) (f_lo zB))), (.long (f_lo zB))]))
        refine Owes.go ?_ fun t₀ k₀ => XS.lcmp X83.here hx rfl (hb hby at_206) rfl k₀
        show Owes _ _ _ _ (T83.setTop (mkF m 207 #[.val (.long q0), .second, .val (.long q1), .second, .val (.int p2), .val (.int (1 : Int32)), .val (.int (1 : Int32)), .val (.ref oa), .val (.ref ob), .val (.long (f_lo zA)), .second, .val (.long (f_lo zB)), .second, .val (.long (f_lo zA)), .second, .val (.long (f_lo zB)), .second, .val (.long (f_lo zB)), .second, .val (.long (f_minJ (f_lo zA) (f_lo zB))), .second, .val (.long (f_maxJ (f_lo zA) (f_lo zB))), .second] [(.int (lcmpW (f_lo zB) (f_maxJ (f_lo zA) (f_lo zB))))]))
        refine Owes.go ?_ fun t₀ k₀ => XS.ifNo X83.here hx rfl (hb hby at_207) rfl ((if0 _ _).trans (teq ((lw_eq _ _).mpr (own_maxR hlo))).2) k₀
        show Owes _ _ _ _ (T83.setTop (mkF m 210 #[.val (.long q0), .second, .val (.long q1), .second, .val (.int p2), .val (.int (1 : Int32)), .val (.int (1 : Int32)), .val (.ref oa), .val (.ref ob), .val (.long (f_lo zA)), .second, .val (.long (f_lo zB)), .second, .val (.long (f_lo zA)), .second, .val (.long (f_lo zB)), .second, .val (.long (f_lo zB)), .second, .val (.long (f_minJ (f_lo zA) (f_lo zB))), .second, .val (.long (f_maxJ (f_lo zA) (f_lo zB))), .second] []))
        refine Owes.go ?_ fun t₀ k₀ => XS.lload X83.here hx rfl (hb hby at_210) rfl k₀
        show Owes _ _ _ _ (T83.setTop (mkF m 212 #[.val (.long q0), .second, .val (.long q1), .second, .val (.int p2), .val (.int (1 : Int32)), .val (.int (1 : Int32)), .val (.ref oa), .val (.ref ob), .val (.long (f_lo zA)), .second, .val (.long (f_lo zB)), .second, .val (.long (f_lo zA)), .second, .val (.long (f_lo zB)), .second, .val (.long (f_lo zB)), .second, .val (.long (f_minJ (f_lo zA) (f_lo zB))), .second, .val (.long (f_maxJ (f_lo zA) (f_lo zB))), .second] [(.long (f_lo zB))]))
        refine Owes.go ?_ fun t₀ k₀ => XS.lload X83.here hx rfl (hb hby at_212) rfl k₀
        show Owes _ _ _ _ (T83.setTop (mkF m 214 #[.val (.long q0), .second, .val (.long q1), .second, .val (.int p2), .val (.int (1 : Int32)), .val (.int (1 : Int32)), .val (.ref oa), .val (.ref ob), .val (.long (f_lo zA)), .second, .val (.long (f_lo zB)), .second, .val (.long (f_lo zA)), .second, .val (.long (f_lo zB)), .second, .val (.long (f_lo zB)), .second, .val (.long (f_minJ (f_lo zA) (f_lo zB))), .second, .val (.long (f_maxJ (f_lo zA) (f_lo zB))), .second] [(.long (f_lo zB)), (.long (f_lo zB))]))
        refine Owes.go ?_ fun t₀ k₀ => XS.lcmp X83.here hx rfl (hb hby at_214) rfl k₀
        show Owes _ _ _ _ (T83.setTop (mkF m 215 #[.val (.long q0), .second, .val (.long q1), .second, .val (.int p2), .val (.int (1 : Int32)), .val (.int (1 : Int32)), .val (.ref oa), .val (.ref ob), .val (.long (f_lo zA)), .second, .val (.long (f_lo zB)), .second, .val (.long (f_lo zA)), .second, .val (.long (f_lo zB)), .second, .val (.long (f_lo zB)), .second, .val (.long (f_minJ (f_lo zA) (f_lo zB))), .second, .val (.long (f_maxJ (f_lo zA) (f_lo zB))), .second] [(.int (lcmpW (f_lo zB) (f_lo zB)))]))
        refine Owes.go ?_ fun t₀ k₀ => XS.ifNo X83.here hx rfl (hb hby at_215) rfl ((if0 _ _).trans (teq ((lw_eq _ _).mpr (rfl))).2) k₀
        show Owes _ _ _ _ (T83.setTop (mkF m 218 #[.val (.long q0), .second, .val (.long q1), .second, .val (.int p2), .val (.int (1 : Int32)), .val (.int (1 : Int32)), .val (.ref oa), .val (.ref ob), .val (.long (f_lo zA)), .second, .val (.long (f_lo zB)), .second, .val (.long (f_lo zA)), .second, .val (.long (f_lo zB)), .second, .val (.long (f_lo zB)), .second, .val (.long (f_minJ (f_lo zA) (f_lo zB))), .second, .val (.long (f_maxJ (f_lo zA) (f_lo zB))), .second] []))
        refine Owes.go ?_ fun t₀ k₀ => XS.iconst X83.here hx rfl (hb hby at_218) k₀
        show Owes _ _ _ _ (T83.setTop (mkF m 219 #[.val (.long q0), .second, .val (.long q1), .second, .val (.int p2), .val (.int (1 : Int32)), .val (.int (1 : Int32)), .val (.ref oa), .val (.ref ob), .val (.long (f_lo zA)), .second, .val (.long (f_lo zB)), .second, .val (.long (f_lo zA)), .second, .val (.long (f_lo zB)), .second, .val (.long (f_lo zB)), .second, .val (.long (f_minJ (f_lo zA) (f_lo zB))), .second, .val (.long (f_maxJ (f_lo zA) (f_lo zB))), .second] [(.int (1 : Int32))]))
        refine Owes.go ?_ fun t₀ k₀ => XS.goto X83.here hx rfl (pc0 := 219) (pc' := 223) rfl (hb hby at_219) (by decide) (by decide) k₀
        show Owes _ _ _ _ (T83.setTop (mkF m 223 #[.val (.long q0), .second, .val (.long q1), .second, .val (.int p2), .val (.int (1 : Int32)), .val (.int (1 : Int32)), .val (.ref oa), .val (.ref ob), .val (.long (f_lo zA)), .second, .val (.long (f_lo zB)), .second, .val (.long (f_lo zA)), .second, .val (.long (f_lo zB)), .second, .val (.long (f_lo zB)), .second, .val (.long (f_minJ (f_lo zA) (f_lo zB))), .second, .val (.long (f_maxJ (f_lo zA) (f_lo zB))), .second] [(.int (1 : Int32))]))
        exact Owes.retN X83 hx hlk hret (by simp) (hb hby at_223) (by decide) (by decide) ⟨rfl, NF78⟩
      · skip
        have hlo := own_lo hzB hzA (by omega) hian
        refine Owes.go ?_ fun t₀ k₀ => XS.aload X78.here hx rfl (hb hby at_95) rfl rfl k₀
        show Owes _ _ _ _ (T78.setTop (mkF m 97 #[.val (.long q0), .second, .val (.long q1), .second, .val (.int p2), .val (.int (1 : Int32)), .val (.int (1 : Int32)), .val (.ref oa), .val (.ref ob), .val (.long (f_lo zA)), .second, .val (.long (f_lo zB)), .second, .unset, .unset, .unset, .unset, .unset, .unset, .unset, .unset, .unset, .unset] [(.ref oa)]))
        refine Owes.go ?_ fun t₀ k₀ => X78.ldc2DoubleC hx hown (mv hZ (hw _ (List.mem_of_getElem? (i := 48) rfl))) (g := (mkF m 97 #[.val (.long q0), .second, .val (.long q1), .second, .val (.int p2), .val (.int (1 : Int32)), .val (.int (1 : Int32)), .val (.ref oa), .val (.ref ob), .val (.long (f_lo zA)), .second, .val (.long (f_lo zB)), .second, .unset, .unset, .unset, .unset, .unset, .unset, .unset, .unset, .unset, .unset] [(.ref oa)])) rfl (hb hby at_97) _ k₀
        show Owes _ _ _ _ (T78.setTop (mkF m 100 #[.val (.long q0), .second, .val (.long q1), .second, .val (.int p2), .val (.int (1 : Int32)), .val (.int (1 : Int32)), .val (.ref oa), .val (.ref ob), .val (.long (f_lo zA)), .second, .val (.long (f_lo zB)), .second, .unset, .unset, .unset, .unset, .unset, .unset, .unset, .unset, .unset, .unset] [(.double (4632233691727265792 : UInt64)), (.ref oa)]))
        refine Owes.callV X78 hx hZ hown (hw _ (List.mem_of_getElem? (i := 35) rfl)) (hw _ (List.mem_of_getElem? (i := 36) rfl)) (notFace_of_selects (args := #[]) (mvT hZ (hw _ (List.mem_of_getElem? (i := 38) rfl)))) (hw _ (List.mem_of_getElem? (i := 38) rfl)) (hw _ (List.mem_of_getElem? (i := 37) rfl)) (hw _ (List.mem_of_getElem? (i := 2) rfl)) (hw _ (List.mem_of_getElem? (i := 39) rfl)) (by decide) (a := oa) (argsL := [(.double (4632233691727265792 : UInt64))]) (rest := []) (rm_pc l Z a0 hw [] oa (4632233691727265792 : UInt64) T78.heap (-1 : Int32) fp_c1_50 fp_c2_50 fp_n2_50 raa (two ia ib) (2 : Int64) (by decide) O78 (4602678819172646912 : UInt64) (4611686018427387904 : UInt64) (4607182418800017408 : UInt64) (4607182418800017408 : UInt64) (1 : Int64) fp_nq_50 fp_hq_50 fp_l2_2 fp_nb_50_2 fp_hb_50_2 good1 (by decide) fp_rk_50_2 ib hibn zB hzB (fun j h => lo_two1 (by omega) (by omega)) (hi_two1 (by omega)) (Sta.keep0 SA KK78) (Sta.keep0 SE KK78)) rfl O78.1 (by rw [hml]; rfl) pd_7 rfl rfl (hb hby at_100) (by decide) (Nat.le_of_ble_eq_true rfl) (by decide) (by decide) ?_
        rintro T84 _ _ X84 ⟨rfl, rfl, e84⟩
        rw [List.append_nil] at X84
        show Owes _ _ _ _ (T84.setTop (mkF m 103 #[.val (.long q0), .second, .val (.long q1), .second, .val (.int p2), .val (.int (1 : Int32)), .val (.int (1 : Int32)), .val (.ref oa), .val (.ref ob), .val (.long (f_lo zA)), .second, .val (.long (f_lo zB)), .second, .unset, .unset, .unset, .unset, .unset, .unset, .unset, .unset, .unset, .unset] [(.long (f_lo zB))]))
        refine Owes.go ?_ fun t₀ k₀ => XS.lstore X84.here hx rfl (hb hby at_103) rfl (l' := #[.val (.long q0), .second, .val (.long q1), .second, .val (.int p2), .val (.int (1 : Int32)), .val (.int (1 : Int32)), .val (.ref oa), .val (.ref ob), .val (.long (f_lo zA)), .second, .val (.long (f_lo zB)), .second, .val (.long (f_lo zB)), .second, .unset, .unset, .unset, .unset, .unset, .unset, .unset, .unset]) rfl k₀
        show Owes _ _ _ _ (T84.setTop (mkF m 105 #[.val (.long q0), .second, .val (.long q1), .second, .val (.int p2), .val (.int (1 : Int32)), .val (.int (1 : Int32)), .val (.ref oa), .val (.ref ob), .val (.long (f_lo zA)), .second, .val (.long (f_lo zB)), .second, .val (.long (f_lo zB)), .second, .unset, .unset, .unset, .unset, .unset, .unset, .unset, .unset] []))
        refine Owes.go ?_ fun t₀ k₀ => XS.aload X84.here hx rfl (hb hby at_105) rfl rfl k₀
        show Owes _ _ _ _ (T84.setTop (mkF m 107 #[.val (.long q0), .second, .val (.long q1), .second, .val (.int p2), .val (.int (1 : Int32)), .val (.int (1 : Int32)), .val (.ref oa), .val (.ref ob), .val (.long (f_lo zA)), .second, .val (.long (f_lo zB)), .second, .val (.long (f_lo zB)), .second, .unset, .unset, .unset, .unset, .unset, .unset, .unset, .unset] [(.ref oa)]))
        refine Owes.go ?_ fun t₀ k₀ => X84.ldc2DoubleC hx hown (mv hZ (hw _ (List.mem_of_getElem? (i := 34) rfl))) (g := (mkF m 107 #[.val (.long q0), .second, .val (.long q1), .second, .val (.int p2), .val (.int (1 : Int32)), .val (.int (1 : Int32)), .val (.ref oa), .val (.ref ob), .val (.long (f_lo zA)), .second, .val (.long (f_lo zB)), .second, .val (.long (f_lo zB)), .second, .unset, .unset, .unset, .unset, .unset, .unset, .unset, .unset] [(.ref oa)])) rfl (hb hby at_107) _ k₀
        show Owes _ _ _ _ (T84.setTop (mkF m 110 #[.val (.long q0), .second, .val (.long q1), .second, .val (.int p2), .val (.int (1 : Int32)), .val (.int (1 : Int32)), .val (.ref oa), .val (.ref ob), .val (.long (f_lo zA)), .second, .val (.long (f_lo zB)), .second, .val (.long (f_lo zB)), .second, .unset, .unset, .unset, .unset, .unset, .unset, .unset, .unset] [(.double (4636737291354636288 : UInt64)), (.ref oa)]))
        refine Owes.callV X84 hx hZ hown (hw _ (List.mem_of_getElem? (i := 35) rfl)) (hw _ (List.mem_of_getElem? (i := 36) rfl)) (notFace_of_selects (args := #[]) (mvT hZ (hw _ (List.mem_of_getElem? (i := 38) rfl)))) (hw _ (List.mem_of_getElem? (i := 38) rfl)) (hw _ (List.mem_of_getElem? (i := 37) rfl)) (hw _ (List.mem_of_getElem? (i := 2) rfl)) (hw _ (List.mem_of_getElem? (i := 39) rfl)) (by decide) (a := oa) (argsL := [(.double (4636737291354636288 : UInt64))]) (rest := []) (rm_pc l Z a0 hw [] oa (4636737291354636288 : UInt64) T78.heap (0 : Int32) fp_c1_100 fp_c2_100 fp_n2_100 raa (two ia ib) (2 : Int64) (by decide) O78 (4607182418800017408 : UInt64) (4611686018427387904 : UInt64) (4611686018427387904 : UInt64) (4611686018427387904 : UInt64) (2 : Int64) fp_nq_100 fp_hq_100 fp_l2_2 fp_nb_100_2 fp_hb_100_2 good2 (by decide) fp_rk_100_2 ia hian zA hzA (fun j h => lo_two2 (by omega)) (hi_two2 (by omega) (by omega)) (Sta.keep0 SA KK78) (Sta.keep0 SE KK78)) e84 O78.1 (by rw [hml]; rfl) pd_7 rfl rfl (hb hby at_110) (by decide) (Nat.le_of_ble_eq_true rfl) (by decide) (by decide) ?_
        rintro T85 _ _ X85 ⟨rfl, rfl, e85⟩
        rw [List.append_nil] at X85
        show Owes _ _ _ _ (T85.setTop (mkF m 113 #[.val (.long q0), .second, .val (.long q1), .second, .val (.int p2), .val (.int (1 : Int32)), .val (.int (1 : Int32)), .val (.ref oa), .val (.ref ob), .val (.long (f_lo zA)), .second, .val (.long (f_lo zB)), .second, .val (.long (f_lo zB)), .second, .unset, .unset, .unset, .unset, .unset, .unset, .unset, .unset] [(.long (f_lo zA))]))
        refine Owes.go ?_ fun t₀ k₀ => XS.lstore X85.here hx rfl (hb hby at_113) rfl (l' := #[.val (.long q0), .second, .val (.long q1), .second, .val (.int p2), .val (.int (1 : Int32)), .val (.int (1 : Int32)), .val (.ref oa), .val (.ref ob), .val (.long (f_lo zA)), .second, .val (.long (f_lo zB)), .second, .val (.long (f_lo zB)), .second, .val (.long (f_lo zA)), .second, .unset, .unset, .unset, .unset, .unset, .unset]) rfl k₀
        show Owes _ _ _ _ (T85.setTop (mkF m 115 #[.val (.long q0), .second, .val (.long q1), .second, .val (.int p2), .val (.int (1 : Int32)), .val (.int (1 : Int32)), .val (.ref oa), .val (.ref ob), .val (.long (f_lo zA)), .second, .val (.long (f_lo zB)), .second, .val (.long (f_lo zB)), .second, .val (.long (f_lo zA)), .second, .unset, .unset, .unset, .unset, .unset, .unset] []))
        refine Owes.go ?_ fun t₀ k₀ => XS.aload X85.here hx rfl (hb hby at_115) rfl rfl k₀
        show Owes _ _ _ _ (T85.setTop (mkF m 117 #[.val (.long q0), .second, .val (.long q1), .second, .val (.int p2), .val (.int (1 : Int32)), .val (.int (1 : Int32)), .val (.ref oa), .val (.ref ob), .val (.long (f_lo zA)), .second, .val (.long (f_lo zB)), .second, .val (.long (f_lo zB)), .second, .val (.long (f_lo zA)), .second, .unset, .unset, .unset, .unset, .unset, .unset] [(.ref ob)]))
        refine Owes.go ?_ fun t₀ k₀ => X85.ldc2DoubleC hx hown (mv hZ (hw _ (List.mem_of_getElem? (i := 34) rfl))) (g := (mkF m 117 #[.val (.long q0), .second, .val (.long q1), .second, .val (.int p2), .val (.int (1 : Int32)), .val (.int (1 : Int32)), .val (.ref oa), .val (.ref ob), .val (.long (f_lo zA)), .second, .val (.long (f_lo zB)), .second, .val (.long (f_lo zB)), .second, .val (.long (f_lo zA)), .second, .unset, .unset, .unset, .unset, .unset, .unset] [(.ref ob)])) rfl (hb hby at_117) _ k₀
        show Owes _ _ _ _ (T85.setTop (mkF m 120 #[.val (.long q0), .second, .val (.long q1), .second, .val (.int p2), .val (.int (1 : Int32)), .val (.int (1 : Int32)), .val (.ref oa), .val (.ref ob), .val (.long (f_lo zA)), .second, .val (.long (f_lo zB)), .second, .val (.long (f_lo zB)), .second, .val (.long (f_lo zA)), .second, .unset, .unset, .unset, .unset, .unset, .unset] [(.double (4636737291354636288 : UInt64)), (.ref ob)]))
        refine Owes.callV X85 hx hZ hown (hw _ (List.mem_of_getElem? (i := 35) rfl)) (hw _ (List.mem_of_getElem? (i := 36) rfl)) (notFace_of_selects (args := #[]) (mvT hZ (hw _ (List.mem_of_getElem? (i := 38) rfl)))) (hw _ (List.mem_of_getElem? (i := 38) rfl)) (hw _ (List.mem_of_getElem? (i := 37) rfl)) (hw _ (List.mem_of_getElem? (i := 2) rfl)) (hw _ (List.mem_of_getElem? (i := 39) rfl)) (by decide) (a := ob) (argsL := [(.double (4636737291354636288 : UInt64))]) (rest := []) (rm_pc l Z a0 hw [] ob (4636737291354636288 : UInt64) T78.heap (0 : Int32) fp_c1_100 fp_c2_100 fp_n2_100 rbb (hit ib) (1 : Int64) (by decide) OB78 (4607182418800017408 : UInt64) (4607182418800017408 : UInt64) (4607182418800017408 : UInt64) (4607182418800017408 : UInt64) (1 : Int64) fp_nq_100 fp_hq_100 fp_l2_1 fp_nb_100_1 fp_hb_100_1 good1 (by decide) fp_rk_100_1 ib hibn zB hzB (fun j h => lo_hit h) (hi_hit ib) (Sta.keep0 SA KK78) (Sta.keep0 SE KK78)) e85 OB78.1 (by rw [hml]; rfl) pd_7 rfl rfl (hb hby at_120) (by decide) (Nat.le_of_ble_eq_true rfl) (by decide) (by decide) ?_
        rintro T86 _ _ X86 ⟨rfl, rfl, e86⟩
        rw [List.append_nil] at X86
        show Owes _ _ _ _ (T86.setTop (mkF m 123 #[.val (.long q0), .second, .val (.long q1), .second, .val (.int p2), .val (.int (1 : Int32)), .val (.int (1 : Int32)), .val (.ref oa), .val (.ref ob), .val (.long (f_lo zA)), .second, .val (.long (f_lo zB)), .second, .val (.long (f_lo zB)), .second, .val (.long (f_lo zA)), .second, .unset, .unset, .unset, .unset, .unset, .unset] [(.long (f_lo zB))]))
        refine Owes.go ?_ fun t₀ k₀ => XS.lstore X86.here hx rfl (hb hby at_123) rfl (l' := #[.val (.long q0), .second, .val (.long q1), .second, .val (.int p2), .val (.int (1 : Int32)), .val (.int (1 : Int32)), .val (.ref oa), .val (.ref ob), .val (.long (f_lo zA)), .second, .val (.long (f_lo zB)), .second, .val (.long (f_lo zB)), .second, .val (.long (f_lo zA)), .second, .val (.long (f_lo zB)), .second, .unset, .unset, .unset, .unset]) rfl k₀
        show Owes _ _ _ _ (T86.setTop (mkF m 125 #[.val (.long q0), .second, .val (.long q1), .second, .val (.int p2), .val (.int (1 : Int32)), .val (.int (1 : Int32)), .val (.ref oa), .val (.ref ob), .val (.long (f_lo zA)), .second, .val (.long (f_lo zB)), .second, .val (.long (f_lo zB)), .second, .val (.long (f_lo zA)), .second, .val (.long (f_lo zB)), .second, .unset, .unset, .unset, .unset] []))
        refine Owes.go ?_ fun t₀ k₀ => XS.iload X86.here hx rfl (hb hby at_125) rfl k₀
        show Owes _ _ _ _ (T86.setTop (mkF m 127 #[.val (.long q0), .second, .val (.long q1), .second, .val (.int p2), .val (.int (1 : Int32)), .val (.int (1 : Int32)), .val (.ref oa), .val (.ref ob), .val (.long (f_lo zA)), .second, .val (.long (f_lo zB)), .second, .val (.long (f_lo zB)), .second, .val (.long (f_lo zA)), .second, .val (.long (f_lo zB)), .second, .unset, .unset, .unset, .unset] [(.int (1 : Int32))]))
        refine Owes.go ?_ fun t₀ k₀ => XS.ifNo X86.here hx rfl (hb hby at_127) rfl ((if0 _ _).trans (feq (by decide : ¬ ((1 : Int32) = (0 : Int32)))).1) k₀
        show Owes _ _ _ _ (T86.setTop (mkF m 130 #[.val (.long q0), .second, .val (.long q1), .second, .val (.int p2), .val (.int (1 : Int32)), .val (.int (1 : Int32)), .val (.ref oa), .val (.ref ob), .val (.long (f_lo zA)), .second, .val (.long (f_lo zB)), .second, .val (.long (f_lo zB)), .second, .val (.long (f_lo zA)), .second, .val (.long (f_lo zB)), .second, .unset, .unset, .unset, .unset] []))
        refine Owes.go ?_ fun t₀ k₀ => XS.iload X86.here hx rfl (hb hby at_130) rfl k₀
        show Owes _ _ _ _ (T86.setTop (mkF m 132 #[.val (.long q0), .second, .val (.long q1), .second, .val (.int p2), .val (.int (1 : Int32)), .val (.int (1 : Int32)), .val (.ref oa), .val (.ref ob), .val (.long (f_lo zA)), .second, .val (.long (f_lo zB)), .second, .val (.long (f_lo zB)), .second, .val (.long (f_lo zA)), .second, .val (.long (f_lo zB)), .second, .unset, .unset, .unset, .unset] [(.int (1 : Int32))]))
        refine Owes.go ?_ fun t₀ k₀ => XS.ifNo X86.here hx rfl (hb hby at_132) rfl ((if0 _ _).trans (feq (by decide : ¬ ((1 : Int32) = (0 : Int32)))).1) k₀
        show Owes _ _ _ _ (T86.setTop (mkF m 135 #[.val (.long q0), .second, .val (.long q1), .second, .val (.int p2), .val (.int (1 : Int32)), .val (.int (1 : Int32)), .val (.ref oa), .val (.ref ob), .val (.long (f_lo zA)), .second, .val (.long (f_lo zB)), .second, .val (.long (f_lo zB)), .second, .val (.long (f_lo zA)), .second, .val (.long (f_lo zB)), .second, .unset, .unset, .unset, .unset] []))
        refine Owes.go ?_ fun t₀ k₀ => XS.lload X86.here hx rfl (hb hby at_135) rfl k₀
        show Owes _ _ _ _ (T86.setTop (mkF m 137 #[.val (.long q0), .second, .val (.long q1), .second, .val (.int p2), .val (.int (1 : Int32)), .val (.int (1 : Int32)), .val (.ref oa), .val (.ref ob), .val (.long (f_lo zA)), .second, .val (.long (f_lo zB)), .second, .val (.long (f_lo zB)), .second, .val (.long (f_lo zA)), .second, .val (.long (f_lo zB)), .second, .unset, .unset, .unset, .unset] [(.long (f_lo zA))]))
        refine Owes.go ?_ fun t₀ k₀ => XS.lload X86.here hx rfl (hb hby at_137) rfl k₀
        show Owes _ _ _ _ (T86.setTop (mkF m 139 #[.val (.long q0), .second, .val (.long q1), .second, .val (.int p2), .val (.int (1 : Int32)), .val (.int (1 : Int32)), .val (.ref oa), .val (.ref ob), .val (.long (f_lo zA)), .second, .val (.long (f_lo zB)), .second, .val (.long (f_lo zB)), .second, .val (.long (f_lo zA)), .second, .val (.long (f_lo zB)), .second, .unset, .unset, .unset, .unset] [(.long (f_lo zB)), (.long (f_lo zA))]))
        refine Owes.callS X86 hx hZ hown (hw _ (List.mem_of_getElem? (i := 100) rfl)) (hw _ (List.mem_of_getElem? (i := 70) rfl)) (hw _ (List.mem_of_getElem? (i := 28) rfl)) (hw _ (List.mem_of_getElem? (i := 71) rfl)) (by decide) (argsL := [(.long (f_lo zA)), (.long (f_lo zB))]) (rest := []) (rm_f_minJ l Z a0 hw [] (f_lo zA) (f_lo zB) T78.heap ) e86 (by rw [hml]; rfl) pd_4 rfl rfl (hb hby at_139) (by decide) (Nat.le_of_ble_eq_true rfl) (by decide) (by decide) ?_
        rintro T87 _ _ X87 ⟨rfl, rfl, e87⟩
        rw [List.append_nil] at X87
        show Owes _ _ _ _ (T87.setTop (mkF m 142 #[.val (.long q0), .second, .val (.long q1), .second, .val (.int p2), .val (.int (1 : Int32)), .val (.int (1 : Int32)), .val (.ref oa), .val (.ref ob), .val (.long (f_lo zA)), .second, .val (.long (f_lo zB)), .second, .val (.long (f_lo zB)), .second, .val (.long (f_lo zA)), .second, .val (.long (f_lo zB)), .second, .unset, .unset, .unset, .unset] [(.long (f_minJ (f_lo zA) (f_lo zB)))]))
        refine Owes.go ?_ fun t₀ k₀ => XS.lstore X87.here hx rfl (hb hby at_142) rfl (l' := #[.val (.long q0), .second, .val (.long q1), .second, .val (.int p2), .val (.int (1 : Int32)), .val (.int (1 : Int32)), .val (.ref oa), .val (.ref ob), .val (.long (f_lo zA)), .second, .val (.long (f_lo zB)), .second, .val (.long (f_lo zB)), .second, .val (.long (f_lo zA)), .second, .val (.long (f_lo zB)), .second, .val (.long (f_minJ (f_lo zA) (f_lo zB))), .second, .unset, .unset]) rfl k₀
        show Owes _ _ _ _ (T87.setTop (mkF m 144 #[.val (.long q0), .second, .val (.long q1), .second, .val (.int p2), .val (.int (1 : Int32)), .val (.int (1 : Int32)), .val (.ref oa), .val (.ref ob), .val (.long (f_lo zA)), .second, .val (.long (f_lo zB)), .second, .val (.long (f_lo zB)), .second, .val (.long (f_lo zA)), .second, .val (.long (f_lo zB)), .second, .val (.long (f_minJ (f_lo zA) (f_lo zB))), .second, .unset, .unset] []))
        refine Owes.go ?_ fun t₀ k₀ => XS.lload X87.here hx rfl (hb hby at_144) rfl k₀
        show Owes _ _ _ _ (T87.setTop (mkF m 146 #[.val (.long q0), .second, .val (.long q1), .second, .val (.int p2), .val (.int (1 : Int32)), .val (.int (1 : Int32)), .val (.ref oa), .val (.ref ob), .val (.long (f_lo zA)), .second, .val (.long (f_lo zB)), .second, .val (.long (f_lo zB)), .second, .val (.long (f_lo zA)), .second, .val (.long (f_lo zB)), .second, .val (.long (f_minJ (f_lo zA) (f_lo zB))), .second, .unset, .unset] [(.long (f_lo zA))]))
        refine Owes.go ?_ fun t₀ k₀ => XS.lload X87.here hx rfl (hb hby at_146) rfl k₀
        show Owes _ _ _ _ (T87.setTop (mkF m 148 #[.val (.long q0), .second, .val (.long q1), .second, .val (.int p2), .val (.int (1 : Int32)), .val (.int (1 : Int32)), .val (.ref oa), .val (.ref ob), .val (.long (f_lo zA)), .second, .val (.long (f_lo zB)), .second, .val (.long (f_lo zB)), .second, .val (.long (f_lo zA)), .second, .val (.long (f_lo zB)), .second, .val (.long (f_minJ (f_lo zA) (f_lo zB))), .second, .unset, .unset] [(.long (f_lo zB)), (.long (f_lo zA))]))
        refine Owes.callS X87 hx hZ hown (hw _ (List.mem_of_getElem? (i := 101) rfl)) (hw _ (List.mem_of_getElem? (i := 67) rfl)) (hw _ (List.mem_of_getElem? (i := 28) rfl)) (hw _ (List.mem_of_getElem? (i := 68) rfl)) (by decide) (argsL := [(.long (f_lo zA)), (.long (f_lo zB))]) (rest := []) (rm_f_maxJ l Z a0 hw [] (f_lo zA) (f_lo zB) T78.heap ) e87 (by rw [hml]; rfl) pd_4 rfl rfl (hb hby at_148) (by decide) (Nat.le_of_ble_eq_true rfl) (by decide) (by decide) ?_
        rintro T88 _ _ X88 ⟨rfl, rfl, e88⟩
        rw [List.append_nil] at X88
        show Owes _ _ _ _ (T88.setTop (mkF m 151 #[.val (.long q0), .second, .val (.long q1), .second, .val (.int p2), .val (.int (1 : Int32)), .val (.int (1 : Int32)), .val (.ref oa), .val (.ref ob), .val (.long (f_lo zA)), .second, .val (.long (f_lo zB)), .second, .val (.long (f_lo zB)), .second, .val (.long (f_lo zA)), .second, .val (.long (f_lo zB)), .second, .val (.long (f_minJ (f_lo zA) (f_lo zB))), .second, .unset, .unset] [(.long (f_maxJ (f_lo zA) (f_lo zB)))]))
        refine Owes.go ?_ fun t₀ k₀ => XS.lstore X88.here hx rfl (hb hby at_151) rfl (l' := #[.val (.long q0), .second, .val (.long q1), .second, .val (.int p2), .val (.int (1 : Int32)), .val (.int (1 : Int32)), .val (.ref oa), .val (.ref ob), .val (.long (f_lo zA)), .second, .val (.long (f_lo zB)), .second, .val (.long (f_lo zB)), .second, .val (.long (f_lo zA)), .second, .val (.long (f_lo zB)), .second, .val (.long (f_minJ (f_lo zA) (f_lo zB))), .second, .val (.long (f_maxJ (f_lo zA) (f_lo zB))), .second]) rfl k₀
        show Owes _ _ _ _ (T88.setTop (mkF m 153 #[.val (.long q0), .second, .val (.long q1), .second, .val (.int p2), .val (.int (1 : Int32)), .val (.int (1 : Int32)), .val (.ref oa), .val (.ref ob), .val (.long (f_lo zA)), .second, .val (.long (f_lo zB)), .second, .val (.long (f_lo zB)), .second, .val (.long (f_lo zA)), .second, .val (.long (f_lo zB)), .second, .val (.long (f_minJ (f_lo zA) (f_lo zB))), .second, .val (.long (f_maxJ (f_lo zA) (f_lo zB))), .second] []))
        refine Owes.go ?_ fun t₀ k₀ => XS.goto X88.here hx rfl (pc0 := 153) (pc' := 194) rfl (hb hby at_153) (by decide) (by decide) k₀
        show Owes _ _ _ _ (T88.setTop (mkF m 194 #[.val (.long q0), .second, .val (.long q1), .second, .val (.int p2), .val (.int (1 : Int32)), .val (.int (1 : Int32)), .val (.ref oa), .val (.ref ob), .val (.long (f_lo zA)), .second, .val (.long (f_lo zB)), .second, .val (.long (f_lo zB)), .second, .val (.long (f_lo zA)), .second, .val (.long (f_lo zB)), .second, .val (.long (f_minJ (f_lo zA) (f_lo zB))), .second, .val (.long (f_maxJ (f_lo zA) (f_lo zB))), .second] []))
        refine Owes.go ?_ fun t₀ k₀ => XS.lload X88.here hx rfl (hb hby at_194) rfl k₀
        show Owes _ _ _ _ (T88.setTop (mkF m 196 #[.val (.long q0), .second, .val (.long q1), .second, .val (.int p2), .val (.int (1 : Int32)), .val (.int (1 : Int32)), .val (.ref oa), .val (.ref ob), .val (.long (f_lo zA)), .second, .val (.long (f_lo zB)), .second, .val (.long (f_lo zB)), .second, .val (.long (f_lo zA)), .second, .val (.long (f_lo zB)), .second, .val (.long (f_minJ (f_lo zA) (f_lo zB))), .second, .val (.long (f_maxJ (f_lo zA) (f_lo zB))), .second] [(.long (f_lo zB))]))
        refine Owes.go ?_ fun t₀ k₀ => XS.lload X88.here hx rfl (hb hby at_196) rfl k₀
        show Owes _ _ _ _ (T88.setTop (mkF m 198 #[.val (.long q0), .second, .val (.long q1), .second, .val (.int p2), .val (.int (1 : Int32)), .val (.int (1 : Int32)), .val (.ref oa), .val (.ref ob), .val (.long (f_lo zA)), .second, .val (.long (f_lo zB)), .second, .val (.long (f_lo zB)), .second, .val (.long (f_lo zA)), .second, .val (.long (f_lo zB)), .second, .val (.long (f_minJ (f_lo zA) (f_lo zB))), .second, .val (.long (f_maxJ (f_lo zA) (f_lo zB))), .second] [(.long (f_minJ (f_lo zA) (f_lo zB))), (.long (f_lo zB))]))
        refine Owes.go ?_ fun t₀ k₀ => XS.lcmp X88.here hx rfl (hb hby at_198) rfl k₀
        show Owes _ _ _ _ (T88.setTop (mkF m 199 #[.val (.long q0), .second, .val (.long q1), .second, .val (.int p2), .val (.int (1 : Int32)), .val (.int (1 : Int32)), .val (.ref oa), .val (.ref ob), .val (.long (f_lo zA)), .second, .val (.long (f_lo zB)), .second, .val (.long (f_lo zB)), .second, .val (.long (f_lo zA)), .second, .val (.long (f_lo zB)), .second, .val (.long (f_minJ (f_lo zA) (f_lo zB))), .second, .val (.long (f_maxJ (f_lo zA) (f_lo zB))), .second] [(.int (lcmpW (f_lo zB) (f_minJ (f_lo zA) (f_lo zB))))]))
        refine Owes.go ?_ fun t₀ k₀ => XS.ifNo X88.here hx rfl (hb hby at_199) rfl ((if0 _ _).trans (teq ((lw_eq _ _).mpr (own_minR hlo))).2) k₀
        show Owes _ _ _ _ (T88.setTop (mkF m 202 #[.val (.long q0), .second, .val (.long q1), .second, .val (.int p2), .val (.int (1 : Int32)), .val (.int (1 : Int32)), .val (.ref oa), .val (.ref ob), .val (.long (f_lo zA)), .second, .val (.long (f_lo zB)), .second, .val (.long (f_lo zB)), .second, .val (.long (f_lo zA)), .second, .val (.long (f_lo zB)), .second, .val (.long (f_minJ (f_lo zA) (f_lo zB))), .second, .val (.long (f_maxJ (f_lo zA) (f_lo zB))), .second] []))
        refine Owes.go ?_ fun t₀ k₀ => XS.lload X88.here hx rfl (hb hby at_202) rfl k₀
        show Owes _ _ _ _ (T88.setTop (mkF m 204 #[.val (.long q0), .second, .val (.long q1), .second, .val (.int p2), .val (.int (1 : Int32)), .val (.int (1 : Int32)), .val (.ref oa), .val (.ref ob), .val (.long (f_lo zA)), .second, .val (.long (f_lo zB)), .second, .val (.long (f_lo zB)), .second, .val (.long (f_lo zA)), .second, .val (.long (f_lo zB)), .second, .val (.long (f_minJ (f_lo zA) (f_lo zB))), .second, .val (.long (f_maxJ (f_lo zA) (f_lo zB))), .second] [(.long (f_lo zA))]))
        refine Owes.go ?_ fun t₀ k₀ => XS.lload X88.here hx rfl (hb hby at_204) rfl k₀
        show Owes _ _ _ _ (T88.setTop (mkF m 206 #[.val (.long q0), .second, .val (.long q1), .second, .val (.int p2), .val (.int (1 : Int32)), .val (.int (1 : Int32)), .val (.ref oa), .val (.ref ob), .val (.long (f_lo zA)), .second, .val (.long (f_lo zB)), .second, .val (.long (f_lo zB)), .second, .val (.long (f_lo zA)), .second, .val (.long (f_lo zB)), .second, .val (.long (f_minJ (f_lo zA) (f_lo zB))), .second, .val (.long (f_maxJ (f_lo zA) (f_lo zB))), .second] [(.long (f_maxJ (f_lo zA) (f_lo zB))), (.long (f_lo zA))]))
        refine Owes.go ?_ fun t₀ k₀ => XS.lcmp X88.here hx rfl (hb hby at_206) rfl k₀
        show Owes _ _ _ _ (T88.setTop (mkF m 207 #[.val (.long q0), .second, .val (.long q1), .second, .val (.int p2), .val (.int (1 : Int32)), .val (.int (1 : Int32)), .val (.ref oa), .val (.ref ob), .val (.long (f_lo zA)), .second, .val (.long (f_lo zB)), .second, .val (.long (f_lo zB)), .second, .val (.long (f_lo zA)), .second, .val (.long (f_lo zB)), .second, .val (.long (f_minJ (f_lo zA) (f_lo zB))), .second, .val (.long (f_maxJ (f_lo zA) (f_lo zB))), .second] [(.int (lcmpW (f_lo zA) (f_maxJ (f_lo zA) (f_lo zB))))]))
        refine Owes.go ?_ fun t₀ k₀ => XS.ifNo X88.here hx rfl (hb hby at_207) rfl ((if0 _ _).trans (teq ((lw_eq _ _).mpr (own_maxL hlo))).2) k₀
        show Owes _ _ _ _ (T88.setTop (mkF m 210 #[.val (.long q0), .second, .val (.long q1), .second, .val (.int p2), .val (.int (1 : Int32)), .val (.int (1 : Int32)), .val (.ref oa), .val (.ref ob), .val (.long (f_lo zA)), .second, .val (.long (f_lo zB)), .second, .val (.long (f_lo zB)), .second, .val (.long (f_lo zA)), .second, .val (.long (f_lo zB)), .second, .val (.long (f_minJ (f_lo zA) (f_lo zB))), .second, .val (.long (f_maxJ (f_lo zA) (f_lo zB))), .second] []))
        refine Owes.go ?_ fun t₀ k₀ => XS.lload X88.here hx rfl (hb hby at_210) rfl k₀
        show Owes _ _ _ _ (T88.setTop (mkF m 212 #[.val (.long q0), .second, .val (.long q1), .second, .val (.int p2), .val (.int (1 : Int32)), .val (.int (1 : Int32)), .val (.ref oa), .val (.ref ob), .val (.long (f_lo zA)), .second, .val (.long (f_lo zB)), .second, .val (.long (f_lo zB)), .second, .val (.long (f_lo zA)), .second, .val (.long (f_lo zB)), .second, .val (.long (f_minJ (f_lo zA) (f_lo zB))), .second, .val (.long (f_maxJ (f_lo zA) (f_lo zB))), .second] [(.long (f_lo zB))]))
        refine Owes.go ?_ fun t₀ k₀ => XS.lload X88.here hx rfl (hb hby at_212) rfl k₀
        show Owes _ _ _ _ (T88.setTop (mkF m 214 #[.val (.long q0), .second, .val (.long q1), .second, .val (.int p2), .val (.int (1 : Int32)), .val (.int (1 : Int32)), .val (.ref oa), .val (.ref ob), .val (.long (f_lo zA)), .second, .val (.long (f_lo zB)), .second, .val (.long (f_lo zB)), .second, .val (.long (f_lo zA)), .second, .val (.long (f_lo zB)), .second, .val (.long (f_minJ (f_lo zA) (f_lo zB))), .second, .val (.long (f_maxJ (f_lo zA) (f_lo zB))), .second] [(.long (f_lo zB)), (.long (f_lo zB))]))
        refine Owes.go ?_ fun t₀ k₀ => XS.lcmp X88.here hx rfl (hb hby at_214) rfl k₀
        show Owes _ _ _ _ (T88.setTop (mkF m 215 #[.val (.long q0), .second, .val (.long q1), .second, .val (.int p2), .val (.int (1 : Int32)), .val (.int (1 : Int32)), .val (.ref oa), .val (.ref ob), .val (.long (f_lo zA)), .second, .val (.long (f_lo zB)), .second, .val (.long (f_lo zB)), .second, .val (.long (f_lo zA)), .second, .val (.long (f_lo zB)), .second, .val (.long (f_minJ (f_lo zA) (f_lo zB))), .second, .val (.long (f_maxJ (f_lo zA) (f_lo zB))), .second] [(.int (lcmpW (f_lo zB) (f_lo zB)))]))
        refine Owes.go ?_ fun t₀ k₀ => XS.ifNo X88.here hx rfl (hb hby at_215) rfl ((if0 _ _).trans (teq ((lw_eq _ _).mpr (rfl))).2) k₀
        show Owes _ _ _ _ (T88.setTop (mkF m 218 #[.val (.long q0), .second, .val (.long q1), .second, .val (.int p2), .val (.int (1 : Int32)), .val (.int (1 : Int32)), .val (.ref oa), .val (.ref ob), .val (.long (f_lo zA)), .second, .val (.long (f_lo zB)), .second, .val (.long (f_lo zB)), .second, .val (.long (f_lo zA)), .second, .val (.long (f_lo zB)), .second, .val (.long (f_minJ (f_lo zA) (f_lo zB))), .second, .val (.long (f_maxJ (f_lo zA) (f_lo zB))), .second] []))
        refine Owes.go ?_ fun t₀ k₀ => XS.iconst X88.here hx rfl (hb hby at_218) k₀
        show Owes _ _ _ _ (T88.setTop (mkF m 219 #[.val (.long q0), .second, .val (.long q1), .second, .val (.int p2), .val (.int (1 : Int32)), .val (.int (1 : Int32)), .val (.ref oa), .val (.ref ob), .val (.long (f_lo zA)), .second, .val (.long (f_lo zB)), .second, .val (.long (f_lo zB)), .second, .val (.long (f_lo zA)), .second, .val (.long (f_lo zB)), .second, .val (.long (f_minJ (f_lo zA) (f_lo zB))), .second, .val (.long (f_maxJ (f_lo zA) (f_lo zB))), .second] [(.int (1 : Int32))]))
        refine Owes.go ?_ fun t₀ k₀ => XS.goto X88.here hx rfl (pc0 := 219) (pc' := 223) rfl (hb hby at_219) (by decide) (by decide) k₀
        show Owes _ _ _ _ (T88.setTop (mkF m 223 #[.val (.long q0), .second, .val (.long q1), .second, .val (.int p2), .val (.int (1 : Int32)), .val (.int (1 : Int32)), .val (.ref oa), .val (.ref ob), .val (.long (f_lo zA)), .second, .val (.long (f_lo zB)), .second, .val (.long (f_lo zB)), .second, .val (.long (f_lo zA)), .second, .val (.long (f_lo zB)), .second, .val (.long (f_minJ (f_lo zA) (f_lo zB))), .second, .val (.long (f_maxJ (f_lo zA) (f_lo zB))), .second] [(.int (1 : Int32))]))
        exact Owes.retN X88 hx hlk hret (by simp) (hb hby at_223) (by decide) (by decide) ⟨rfl, NF78⟩
set_option maxRecDepth 65536 in
set_option maxHeartbeats 40000000 in
theorem comes_1 {Post : Tables → Env → Array Value → State → Outcome → State → Prop} (hpost : ∀ tb e args s v u, (limb_1_1.after args s (.returned v) u = true ∧ limb_1_2.after args s (.returned v) u = true ∧ True) → FrameEnd s (.returned v) u (Jvm.fieldLocs frame_1_writes args s ++ Jvm.arrayLocs frame_1_arrays args s ++ Jvm.staticLocs frame_1_statics s) 16 49280 → Post tb e args s (.returned v) u) :
    ArmFor flags0 classFile x code maxLocals ret World_1 tables_1 room_1 Calls_1 rest_1 Pre_1 Post := by
  intro l hfl _ _ p e ha hc hk s m args below hf hA hF happ hP
  obtain ⟨hcalls, hrest, hpre⟩ := hP
  obtain ⟨-, -, -, hnamed, -, -, -, hat⟩ := (Spec.applies_iff hf).mp happ
  obtain ⟨hg, hn⟩ := and_e (Cond.before_iff.mp (show (Jvm.Cond.and given_1 narrow_1).before args s = true from hpre))
  obtain ⟨g1, g2⟩ := and_e hg
  obtain ⟨g3, g4⟩ := and_e g2
  obtain ⟨g5, g6⟩ := and_e g4
  obtain ⟨w0, w1, w2, rfl⟩ : ∃ w0 w1 w2 : Value, args = #[w0, w1, w2] := by
    have hs : args.size = 3 := by simpa [Cond.value, given_1] using g1
    obtain ⟨L⟩ := args
    match L, hs with
    | [w0, w1, w2], _ => exact ⟨w0, w1, w2, rfl⟩
  have hw := fun d (hd : d ∈ tables_1) => atoms_spec (ws := Jvm.Cond.code x code maxLocals ret :: tables_1) hat d (List.mem_cons_of_mem _ hd)
  have hfit : Fit s := fun {y c} hc i hi => by
    obtain ⟨ha, rfl⟩ := Array.getElem?_eq_some_iff.mp hc
    have q := List.all_eq_true.mp ((Array.all_eq_true_iff_forall_mem.mp hF) _ (Array.getElem_mem ha)) i (List.mem_range.mpr hi)
    simpa [Array.getElem?_eq_getElem hi] using q
  obtain ⟨hsets, hown0⟩ := atoms_of _ (rest_1_c_eq ▸ (show rest_1_c.before _ s = true from hrest))
  have hr0 := Cond.before_iff.mp hown0
  obtain ⟨i0, ei0⟩ := isL_v g3
  obtain rfl : w0 = (.long i0) := Option.some.inj ei0
  obtain ⟨i1, ei1⟩ := isL_v g5
  obtain rfl : w1 = (.long i1) := Option.some.inj ei1
  obtain ⟨i2, ei2⟩ := is_v g6
  obtain rfl : w2 = (.int i2) := Option.some.inj ei2
  obtain ⟨n1, n2⟩ := and_e hn
  have SB := Sta.start (own_eqI n1) (Or.inr ⟨(hw _ (List.mem_of_getElem? (i := 2) rfl)), (hw _ (List.mem_of_getElem? (i := 25) rfl))⟩)
  have SE := Sta.start (own_eqL n2) (Or.inr ⟨(hw _ (List.mem_of_getElem? (i := 2) rfl)), (hw _ (List.mem_of_getElem? (i := 99) rfl))⟩)
  obtain ⟨rN, eN⟩ := exa_v (Cond.before_iff.mp (hsets _ (List.mem_of_getElem? (i := 2) rfl)))
  have SN := Sta.start eN (Or.inl (hsets _ (List.mem_of_getElem? (i := 1) rfl)))
  have EN := Exa.start eN (Cond.before_iff.mp (hsets _ (List.mem_of_getElem? (i := 2) rfl)))
  have Fsc := Fld.start ((fld_at eN).symm.trans (own_eqL (Cond.before_iff.mp (hsets _ (List.mem_of_getElem? (i := 5) rfl)))))
  have Fmr := Fld.start ((fld_at eN).symm.trans (own_eqL (Cond.before_iff.mp (hsets _ (List.mem_of_getElem? (i := 7) rfl)))))
  have SA := Sta.start (own_eqI (Cond.before_iff.mp (hsets _ (List.mem_of_getElem? (i := 15) rfl)))) (Or.inl (hsets _ (List.mem_of_getElem? (i := 14) rfl)))
  obtain ⟨n, o, h1, h2, h3, _, L, rfl, ⟨rfl, N⟩, hq⟩ := rm0 l s _ hw tables_1 i0 i1 i2 s.heap s.heap.size (Nat.le_refl _) SB SE rN SN EN Fsc Fmr SA p e ha hc hk s m _ below hf ((Spec.applies_iff_loose hf).mp happ).1 ⟨rfl, State.Warmed39.refl s, rfl⟩ trivial
  refine ⟨n, _, h1, h2, h3, hpost _ _ _ _ _ _ ⟨Cond.after_iff.mpr rfl, Cond.after_iff.mpr (eq_i res_at (Term.int_eval (1)) rfl), trivial⟩ ⟨hq.1, hq.2.1, (hq.2.2.sift fun y hy => Or.inr (N y hy)).mono (by decide) (by decide)⟩⟩
theorem main_1_1 : Claimed_1_1 := comes_1 fun _ _ _ _ _ _ h hF => ⟨h.1, hF⟩
theorem main_1_2 : Claimed_1_2 := comes_1 fun _ _ _ _ _ _ h hF => ⟨h.2.1, hF⟩
end Jvm.Pilot.@@N@@
namespace Jvm.Pilot.@@N@@
open Jvm Jvm.ClassFile Sem Op Lib Jvm.Free Jvm.Stand Jvm.Pilot.@@N@@.Jvm.D
/-! MADE BY PROGRAM (witnessworld.py) out of the Statement's table words and the real class files: 24 classes; the members and pool entries that the words name. The judged class is class 1, her method 1. -/
namespace start1
open Jvm.ClassFile
def u (s : String) : CpInfo := .utf8 (stringToUtf16 s)
/-- a pool by its gaps: so many unusable entries, then the entry; so many at the end -/
def gap : Nat → List CpInfo → List CpInfo
  | 0, r => r
  | n + 1, r => .unusable :: gap n r
def poolList (es : List (Nat × CpInfo)) (last : Nat) : List CpInfo := es.foldr (fun e r => gap e.1 (e.2 :: r)) (gap last [])
def pool (es : List (Nat × CpInfo)) (last : Nat) : Array CpInfo := ⟨poolList es last⟩
def fileOf (pool : Array CpInfo) (this : Nat) (attrs : Array Attribute := #[]) (ms : Array MethodInfo := #[]) (fl : Nat := 33) (sup : Nat := 0) (ifs : Array Nat := #[]) (fds : Array FieldInfo := #[]) : ClassFile where
  minorVersion := 0
  majorVersion := 65
  constantPool := pool
  accessFlags := fl
  thisClass := this
  superClass := sup
  interfaces := ifs
  fields := fds
  methods := ms
  attributes := attrs
def plain (name : String) (sup : Option ClassId) : Class where
  name := name
  kind := .ordinary
  loader := none
  accessFlags := 33
  super := sup
  interfaces := #[]
  cf := none
  fields := #[]
  methods := #[]
  instanceTypes := #[]
  staticTypes := #[]
  resolved := #[]
  callSites := []
  init := .initialized
  statics := none
  mirror := none

def pool0 : Array CpInfo := pool [(5, u "<init>"), (0, u "()V"), (1, .class_ 10), (1, u "java/lang/Object")] 113

def k0c0 : Code := { maxStack := 0, maxLocals := 1, code := object_method_1_code, exceptionTable := #[], attributes := #[] }
def k0m0 : Method := { name := "<init>", desc := "()V", sig := { parameters := [], returnType := none }, accessFlags := 1, code := some k0c0 }
/-- java/lang/Object -/
def k0 : Class := { plain "java/lang/Object" none with
  accessFlags := 33
  interfaces := #[]
  cf := some (fileOf pool0 8 #[] #[{ accessFlags := 1, nameIndex := 5, descriptorIndex := 6, attributes := #[] }] 33 0 #[] #[])
  fields := #[]
  methods := #[k0m0]
  instanceTypes := #[]
  staticTypes := #[]
  resolved := Array.replicate 124 none
  statics := none }

def pool1 : Array CpInfo := pool [(2, .class_ 4), (0, .nameAndType 5 6), (0, u "java/lang/Object"), (0, u "<init>"), (0, u "()V"), (0, .class_ 8), (0, u "com/example/holdfast/holdfast/bench/LatencyHistogram"), (0, .methodref 7 3), (0, .methodref 7 11), (0, .nameAndType 12 13), (0, u "record"), (0, u "(J)V"), (0, .double 4636737291354636288), (1, .methodref 7 17), (0, .nameAndType 18 19), (0, u "percentile"), (0, u "(D)J"), (0, .methodref 7 21), (0, .nameAndType 22 23), (0, u "add"), (0, u "(Lcom/example/holdfast/holdfast/bench/LatencyHistogram;)V"), (0, .double 4632233691727265792), (1, .methodref 27 28), (0, .class_ 29), (0, .nameAndType 30 31), (0, u "java/lang/Math"), (0, u "min"), (0, u "(JJ)J"), (0, .methodref 27 33), (0, .nameAndType 34 31), (0, u "max"), (0, .class_ 36), (0, u "com/example/holdfast/holdfast/bench/LatencyHistogramAddPinLaw"), (2, u "law"), (0, u "(JJI)Z")] 3

def k1m0 : Method := { name := "<init>", desc := "()V", sig := { parameters := [], returnType := none }, accessFlags := 1, code := none }
def k1c1 : Code := { maxStack := 4, maxLocals := 23, code := code, exceptionTable := #[], attributes := #[] }
def k1m1 : Method := { name := "law", desc := "(JJI)Z", sig := { parameters := [.long, .long, .int], returnType := some .boolean }, accessFlags := 9, code := some k1c1 }
/-- com/example/holdfast/holdfast/bench/LatencyHistogramAddPinLaw -/
def k1 : Class := { plain "com/example/holdfast/holdfast/bench/LatencyHistogramAddPinLaw" (some 0) with
  accessFlags := 49
  interfaces := #[]
  cf := some (fileOf pool1 35 #[] #[{ accessFlags := 1, nameIndex := 5, descriptorIndex := 6, attributes := #[] }, { accessFlags := 9, nameIndex := 39, descriptorIndex := 40, attributes := #[] }] 49 2 #[] #[])
  fields := #[]
  methods := #[k1m0, k1m1]
  instanceTypes := #[]
  staticTypes := #[]
  resolved := Array.replicate 44 none
  statics := none }

def pool2 : Array CpInfo := pool [(1, .class_ 2), (0, u "com/example/holdfast/holdfast/bench/LatencyHistogram"), (0, .methodref 4 5), (0, .class_ 6), (0, .nameAndType 7 8), (0, u "java/lang/Object"), (0, u "<init>"), (0, u "()V"), (0, .long 4294967295), (1, .methodref 1 12), (0, .nameAndType 13 14), (0, u "bucket"), (0, u "(J)I"), (0, .fieldref 1 16), (0, .nameAndType 17 18), (0, u "counts"), (0, u "[J"), (0, .fieldref 20 21), (0, .class_ 22), (0, .nameAndType 23 24), (0, u "java/util/concurrent/TimeUnit"), (0, u "NANOSECONDS"), (0, u "Ljava/util/concurrent/TimeUnit;"), (0, .methodref 20 26), (0, .nameAndType 27 28), (0, u "toMicros"), (0, u "(J)J"), (0, .methodref 30 31), (0, .class_ 32), (0, .nameAndType 33 34), (0, u "java/lang/Math"), (0, u "max"), (0, u "(JJ)J"), (0, .methodref 30 36), (0, .nameAndType 37 34), (0, u "min"), (0, .fieldref 1 39), (0, .nameAndType 40 41), (0, u "total"), (0, u "J"), (0, .double 4636737291354636288), (10, .methodref 30 54), (0, .nameAndType 55 56), (0, u "ceil"), (0, u "(D)D"), (0, .methodref 1 58), (0, .nameAndType 59 60), (0, u "lowest"), (0, u "(I)J"), (0, .methodref 1 62), (0, .nameAndType 63 14), (0, u "shift"), (0, .long 512), (1, .fieldref 1 67), (0, .nameAndType 68 41), (0, u "EXACT_BELOW"), (0, .class_ 70), (0, u "java/lang/Long"), (0, .methodref 69 72), (0, .nameAndType 73 14), (0, u "numberOfLeadingZeros"), (0, .fieldref 1 75), (0, .nameAndType 76 77), (0, u "EXACT_BITS"), (0, u "I"), (0, .methodref 30 79), (0, .nameAndType 33 80), (0, u "(II)I"), (6, u "SUB_BUCKETS"), (2, u "LONGEST_BITS"), (1, u "LONGEST"), (2, u "record"), (0, u "(J)V"), (0, u "add"), (0, u "(Lcom/example/holdfast/holdfast/bench/LatencyHistogram;)V"), (1, u "percentile"), (0, u "(D)J")] 18

def k2c0 : Code := { maxStack := 3, maxLocals := 1, code := prog_14_method_1_code, exceptionTable := #[], attributes := #[] }
def k2m0 : Method := { name := "<init>", desc := "()V", sig := { parameters := [], returnType := none }, accessFlags := 0, code := some k2c0 }
def k2c1 : Code := { maxStack := 6, maxLocals := 5, code := prog_14_method_2_code, exceptionTable := #[], attributes := #[] }
def k2m1 : Method := { name := "record", desc := "(J)V", sig := { parameters := [.long], returnType := none }, accessFlags := 0, code := some k2c1 }
def k2c2 : Code := { maxStack := 6, maxLocals := 3, code := prog_14_method_3_code, exceptionTable := #[], attributes := #[] }
def k2m2 : Method := { name := "add", desc := "(Lcom/example/holdfast/holdfast/bench/LatencyHistogram;)V", sig := { parameters := [(.object "com/example/holdfast/holdfast/bench/LatencyHistogram")], returnType := none }, accessFlags := 0, code := some k2c2 }
def k2c3 : Code := { maxStack := 4, maxLocals := 8, code := prog_14_method_4_code, exceptionTable := #[], attributes := #[] }
def k2m3 : Method := { name := "percentile", desc := "(D)J", sig := { parameters := [.double], returnType := some .long }, accessFlags := 0, code := some k2c3 }
def k2c4 : Code := { maxStack := 5, maxLocals := 3, code := prog_14_method_5_code, exceptionTable := #[], attributes := #[] }
def k2m4 : Method := { name := "bucket", desc := "(J)I", sig := { parameters := [.long], returnType := some .int }, accessFlags := 10, code := some k2c4 }
def k2c5 : Code := { maxStack := 4, maxLocals := 2, code := prog_14_method_6_code, exceptionTable := #[], attributes := #[] }
def k2m5 : Method := { name := "lowest", desc := "(I)J", sig := { parameters := [.int], returnType := some .long }, accessFlags := 10, code := some k2c5 }
def k2c6 : Code := { maxStack := 3, maxLocals := 3, code := prog_14_method_7_code, exceptionTable := #[], attributes := #[] }
def k2m6 : Method := { name := "shift", desc := "(J)I", sig := { parameters := [.long], returnType := some .int }, accessFlags := 10, code := some k2c6 }
/-- com/example/holdfast/holdfast/bench/LatencyHistogram -/
def k2 : Class := { plain "com/example/holdfast/holdfast/bench/LatencyHistogram" (some 0) with
  accessFlags := 48
  interfaces := #[]
  cf := some (fileOf pool2 1 #[] #[{ accessFlags := 0, nameIndex := 7, descriptorIndex := 8, attributes := #[] }, { accessFlags := 0, nameIndex := 95, descriptorIndex := 96, attributes := #[] }, { accessFlags := 0, nameIndex := 97, descriptorIndex := 98, attributes := #[] }, { accessFlags := 0, nameIndex := 100, descriptorIndex := 101, attributes := #[] }, { accessFlags := 10, nameIndex := 13, descriptorIndex := 14, attributes := #[] }, { accessFlags := 10, nameIndex := 59, descriptorIndex := 60, attributes := #[] }, { accessFlags := 10, nameIndex := 63, descriptorIndex := 14, attributes := #[] }] 48 4 #[] #[{ accessFlags := 26, nameIndex := 87, descriptorIndex := 77, attributes := #[] }, { accessFlags := 26, nameIndex := 76, descriptorIndex := 77, attributes := #[] }, { accessFlags := 26, nameIndex := 68, descriptorIndex := 41, attributes := #[] }, { accessFlags := 26, nameIndex := 90, descriptorIndex := 77, attributes := #[] }, { accessFlags := 26, nameIndex := 92, descriptorIndex := 41, attributes := #[] }, { accessFlags := 18, nameIndex := 17, descriptorIndex := 18, attributes := #[] }, { accessFlags := 2, nameIndex := 40, descriptorIndex := 41, attributes := #[] }])
  fields := #[{ name := "SUB_BUCKETS", type := .int, accessFlags := 26, slot := 0, constantValue := 0 }, { name := "EXACT_BITS", type := .int, accessFlags := 26, slot := 1, constantValue := 0 }, { name := "EXACT_BELOW", type := .long, accessFlags := 26, slot := 2, constantValue := 0 }, { name := "LONGEST_BITS", type := .int, accessFlags := 26, slot := 3, constantValue := 0 }, { name := "LONGEST", type := .long, accessFlags := 26, slot := 4, constantValue := 0 }, { name := "counts", type := (.array .long), accessFlags := 18, slot := 0, constantValue := 0 }, { name := "total", type := .long, accessFlags := 2, slot := 1, constantValue := 0 }]
  methods := #[k2m0, k2m1, k2m2, k2m3, k2m4, k2m5, k2m6]
  instanceTypes := #[(.array .long), .long]
  staticTypes := #[.int, .int, .long, .int, .long]
  resolved := Array.replicate 120 none
  statics := some 0 }

def pool3 : Array CpInfo := pool [(1, .class_ 2), (0, u "java/io/Serializable"), (0, .class_ 4), (0, u "java/lang/Object")] 2

/-- java/io/Serializable -/
def k3 : Class := { plain "java/io/Serializable" (some 0) with
  accessFlags := 1537
  interfaces := #[]
  cf := some (fileOf pool3 1 #[] #[] 1537 3 #[] #[])
  fields := #[]
  methods := #[]
  instanceTypes := #[]
  staticTypes := #[]
  resolved := Array.replicate 7 none
  statics := none }

def pool4 : Array CpInfo := pool [(2, .class_ 4), (1, u "java/lang/Object"), (0, u "<init>"), (0, u "()V"), (1, .class_ 10), (1, u "java/lang/Number"), (2, .class_ 14), (0, u "java/io/Serializable"), (0, u "serialVersionUID"), (0, u "J")] 20

def k4m0 : Method := { name := "<init>", desc := "()V", sig := { parameters := [], returnType := none }, accessFlags := 1, code := none }
/-- java/lang/Number -/
def k4 : Class := { plain "java/lang/Number" (some 0) with
  accessFlags := 1057
  interfaces := #[3]
  cf := some (fileOf pool4 8 #[] #[{ accessFlags := 1, nameIndex := 5, descriptorIndex := 6, attributes := #[] }] 1057 2 #[13] #[{ accessFlags := 26, nameIndex := 15, descriptorIndex := 16, attributes := #[] }])
  fields := #[{ name := "serialVersionUID", type := .long, accessFlags := 26, slot := 0, constantValue := 0 }]
  methods := #[k4m0]
  instanceTypes := #[]
  staticTypes := #[.long]
  resolved := Array.replicate 37 none
  statics := none }

def pool5 : Array CpInfo := pool [(1, .class_ 2), (0, u "java/lang/Comparable"), (0, .class_ 4), (0, u "java/lang/Object")] 7

/-- java/lang/Comparable -/
def k5 : Class := { plain "java/lang/Comparable" (some 0) with
  accessFlags := 1537
  interfaces := #[]
  cf := some (fileOf pool5 1 #[] #[] 1537 3 #[] #[])
  fields := #[]
  methods := #[]
  instanceTypes := #[]
  staticTypes := #[]
  resolved := Array.replicate 12 none
  statics := none }

def pool6 : Array CpInfo := pool [(1, .class_ 2), (0, u "java/lang/constant/Constable"), (0, .class_ 4), (0, u "java/lang/Object")] 6

/-- java/lang/constant/Constable -/
def k6 : Class := { plain "java/lang/constant/Constable" (some 0) with
  accessFlags := 1537
  interfaces := #[]
  cf := some (fileOf pool6 1 #[] #[] 1537 3 #[] #[])
  fields := #[]
  methods := #[]
  instanceTypes := #[]
  staticTypes := #[]
  resolved := Array.replicate 11 none
  statics := none }

def pool7 : Array CpInfo := pool [(1, .class_ 2), (0, u "java/lang/constant/ConstantDesc"), (0, .class_ 4), (0, u "java/lang/Object")] 32

/-- java/lang/constant/ConstantDesc -/
def k7 : Class := { plain "java/lang/constant/ConstantDesc" (some 0) with
  accessFlags := 1537
  interfaces := #[]
  cf := some (fileOf pool7 1 #[] #[] 1537 3 #[] #[])
  fields := #[]
  methods := #[]
  instanceTypes := #[]
  staticTypes := #[]
  resolved := Array.replicate 37 none
  statics := none }

def pool8 : Array CpInfo := pool [(1, .class_ 2), (0, u "java/lang/Long"), (15, .class_ 20), (1, u "java/lang/Integer"), (79, u "numberOfLeadingZeros"), (0, u "(J)I"), (133, .class_ 237), (1, u "java/lang/Long$LongCache"), (33, .class_ 272), (0, u "java/lang/Number"), (2, u "value"), (0, u "J"), (31, .methodref 18 309), (0, .nameAndType 100 310), (0, u "(I)I"), (50, u "TYPE"), (0, u "Ljava/lang/Class;"), (0, .class_ 364), (0, u "java/lang/Comparable"), (0, .class_ 366), (0, u "java/lang/constant/Constable"), (0, .class_ 368), (0, u "java/lang/constant/ConstantDesc"), (0, u "MIN_VALUE"), (1, u "MAX_VALUE"), (4, u "SIZE"), (0, u "I"), (1, u "BYTES"), (1, u "serialVersionUID")] 142

def k8c0 : Code := { maxStack := 3, maxLocals := 3, code := jdk_35_method_48_code, exceptionTable := #[], attributes := #[] }
def k8m0 : Method := { name := "numberOfLeadingZeros", desc := "(J)I", sig := { parameters := [.long], returnType := some .int }, accessFlags := 9, code := some k8c0 }
/-- java/lang/Long -/
def k8 : Class := { plain "java/lang/Long" (some 4) with
  accessFlags := 49
  interfaces := #[5, 6, 7]
  cf := some (fileOf pool8 1 #[.nestMembers #[235]] #[{ accessFlags := 9, nameIndex := 100, descriptorIndex := 101, attributes := #[] }] 49 271 #[363, 365, 367] #[{ accessFlags := 25, nameIndex := 369, descriptorIndex := 276, attributes := #[] }, { accessFlags := 25, nameIndex := 371, descriptorIndex := 276, attributes := #[] }, { accessFlags := 25, nameIndex := 361, descriptorIndex := 362, attributes := #[] }, { accessFlags := 18, nameIndex := 275, descriptorIndex := 276, attributes := #[] }, { accessFlags := 25, nameIndex := 376, descriptorIndex := 377, attributes := #[] }, { accessFlags := 25, nameIndex := 379, descriptorIndex := 377, attributes := #[] }, { accessFlags := 26, nameIndex := 381, descriptorIndex := 276, attributes := #[] }])
  fields := #[{ name := "MIN_VALUE", type := .long, accessFlags := 25, slot := 0, constantValue := 0 }, { name := "MAX_VALUE", type := .long, accessFlags := 25, slot := 1, constantValue := 0 }, { name := "TYPE", type := (.object "java/lang/Class"), accessFlags := 25, slot := 2, constantValue := 0 }, { name := "value", type := .long, accessFlags := 18, slot := 0, constantValue := 0 }, { name := "SIZE", type := .int, accessFlags := 25, slot := 3, constantValue := 0 }, { name := "BYTES", type := .int, accessFlags := 25, slot := 4, constantValue := 0 }, { name := "serialVersionUID", type := .long, accessFlags := 26, slot := 5, constantValue := 0 }]
  methods := #[k8m0]
  instanceTypes := #[.long]
  staticTypes := #[.long, .long, (.object "java/lang/Class"), .int, .int, .long]
  resolved := Array.replicate 524 none
  statics := none }

def pool9 : Array CpInfo := pool [(1, .class_ 2), (0, u "java/lang/Integer"), (16, u "digits"), (0, u "[C"), (32, u "numberOfLeadingZeros"), (0, u "(I)I"), (30, u "DigitOnes"), (0, u "[B"), (2, u "DigitTens"), (99, .class_ 190), (0, u "java/lang/Integer$IntegerCache"), (3, u "I"), (8, .class_ 204), (0, u "java/lang/Number"), (2, u "value"), (56, .integer 65536), (37, u "TYPE"), (0, u "Ljava/lang/Class;"), (0, .class_ 305), (0, u "java/lang/Comparable"), (0, .class_ 307), (0, u "java/lang/constant/Constable"), (0, .class_ 309), (0, u "java/lang/constant/ConstantDesc"), (0, u "MIN_VALUE"), (1, u "MAX_VALUE"), (3, u "SIZE"), (1, u "BYTES"), (1, u "serialVersionUID"), (0, u "J")] 131

def k9c0 : Code := { maxStack := 3, maxLocals := 2, code := jdk_33_method_47_code, exceptionTable := #[], attributes := #[] }
def k9m0 : Method := { name := "numberOfLeadingZeros", desc := "(I)I", sig := { parameters := [.int], returnType := some .int }, accessFlags := 9, code := some k9c0 }
/-- java/lang/Integer -/
def k9 : Class := { plain "java/lang/Integer" (some 4) with
  accessFlags := 49
  interfaces := #[5, 6, 7]
  cf := some (fileOf pool9 1 #[.nestMembers #[189]] #[{ accessFlags := 9, nameIndex := 53, descriptorIndex := 54, attributes := #[] }] 49 203 #[304, 306, 308] #[{ accessFlags := 25, nameIndex := 310, descriptorIndex := 194, attributes := #[] }, { accessFlags := 25, nameIndex := 312, descriptorIndex := 194, attributes := #[] }, { accessFlags := 25, nameIndex := 302, descriptorIndex := 303, attributes := #[] }, { accessFlags := 24, nameIndex := 19, descriptorIndex := 20, attributes := #[] }, { accessFlags := 24, nameIndex := 89, descriptorIndex := 86, attributes := #[] }, { accessFlags := 24, nameIndex := 85, descriptorIndex := 86, attributes := #[] }, { accessFlags := 18, nameIndex := 207, descriptorIndex := 194, attributes := #[] }, { accessFlags := 25, nameIndex := 316, descriptorIndex := 194, attributes := #[] }, { accessFlags := 25, nameIndex := 318, descriptorIndex := 194, attributes := #[] }, { accessFlags := 26, nameIndex := 320, descriptorIndex := 321, attributes := #[] }])
  fields := #[{ name := "MIN_VALUE", type := .int, accessFlags := 25, slot := 0, constantValue := 0 }, { name := "MAX_VALUE", type := .int, accessFlags := 25, slot := 1, constantValue := 0 }, { name := "TYPE", type := (.object "java/lang/Class"), accessFlags := 25, slot := 2, constantValue := 0 }, { name := "digits", type := (.array .char), accessFlags := 24, slot := 3, constantValue := 0 }, { name := "DigitTens", type := (.array .byte), accessFlags := 24, slot := 4, constantValue := 0 }, { name := "DigitOnes", type := (.array .byte), accessFlags := 24, slot := 5, constantValue := 0 }, { name := "value", type := .int, accessFlags := 18, slot := 0, constantValue := 0 }, { name := "SIZE", type := .int, accessFlags := 25, slot := 6, constantValue := 0 }, { name := "BYTES", type := .int, accessFlags := 25, slot := 7, constantValue := 0 }, { name := "serialVersionUID", type := .long, accessFlags := 26, slot := 8, constantValue := 0 }]
  methods := #[k9m0]
  instanceTypes := #[.int]
  staticTypes := #[.int, .int, (.object "java/lang/Class"), (.array .char), (.array .byte), (.array .byte), .int, .int, .long]
  resolved := Array.replicate 453 none
  statics := none }

def pool10 : Array CpInfo := pool [(1, .class_ 2), (0, u "java/lang/Math"), (1, .class_ 6), (1, u "java/lang/Object"), (0, u "<init>"), (0, u "()V"), (1, .class_ 12), (1, u "java/lang/StrictMath"), (1, u "(D)D"), (38, .methodref 10 54), (0, .nameAndType 55 14), (0, u "ceil"), (23, .methodref 80 81), (0, .class_ 82), (0, .nameAndType 83 84), (0, u "java/lang/Double"), (0, u "doubleToRawLongBits"), (0, u "(D)J"), (2, .long 9218868437227405312), (10, .class_ 100), (1, u "java/lang/Math$RandomNumberGeneratorHolder"), (20, u "(JJ)J"), (50, u "negativeZeroFloatBits"), (0, u "J"), (2, u "negativeZeroDoubleBits"), (21, u "max"), (2, u "min"), (43, u "$assertionsDisabled"), (0, u "Z"), (33, u "getExponent"), (0, u "(D)I"), (40, .long 1023), (12, u "(II)I"), (2, u "twoToTheDoubleScaleDown"), (0, u "D"), (4, u "twoToTheDoubleScaleUp"), (9, u "E"), (3, u "PI"), (2, u "TAU"), (2, u "DEGREES_TO_RADIANS"), (0, u "RADIANS_TO_DEGREES")] 94

def k10m0 : Method := { name := "<init>", desc := "()V", sig := { parameters := [], returnType := none }, accessFlags := 2, code := none }
def k10c1 : Code := { maxStack := 2, maxLocals := 2, code := jdk_29_method_16_code, exceptionTable := #[], attributes := #[] }
def k10m1 : Method := { name := "ceil", desc := "(D)D", sig := { parameters := [.double], returnType := some .double }, accessFlags := 9, code := some k10c1 }
def k10c2 : Code := { maxStack := 2, maxLocals := 2, code := jdk_29_method_65_code, exceptionTable := #[], attributes := #[] }
def k10m2 : Method := { name := "max", desc := "(II)I", sig := { parameters := [.int, .int], returnType := some .int }, accessFlags := 9, code := some k10c2 }
def k10c3 : Code := { maxStack := 4, maxLocals := 4, code := jdk_29_method_66_code, exceptionTable := #[], attributes := #[] }
def k10m3 : Method := { name := "max", desc := "(JJ)J", sig := { parameters := [.long, .long], returnType := some .long }, accessFlags := 9, code := some k10c3 }
def k10c4 : Code := { maxStack := 4, maxLocals := 4, code := jdk_29_method_70_code, exceptionTable := #[], attributes := #[] }
def k10m4 : Method := { name := "min", desc := "(JJ)J", sig := { parameters := [.long, .long], returnType := some .long }, accessFlags := 9, code := some k10c4 }
def k10c5 : Code := { maxStack := 4, maxLocals := 2, code := jdk_29_method_92_code, exceptionTable := #[], attributes := #[] }
def k10m5 : Method := { name := "getExponent", desc := "(D)I", sig := { parameters := [.double], returnType := some .int }, accessFlags := 9, code := some k10c5 }
/-- java/lang/Math -/
def k10 : Class := { plain "java/lang/Math" (some 0) with
  accessFlags := 49
  interfaces := #[]
  cf := some (fileOf pool10 1 #[.nestMembers #[98]] #[{ accessFlags := 2, nameIndex := 7, descriptorIndex := 8, attributes := #[] }, { accessFlags := 9, nameIndex := 55, descriptorIndex := 14, attributes := #[] }, { accessFlags := 9, nameIndex := 198, descriptorIndex := 335, attributes := #[] }, { accessFlags := 9, nameIndex := 198, descriptorIndex := 121, attributes := #[] }, { accessFlags := 9, nameIndex := 201, descriptorIndex := 121, attributes := #[] }, { accessFlags := 9, nameIndex := 280, descriptorIndex := 281, attributes := #[] }] 49 4 #[] #[{ accessFlags := 25, nameIndex := 354, descriptorIndex := 339, attributes := #[] }, { accessFlags := 25, nameIndex := 358, descriptorIndex := 339, attributes := #[] }, { accessFlags := 25, nameIndex := 361, descriptorIndex := 339, attributes := #[] }, { accessFlags := 26, nameIndex := 364, descriptorIndex := 339, attributes := #[] }, { accessFlags := 26, nameIndex := 365, descriptorIndex := 339, attributes := #[] }, { accessFlags := 26, nameIndex := 172, descriptorIndex := 173, attributes := #[] }, { accessFlags := 26, nameIndex := 176, descriptorIndex := 173, attributes := #[] }, { accessFlags := 8, nameIndex := 344, descriptorIndex := 339, attributes := #[] }, { accessFlags := 8, nameIndex := 338, descriptorIndex := 339, attributes := #[] }, { accessFlags := 4120, nameIndex := 245, descriptorIndex := 246, attributes := #[] }])
  fields := #[{ name := "E", type := .double, accessFlags := 25, slot := 0, constantValue := 0 }, { name := "PI", type := .double, accessFlags := 25, slot := 1, constantValue := 0 }, { name := "TAU", type := .double, accessFlags := 25, slot := 2, constantValue := 0 }, { name := "DEGREES_TO_RADIANS", type := .double, accessFlags := 26, slot := 3, constantValue := 0 }, { name := "RADIANS_TO_DEGREES", type := .double, accessFlags := 26, slot := 4, constantValue := 0 }, { name := "negativeZeroFloatBits", type := .long, accessFlags := 26, slot := 5, constantValue := 0 }, { name := "negativeZeroDoubleBits", type := .long, accessFlags := 26, slot := 6, constantValue := 0 }, { name := "twoToTheDoubleScaleUp", type := .double, accessFlags := 8, slot := 7, constantValue := 0 }, { name := "twoToTheDoubleScaleDown", type := .double, accessFlags := 8, slot := 8, constantValue := 0 }, { name := "$assertionsDisabled", type := .boolean, accessFlags := 4120, slot := 9, constantValue := 0 }]
  methods := #[k10m0, k10m1, k10m2, k10m3, k10m4, k10m5]
  instanceTypes := #[]
  staticTypes := #[.double, .double, .double, .double, .double, .long, .long, .double, .double, .boolean]
  resolved := Array.replicate 460 none
  statics := none }

def pool11 : Array CpInfo := pool [(2, .class_ 4), (1, u "java/lang/Enum"), (0, u "name"), (0, u "Ljava/lang/String;"), (2, u "ordinal"), (0, u "I"), (1, .class_ 14), (1, u "java/lang/Object"), (4, u "hash"), (86, .class_ 108), (1, u "java/lang/Enum$EnumDesc"), (2, .class_ 112), (0, u "java/lang/constant/Constable"), (0, .class_ 114), (0, u "java/lang/Comparable"), (0, .class_ 116), (0, u "java/io/Serializable")] 87

/-- java/lang/Enum -/
def k11 : Class := { plain "java/lang/Enum" (some 0) with
  accessFlags := 1057
  interfaces := #[6, 5, 3]
  cf := some (fileOf pool11 2 #[.nestMembers #[106]] #[] 1057 12 #[111, 113, 115] #[{ accessFlags := 18, nameIndex := 5, descriptorIndex := 6, attributes := #[] }, { accessFlags := 18, nameIndex := 9, descriptorIndex := 10, attributes := #[] }, { accessFlags := 2, nameIndex := 19, descriptorIndex := 10, attributes := #[] }])
  fields := #[{ name := "name", type := (.object "java/lang/String"), accessFlags := 18, slot := 0, constantValue := 0 }, { name := "ordinal", type := .int, accessFlags := 18, slot := 1, constantValue := 0 }, { name := "hash", type := .int, accessFlags := 2, slot := 2, constantValue := 0 }]
  methods := #[]
  instanceTypes := #[(.object "java/lang/String"), .int, .int]
  staticTypes := #[]
  resolved := Array.replicate 204 none
  statics := none }

def pool12 : Array CpInfo := pool [(1, .class_ 2), (0, u "java/util/concurrent/TimeUnit"), (2, u "NANOSECONDS"), (0, u "Ljava/util/concurrent/TimeUnit;"), (2, u "MICROSECONDS"), (2, u "MILLISECONDS"), (2, u "SECONDS"), (2, u "MINUTES"), (2, u "HOURS"), (2, u "DAYS"), (2, u "$VALUES"), (0, u "[Ljava/util/concurrent/TimeUnit;"), (6, .class_ 37), (1, u "java/lang/Enum"), (6, .fieldref 1 45), (0, .nameAndType 46 47), (0, u "scale"), (0, u "J"), (6, u "maxNanos"), (0, .long 1000), (1, .fieldref 1 58), (0, .nameAndType 59 47), (0, u "microRatio"), (2, u "maxMicros"), (4, u "milliRatio"), (0, u "I"), (2, u "maxMillis"), (4, u "secRatio"), (2, u "maxSecs"), (9, u "(J)J"), (2, u "toMicros"), (70, .class_ 165), (1, u "java/util/concurrent/TimeUnit$1"), (46, u "NANO_SCALE"), (3, u "MICRO_SCALE"), (0, u "MILLI_SCALE"), (0, u "SECOND_SCALE"), (0, u "MINUTE_SCALE"), (0, u "HOUR_SCALE"), (0, u "DAY_SCALE")] 61

def k12c0 : Code := { maxStack := 6, maxLocals := 7, code := jdk_2799_method_8_code, exceptionTable := #[], attributes := #[] }
def k12m0 : Method := { name := "toMicros", desc := "(J)J", sig := { parameters := [.long], returnType := some .long }, accessFlags := 1, code := some k12c0 }
/-- java/util/concurrent/TimeUnit -/
def k12 : Class := { plain "java/util/concurrent/TimeUnit" (some 11) with
  accessFlags := 16433
  interfaces := #[]
  cf := some (fileOf pool12 1 #[.nestMembers #[163]] #[{ accessFlags := 1, nameIndex := 92, descriptorIndex := 89, attributes := #[] }] 16433 35 #[] #[{ accessFlags := 16409, nameIndex := 5, descriptorIndex := 6, attributes := #[] }, { accessFlags := 16409, nameIndex := 9, descriptorIndex := 6, attributes := #[] }, { accessFlags := 16409, nameIndex := 12, descriptorIndex := 6, attributes := #[] }, { accessFlags := 16409, nameIndex := 15, descriptorIndex := 6, attributes := #[] }, { accessFlags := 16409, nameIndex := 18, descriptorIndex := 6, attributes := #[] }, { accessFlags := 16409, nameIndex := 21, descriptorIndex := 6, attributes := #[] }, { accessFlags := 16409, nameIndex := 24, descriptorIndex := 6, attributes := #[] }, { accessFlags := 26, nameIndex := 212, descriptorIndex := 47, attributes := #[] }, { accessFlags := 26, nameIndex := 216, descriptorIndex := 47, attributes := #[] }, { accessFlags := 26, nameIndex := 217, descriptorIndex := 47, attributes := #[] }, { accessFlags := 26, nameIndex := 218, descriptorIndex := 47, attributes := #[] }, { accessFlags := 26, nameIndex := 219, descriptorIndex := 47, attributes := #[] }, { accessFlags := 26, nameIndex := 220, descriptorIndex := 47, attributes := #[] }, { accessFlags := 26, nameIndex := 221, descriptorIndex := 47, attributes := #[] }, { accessFlags := 18, nameIndex := 46, descriptorIndex := 47, attributes := #[] }, { accessFlags := 18, nameIndex := 54, descriptorIndex := 47, attributes := #[] }, { accessFlags := 18, nameIndex := 62, descriptorIndex := 47, attributes := #[] }, { accessFlags := 18, nameIndex := 71, descriptorIndex := 47, attributes := #[] }, { accessFlags := 18, nameIndex := 79, descriptorIndex := 47, attributes := #[] }, { accessFlags := 18, nameIndex := 59, descriptorIndex := 47, attributes := #[] }, { accessFlags := 18, nameIndex := 67, descriptorIndex := 68, attributes := #[] }, { accessFlags := 18, nameIndex := 76, descriptorIndex := 68, attributes := #[] }, { accessFlags := 4122, nameIndex := 27, descriptorIndex := 28, attributes := #[] }])
  fields := #[{ name := "NANOSECONDS", type := (.object "java/util/concurrent/TimeUnit"), accessFlags := 16409, slot := 0, constantValue := 0 }, { name := "MICROSECONDS", type := (.object "java/util/concurrent/TimeUnit"), accessFlags := 16409, slot := 1, constantValue := 0 }, { name := "MILLISECONDS", type := (.object "java/util/concurrent/TimeUnit"), accessFlags := 16409, slot := 2, constantValue := 0 }, { name := "SECONDS", type := (.object "java/util/concurrent/TimeUnit"), accessFlags := 16409, slot := 3, constantValue := 0 }, { name := "MINUTES", type := (.object "java/util/concurrent/TimeUnit"), accessFlags := 16409, slot := 4, constantValue := 0 }, { name := "HOURS", type := (.object "java/util/concurrent/TimeUnit"), accessFlags := 16409, slot := 5, constantValue := 0 }, { name := "DAYS", type := (.object "java/util/concurrent/TimeUnit"), accessFlags := 16409, slot := 6, constantValue := 0 }, { name := "NANO_SCALE", type := .long, accessFlags := 26, slot := 7, constantValue := 0 }, { name := "MICRO_SCALE", type := .long, accessFlags := 26, slot := 8, constantValue := 0 }, { name := "MILLI_SCALE", type := .long, accessFlags := 26, slot := 9, constantValue := 0 }, { name := "SECOND_SCALE", type := .long, accessFlags := 26, slot := 10, constantValue := 0 }, { name := "MINUTE_SCALE", type := .long, accessFlags := 26, slot := 11, constantValue := 0 }, { name := "HOUR_SCALE", type := .long, accessFlags := 26, slot := 12, constantValue := 0 }, { name := "DAY_SCALE", type := .long, accessFlags := 26, slot := 13, constantValue := 0 }, { name := "scale", type := .long, accessFlags := 18, slot := 3, constantValue := 0 }, { name := "maxNanos", type := .long, accessFlags := 18, slot := 4, constantValue := 0 }, { name := "maxMicros", type := .long, accessFlags := 18, slot := 5, constantValue := 0 }, { name := "maxMillis", type := .long, accessFlags := 18, slot := 6, constantValue := 0 }, { name := "maxSecs", type := .long, accessFlags := 18, slot := 7, constantValue := 0 }, { name := "microRatio", type := .long, accessFlags := 18, slot := 8, constantValue := 0 }, { name := "milliRatio", type := .int, accessFlags := 18, slot := 9, constantValue := 0 }, { name := "secRatio", type := .int, accessFlags := 18, slot := 10, constantValue := 0 }, { name := "$VALUES", type := (.array (.object "java/util/concurrent/TimeUnit")), accessFlags := 4122, slot := 14, constantValue := 0 }]
  methods := #[k12m0]
  instanceTypes := #[(.object "java/lang/String"), .int, .int, .long, .long, .long, .long, .long, .long, .int, .int]
  staticTypes := #[(.object "java/util/concurrent/TimeUnit"), (.object "java/util/concurrent/TimeUnit"), (.object "java/util/concurrent/TimeUnit"), (.object "java/util/concurrent/TimeUnit"), (.object "java/util/concurrent/TimeUnit"), (.object "java/util/concurrent/TimeUnit"), (.object "java/util/concurrent/TimeUnit"), .long, .long, .long, .long, .long, .long, .long, (.array (.object "java/util/concurrent/TimeUnit"))]
  resolved := Array.replicate 283 none
  statics := some 1 }

def pool13 : Array CpInfo := pool [(1, .class_ 2), (0, u "java/lang/StrictMath"), (1, .class_ 6), (1, u "java/lang/Object"), (0, u "<init>"), (0, u "()V"), (5, u "(D)D"), (16, .class_ 33), (1, u "java/lang/Math"), (24, .double 9223372036854775808), (1, .methodref 1 61), (0, .nameAndType 62 63), (0, u "floorOrCeil"), (0, u "(DDDD)D"), (2, .methodref 31 67), (0, .nameAndType 68 69), (0, u "getExponent"), (0, u "(D)I"), (0, .fieldref 1 71), (0, .nameAndType 72 73), (0, u "$assertionsDisabled"), (0, u "Z"), (3, .methodref 78 79), (0, .class_ 80), (0, .nameAndType 81 82), (0, u "java/lang/Double"), (0, u "doubleToRawLongBits"), (0, u "(D)J"), (2, .long 4503599627370495), (28, .class_ 116), (1, u "java/lang/StrictMath$RandomNumberGeneratorHolder"), (222, u "E"), (0, u "D"), (3, u "PI"), (2, u "TAU"), (26, u "ceil")] 61

def k13m0 : Method := { name := "<init>", desc := "()V", sig := { parameters := [], returnType := none }, accessFlags := 2, code := none }
def k13c1 : Code := { maxStack := 8, maxLocals := 2, code := jdk_128_method_16_code, exceptionTable := #[], attributes := #[] }
def k13m1 : Method := { name := "ceil", desc := "(D)D", sig := { parameters := [.double], returnType := some .double }, accessFlags := 9, code := some k13c1 }
def k13c2 : Code := { maxStack := 6, maxLocals := 15, code := jdk_128_method_18_code, exceptionTable := #[], attributes := #[] }
def k13m2 : Method := { name := "floorOrCeil", desc := "(DDDD)D", sig := { parameters := [.double, .double, .double, .double], returnType := some .double }, accessFlags := 10, code := some k13c2 }
/-- java/lang/StrictMath -/
def k13 : Class := { plain "java/lang/StrictMath" (some 0) with
  accessFlags := 49
  interfaces := #[]
  cf := some (fileOf pool13 1 #[.nestMembers #[114]] #[{ accessFlags := 2, nameIndex := 7, descriptorIndex := 8, attributes := #[] }, { accessFlags := 9, nameIndex := 374, descriptorIndex := 14, attributes := #[] }, { accessFlags := 10, nameIndex := 62, descriptorIndex := 63, attributes := #[] }] 49 4 #[] #[{ accessFlags := 25, nameIndex := 339, descriptorIndex := 340, attributes := #[] }, { accessFlags := 25, nameIndex := 344, descriptorIndex := 340, attributes := #[] }, { accessFlags := 25, nameIndex := 347, descriptorIndex := 340, attributes := #[] }, { accessFlags := 4120, nameIndex := 72, descriptorIndex := 73, attributes := #[] }])
  fields := #[{ name := "E", type := .double, accessFlags := 25, slot := 0, constantValue := 0 }, { name := "PI", type := .double, accessFlags := 25, slot := 1, constantValue := 0 }, { name := "TAU", type := .double, accessFlags := 25, slot := 2, constantValue := 0 }, { name := "$assertionsDisabled", type := .boolean, accessFlags := 4120, slot := 3, constantValue := 0 }]
  methods := #[k13m0, k13m1, k13m2]
  instanceTypes := #[]
  staticTypes := #[.double, .double, .double, .boolean]
  resolved := Array.replicate 436 none
  statics := some 2 }

def pool14 : Array CpInfo := pool [(1, .class_ 2), (0, u "java/lang/Double"), (46, u "(D)J"), (64, .class_ 116), (1, u "java/lang/Number"), (3, u "value"), (0, u "D"), (14, u "doubleToRawLongBits"), (36, u "TYPE"), (0, u "Ljava/lang/Class;"), (0, .class_ 176), (0, u "java/lang/Comparable"), (0, .class_ 178), (0, u "java/lang/constant/Constable"), (0, .class_ 180), (0, u "java/lang/constant/ConstantDesc"), (0, u "POSITIVE_INFINITY"), (3, u "NEGATIVE_INFINITY"), (2, u "NaN"), (2, u "MAX_VALUE"), (0, u "MIN_NORMAL"), (0, u "MIN_VALUE"), (2, u "SIZE"), (0, u "I"), (1, u "PRECISION"), (1, u "MAX_EXPONENT"), (1, u "MIN_EXPONENT"), (1, u "BYTES"), (3, u "serialVersionUID"), (0, u "J")] 79

def k14m0 : Method := { name := "doubleToRawLongBits", desc := "(D)J", sig := { parameters := [.double], returnType := some .long }, accessFlags := 265, code := none }
/-- java/lang/Double -/
def k14 : Class := { plain "java/lang/Double" (some 4) with
  accessFlags := 49
  interfaces := #[5, 6, 7]
  cf := some (fileOf pool14 1 #[] #[{ accessFlags := 265, nameIndex := 136, descriptorIndex := 49, attributes := #[] }] 49 114 #[175, 177, 179] #[{ accessFlags := 25, nameIndex := 181, descriptorIndex := 121, attributes := #[] }, { accessFlags := 25, nameIndex := 185, descriptorIndex := 121, attributes := #[] }, { accessFlags := 25, nameIndex := 188, descriptorIndex := 121, attributes := #[] }, { accessFlags := 25, nameIndex := 191, descriptorIndex := 121, attributes := #[] }, { accessFlags := 25, nameIndex := 192, descriptorIndex := 121, attributes := #[] }, { accessFlags := 25, nameIndex := 193, descriptorIndex := 121, attributes := #[] }, { accessFlags := 25, nameIndex := 196, descriptorIndex := 197, attributes := #[] }, { accessFlags := 25, nameIndex := 199, descriptorIndex := 197, attributes := #[] }, { accessFlags := 25, nameIndex := 201, descriptorIndex := 197, attributes := #[] }, { accessFlags := 25, nameIndex := 203, descriptorIndex := 197, attributes := #[] }, { accessFlags := 25, nameIndex := 205, descriptorIndex := 197, attributes := #[] }, { accessFlags := 25, nameIndex := 173, descriptorIndex := 174, attributes := #[] }, { accessFlags := 18, nameIndex := 120, descriptorIndex := 121, attributes := #[] }, { accessFlags := 26, nameIndex := 209, descriptorIndex := 210, attributes := #[] }])
  fields := #[{ name := "POSITIVE_INFINITY", type := .double, accessFlags := 25, slot := 0, constantValue := 0 }, { name := "NEGATIVE_INFINITY", type := .double, accessFlags := 25, slot := 1, constantValue := 0 }, { name := "NaN", type := .double, accessFlags := 25, slot := 2, constantValue := 0 }, { name := "MAX_VALUE", type := .double, accessFlags := 25, slot := 3, constantValue := 0 }, { name := "MIN_NORMAL", type := .double, accessFlags := 25, slot := 4, constantValue := 0 }, { name := "MIN_VALUE", type := .double, accessFlags := 25, slot := 5, constantValue := 0 }, { name := "SIZE", type := .int, accessFlags := 25, slot := 6, constantValue := 0 }, { name := "PRECISION", type := .int, accessFlags := 25, slot := 7, constantValue := 0 }, { name := "MAX_EXPONENT", type := .int, accessFlags := 25, slot := 8, constantValue := 0 }, { name := "MIN_EXPONENT", type := .int, accessFlags := 25, slot := 9, constantValue := 0 }, { name := "BYTES", type := .int, accessFlags := 25, slot := 10, constantValue := 0 }, { name := "TYPE", type := (.object "java/lang/Class"), accessFlags := 25, slot := 11, constantValue := 0 }, { name := "value", type := .double, accessFlags := 18, slot := 0, constantValue := 0 }, { name := "serialVersionUID", type := .long, accessFlags := 26, slot := 12, constantValue := 0 }]
  methods := #[k14m0]
  instanceTypes := #[.double]
  staticTypes := #[.double, .double, .double, .double, .double, .double, .int, .int, .int, .int, .int, (.object "java/lang/Class"), .long]
  resolved := Array.replicate 290 none
  statics := none }

def pool15 : Array CpInfo := pool [(2, .class_ 4), (1, u "java/lang/CharSequence"), (42, .class_ 48), (0, u "java/lang/CharSequence$1CodePointIterator"), (10, .class_ 60), (0, u "java/lang/CharSequence$1CharIterator"), (5, .class_ 67), (0, u "java/lang/Object")] 63

/-- java/lang/CharSequence -/
def k15 : Class := { plain "java/lang/CharSequence" (some 0) with
  accessFlags := 1537
  interfaces := #[]
  cf := some (fileOf pool15 2 #[.nestMembers #[47, 59]] #[] 1537 66 #[] #[])
  fields := #[]
  methods := #[]
  instanceTypes := #[]
  staticTypes := #[]
  resolved := Array.replicate 131 none
  statics := none }

def pool16 : Array CpInfo := pool [(2, .class_ 4), (1, u "java/lang/Object"), (0, u "<init>"), (0, u "()V"), (3, .class_ 12), (1, u "java/lang/String"), (0, u "value"), (0, u "[B"), (2, u "coder"), (0, u "B"), (2, u "hash"), (0, u "I"), (2, u "hashIsZero"), (0, u "Z"), (13, u "COMPACT_STRINGS"), (534, .class_ 576), (0, u "java/lang/CharSequence"), (22, u "CASE_INSENSITIVE_ORDER"), (0, u "Ljava/util/Comparator;"), (500, u "serialPersistentFields"), (0, u "[Ljava/io/ObjectStreamField;"), (0, .class_ 1104), (0, u "java/lang/String$CaseInsensitiveComparator"), (1, .class_ 1107), (0, u "java/io/Serializable"), (0, .class_ 1109), (0, u "java/lang/Comparable"), (0, .class_ 1111), (0, u "java/lang/constant/Constable"), (0, .class_ 1113), (0, u "java/lang/constant/ConstantDesc"), (2, u "serialVersionUID"), (0, u "J"), (3, u "REPL"), (0, u "C"), (2, u "LATIN1"), (1, u "UTF16")] 323

def k16m0 : Method := { name := "<init>", desc := "()V", sig := { parameters := [], returnType := none }, accessFlags := 1, code := none }
/-- java/lang/String -/
def k16 : Class := { plain "java/lang/String" (some 0) with
  accessFlags := 49
  interfaces := #[3, 5, 15, 6, 7]
  cf := some (fileOf pool16 10 #[.nestMembers #[1103]] #[{ accessFlags := 1, nameIndex := 5, descriptorIndex := 6, attributes := #[] }] 49 2 #[1106, 1108, 575, 1110, 1112] #[{ accessFlags := 18, nameIndex := 13, descriptorIndex := 14, attributes := #[] }, { accessFlags := 18, nameIndex := 17, descriptorIndex := 18, attributes := #[] }, { accessFlags := 2, nameIndex := 21, descriptorIndex := 22, attributes := #[] }, { accessFlags := 2, nameIndex := 25, descriptorIndex := 26, attributes := #[] }, { accessFlags := 26, nameIndex := 1116, descriptorIndex := 1117, attributes := #[] }, { accessFlags := 24, nameIndex := 40, descriptorIndex := 26, attributes := #[] }, { accessFlags := 26, nameIndex := 1101, descriptorIndex := 1102, attributes := #[] }, { accessFlags := 26, nameIndex := 1121, descriptorIndex := 1122, attributes := #[] }, { accessFlags := 25, nameIndex := 599, descriptorIndex := 600, attributes := #[] }, { accessFlags := 24, nameIndex := 1125, descriptorIndex := 18, attributes := #[] }, { accessFlags := 24, nameIndex := 1127, descriptorIndex := 18, attributes := #[] }])
  fields := #[{ name := "value", type := (.array .byte), accessFlags := 18, slot := 0, constantValue := 0 }, { name := "coder", type := .byte, accessFlags := 18, slot := 1, constantValue := 0 }, { name := "hash", type := .int, accessFlags := 2, slot := 2, constantValue := 0 }, { name := "hashIsZero", type := .boolean, accessFlags := 2, slot := 3, constantValue := 0 }, { name := "serialVersionUID", type := .long, accessFlags := 26, slot := 0, constantValue := 0 }, { name := "COMPACT_STRINGS", type := .boolean, accessFlags := 24, slot := 1, constantValue := 0 }, { name := "serialPersistentFields", type := (.array (.object "java/io/ObjectStreamField")), accessFlags := 26, slot := 2, constantValue := 0 }, { name := "REPL", type := .char, accessFlags := 26, slot := 3, constantValue := 0 }, { name := "CASE_INSENSITIVE_ORDER", type := (.object "java/util/Comparator"), accessFlags := 25, slot := 4, constantValue := 0 }, { name := "LATIN1", type := .byte, accessFlags := 24, slot := 5, constantValue := 0 }, { name := "UTF16", type := .byte, accessFlags := 24, slot := 6, constantValue := 0 }]
  methods := #[k16m0]
  instanceTypes := #[(.array .byte), .byte, .int, .boolean]
  staticTypes := #[.long, .boolean, (.array (.object "java/io/ObjectStreamField")), .char, (.object "java/util/Comparator"), .byte, .byte]
  resolved := Array.replicate 1451 none
  statics := none }

def pool17 : Array CpInfo := pool [(1, u "java/lang/Cloneable"), (0, .class_ 1), (0, u "java/lang/Object"), (0, .class_ 3)] 3

/-- java/lang/Cloneable -/
def k17 : Class := { plain "java/lang/Cloneable" (some 0) with
  accessFlags := 1537
  interfaces := #[]
  cf := some (fileOf pool17 2 #[] #[] 1537 4 #[] #[])
  fields := #[]
  methods := #[]
  instanceTypes := #[]
  staticTypes := #[]
  resolved := Array.replicate 8 none
  statics := none }

/-- the primitive byte -/
def k18 : Class := { plain "byte" none with kind := .primitive 'B', accessFlags := 0x411 }
/-- [B -/
def k19 : Class := { plain "[B" (some 0) with kind := .array 18 .byte, interfaces := #[17, 3], accessFlags := 1041 }

/-- the primitive int -/
def k20 : Class := { plain "int" none with kind := .primitive 'I', accessFlags := 0x411 }
/-- [I -/
def k21 : Class := { plain "[I" (some 0) with kind := .array 20 .int, interfaces := #[17, 3], accessFlags := 1041 }

/-- the primitive long -/
def k22 : Class := { plain "long" none with kind := .primitive 'J', accessFlags := 0x411 }
/-- [J -/
def k23 : Class := { plain "[J" (some 0) with kind := .array 22 .long, interfaces := #[17, 3], accessFlags := 1041 }

def heap : Heap := #[{ cls := 2, slots := #[.int 0, .int 10, .long 1024, .int 0, .long 0], vm := .statics 2 },
  { cls := 12, slots := #[.ref 4, .null, .null, .null, .null, .null, .null, .long 0, .long 0, .long 0, .long 0, .long 0, .long 0, .long 0, .null], vm := .statics 12 },
  { cls := 13, slots := #[.double 0, .double 0, .double 0, .int 1], vm := .statics 13 },
  { cls := 16, slots := #[.null, .int 0, .int 0, .int 0], vm := .none },
  { cls := 12, slots := #[.ref 3, .int 0, .int 0, .long 1, .long 9223372036854775807, .long 9223372036854775, .long 9223372036854, .long 9223372036, .long 1000, .int 1000000, .int 1000000000], vm := .none }]
def classes : Array Class := #[k0, k1, k2, k3, k4, k5, k6, k7, k8, k9, k10, k11, k12, k13, k14, k15, k16, k17, k18, k19, k20, k21, k22, k23]
def interned : List (Array UInt16 × Addr) := []
def slotsUsed : Nat := 39
def theMethod : MethodId := ⟨1, 1⟩
def args0 : Array Value := #[.long 5, .long 7, .int 3]
def aboutOver (below : List Frame) : State where
  vm := { classes := classes, interned := interned.toArray }
  heap := heap
  slotsUsed := slotsUsed
  threads := #[{ frames := .invoking theMethod args0 :: below }]
def below0 : List Frame := [.native { method := ⟨0, 0⟩, args := #[] }]
def about1 : State := aboutOver below0
def p0 : Program := .bare "" "" ""
def e0 : Env := launch0.env 0 0 0
theorem w_frames : about1.frames = Frame.invoking theMethod args0 :: below0 := rfl
set_option maxRecDepth 65536 in
theorem w_args : argsFit about1.vm theMethod args0 = true := by decide +kernel
set_option maxRecDepth 65536 in
theorem w_heap : heapFits about1 = true := by decide +kernel
set_option maxRecDepth 65536 in
theorem w_runnable : about1.curStatus? = some .runnable := by decide +kernel
set_option maxRecDepth 65536 in
theorem w_alone : about1.alone = true := by decide +kernel
set_option maxRecDepth 65536 in
theorem w_named : about1.methodNamed? x = some theMethod := by decide +kernel
set_option maxRecDepth 65536 in
theorem w_hears : about1.hears theMethod below0 = true := by decide +kernel
set_option maxRecDepth 65536 in
theorem w_ripe : about1.ripe theMethod args0 below0 = true := by decide +kernel
theorem w_running : about1.status = .running := rfl
set_option maxRecDepth 65536 in
theorem w_room : about1.hasRoom e0.platform room_1 = true :=
  launch0.hasRoom_least _ room_1 (by decide +kernel) (by decide +kernel) (by decide +kernel) (by decide +kernel) (by decide +kernel) (by decide +kernel)
theorem allAtoms_all (ts : List Jvm.Cond) (a : Array Jvm.Value) (st : Jvm.State) : (allAtoms ts).before a st = ts.all (fun c => c.before a st) := by
  induction ts with
  | nil => rfl
  | cons c t ih =>
    show (Jvm.Cond.and c (allAtoms t)).before a st = _
    rw [Jvm.Cond.before_and, ih, List.all_cons]
def words1 : List Jvm.Cond := Jvm.Cond.code x code maxLocals ret :: tables_1
/-- a 'code' word, met by the world's own term for the bytes: nothing is compared byte by byte -/
theorem code_word {y : MethodName} {bytes : ByteArray} {mx : Nat} {rt : Option FieldType} {a : Array Value} {s : State} {m : MethodId} {meth : Method} {c : Code} (h1 : s.methodNamed? y = some m) (h2 : s.vm.method? m = some meth) (h3 : meth.code = some c) (h4 : c.code = bytes)
    (h5 : (c.maxLocals == mx && c.exceptionTable.isEmpty && decide (c.maxStack ≤ mostOperands) && decide (meth.sig.returnType = rt) && !meth.locks && decide (parseMethodDescriptor y.desc = some meth.sig)) = true) : (Jvm.Cond.code y bytes mx rt).before a s = true := by
  simp only [Bool.and_eq_true, beq_iff_eq, Bool.not_eq_true', decide_eq_true_eq] at h5
  obtain ⟨⟨⟨⟨⟨g1, g2⟩, g3⟩, g4⟩, g5⟩, g6⟩ := h5
  simp [Cond.before, Cond.holds, Cond.value, h1, h2, h3, h4, g1, g2, g3, g4, g5, g6]
def isCode : Jvm.Cond → Bool
  | .code _ _ _ _ => true
  | _ => false
theorem all_split {L : List Jvm.Cond} {P : Jvm.Cond → Bool} (h1 : L.all (fun c => isCode c || P c) = true) (h2 : ∀ c ∈ L.filter isCode, P c = true) : L.all P = true := by
  refine List.all_eq_true.mpr fun c hc => ?_
  have h := List.all_eq_true.mp h1 c hc
  rcases Bool.eq_false_or_eq_true (isCode c) with hi | hi
  · exact h2 c (List.mem_filter.mpr ⟨hc, hi⟩)
  · simpa [hi] using h
set_option maxRecDepth 65536 in
theorem w_c0 : (Jvm.Cond.code x code maxLocals ret).before args0 about1 = true := code_word (m := ⟨1, 1⟩) (meth := k1m1) (c := k1c1) (by decide +kernel) rfl rfl rfl (by decide +kernel)
set_option maxRecDepth 65536 in
theorem w_c1 : (Jvm.Cond.code ({ cls := "com/example/holdfast/holdfast/bench/LatencyHistogram", name := "<init>", desc := "()V" } : Jvm.MethodName) prog_14_method_1_code (1 : Nat) (Option.none : Option Jvm.ClassFile.FieldType)).before args0 about1 = true := code_word (m := ⟨2, 0⟩) (meth := k2m0) (c := k2c0) (by decide +kernel) rfl rfl rfl (by decide +kernel)
set_option maxRecDepth 65536 in
theorem w_c2 : (Jvm.Cond.code ({ cls := "java/lang/Object", name := "<init>", desc := "()V" } : Jvm.MethodName) object_method_1_code (1 : Nat) (Option.none : Option Jvm.ClassFile.FieldType)).before args0 about1 = true := code_word (m := ⟨0, 0⟩) (meth := k0m0) (c := k0c0) (by decide +kernel) rfl rfl rfl (by decide +kernel)
set_option maxRecDepth 65536 in
theorem w_c3 : (Jvm.Cond.code ({ cls := "com/example/holdfast/holdfast/bench/LatencyHistogram", name := "bucket", desc := "(J)I" } : Jvm.MethodName) prog_14_method_5_code (3 : Nat) (Option.some Jvm.ClassFile.FieldType.int)).before args0 about1 = true := code_word (m := ⟨2, 4⟩) (meth := k2m4) (c := k2c4) (by decide +kernel) rfl rfl rfl (by decide +kernel)
set_option maxRecDepth 65536 in
theorem w_c4 : (Jvm.Cond.code ({ cls := "com/example/holdfast/holdfast/bench/LatencyHistogram", name := "shift", desc := "(J)I" } : Jvm.MethodName) prog_14_method_7_code (3 : Nat) (Option.some Jvm.ClassFile.FieldType.int)).before args0 about1 = true := code_word (m := ⟨2, 6⟩) (meth := k2m6) (c := k2c6) (by decide +kernel) rfl rfl rfl (by decide +kernel)
set_option maxRecDepth 65536 in
theorem w_c5 : (Jvm.Cond.code ({ cls := "java/lang/Long", name := "numberOfLeadingZeros", desc := "(J)I" } : Jvm.MethodName) jdk_35_method_48_code (3 : Nat) (Option.some Jvm.ClassFile.FieldType.int)).before args0 about1 = true := code_word (m := ⟨8, 0⟩) (meth := k8m0) (c := k8c0) (by decide +kernel) rfl rfl rfl (by decide +kernel)
set_option maxRecDepth 65536 in
theorem w_c6 : (Jvm.Cond.code ({ cls := "java/lang/Integer", name := "numberOfLeadingZeros", desc := "(I)I" } : Jvm.MethodName) jdk_33_method_47_code (2 : Nat) (Option.some Jvm.ClassFile.FieldType.int)).before args0 about1 = true := code_word (m := ⟨9, 0⟩) (meth := k9m0) (c := k9c0) (by decide +kernel) rfl rfl rfl (by decide +kernel)
set_option maxRecDepth 65536 in
theorem w_c7 : (Jvm.Cond.code ({ cls := "java/lang/Math", name := "max", desc := "(II)I" } : Jvm.MethodName) jdk_29_method_65_code (2 : Nat) (Option.some Jvm.ClassFile.FieldType.int)).before args0 about1 = true := code_word (m := ⟨10, 2⟩) (meth := k10m2) (c := k10c2) (by decide +kernel) rfl rfl rfl (by decide +kernel)
set_option maxRecDepth 65536 in
theorem w_c8 : (Jvm.Cond.code ({ cls := "com/example/holdfast/holdfast/bench/LatencyHistogram", name := "percentile", desc := "(D)J" } : Jvm.MethodName) prog_14_method_4_code (8 : Nat) (Option.some Jvm.ClassFile.FieldType.long)).before args0 about1 = true := code_word (m := ⟨2, 3⟩) (meth := k2m3) (c := k2c3) (by decide +kernel) rfl rfl rfl (by decide +kernel)
set_option maxRecDepth 65536 in
theorem w_c9 : (Jvm.Cond.code ({ cls := "com/example/holdfast/holdfast/bench/LatencyHistogram", name := "add", desc := "(Lcom/example/holdfast/holdfast/bench/LatencyHistogram;)V" } : Jvm.MethodName) prog_14_method_3_code (3 : Nat) (Option.none : Option Jvm.ClassFile.FieldType)).before args0 about1 = true := code_word (m := ⟨2, 2⟩) (meth := k2m2) (c := k2c2) (by decide +kernel) rfl rfl rfl (by decide +kernel)
set_option maxRecDepth 65536 in
theorem w_c10 : (Jvm.Cond.code ({ cls := "com/example/holdfast/holdfast/bench/LatencyHistogram", name := "record", desc := "(J)V" } : Jvm.MethodName) prog_14_method_2_code (5 : Nat) (Option.none : Option Jvm.ClassFile.FieldType)).before args0 about1 = true := code_word (m := ⟨2, 1⟩) (meth := k2m1) (c := k2c1) (by decide +kernel) rfl rfl rfl (by decide +kernel)
set_option maxRecDepth 65536 in
theorem w_c11 : (Jvm.Cond.code ({ cls := "java/util/concurrent/TimeUnit", name := "toMicros", desc := "(J)J" } : Jvm.MethodName) jdk_2799_method_8_code (7 : Nat) (Option.some Jvm.ClassFile.FieldType.long)).before args0 about1 = true := code_word (m := ⟨12, 0⟩) (meth := k12m0) (c := k12c0) (by decide +kernel) rfl rfl rfl (by decide +kernel)
set_option maxRecDepth 65536 in
theorem w_c12 : (Jvm.Cond.code ({ cls := "java/lang/Math", name := "max", desc := "(JJ)J" } : Jvm.MethodName) jdk_29_method_66_code (4 : Nat) (Option.some Jvm.ClassFile.FieldType.long)).before args0 about1 = true := code_word (m := ⟨10, 3⟩) (meth := k10m3) (c := k10c3) (by decide +kernel) rfl rfl rfl (by decide +kernel)
set_option maxRecDepth 65536 in
theorem w_c13 : (Jvm.Cond.code ({ cls := "java/lang/Math", name := "min", desc := "(JJ)J" } : Jvm.MethodName) jdk_29_method_70_code (4 : Nat) (Option.some Jvm.ClassFile.FieldType.long)).before args0 about1 = true := code_word (m := ⟨10, 4⟩) (meth := k10m4) (c := k10c4) (by decide +kernel) rfl rfl rfl (by decide +kernel)
set_option maxRecDepth 65536 in
theorem w_c14 : (Jvm.Cond.code ({ cls := "java/lang/Math", name := "ceil", desc := "(D)D" } : Jvm.MethodName) jdk_29_method_16_code (2 : Nat) (Option.some Jvm.ClassFile.FieldType.double)).before args0 about1 = true := code_word (m := ⟨10, 1⟩) (meth := k10m1) (c := k10c1) (by decide +kernel) rfl rfl rfl (by decide +kernel)
set_option maxRecDepth 65536 in
theorem w_c15 : (Jvm.Cond.code ({ cls := "java/lang/StrictMath", name := "ceil", desc := "(D)D" } : Jvm.MethodName) jdk_128_method_16_code (2 : Nat) (Option.some Jvm.ClassFile.FieldType.double)).before args0 about1 = true := code_word (m := ⟨13, 1⟩) (meth := k13m1) (c := k13c1) (by decide +kernel) rfl rfl rfl (by decide +kernel)
set_option maxRecDepth 65536 in
theorem w_c16 : (Jvm.Cond.code ({ cls := "java/lang/StrictMath", name := "floorOrCeil", desc := "(DDDD)D" } : Jvm.MethodName) jdk_128_method_18_code (15 : Nat) (Option.some Jvm.ClassFile.FieldType.double)).before args0 about1 = true := code_word (m := ⟨13, 2⟩) (meth := k13m2) (c := k13c2) (by decide +kernel) rfl rfl rfl (by decide +kernel)
set_option maxRecDepth 65536 in
theorem w_c17 : (Jvm.Cond.code ({ cls := "java/lang/Math", name := "getExponent", desc := "(D)I" } : Jvm.MethodName) jdk_29_method_92_code (2 : Nat) (Option.some Jvm.ClassFile.FieldType.int)).before args0 about1 = true := code_word (m := ⟨10, 5⟩) (meth := k10m5) (c := k10c5) (by decide +kernel) rfl rfl rfl (by decide +kernel)
set_option maxRecDepth 65536 in
theorem w_c18 : (Jvm.Cond.code ({ cls := "com/example/holdfast/holdfast/bench/LatencyHistogram", name := "lowest", desc := "(I)J" } : Jvm.MethodName) prog_14_method_6_code (2 : Nat) (Option.some Jvm.ClassFile.FieldType.long)).before args0 about1 = true := code_word (m := ⟨2, 5⟩) (meth := k2m5) (c := k2c5) (by decide +kernel) rfl rfl rfl (by decide +kernel)
def codes1 : List Jvm.Cond := [Jvm.Cond.code x code maxLocals ret, Jvm.Cond.code ({ cls := "com/example/holdfast/holdfast/bench/LatencyHistogram", name := "<init>", desc := "()V" } : Jvm.MethodName) prog_14_method_1_code (1 : Nat) (Option.none : Option Jvm.ClassFile.FieldType), Jvm.Cond.code ({ cls := "java/lang/Object", name := "<init>", desc := "()V" } : Jvm.MethodName) object_method_1_code (1 : Nat) (Option.none : Option Jvm.ClassFile.FieldType), Jvm.Cond.code ({ cls := "com/example/holdfast/holdfast/bench/LatencyHistogram", name := "bucket", desc := "(J)I" } : Jvm.MethodName) prog_14_method_5_code (3 : Nat) (Option.some Jvm.ClassFile.FieldType.int), Jvm.Cond.code ({ cls := "com/example/holdfast/holdfast/bench/LatencyHistogram", name := "shift", desc := "(J)I" } : Jvm.MethodName) prog_14_method_7_code (3 : Nat) (Option.some Jvm.ClassFile.FieldType.int), Jvm.Cond.code ({ cls := "java/lang/Long", name := "numberOfLeadingZeros", desc := "(J)I" } : Jvm.MethodName) jdk_35_method_48_code (3 : Nat) (Option.some Jvm.ClassFile.FieldType.int), Jvm.Cond.code ({ cls := "java/lang/Integer", name := "numberOfLeadingZeros", desc := "(I)I" } : Jvm.MethodName) jdk_33_method_47_code (2 : Nat) (Option.some Jvm.ClassFile.FieldType.int), Jvm.Cond.code ({ cls := "java/lang/Math", name := "max", desc := "(II)I" } : Jvm.MethodName) jdk_29_method_65_code (2 : Nat) (Option.some Jvm.ClassFile.FieldType.int), Jvm.Cond.code ({ cls := "com/example/holdfast/holdfast/bench/LatencyHistogram", name := "percentile", desc := "(D)J" } : Jvm.MethodName) prog_14_method_4_code (8 : Nat) (Option.some Jvm.ClassFile.FieldType.long), Jvm.Cond.code ({ cls := "com/example/holdfast/holdfast/bench/LatencyHistogram", name := "add", desc := "(Lcom/example/holdfast/holdfast/bench/LatencyHistogram;)V" } : Jvm.MethodName) prog_14_method_3_code (3 : Nat) (Option.none : Option Jvm.ClassFile.FieldType), Jvm.Cond.code ({ cls := "com/example/holdfast/holdfast/bench/LatencyHistogram", name := "record", desc := "(J)V" } : Jvm.MethodName) prog_14_method_2_code (5 : Nat) (Option.none : Option Jvm.ClassFile.FieldType), Jvm.Cond.code ({ cls := "java/util/concurrent/TimeUnit", name := "toMicros", desc := "(J)J" } : Jvm.MethodName) jdk_2799_method_8_code (7 : Nat) (Option.some Jvm.ClassFile.FieldType.long), Jvm.Cond.code ({ cls := "java/lang/Math", name := "max", desc := "(JJ)J" } : Jvm.MethodName) jdk_29_method_66_code (4 : Nat) (Option.some Jvm.ClassFile.FieldType.long), Jvm.Cond.code ({ cls := "java/lang/Math", name := "min", desc := "(JJ)J" } : Jvm.MethodName) jdk_29_method_70_code (4 : Nat) (Option.some Jvm.ClassFile.FieldType.long), Jvm.Cond.code ({ cls := "java/lang/Math", name := "ceil", desc := "(D)D" } : Jvm.MethodName) jdk_29_method_16_code (2 : Nat) (Option.some Jvm.ClassFile.FieldType.double), Jvm.Cond.code ({ cls := "java/lang/StrictMath", name := "ceil", desc := "(D)D" } : Jvm.MethodName) jdk_128_method_16_code (2 : Nat) (Option.some Jvm.ClassFile.FieldType.double), Jvm.Cond.code ({ cls := "java/lang/StrictMath", name := "floorOrCeil", desc := "(DDDD)D" } : Jvm.MethodName) jdk_128_method_18_code (15 : Nat) (Option.some Jvm.ClassFile.FieldType.double), Jvm.Cond.code ({ cls := "java/lang/Math", name := "getExponent", desc := "(D)I" } : Jvm.MethodName) jdk_29_method_92_code (2 : Nat) (Option.some Jvm.ClassFile.FieldType.int), Jvm.Cond.code ({ cls := "com/example/holdfast/holdfast/bench/LatencyHistogram", name := "lowest", desc := "(I)J" } : Jvm.MethodName) prog_14_method_6_code (2 : Nat) (Option.some Jvm.ClassFile.FieldType.long)]
set_option maxRecDepth 65536 in
theorem codes_eq : words1.filter isCode = codes1 := rfl
theorem w_codes : ∀ c ∈ words1.filter isCode, c.before args0 about1 = true := by
  rw [codes_eq]
  intro c hc
  simp only [codes1, List.mem_cons, List.not_mem_nil, or_false] at hc
  rcases hc with rfl | rfl | rfl | rfl | rfl | rfl | rfl | rfl | rfl | rfl | rfl | rfl | rfl | rfl | rfl | rfl | rfl | rfl | rfl
  · exact w_c0
  · exact w_c1
  · exact w_c2
  · exact w_c3
  · exact w_c4
  · exact w_c5
  · exact w_c6
  · exact w_c7
  · exact w_c8
  · exact w_c9
  · exact w_c10
  · exact w_c11
  · exact w_c12
  · exact w_c13
  · exact w_c14
  · exact w_c15
  · exact w_c16
  · exact w_c17
  · exact w_c18
set_option maxRecDepth 65536 in
theorem w_t1 : (words1.take 24).all (fun c => isCode c || c.before args0 about1) = true := by decide +kernel
set_option maxRecDepth 65536 in
theorem w_t2 : ((words1.drop 24).take 24).all (fun c => isCode c || c.before args0 about1) = true := by decide +kernel
set_option maxRecDepth 65536 in
theorem w_t3 : (((words1.drop 24).drop 24).take 24).all (fun c => isCode c || c.before args0 about1) = true := by decide +kernel
set_option maxRecDepth 65536 in
theorem w_t4 : ((((words1.drop 24).drop 24).drop 24).take 24).all (fun c => isCode c || c.before args0 about1) = true := by decide +kernel
set_option maxRecDepth 65536 in
theorem w_t5 : ((((words1.drop 24).drop 24).drop 24).drop 24).all (fun c => isCode c || c.before args0 about1) = true := by decide +kernel
theorem w_tables : (allAtoms (Jvm.Cond.code x code maxLocals ret :: tables_1)).before args0 about1 = true := by
  rw [allAtoms_all]
  show words1.all (fun c => c.before args0 about1) = true
  refine all_split ?_ w_codes
  rw [← List.take_append_drop 24 words1, List.all_append, w_t1, ← List.take_append_drop 24 (words1.drop 24), List.all_append, w_t2, ← List.take_append_drop 24 ((words1.drop 24).drop 24), List.all_append, w_t3, ← List.take_append_drop 24 (((words1.drop 24).drop 24).drop 24), List.all_append, w_t4, w_t5]
  rfl
set_option maxRecDepth 65536 in
theorem w_rest : rest_1_c.before args0 about1 = true := by decide +kernel
set_option maxRecDepth 65536 in
theorem w_case : (Jvm.Cond.and given_1 narrow_1).before args0 about1 = true := by decide +kernel
theorem w_applies : (headSpec (Jvm.Cond.code x code maxLocals ret :: tables_1) room_1).applies x e0.platform about1 = true :=
  (Spec.applies_iff w_frames).mpr ⟨w_running, w_runnable, w_alone, w_named, w_hears, w_ripe, w_room, w_tables⟩
theorem atStart : AtStart classFile x code maxLocals ret World_1 tables_1 room_1 Calls_1 rest_1 Pre_1 launch0 p0 e0 about1 theMethod args0 below0 :=
  ⟨lists_1, trivial, launch0.admits_env _ _ _, launch0.least_env, fairChoices_fair.cas, fairChoices_fair.clock, w_frames, w_args, w_heap, w_applies, trivial, w_rest, w_case⟩
end start1
theorem witness_1 : WitnessClaimed_1 := ⟨start1.p0, start1.e0, start1.about1, start1.theMethod, start1.args0, start1.below0, start1.atStart⟩
end Jvm.Pilot.@@N@@
