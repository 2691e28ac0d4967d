import JvmDerived
import JvmDerived.Pilot.@@N@@Statement
import JvmDerived.Pilot.@@N@@Code
set_option linter.unusedVariables false
set_option linter.unusedSimpArgs false
set_option maxRecDepth 65536
namespace Jvm.Pilot.@@N@@
open Jvm Jvm.ClassFile Sem Op Lib Jvm.Free Jvm.Stand Jvm.LawKit Jvm.RoadKit Bundle Jvm.Pilot.@@N@@.Jvm.D
section Own
variable {p : Program} {l : Launch} {e : Env} {R : Room} {s : State} {m : MethodId} {args : Array Value} {below : List Frame} {meth : Method} {c : Code} {T : State} {locs : List Loc} {cells slots : Nat} {Z : State} {a0 : Array Value} {h : Heap}
variable {Q : Option Value → Heap → List Loc → Prop} {F : Outcome → State → Prop} {C N : Nat} {A B : State}
/-- how a body ends: it returns v, Q holds of what it returned, of the heap and of the places written; nothing else is written (EndW: String constants may have been interned) -/
def EndN (s : State) (Q : Option Value → Heap → List Loc → Prop) (C N : Nat) (o : Outcome) (t : State) : Prop := ∃ v L, o = .returned v ∧ Q v t.heap L ∧ FrameEnd s o t L C N
/-- what a body owes from a point of its walk: it comes to its end, and F holds there -/
def Owes (p : Program) (e : Env) (below : List Frame) (F : Outcome → State → Prop) (A : State) : Prop :=
  ∃ s₂ o, Steps p.tables e below A s₂ ∧ s₂.status = .running ∧ Ended s₂ below o ∧ F o s₂
theorem Owes.go (k : Owes p e below F B) (f : ∀ t, Steps p.tables e below B t → Steps p.tables e below A t) : Owes p e below F A := by
  obtain ⟨s₂, o, h1, r⟩ := k
  exact ⟨s₂, o, f _ h1, r⟩
theorem Owes.tr (k : Owes p e below F B) (st : Steps p.tables e below A B) : Owes p e below F A := by
  obtain ⟨s₂, o, h1, r⟩ := k
  exact ⟨s₂, o, st.trans h1, r⟩
theorem Owes.mono {Q' : Option Value → Heap → List Loc → Prop} (k : Owes p e below (EndN s Q C N) A) (f : ∀ v h L, Q v h L → Q' v h L) : Owes p e below (EndN s Q' C N) A := by
  obtain ⟨s₂, o, h1, h2, h3, v, L, h4, h5, h6⟩ := k
  exact ⟨s₂, o, h1, h2, h3, v, L, h4, f _ _ _ h5, h6⟩
/-- a body's contract at given arguments and a given heap -/
def OMet (l : Launch) (y : MethodName) (bytes : ByteArray) (maxL : Nat) (ret : Option FieldType) (ws : List Jvm.Cond) (rm : Room) (as' : Array Value) (Z : State) (h0 : Heap) (Q : Option Value → Heap → List Loc → Prop) : Prop :=
  MetFree l y (head1 (Jvm.Cond.code y bytes maxL ret :: ws) rm) (fun a U => a = as' ∧ Z.Warmed39 U.vm ∧ U.heap = h0) (fun _ _ _ _ _ => True) (fun _ U o U' => ∃ v L, o = .returned v ∧ Q v U'.heap L ∧ FrameEnd U o U' L rm.cells rm.slots)
theorem OMet.of {y : MethodName} {bytes : ByteArray} {maxL : Nat} {ret : Option FieldType} {ws : List Jvm.Cond} {rm : Room} {as' : Array Value} {h0 : Heap} (hpl : plainFor y = true) {Ls : Array Slot} (ef : ∀ m, entryFrame m as' maxL = mkF m 0 Ls [])
    (body : ∀ (p : Program) (e : Env) (s : State) (m : MethodId) (below : List Frame) (meth : Method) (c : Code) (s₁ : State), p.tables.exec = Jvm.exec → c.code = bytes → c.maxLocals = maxL → s.vm.findClass y.cls = some m.cls → meth.name = y.name → meth.sig.returnType = ret → meth.locks = false → Z.Warmed39 s.vm →
      Stand p l e rm s m as' below meth c s₁ [] 0 0 → s₁.heap = h0 → Owes p e below (EndN s Q rm.cells rm.slots) (s₁.setTop (mkF m 0 Ls []))) : OMet l y bytes maxL ret ws rm as' Z h0 Q := by
  refine MetFree.of_bodySF hpl hisR ?_
  intro p e s m args below meth c s₁ Bd hml0 hP hK
  obtain ⟨rfl, hZ, hh⟩ := hP
  have hlk : meth.locks = false := BodyLoose.notSynchronized Bd
  have X0 : Stand p l e rm s m args below meth c s₁ [] 0 0 := Stand.of_body Bd
  have e0 : s₁.heap = h0 := by rw [← hh, Bd.state]; rfl
  obtain ⟨s₂, o, h1, h2, h3, h4⟩ := body p e s m below meth c s₁ Bd.exec Bd.bytes hml0 (findClass_of_methodNamed Bd.named) (name_of_methodNamed Bd.named Bd.method).1 Bd.returns hlk hZ X0 e0
  exact ⟨s₂, o, castTop (ef m) h1, h2, h3, h4⟩
theorem OMet.mono {y : MethodName} {bytes : ByteArray} {maxL : Nat} {ret : Option FieldType} {ws : List Jvm.Cond} {rm : Room} {as' : Array Value} {h0 : Heap} {Q' : Option Value → Heap → List Loc → Prop} (M : OMet l y bytes maxL ret ws rm as' Z h0 Q) (f : ∀ v h L, Q v h L → Q' v h L) : OMet l y bytes maxL ret ws rm as' Z h0 Q' := by
  intro p e ha hc hk s m args below hf happ hP hK
  obtain ⟨n, o, h1, h2, h3, v, L, h4, h5, h6⟩ := M p e ha hc hk s m args below hf happ hP hK
  exact ⟨n, o, h1, h2, h3, v, L, h4, f _ _ _ h5, h6⟩
theorem own_end (X : Stand p l e R s m args below meth c T locs cells slots) (hlk : meth.locks = false) {v : Option Value} (hv : meth.sig.returnType = none → v = none) (hc : cells ≤ C) (hs : slots ≤ N) (hq : Q v T.heap locs) {A : State}
    (hst : ∀ fs : List Frame, (∀ (f : JFrame) (acts : List Action), f.method = m → f.locked = none → f.entered = [] → (doReturn e (T.setTop f) acts v).1 = T.setFrames fs) → Steps p.tables e below A (T.setFrames fs)) : Owes p e below (EndN s Q C N) A := by
  obtain ⟨fs, hr, hrun, hended, hW, hsame⟩ := X.leave hv hlk
  exact ⟨_, _, hst fs hr, hrun, hended, v, locs, rfl, hq, ⟨_, rfl⟩, hW, hsame.mono hc hs⟩
theorem Owes.retN (X : Stand p l e R s m args below meth c T locs cells slots) (hx : p.tables.exec = Jvm.exec) (hlk : meth.locks = false) {pc : Nat} {Ls : Array Slot} {z : Int32} {t : FieldType} {rest : List Value} (hret : meth.sig.returnType = some t) (ht : t = .boolean ∨ t = .byte ∨ t = .char ∨ t = .short)
    (hd : decode c.code pc = .ok (.ireturn, 1)) (hc : cells ≤ C) (hs : slots ≤ N) (hq : Q (some (.int (nar t z))) T.heap locs) : Owes p e below (EndN s Q C N) (T.setTop (mkF m pc Ls (.int z :: rest))) :=
  own_end X hlk (fun h => by rw [hret] at h; cases h) hc hs hq fun fs hr => Jvm.RoadKit.retN X hx hret ht hd hr
theorem Owes.retI (X : Stand p l e R s m args below meth c T locs cells slots) (hx : p.tables.exec = Jvm.exec) (hlk : meth.locks = false) {pc : Nat} {Ls : Array Slot} {z : Int32} {rest : List Value} (hret : meth.sig.returnType = some .int)
    (hd : decode c.code pc = .ok (.ireturn, 1)) (hc : cells ≤ C) (hs : slots ≤ N) (hq : Q (some (.int z)) T.heap locs) : Owes p e below (EndN s Q C N) (T.setTop (mkF m pc Ls (.int z :: rest))) :=
  own_end X hlk (fun h => by rw [hret] at h; cases h) hc hs hq fun fs hr => Jvm.RoadKit.retOut X hx hret rfl (Or.inl ⟨rfl, Or.inl rfl, _, rfl⟩) hd hr
theorem Owes.retJ (X : Stand p l e R s m args below meth c T locs cells slots) (hx : p.tables.exec = Jvm.exec) (hlk : meth.locks = false) {pc : Nat} {Ls : Array Slot} {z : Int64} {rest : List Value} (hret : meth.sig.returnType = some .long)
    (hd : decode c.code pc = .ok (.lreturn, 1)) (hc : cells ≤ C) (hs : slots ≤ N) (hq : Q (some (.long z)) T.heap locs) : Owes p e below (EndN s Q C N) (T.setTop (mkF m pc Ls (.long z :: rest))) :=
  own_end X hlk (fun h => by rw [hret] at h; cases h) hc hs hq fun fs hr => Jvm.RoadKit.retOut X hx hret rfl (Or.inr (Or.inl ⟨rfl, rfl, _, rfl⟩)) hd hr
theorem Owes.retA (X : Stand p l e R s m args below meth c T locs cells slots) (hx : p.tables.exec = Jvm.exec) (hlk : meth.locks = false) {pc : Nat} {Ls : Array Slot} {w : Value} {t : FieldType} {rest : List Value} (hret : meth.sig.returnType = some t) (ht : t.isReference = true) (hn : narrow t w = w) (hw : w.isRef = true)
    (hd : decode c.code pc = .ok (.areturn, 1)) (hc : cells ≤ C) (hs : slots ≤ N) (hq : Q (some w) T.heap locs) : Owes p e below (EndN s Q C N) (T.setTop (mkF m pc Ls (w :: rest))) :=
  own_end X hlk (fun h => by rw [hret] at h; cases h) hc hs hq fun fs hr => Jvm.RoadKit.retOut X hx hret hn (Or.inr (Or.inr (Or.inr (Or.inr ⟨rfl, ht, hw⟩)))) hd hr
theorem Owes.retV (X : Stand p l e R s m args below meth c T locs cells slots) (hx : p.tables.exec = Jvm.exec) (hlk : meth.locks = false) {pc : Nat} {Ls : Array Slot} (hret : meth.sig.returnType = none)
    (hd : decode c.code pc = .ok (.return_, 1)) (hc : cells ≤ C) (hs : slots ≤ N) (hq : Q none T.heap locs) : Owes p e below (EndN s Q C N) (T.setTop (mkF m pc Ls [])) :=
  own_end X hlk (fun _ => rfl) hc hs hq fun fs hr => X.returnOut hx hret hd hr
/-- a static method by its contract -/
theorem Owes.callS (X : Stand p l e R s m args below meth c T locs cells slots) (hx : p.tables.exec = Jvm.exec) (hZ : Z.Warmed39 s.vm) {own : String} {index : Nat} {y : MethodName} {bytes : ByteArray} {maxL : Nat} {ret : Option FieldType} {rm : Room}
    (hown : s.vm.findClass own = some m.cls) (w1 : (Cond.methodLink own index y).before a0 Z = true) (w2 : (Cond.static y).before a0 Z = true) (w3 : (Cond.initialized y.cls).before a0 Z = true) (w4 : (Cond.code y bytes maxL ret).before a0 Z = true)
    (hy : y.cls ≠ "java/lang/invoke/MethodHandle" ∧ y.cls ≠ "java/lang/invoke/VarHandle") {pc : Nat} {Ls : Array Slot} {argsL rest : List Value} {Q' : Option Value → Heap → List Loc → Prop} (M : OMet l y bytes maxL ret [] rm argsL.toArray Z h Q') (eT : T.heap = h) (hsize : Ls.size = c.maxLocals)
    {ps : List FieldType} {rt : Option FieldType} (hpd : parseMethodDescriptor y.desc = some ⟨ps, rt⟩) (hln : argsL.length = ps.length) {st : List Value} (hst : st = argsL.reverse ++ rest) (hd : decode c.code pc = .ok (.invokestatic index, 3))
    (hf : rm.frames + 1 ≤ R.frames) (hl : (rest.map fun v => v.category).sum + (maxL + 11) + rm.locals ≤ R.locals) (hcl : cells + rm.cells ≤ R.cells) (hsl : slots + rm.slots ≤ R.slots)
    (k : ∀ (T' : State) (v : Option Value) (L : List Loc), Stand p l e R s m args below meth c T' (locs ++ L) (cells + rm.cells) (slots + rm.slots) → Q' v T'.heap L → Owes p e below F (T'.setTop (mkF m (pc + 3) Ls (v.toList ++ rest)))) :
    Owes p e below F (T.setTop (mkF m pc Ls st)) := by
  subst hst
  obtain ⟨v, _, ⟨T3, L3, k3, n3⟩, -, X3, ⟨Lc3, hQ3, l3, y3, z3⟩, st3⟩ := Jvm.LawKit.callS X hx (y := y) hown (mvT hZ w1) (mvT hZ w2) (mvT hZ w3) (mvT hZ w4) hy (backOf (W := (rest.map fun v => v.category).sum) M hZ w4 w3 hf hl) (g := mkF m pc Ls (argsL.reverse ++ rest)) rfl hsize (argsL := argsL) (rest := rest) (lenOf hpd hln) rfl (by show 2 * 0 + _ ≤ _; omega) hd (fun _ _ => ⟨rfl, eT, hcl, hsl⟩)
  dsimp only [Pt.U, Pt.locs, Pt.cells, Pt.slots] at X3 l3 y3 z3 st3 hQ3
  subst l3 y3 z3
  exact (k T3 v Lc3 X3 hQ3).go st3
/-- a constructor by its contract -/
theorem Owes.callC (X : Stand p l e R s m args below meth c T locs cells slots) (hx : p.tables.exec = Jvm.exec) (hZ : Z.Warmed39 s.vm) {own : String} {index : Nat} {y : MethodName} {bytes : ByteArray} {maxL : Nat} {rm : Room} (hy1 : y.name = "<init>")
    (hown : s.vm.findClass own = some m.cls) (w1 : (Cond.methodLink own index y).before a0 Z = true) (w2 : (Cond.instanceMethod y).before a0 Z = true) (w3 : (Cond.initialized y.cls).before a0 Z = true) (w4 : (Cond.code y bytes maxL none).before a0 Z = true)
    (hy : y.cls ≠ "java/lang/invoke/MethodHandle" ∧ y.cls ≠ "java/lang/invoke/VarHandle") {pc : Nat} {Ls : Array Slot} {a : Addr} {argsL rest : List Value} {Q' : Option Value → Heap → List Loc → Prop} (M : OMet l y bytes maxL none [] rm (.ref a :: argsL).toArray Z h Q') (eT : T.heap = h) (hsize : Ls.size = c.maxLocals)
    {ps : List FieldType} {rt : Option FieldType} (hpd : parseMethodDescriptor y.desc = some ⟨ps, rt⟩) (hln : argsL.length = ps.length) {st : List Value} (hst : st = argsL.reverse ++ .ref a :: rest) (hd : decode c.code pc = .ok (.invokespecial index, 3))
    (hf : rm.frames + 1 ≤ R.frames) (hl : (rest.map fun v => v.category).sum + (maxL + 11) + rm.locals ≤ R.locals) (hcl : cells + rm.cells ≤ R.cells) (hsl : slots + rm.slots ≤ R.slots)
    (k : ∀ (T' : State) (v : Option Value) (L : List Loc), Stand p l e R s m args below meth c T' (locs ++ L) (cells + rm.cells) (slots + rm.slots) → Q' v T'.heap L → Owes p e below F (T'.setTop (mkF m (pc + 3) Ls (v.toList ++ rest)))) :
    Owes p e below F (T.setTop (mkF m pc Ls st)) := by
  subst hst
  obtain ⟨v, _, ⟨T3, L3, k3, n3⟩, -, X3, ⟨Lc3, hQ3, l3, y3, z3⟩, st3⟩ := X.specialBack hx (y := y) hy1 hown (mvT hZ w1) (mvT hZ w2) (mvT hZ w4) hy (backOf (W := (rest.map fun v => v.category).sum) M hZ w4 w3 hf hl) (g := mkF m pc Ls (argsL.reverse ++ .ref a :: rest)) rfl hsize (Steps.refl _) (a := a) (argsL := argsL) (rest := rest) (lenOf hpd hln) rfl (by show 2 * 0 + _ ≤ _; omega) hd (fun _ _ => ⟨rfl, eT, hcl, hsl⟩)
  dsimp only [Pt.U, Pt.locs, Pt.cells, Pt.slots] at X3 l3 y3 z3 st3 hQ3
  subst l3 y3 z3
  exact (k T3 v Lc3 X3 hQ3).tr st3
/-- an instance method by the contract of the body that the receiver's class selects -/
theorem Owes.callV (X : Stand p l e R s m args below meth c T locs cells slots) (hx : p.tables.exec = Jvm.exec) (hZ : Z.Warmed39 s.vm) {own CR : String} {index : Nat} {y z : MethodName} {bytes : ByteArray} {maxL : Nat} {ret : Option FieldType} {rm : Room}
    (hown : s.vm.findClass own = some m.cls) (w1 : (Cond.methodLink own index y).before a0 Z = true) (w2 : (Cond.declares y).before a0 Z = true) (hnf : NotFace s y) (w5 : (Cond.selects CR y z).before a0 Z = true) (w6 : (Cond.instanceMethod z).before a0 Z = true) (w3 : (Cond.initialized z.cls).before a0 Z = true) (w4 : (Cond.code z bytes maxL ret).before a0 Z = true)
    (hy : y.cls ≠ "java/lang/invoke/MethodHandle" ∧ y.cls ≠ "java/lang/invoke/VarHandle") {pc : Nat} {Ls : Array Slot} {a : Addr} {argsL rest : List Value} {Q' : Option Value → Heap → List Loc → Prop} (M : OMet l z bytes maxL ret [] rm (.ref a :: argsL).toArray Z h Q') (eT : T.heap = h) (E : Exa Z h a CR) (hsize : Ls.size = c.maxLocals)
    {ps : List FieldType} {rt : Option FieldType} (hpd : parseMethodDescriptor y.desc = some ⟨ps, rt⟩) (hln : argsL.length = ps.length) {st : List Value} (hst : st = argsL.reverse ++ .ref a :: rest) (hd : decode c.code pc = .ok (.invokevirtual index, 3))
    (hf : rm.frames + 1 ≤ R.frames) (hl : (rest.map fun v => v.category).sum + (maxL + 11) + rm.locals ≤ R.locals) (hcl : cells + rm.cells ≤ R.cells) (hsl : slots + rm.slots ≤ R.slots)
    (k : ∀ (T' : State) (v : Option Value) (L : List Loc), Stand p l e R s m args below meth c T' (locs ++ L) (cells + rm.cells) (slots + rm.slots) → Q' v T'.heap L → Owes p e below F (T'.setTop (mkF m (pc + 3) Ls (v.toList ++ rest)))) :
    Owes p e below F (T.setTop (mkF m pc Ls st)) := by
  subst hst
  obtain ⟨cq, kq, qa, qb, qc⟩ := isOf hZ eT E
  obtain ⟨v, _, ⟨T3, L3, k3, n3⟩, -, X3, ⟨Lc3, hQ3, l3, y3, z3⟩, st3⟩ := X.virtualBack hx (y := y) (z := z) hown (mvT hZ w1) (mvT hZ w2) hnf (mvT hZ w5) (mvT hZ w6) hy (backOf (W := (rest.map fun v => v.category).sum) M hZ w4 w3 hf hl) qa qc (g := mkF m pc Ls (argsL.reverse ++ .ref a :: rest)) rfl hsize (Steps.refl _) (argsL := argsL) (rest := rest) (lenOf hpd hln) rfl (by show 2 * 0 + _ ≤ _; omega) hd (fun _ _ => ⟨rfl, eT, hcl, hsl⟩)
  dsimp only [Pt.U, Pt.locs, Pt.cells, Pt.slots] at X3 l3 y3 z3 st3 hQ3
  subst l3 y3 z3
  exact (k T3 v Lc3 X3 hQ3).tr st3
/-- a private method by its contract -/
theorem Owes.callP (X : Stand p l e R s m args below meth c T locs cells slots) (hx : p.tables.exec = Jvm.exec) (hZ : Z.Warmed39 s.vm) {own CR : String} {index : Nat} {y : MethodName} {bytes : ByteArray} {maxL : Nat} {ret : Option FieldType} {rm : Room}
    (hown : s.vm.findClass own = some m.cls) (w1 : (Cond.methodLink own index y).before a0 Z = true) (w2 : (Cond.instanceMethod y).before a0 Z = true) (w5 : (Cond.selects y.cls y y).before a0 Z = true) (w6 : (Cond.privateMethod y).before a0 Z = true) (w3 : (Cond.initialized y.cls).before a0 Z = true) (w4 : (Cond.code y bytes maxL ret).before a0 Z = true)
    (hy : y.cls ≠ "java/lang/invoke/MethodHandle" ∧ y.cls ≠ "java/lang/invoke/VarHandle") {pc : Nat} {Ls : Array Slot} {a : Addr} {argsL rest : List Value} {Q' : Option Value → Heap → List Loc → Prop} (M : OMet l y bytes maxL ret [] rm (.ref a :: argsL).toArray Z h Q') (eT : T.heap = h) (E : Exa Z h a CR) (hsize : Ls.size = c.maxLocals)
    {ps : List FieldType} {rt : Option FieldType} (hpd : parseMethodDescriptor y.desc = some ⟨ps, rt⟩) (hln : argsL.length = ps.length) {st : List Value} (hst : st = argsL.reverse ++ .ref a :: rest) (hd : decode c.code pc = .ok (.invokevirtual index, 3))
    (hf : rm.frames + 1 ≤ R.frames) (hl : (rest.map fun v => v.category).sum + (maxL + 11) + rm.locals ≤ R.locals) (hcl : cells + rm.cells ≤ R.cells) (hsl : slots + rm.slots ≤ R.slots)
    (k : ∀ (T' : State) (v : Option Value) (L : List Loc), Stand p l e R s m args below meth c T' (locs ++ L) (cells + rm.cells) (slots + rm.slots) → Q' v T'.heap L → Owes p e below F (T'.setTop (mkF m (pc + 3) Ls (v.toList ++ rest)))) :
    Owes p e below F (T.setTop (mkF m pc Ls st)) := by
  subst hst
  obtain ⟨cq, q1, q2⟩ := E.cell
  obtain ⟨v, _, ⟨T3, L3, k3, n3⟩, -, X3, ⟨Lc3, hQ3, l3, y3, z3⟩, st3⟩ := X.privateBack hx (y := y) hown (mvT hZ w1) (mvT hZ w2) (mvT hZ w5) (Cond.privateMethod_at (mvP hZ w6 (args := #[]))) (mvT hZ w4) hy (backOf (W := (rest.map fun v => v.category).sum) M hZ w4 w3 hf hl) (g := mkF m pc Ls (argsL.reverse ++ .ref a :: rest)) rfl hsize (Steps.refl _) (a := a) (by rw [eT]; exact q1) q2 (argsL := argsL) (rest := rest) (lenOf hpd hln) rfl (by show 2 * 0 + _ ≤ _; omega) hd (fun _ _ => ⟨rfl, eT, hcl, hsl⟩)
  dsimp only [Pt.U, Pt.locs, Pt.cells, Pt.slots] at X3 l3 y3 z3 st3 hQ3
  subst l3 y3 z3
  exact (k T3 v Lc3 X3 hQ3).tr st3
theorem own_st {c2 s2 : Nat} (X : Stand p l e R s m args below meth c T locs cells slots) (hc : cells = c2) (hs : slots = s2) : Stand p l e R s m args below meth c T locs c2 s2 := by subst hc hs; exact X
theorem Owes.initO (X : Stand p l e R s m args below meth c T locs cells slots) (hx : p.tables.exec = Jvm.exec) (hZ : Z.Warmed39 s.vm) {own : String} {index : Nat} (hown : s.vm.findClass own = some m.cls) (w1 : (Cond.methodLink own index Lib.objectInit).before a0 Z = true) (w2 : (Cond.instanceMethod Lib.objectInit).before a0 Z = true) (w3 : (Cond.code Lib.objectInit ⟨#[0xb1]⟩ 1 none).before a0 Z = true) (eT : T.heap = h)
    {pc : Nat} {Ls : Array Slot} {a : Addr} {rest : List Value} (hsize : Ls.size = c.maxLocals) (hd : decode c.code pc = .ok (.invokespecial index, 3)) (hf : 1 ≤ R.frames) (hl : (rest.map fun v => v.category).sum + 12 ≤ R.locals)
    (k : ∀ T' : State, Stand p l e R s m args below meth c T' locs cells slots → T'.heap = h → Owes p e below F (T'.setTop (mkF m (pc + 3) Ls rest))) : Owes p e below F (T.setTop (mkF m pc Ls (.ref a :: rest))) := by
  obtain ⟨T', X', e', st⟩ := Jvm.RoadKit.initO X hx hZ hown w1 w2 w3 eT (g := mkF m pc Ls (.ref a :: rest)) rfl hsize rfl hd hf (W := (rest.map fun v => v.category).sum) (by show 2 * 0 + _ ≤ _; omega) hl
  exact (k T' X' e').go st
theorem Owes.newO (X : Stand p l e R s m args below meth c T locs cells slots) (hx : p.tables.exec = Jvm.exec) (hZ : Z.Warmed39 s.vm) {own CC : String} {index n : Nat} (hown : s.vm.findClass own = some m.cls) (w : (Cond.classLink own index CC).before a0 Z = true) (wi : (Cond.instantiable CC n).before a0 Z = true) (wz : (Cond.initialized CC).before a0 Z = true) (eT : T.heap = h)
    {pc : Nat} {Ls : Array Slot} {rest : List Value} (hd : decode c.code pc = .ok (.new index, 3)) (hcl : cells + 1 ≤ R.cells) (hsl : slots + n ≤ R.slots)
    (k : ∀ (T' : State) (h' : Heap), Stand p l e R s m args below meth c T' locs (cells + 1) (slots + n) → T'.heap = h' → Ext h h' → Exa Z h' h.size CC → (∀ {O nm d : String} {ty : FieldType}, Laid Z a0 CC O nm d → parseFieldDescriptor d = some ty → Fld Z h' h.size O nm d (defaultValue ty)) → Owes p e below F (T'.setTop (mkF m (pc + 3) Ls (.ref h.size :: rest)))) : Owes p e below F (T.setTop (mkF m pc Ls rest)) := by
  obtain ⟨T', h', X', e', E, A, D, -, st⟩ := Jvm.RoadKit.newO X hx hZ hown w wi wz eT (g := mkF m pc Ls rest) rfl hd hcl hsl
  exact (k T' h' X' e' E A D).go st
theorem Owes.putF (X : Stand p l e R s m args below meth c T locs cells slots) (hx : p.tables.exec = Jvm.exec) (hZ : Z.Warmed39 s.vm) {own R0 O n d host CC : String} {index kk : Nat} {ty : FieldType} (hown : s.vm.findClass own = some m.cls) (w : (Cond.fieldLink own index R0 n d).before a0 Z = true ∨ (Cond.fieldLinkNest own index R0 n d host).before a0 Z = true) (via : Via Z R0 O n d) (eT : T.heap = h)
    {a : Addr} {v old : Value} (Fd : Fld Z h a O n d old) (E : Exa Z h a CC) (L : (Cond.lays CC O n d).before a0 Z = true ∨ ((Cond.laysFinal CC O n d).before a0 Z = true ∧ own = O ∧ meth.name = "<init>")) (wi : (Cond.instantiable CC kk).before a0 Z = true) (hty : parseFieldDescriptor d = some ty) (hn : narrow ty v = v) (hf : fits ty v = true)
    {pc : Nat} {Ls : Array Slot} {rest : List Value} (hd : decode c.code pc = .ok (.putfield index, 3))
    (k : ∀ (T' : State) (h' : Heap), Stand p l e R s m args below meth c T' (locs ++ [⟨a, Jvm.RoadKit.slotOf Z O n d⟩]) cells slots → T'.heap = h' → Wr h h' a (Jvm.RoadKit.slotOf Z O n d) v → Owes p e below F (T'.setTop (mkF m (pc + 3) Ls rest))) : Owes p e below F (T.setTop (mkF m pc Ls (v :: .ref a :: rest))) := by
  obtain ⟨T', h', X', e', W, st⟩ := Jvm.RoadKit.putF X hx hZ hown w via eT Fd E L wi hty hn hf (g := mkF m pc Ls (v :: .ref a :: rest)) rfl rfl hd
  exact (k T' h' X' e' W).go st
theorem Owes.alen (X : Stand p l e R s m args below meth c T locs cells slots) (hx : p.tables.exec = Jvm.exec) (hZ : Z.Warmed39 s.vm) (eT : T.heap = h) {a : Addr} {cl : Cell} {ty : FieldType} (A : Arr Z h a cl ty) {z : Int32} (hn : cl.slots.size.toInt32 = z) {pc : Nat} {Ls : Array Slot} {rest : List Value}
    (hd : decode c.code pc = .ok (.arraylength, 1)) (k : Owes p e below F (T.setTop (mkF m (pc + 1) Ls (.int z :: rest)))) : Owes p e below F (T.setTop (mkF m pc Ls (.ref a :: rest))) := by
  subst hn
  exact k.go fun t q => X.arraylength hx (by rw [eT]; exact A.1) (State.isArrayOf_alike hZ.alike A.2.1) (g := mkF m pc Ls (.ref a :: rest)) rfl rfl hd _ q
theorem Owes.aldI (X : Stand p l e R s m args below meth c T locs cells slots) (hx : p.tables.exec = Jvm.exec) (hZ : Z.Warmed39 s.vm) (eT : T.heap = h) {a : Addr} {cl : Cell} (A : Arr Z h a cl .int) {j : Int32} {v : Value} (hin : ¬ (j < 0 ∨ cl.slots.size ≤ j.toNatClampNeg)) (hat : cl.slots[j.toNatClampNeg]? = some v) {pc : Nat} {Ls : Array Slot} {rest : List Value}
    (hd : decode c.code pc = .ok (.iaload, 1)) (k : Owes p e below F (T.setTop (mkF m (pc + 1) Ls (v :: rest)))) : Owes p e below F (T.setTop (mkF m pc Ls (.int j :: .ref a :: rest))) :=
  k.go fun t q => X.iaload hx (by rw [eT]; exact A.1) (State.isArrayOf_alike hZ.alike A.2.1) A.2.2 hin hat (g := mkF m pc Ls (.int j :: .ref a :: rest)) rfl rfl hd _ q
theorem Owes.aldJ (X : Stand p l e R s m args below meth c T locs cells slots) (hx : p.tables.exec = Jvm.exec) (hZ : Z.Warmed39 s.vm) (eT : T.heap = h) {a : Addr} {cl : Cell} (A : Arr Z h a cl .long) {j : Int32} {v : Value} (hin : ¬ (j < 0 ∨ cl.slots.size ≤ j.toNatClampNeg)) (hat : cl.slots[j.toNatClampNeg]? = some v) {pc : Nat} {Ls : Array Slot} {rest : List Value}
    (hd : decode c.code pc = .ok (.laload, 1)) (k : Owes p e below F (T.setTop (mkF m (pc + 1) Ls (v :: rest)))) : Owes p e below F (T.setTop (mkF m pc Ls (.int j :: .ref a :: rest))) :=
  k.go fun t q => X.laload hx (by rw [eT]; exact A.1) (State.isArrayOf_alike hZ.alike A.2.1) A.2.2 hin hat (g := mkF m pc Ls (.int j :: .ref a :: rest)) rfl rfl hd _ q
theorem Owes.aldC (X : Stand p l e R s m args below meth c T locs cells slots) (hx : p.tables.exec = Jvm.exec) (hZ : Z.Warmed39 s.vm) (eT : T.heap = h) {a : Addr} {cl : Cell} (A : Arr Z h a cl .char) {j : Int32} {v : Value} (hin : ¬ (j < 0 ∨ cl.slots.size ≤ j.toNatClampNeg)) (hat : cl.slots[j.toNatClampNeg]? = some v) {pc : Nat} {Ls : Array Slot} {rest : List Value}
    (hd : decode c.code pc = .ok (.caload, 1)) (k : Owes p e below F (T.setTop (mkF m (pc + 1) Ls (v :: rest)))) : Owes p e below F (T.setTop (mkF m pc Ls (.int j :: .ref a :: rest))) :=
  k.go fun t q => X.caload hx (by rw [eT]; exact A.1) (State.isArrayOf_alike hZ.alike A.2.1) A.2.2 hin hat (g := mkF m pc Ls (.int j :: .ref a :: rest)) rfl rfl hd _ q
theorem Owes.aldZ (X : Stand p l e R s m args below meth c T locs cells slots) (hx : p.tables.exec = Jvm.exec) (hZ : Z.Warmed39 s.vm) (eT : T.heap = h) {a : Addr} {cl : Cell} (A : Arr Z h a cl .boolean) {j : Int32} {v : Value} (hin : ¬ (j < 0 ∨ cl.slots.size ≤ j.toNatClampNeg)) (hat : cl.slots[j.toNatClampNeg]? = some v) {pc : Nat} {Ls : Array Slot} {rest : List Value}
    (hd : decode c.code pc = .ok (.baload, 1)) (k : Owes p e below F (T.setTop (mkF m (pc + 1) Ls (v :: rest)))) : Owes p e below F (T.setTop (mkF m pc Ls (.int j :: .ref a :: rest))) :=
  k.go fun t q => X.baloadBooleans hx (by rw [eT]; exact A.1) (State.isArrayOf_alike hZ.alike A.2.1) A.2.2 hin hat (g := mkF m pc Ls (.int j :: .ref a :: rest)) rfl rfl hd _ q
theorem Owes.aldB (X : Stand p l e R s m args below meth c T locs cells slots) (hx : p.tables.exec = Jvm.exec) (hZ : Z.Warmed39 s.vm) (eT : T.heap = h) {a : Addr} {cl : Cell} (A : Arr Z h a cl .byte) {j : Int32} {v : Value} (hin : ¬ (j < 0 ∨ cl.slots.size ≤ j.toNatClampNeg)) (hat : cl.slots[j.toNatClampNeg]? = some v) {pc : Nat} {Ls : Array Slot} {rest : List Value}
    (hd : decode c.code pc = .ok (.baload, 1)) (k : Owes p e below F (T.setTop (mkF m (pc + 1) Ls (v :: rest)))) : Owes p e below F (T.setTop (mkF m pc Ls (.int j :: .ref a :: rest))) :=
  k.go fun t q => X.baloadBytes hx (by rw [eT]; exact A.1) (State.isArrayOf_alike hZ.alike A.2.1) A.2.2 hin hat (g := mkF m pc Ls (.int j :: .ref a :: rest)) rfl rfl hd _ q
theorem Owes.aldR (X : Stand p l e R s m args below meth c T locs cells slots) (hx : p.tables.exec = Jvm.exec) (hZ : Z.Warmed39 s.vm) (eT : T.heap = h) {a : Addr} {cl : Cell} {ty : FieldType} (A : Arr Z h a cl ty) (hty : ty.isReference = true) {j : Int32} {v : Value} (hin : ¬ (j < 0 ∨ cl.slots.size ≤ j.toNatClampNeg)) (hat : cl.slots[j.toNatClampNeg]? = some v) {pc : Nat} {Ls : Array Slot} {rest : List Value}
    (hd : decode c.code pc = .ok (.aaload, 1)) (k : Owes p e below F (T.setTop (mkF m (pc + 1) Ls (v :: rest)))) : Owes p e below F (T.setTop (mkF m pc Ls (.int j :: .ref a :: rest))) :=
  k.go fun t q => X.aaload hx (by rw [eT]; exact A.1) (State.isArrayOf_alike hZ.alike A.2.1) hty A.2.2 hin hat (g := mkF m pc Ls (.int j :: .ref a :: rest)) rfl rfl hd _ q
theorem own_eqI {first : State} {o : Option Outcome} {idx : List Nat} {t : Term} {k : Int32} (q : (Cond.eq t (.int k)).value args first o s idx = some true) : t.eval args first o idx s = some (.int k) := by
  simp only [Cond.value, Term.eval] at q
  cases hv : t.eval args first o idx s with
  | none => simp [hv] at q
  | some v => cases v <;> simp_all
end Own
section OwnWide
variable {p : Program} {l : Launch} {e : Env} {R : Room} {s : State} {vm0 : Vm} {m : MethodId} {args : Array Value} {below : List Frame} {meth : Method} {c : Code} {T : State} {locs : List Loc} {cells slots : Nat} {Z : State} {a0 : Array Value} {h : Heap}
variable {Q : Option Value → Heap → List Loc → Prop} {F : Outcome → State → Prop} {C N : Nat} {A B : State}
/-- the same end, where String constants may have been interned -/
def EndW (s : State) (Q : Option Value → Heap → List Loc → Prop) (C N : Nat) (o : Outcome) (t : State) : Prop := ∃ v L, o = .returned v ∧ Q v t.heap L ∧ ReturnedEndW s o t L C N
theorem own_since (s : State) (n : Nat) : s.Since s.vm n := (State.WarmedH.refl s).since n
theorem own_endW (X : Stand p l e R (s.setVm vm0) m args below meth c T locs cells slots) {k0 : Nat} (hS : s.Since vm0 k0) (hk : k0 ≤ T.heap.size) (hlk : meth.locks = false) {v : Option Value} (hv : meth.sig.returnType = none → v = none) (hc : cells ≤ C) (hs : slots ≤ N) (hq : Q v T.heap locs) {A : State}
    (hst : ∀ fs : List Frame, (∀ (f : JFrame) (acts : List Action), f.method = m → f.locked = none → f.entered = [] → (doReturn e (T.setTop f) acts v).1 = T.setFrames fs) → Steps p.tables e below A (T.setFrames fs)) : Owes p e below (EndW s Q C N) A := by
  obtain ⟨fs, hr, hrun, hended, hW⟩ := X.leaveW hS hk hv hlk
  exact ⟨_, _, hst fs hr, hrun, hended, v, locs, rfl, hq, hW.1, hW.2.1, hW.2.2.1, hW.2.2.2.mono hc hs⟩
theorem Owes.retNW (X : Stand p l e R (s.setVm vm0) m args below meth c T locs cells slots) {k0 : Nat} (hS : s.Since vm0 k0) (hk : k0 ≤ T.heap.size) (hx : p.tables.exec = Jvm.exec) (hlk : meth.locks = false) {pc : Nat} {Ls : Array Slot} {z : Int32} {t : FieldType} {rest : List Value} (hret : meth.sig.returnType = some t) (ht : t = .boolean ∨ t = .byte ∨ t = .char ∨ t = .short)
    (hd : decode c.code pc = .ok (.ireturn, 1)) (hc : cells ≤ C) (hs : slots ≤ N) (hq : Q (some (.int (nar t z))) T.heap locs) : Owes p e below (EndW s Q C N) (T.setTop (mkF m pc Ls (.int z :: rest))) :=
  own_endW X hS hk hlk (fun h => by rw [hret] at h; cases h) hc hs hq fun fs hr => Jvm.RoadKit.retN X hx hret ht hd hr
theorem Owes.retAW (X : Stand p l e R (s.setVm vm0) m args below meth c T locs cells slots) {k0 : Nat} (hS : s.Since vm0 k0) (hk : k0 ≤ T.heap.size) (hx : p.tables.exec = Jvm.exec) (hlk : meth.locks = false) {pc : Nat} {Ls : Array Slot} {w : Value} {t : FieldType} {rest : List Value} (hret : meth.sig.returnType = some t) (ht : t.isReference = true) (hn : narrow t w = w) (hw : w.isRef = true)
    (hd : decode c.code pc = .ok (.areturn, 1)) (hc : cells ≤ C) (hs : slots ≤ N) (hq : Q (some w) T.heap locs) : Owes p e below (EndW s Q C N) (T.setTop (mkF m pc Ls (w :: rest))) :=
  own_endW X hS hk hlk (fun h => by rw [hret] at h; cases h) hc hs hq fun fs hr => Jvm.RoadKit.retOut X hx hret hn (Or.inr (Or.inr (Or.inr (Or.inr ⟨rfl, ht, hw⟩)))) hd hr
def OMetW (l : Launch) (y : MethodName) (bytes : ByteArray) (maxL : Nat) (ret : Option FieldType) (ws : List Jvm.Cond) (rm : Room) (as' : Array Value) (Z : State) (h0 : Heap) (Q : Option Value → Heap → List Loc → Prop) : Prop :=
  MetFree l y (head1 (Jvm.Cond.code y bytes maxL ret :: ws) rm) (fun a U => a = as' ∧ Z.Warmed39 U.vm ∧ U.heap = h0) (fun _ _ _ _ _ => True) (fun _ U o U' => ∃ v L, o = .returned v ∧ Q v U'.heap L ∧ ReturnedEndW U o U' L rm.cells rm.slots)
theorem OMetW.of {y : MethodName} {bytes : ByteArray} {maxL : Nat} {ret : Option FieldType} {ws : List Jvm.Cond} {rm : Room} {as' : Array Value} {h0 : Heap} (hpl : plainFor y = true) {Ls : Array Slot} (ef : ∀ m, entryFrame m as' maxL = mkF m 0 Ls [])
    (body : ∀ (p : Program) (e : Env) (s : State) (m : MethodId) (below : List Frame) (meth : Method) (c : Code) (s₁ : State), p.tables.exec = Jvm.exec → c.code = bytes → c.maxLocals = maxL → (s.setVm s.vm).vm.findClass y.cls = some m.cls → meth.name = y.name → meth.sig.returnType = ret → meth.locks = false → Z.Warmed39 (s.setVm s.vm).vm →
      Stand p l e rm (s.setVm s.vm) m as' below meth c s₁ [] 0 0 → s₁.heap = h0 → s.heap = h0 → Owes p e below (EndW s Q rm.cells rm.slots) (s₁.setTop (mkF m 0 Ls []))) : OMetW l y bytes maxL ret ws rm as' Z h0 Q := by
  refine MetFree.of_bodySF hpl hisR ?_
  intro p e s m args below meth c s₁ Bd hml0 hP hK
  obtain ⟨rfl, hZ, hh⟩ := hP
  have hlk : meth.locks = false := BodyLoose.notSynchronized Bd
  have X0 : Stand p l e rm s m args below meth c s₁ [] 0 0 := Stand.of_body Bd
  have e0 : s₁.heap = h0 := by rw [← hh, Bd.state]; rfl
  obtain ⟨s₂, o, h1, h2, h3, h4⟩ := body p e s m below meth c s₁ Bd.exec Bd.bytes hml0 (findClass_of_methodNamed Bd.named) (name_of_methodNamed Bd.named Bd.method).1 Bd.returns hlk hZ X0 e0 hh
  exact ⟨s₂, o, castTop (ef m) h1, h2, h3, h4⟩
/-- a String constant whose text doesn't matter -/
theorem Owes.ldcS (X : Stand p l e R (s.setVm vm0) m args below meth c T locs cells slots) (hx : p.tables.exec = Jvm.exec) {own text : String} {index : Nat} (hZ : Z.Warmed39 vm0) (hown : vm0.findClass own = some m.cls) (w : (Cond.stringLink own index text).before a0 Z = true) (wS : ∀ a ∈ Bundle.stringAtoms, a.before a0 Z = true)
    (eT : T.heap = h) {k0 : Nat} (hS : s.Since vm0 k0) (hk : k0 ≤ h.size) {pc : Nat} {Ls : Array Slot} {st : List Value} (hd : decode c.code pc = .ok (.ldc index, 2)) {n : Nat} (hn : 4 * text.toList.length ≤ n) (hbig : n ≤ 536870912) (hcl : cells + 2 ≤ R.cells) (hsl : slots + (n + 4) ≤ R.slots)
    (k : ∀ (a : Addr) (T' : State) (h' : Heap) (k1 : Nat), Stand p l e R (s.setVm T'.vm) m args below meth c T' locs (cells + 2) (slots + (n + 4)) → T'.heap = h' → Ext h h' → s.Since T'.vm k1 → k1 ≤ h'.size → Z.Warmed39 (s.setVm T'.vm).vm → (s.setVm T'.vm).vm.findClass own = some m.cls → Owes p e below F (T'.setTop (mkF m (pc + 2) Ls (.ref a :: st)))) : Owes p e below F (T.setTop (mkF m pc Ls st)) := by
  obtain ⟨a, T', h', k1, X', e', E, hS', hk', hZ', hown', stp⟩ := Jvm.RoadKit.ldcS X hx hZ hown w wS eT hS hk (g := mkF m pc Ls st) rfl hd hn hbig hcl hsl
  exact (k a T' h' k1 X' e' E hS' hk' hZ' hown').go stp
end OwnWide

theorem d1_0 : decode jdk_29_method_65_code 0 = .ok (.iload_n 0, 1) := by decide +kernel
theorem d1_1 : decode jdk_29_method_65_code 1 = .ok (.iload_n 1, 1) := by decide +kernel
theorem d1_2 : decode jdk_29_method_65_code 2 = .ok (.if_icmp .lt 7, 3) := by decide +kernel
theorem d1_9 : decode jdk_29_method_65_code 9 = .ok (.iload_n 1, 1) := by decide +kernel
theorem d1_10 : decode jdk_29_method_65_code 10 = .ok (.ireturn, 1) := by decide +kernel
theorem d1_5 : decode jdk_29_method_65_code 5 = .ok (.iload_n 0, 1) := by decide +kernel
theorem d1_6 : decode jdk_29_method_65_code 6 = .ok (.goto 4, 3) := by decide +kernel
def f_max (p0 : Int32) (p1 : Int32)  : Int32 := (if p0 < p1 then p1 else p0)
theorem ef_1_f_max (m : MethodId) (p0 : Int32) (p1 : Int32) : entryFrame m #[(.int p0), (.int p1)] 2 = mkF m 0 #[.val (.int p0), .val (.int p1)] [] := by first | (simp [entryFrame, mkF, argsToLocals, Value.category]; done) | rfl
theorem pn_1 : plainFor (⟨"java/lang/Math", "max", "(II)I"⟩ : MethodName) = true := Jvm.Free.JP.mathPlain rfl (by decide +kernel)
set_option maxRecDepth 65536 in
set_option maxHeartbeats 40000000 in
theorem rm_f_max (l : Launch) (Z : State) (a0 : Array Value) (hw : ∀ d ∈ tables_1, d.before a0 Z = true) (ws : List Jvm.Cond) (p0 : Int32) (p1 : Int32) (h0 : Heap)  :
    OMet l (⟨"java/lang/Math", "max", "(II)I"⟩ : MethodName) jdk_29_method_65_code 2 (some .int) ws ({ frames := 0, cells := 0, slots := 0, locals := 0 } : Room) #[(.int p0), (.int p1)] Z h0 (fun v h L => v = some (Value.int (f_max p0 p1)) ∧ L = [] ∧ h = h0) := by
  refine OMet.of pn_1 (fun m => ef_1_f_max m p0 p1) ?_
  intro p e s m below meth c s₁ hx hby hml hown hnm hret hlk hZ X0 e0
  refine Owes.go ?_ fun t₀ k₀ => XS.iloadN X0.here hx rfl (hb hby d1_0) rfl k₀
  show Owes _ _ _ _ (s₁.setTop (mkF m 1 #[.val (.int p0), .val (.int p1)] [(.int p0)]))
  refine Owes.go ?_ fun t₀ k₀ => XS.iloadN X0.here hx rfl (hb hby d1_1) rfl k₀
  show Owes _ _ _ _ (s₁.setTop (mkF m 2 #[.val (.int p0), .val (.int p1)] [(.int p1), (.int p0)]))
  by_cases hc1 : p0 < p1
  · skip
    refine Owes.go ?_ fun t₀ k₀ => XS.icmpYes X0.here hx rfl (pc0 := 2) (pc' := 9) rfl (hb hby d1_2) rfl (tlt hc1).1 (by decide) (by decide) k₀
    show Owes _ _ _ _ (s₁.setTop (mkF m 9 #[.val (.int p0), .val (.int p1)] []))
    refine Owes.go ?_ fun t₀ k₀ => XS.iloadN X0.here hx rfl (hb hby d1_9) rfl k₀
    show Owes _ _ _ _ (s₁.setTop (mkF m 10 #[.val (.int p0), .val (.int p1)] [(.int p1)]))
    exact Owes.retI X0 hx hlk hret (hb hby d1_10) (by decide) (by decide) ⟨congrArg (fun z => some (Value.int z)) (by unfold f_max; rw [if_pos hc1]; first | done | rfl), rfl, e0⟩
  · skip
    refine Owes.go ?_ fun t₀ k₀ => XS.icmpNo X0.here hx rfl (hb hby d1_2) rfl (flt hc1).1 k₀
    show Owes _ _ _ _ (s₁.setTop (mkF m 5 #[.val (.int p0), .val (.int p1)] []))
    refine Owes.go ?_ fun t₀ k₀ => XS.iloadN X0.here hx rfl (hb hby d1_5) rfl k₀
    show Owes _ _ _ _ (s₁.setTop (mkF m 6 #[.val (.int p0), .val (.int p1)] [(.int p0)]))
    refine Owes.go ?_ fun t₀ k₀ => XS.goto X0.here hx rfl (pc0 := 6) (pc' := 10) rfl (hb hby d1_6) (by decide) (by decide) k₀
    show Owes _ _ _ _ (s₁.setTop (mkF m 10 #[.val (.int p0), .val (.int p1)] [(.int p0)]))
    exact Owes.retI X0 hx hlk hret (hb hby d1_10) (by decide) (by decide) ⟨congrArg (fun z => some (Value.int z)) (by unfold f_max; rw [if_neg hc1]; first | done | rfl), rfl, e0⟩
theorem d3_0 : decode jdk_30_method_1_code 0 = .ok (.aload_n 0, 1) := by decide +kernel
theorem d3_1 : decode jdk_30_method_1_code 1 = .ok (.invokespecial 1, 3) := by decide +kernel
theorem d3_4 : decode jdk_30_method_1_code 4 = .ok (.return_, 1) := by decide +kernel
theorem ef_3 (m : MethodId) (r0 : Addr) : entryFrame m #[(.ref r0)] 1 = mkF m 0 #[.val (.ref r0)] [] := by first | (simp [entryFrame, mkF, argsToLocals, Value.category]; done) | rfl
theorem pn_3 : plainFor (⟨"java/lang/Record", "<init>", "()V"⟩ : MethodName) = true := plainFor_of_name (by first | (simp [plainName, overriddenIn]; done) | decide +kernel)
set_option maxRecDepth 65536 in
set_option maxHeartbeats 40000000 in
theorem rm_rec (l : Launch) (Z : State) (a0 : Array Value) (hw : ∀ d ∈ tables_1, d.before a0 Z = true) (ws : List Jvm.Cond) (r0 : Addr) (h0 : Heap)  :
    OMet l (⟨"java/lang/Record", "<init>", "()V"⟩ : MethodName) jdk_30_method_1_code 1 none ws ({ frames := 1, cells := 0, slots := 0, locals := 12 } : Room) #[(.ref r0)] Z h0 (fun v h L => v = none ∧ L = [] ∧ h = h0) := by
  refine OMet.of pn_3 (fun m => ef_3 m r0) ?_
  intro p e s m below meth c s₁ hx hby hml hown hnm hret hlk hZ X0 e0
  refine Owes.go ?_ fun t₀ k₀ => XS.aloadN X0.here hx rfl (hb hby d3_0) rfl rfl k₀
  show Owes _ _ _ _ (s₁.setTop (mkF m 1 #[.val (.ref r0)] [(.ref r0)]))
  refine Owes.initO X0 hx hZ hown (hw _ (List.mem_of_getElem? (i := 28) rfl)) (hw _ (List.mem_of_getElem? (i := 29) rfl)) (hw _ (List.mem_of_getElem? (i := 30) rfl)) e0 (by rw [hml]; rfl) (hb hby d3_1) (by decide) (Nat.le_of_ble_eq_true rfl) ?_
  intro T1 X1 e1
  show Owes _ _ _ _ (T1.setTop (mkF m 4 #[.val (.ref r0)] []))
  exact Owes.retV X1 hx hlk hret (hb hby d3_4) (by decide) (by decide) ⟨rfl, rfl, e1⟩
theorem d2_0 : decode prog_21_method_1_code 0 = .ok (.aload_n 0, 1) := by decide +kernel
theorem d2_1 : decode prog_21_method_1_code 1 = .ok (.invokespecial 1, 3) := by decide +kernel
theorem pd_0 : parseMethodDescriptor "()V" = some ⟨[], none⟩ := by decide +kernel
theorem d2_4 : decode prog_21_method_1_code 4 = .ok (.aload_n 0, 1) := by decide +kernel
theorem d2_5 : decode prog_21_method_1_code 5 = .ok (.aload_n 1, 1) := by decide +kernel
theorem d2_6 : decode prog_21_method_1_code 6 = .ok (.putfield 7, 3) := by decide +kernel
theorem d2_9 : decode prog_21_method_1_code 9 = .ok (.aload_n 0, 1) := by decide +kernel
theorem d2_10 : decode prog_21_method_1_code 10 = .ok (.aload_n 2, 1) := by decide +kernel
theorem d2_11 : decode prog_21_method_1_code 11 = .ok (.putfield 13, 3) := by decide +kernel
theorem d2_14 : decode prog_21_method_1_code 14 = .ok (.aload_n 0, 1) := by decide +kernel
theorem d2_15 : decode prog_21_method_1_code 15 = .ok (.iload_n 3, 1) := by decide +kernel
theorem d2_16 : decode prog_21_method_1_code 16 = .ok (.putfield 17, 3) := by decide +kernel
theorem d2_19 : decode prog_21_method_1_code 19 = .ok (.aload_n 0, 1) := by decide +kernel
theorem d2_20 : decode prog_21_method_1_code 20 = .ok (.iload 4, 2) := by decide +kernel
theorem d2_22 : decode prog_21_method_1_code 22 = .ok (.putfield 21, 3) := by decide +kernel
theorem d2_25 : decode prog_21_method_1_code 25 = .ok (.aload_n 0, 1) := by decide +kernel
theorem d2_26 : decode prog_21_method_1_code 26 = .ok (.lload 5, 2) := by decide +kernel
theorem d2_28 : decode prog_21_method_1_code 28 = .ok (.putfield 24, 3) := by decide +kernel
theorem d2_31 : decode prog_21_method_1_code 31 = .ok (.aload_n 0, 1) := by decide +kernel
theorem d2_32 : decode prog_21_method_1_code 32 = .ok (.lload 7, 2) := by decide +kernel
theorem d2_34 : decode prog_21_method_1_code 34 = .ok (.putfield 28, 3) := by decide +kernel
theorem d2_37 : decode prog_21_method_1_code 37 = .ok (.aload_n 0, 1) := by decide +kernel
theorem d2_38 : decode prog_21_method_1_code 38 = .ok (.lload 9, 2) := by decide +kernel
theorem d2_40 : decode prog_21_method_1_code 40 = .ok (.putfield 31, 3) := by decide +kernel
theorem d2_43 : decode prog_21_method_1_code 43 = .ok (.aload_n 0, 1) := by decide +kernel
theorem d2_44 : decode prog_21_method_1_code 44 = .ok (.lload 11, 2) := by decide +kernel
theorem d2_46 : decode prog_21_method_1_code 46 = .ok (.putfield 34, 3) := by decide +kernel
theorem d2_49 : decode prog_21_method_1_code 49 = .ok (.return_, 1) := by decide +kernel
theorem ef_2 (m : MethodId) (r0 : Addr) (r1 : Addr) (r2 : Addr) (p3 : Int32) (p4 : Int32) (q5 : Int64) (q6 : Int64) (q7 : Int64) (q8 : Int64) : entryFrame m #[(.ref r0), (.ref r1), (.ref r2), (.int p3), (.int p4), (.long q5), (.long q6), (.long q7), (.long q8)] 13 = mkF m 0 #[.val (.ref r0), .val (.ref r1), .val (.ref r2), .val (.int p3), .val (.int p4), .val (.long q5), .second, .val (.long q6), .second, .val (.long q7), .second, .val (.long q8), .second] [] := by first | (simp [entryFrame, mkF, argsToLocals, Value.category]; done) | rfl
theorem pn_2 : plainFor (⟨"com/example/holdfast/holdfast/bench/RunResult", "<init>", "(Ljava/lang/String;Lcom/example/holdfast/holdfast/bench/Workload;IIJJJJ)V"⟩ : MethodName) = true := plainFor_of_name (by first | (simp [plainName, overriddenIn]; done) | decide +kernel)
set_option maxRecDepth 65536 in
set_option maxHeartbeats 40000000 in
theorem rm_init (l : Launch) (Z : State) (a0 : Array Value) (hw : ∀ d ∈ tables_1, d.before a0 Z = true) (ws : List Jvm.Cond) (r0 : Addr) (r1 : Addr) (r2 : Addr) (p3 : Int32) (p4 : Int32) (q5 : Int64) (q6 : Int64) (q7 : Int64) (q8 : Int64) (h0 : Heap) (n0 : Nat) (g0 : n0 ≤ r0) (E0 : Exa Z h0 r0 "com/example/holdfast/holdfast/bench/RunResult") (F_target : Fld Z h0 r0 "com/example/holdfast/holdfast/bench/RunResult" "target" "Ljava/lang/String;" .null) (F_workload : Fld Z h0 r0 "com/example/holdfast/holdfast/bench/RunResult" "workload" "Lcom/example/holdfast/holdfast/bench/Workload;" .null) (F_clients : Fld Z h0 r0 "com/example/holdfast/holdfast/bench/RunResult" "clients" "I" (.int (0 : Int32))) (F_seconds : Fld Z h0 r0 "com/example/holdfast/holdfast/bench/RunResult" "seconds" "I" (.int (0 : Int32))) (F_cycles : Fld Z h0 r0 "com/example/holdfast/holdfast/bench/RunResult" "cycles" "J" (.long (0 : Int64))) (F_p50Micros : Fld Z h0 r0 "com/example/holdfast/holdfast/bench/RunResult" "p50Micros" "J" (.long (0 : Int64))) (F_p99Micros : Fld Z h0 r0 "com/example/holdfast/holdfast/bench/RunResult" "p99Micros" "J" (.long (0 : Int64))) (F_overlaps : Fld Z h0 r0 "com/example/holdfast/holdfast/bench/RunResult" "overlaps" "J" (.long (0 : Int64))) :
    OMet l (⟨"com/example/holdfast/holdfast/bench/RunResult", "<init>", "(Ljava/lang/String;Lcom/example/holdfast/holdfast/bench/Workload;IIJJJJ)V"⟩ : MethodName) prog_21_method_1_code 13 none ws ({ frames := 2, cells := 0, slots := 0, locals := 24 } : Room) #[(.ref r0), (.ref r1), (.ref r2), (.int p3), (.int p4), (.long q5), (.long q6), (.long q7), (.long q8)] Z h0 (fun v h L => v = none ∧ Fr n0 L ∧ h0.size ≤ h.size ∧ Exa Z h r0 "com/example/holdfast/holdfast/bench/RunResult" ∧ Fld Z h r0 "com/example/holdfast/holdfast/bench/RunResult" "seconds" "I" (.int p4) ∧ Fld Z h r0 "com/example/holdfast/holdfast/bench/RunResult" "cycles" "J" (.long q5)) := by
  refine OMet.of pn_2 (fun m => ef_2 m r0 r1 r2 p3 p4 q5 q6 q7 q8) ?_
  intro p e s m below meth c s₁ hx hby hml hown hnm hret hlk hZ X0 e0
  have N0 := Fr.nil n0
  refine Owes.go ?_ fun t₀ k₀ => XS.aloadN X0.here hx rfl (hb hby d2_0) rfl rfl k₀
  show Owes _ _ _ _ (s₁.setTop (mkF m 1 #[.val (.ref r0), .val (.ref r1), .val (.ref r2), .val (.int p3), .val (.int p4), .val (.long q5), .second, .val (.long q6), .second, .val (.long q7), .second, .val (.long q8), .second] [(.ref r0)]))
  refine Owes.callC X0 hx hZ rfl hown (hw _ (List.mem_of_getElem? (i := 23) rfl)) (hw _ (List.mem_of_getElem? (i := 24) rfl)) (hw _ (List.mem_of_getElem? (i := 26) rfl)) (hw _ (List.mem_of_getElem? (i := 27) rfl)) (by decide) (a := r0) (argsL := []) (rest := []) (rm_rec l Z a0 hw [] r0 h0) e0 (by rw [hml]; rfl) pd_0 rfl rfl (hb hby d2_1) (by decide) (Nat.le_of_ble_eq_true rfl) (by decide) (by decide) ?_
  rintro T2 _ _ X2 ⟨rfl, rfl, e2⟩
  rw [List.append_nil] at X2
  show Owes _ _ _ _ (T2.setTop (mkF m 4 #[.val (.ref r0), .val (.ref r1), .val (.ref r2), .val (.int p3), .val (.int p4), .val (.long q5), .second, .val (.long q6), .second, .val (.long q7), .second, .val (.long q8), .second] []))
  refine Owes.go ?_ fun t₀ k₀ => XS.aloadN X2.here hx rfl (hb hby d2_4) rfl rfl k₀
  show Owes _ _ _ _ (T2.setTop (mkF m 5 #[.val (.ref r0), .val (.ref r1), .val (.ref r2), .val (.int p3), .val (.int p4), .val (.long q5), .second, .val (.long q6), .second, .val (.long q7), .second, .val (.long q8), .second] [(.ref r0)]))
  refine Owes.go ?_ fun t₀ k₀ => XS.aloadN X2.here hx rfl (hb hby d2_5) rfl rfl k₀
  show Owes _ _ _ _ (T2.setTop (mkF m 6 #[.val (.ref r0), .val (.ref r1), .val (.ref r2), .val (.int p3), .val (.int p4), .val (.long q5), .second, .val (.long q6), .second, .val (.long q7), .second, .val (.long q8), .second] [(.ref r1), (.ref r0)]))
  refine Owes.putF X2 hx hZ hown (host := "") (Or.inl (hw _ (List.mem_of_getElem? (i := 31) rfl))) Via.refl e2 F_target E0 (Or.inr ⟨(hw _ (List.mem_of_getElem? (i := 32) rfl)), rfl, hnm⟩) (hw _ (List.mem_of_getElem? (i := 10) rfl)) (ty := (.object "java/lang/String")) (by decide) rfl rfl (hb hby d2_6) ?_
  intro T3 h3 X3 e3 W3
  have N3 := Fr.snoc X3 N0 g0
  have E_r0_3 := Exa.wr W3 E0
  have F_r0_target_3 := Fld.same W3 F_target
  have F_r0_workload_3 := Fld.other W3 F_workload (Or.inr (slot_ne (Or.inr (hw _ (List.mem_of_getElem? (i := 34) rfl))) (Or.inr (hw _ (List.mem_of_getElem? (i := 32) rfl))) (by decide) (t := (.object "com/example/holdfast/holdfast/bench/Workload")) (t' := (.object "java/lang/String")) (by decide) (by decide)))
  have F_r0_clients_3 := Fld.other W3 F_clients (Or.inr (slot_ne (Or.inr (hw _ (List.mem_of_getElem? (i := 36) rfl))) (Or.inr (hw _ (List.mem_of_getElem? (i := 32) rfl))) (by decide) (t := .int) (t' := (.object "java/lang/String")) (by decide) (by decide)))
  have F_r0_seconds_3 := Fld.other W3 F_seconds (Or.inr (slot_ne (Or.inr (hw _ (List.mem_of_getElem? (i := 38) rfl))) (Or.inr (hw _ (List.mem_of_getElem? (i := 32) rfl))) (by decide) (t := .int) (t' := (.object "java/lang/String")) (by decide) (by decide)))
  have F_r0_cycles_3 := Fld.other W3 F_cycles (Or.inr (slot_ne (Or.inr (hw _ (List.mem_of_getElem? (i := 40) rfl))) (Or.inr (hw _ (List.mem_of_getElem? (i := 32) rfl))) (by decide) (t := .long) (t' := (.object "java/lang/String")) (by decide) (by decide)))
  have F_r0_p50Micros_3 := Fld.other W3 F_p50Micros (Or.inr (slot_ne (Or.inr (hw _ (List.mem_of_getElem? (i := 42) rfl))) (Or.inr (hw _ (List.mem_of_getElem? (i := 32) rfl))) (by decide) (t := .long) (t' := (.object "java/lang/String")) (by decide) (by decide)))
  have F_r0_p99Micros_3 := Fld.other W3 F_p99Micros (Or.inr (slot_ne (Or.inr (hw _ (List.mem_of_getElem? (i := 44) rfl))) (Or.inr (hw _ (List.mem_of_getElem? (i := 32) rfl))) (by decide) (t := .long) (t' := (.object "java/lang/String")) (by decide) (by decide)))
  have F_r0_overlaps_3 := Fld.other W3 F_overlaps (Or.inr (slot_ne (Or.inr (hw _ (List.mem_of_getElem? (i := 46) rfl))) (Or.inr (hw _ (List.mem_of_getElem? (i := 32) rfl))) (by decide) (t := .long) (t' := (.object "java/lang/String")) (by decide) (by decide)))
  have SZ3 : h0.size ≤ h3.size := Nat.le_trans (Nat.le_refl _) (Nat.le_of_eq W3.size.symm)
  show Owes _ _ _ _ (T3.setTop (mkF m 9 #[.val (.ref r0), .val (.ref r1), .val (.ref r2), .val (.int p3), .val (.int p4), .val (.long q5), .second, .val (.long q6), .second, .val (.long q7), .second, .val (.long q8), .second] []))
  refine Owes.go ?_ fun t₀ k₀ => XS.aloadN X3.here hx rfl (hb hby d2_9) rfl rfl k₀
  show Owes _ _ _ _ (T3.setTop (mkF m 10 #[.val (.ref r0), .val (.ref r1), .val (.ref r2), .val (.int p3), .val (.int p4), .val (.long q5), .second, .val (.long q6), .second, .val (.long q7), .second, .val (.long q8), .second] [(.ref r0)]))
  refine Owes.go ?_ fun t₀ k₀ => XS.aloadN X3.here hx rfl (hb hby d2_10) rfl rfl k₀
  show Owes _ _ _ _ (T3.setTop (mkF m 11 #[.val (.ref r0), .val (.ref r1), .val (.ref r2), .val (.int p3), .val (.int p4), .val (.long q5), .second, .val (.long q6), .second, .val (.long q7), .second, .val (.long q8), .second] [(.ref r2), (.ref r0)]))
  refine Owes.putF X3 hx hZ hown (host := "") (Or.inl (hw _ (List.mem_of_getElem? (i := 33) rfl))) Via.refl e3 F_r0_workload_3 E_r0_3 (Or.inr ⟨(hw _ (List.mem_of_getElem? (i := 34) rfl)), rfl, hnm⟩) (hw _ (List.mem_of_getElem? (i := 10) rfl)) (ty := (.object "com/example/holdfast/holdfast/bench/Workload")) (by decide) rfl rfl (hb hby d2_11) ?_
  intro T4 h4 X4 e4 W4
  have N4 := Fr.snoc X4 N3 g0
  have E_r0_4 := Exa.wr W4 E_r0_3
  have F_r0_target_4 := Fld.other W4 F_r0_target_3 (Or.inr (slot_ne (Or.inr (hw _ (List.mem_of_getElem? (i := 32) rfl))) (Or.inr (hw _ (List.mem_of_getElem? (i := 34) rfl))) (by decide) (t := (.object "java/lang/String")) (t' := (.object "com/example/holdfast/holdfast/bench/Workload")) (by decide) (by decide)))
  have F_r0_workload_4 := Fld.same W4 F_r0_workload_3
  have F_r0_clients_4 := Fld.other W4 F_r0_clients_3 (Or.inr (slot_ne (Or.inr (hw _ (List.mem_of_getElem? (i := 36) rfl))) (Or.inr (hw _ (List.mem_of_getElem? (i := 34) rfl))) (by decide) (t := .int) (t' := (.object "com/example/holdfast/holdfast/bench/Workload")) (by decide) (by decide)))
  have F_r0_seconds_4 := Fld.other W4 F_r0_seconds_3 (Or.inr (slot_ne (Or.inr (hw _ (List.mem_of_getElem? (i := 38) rfl))) (Or.inr (hw _ (List.mem_of_getElem? (i := 34) rfl))) (by decide) (t := .int) (t' := (.object "com/example/holdfast/holdfast/bench/Workload")) (by decide) (by decide)))
  have F_r0_cycles_4 := Fld.other W4 F_r0_cycles_3 (Or.inr (slot_ne (Or.inr (hw _ (List.mem_of_getElem? (i := 40) rfl))) (Or.inr (hw _ (List.mem_of_getElem? (i := 34) rfl))) (by decide) (t := .long) (t' := (.object "com/example/holdfast/holdfast/bench/Workload")) (by decide) (by decide)))
  have F_r0_p50Micros_4 := Fld.other W4 F_r0_p50Micros_3 (Or.inr (slot_ne (Or.inr (hw _ (List.mem_of_getElem? (i := 42) rfl))) (Or.inr (hw _ (List.mem_of_getElem? (i := 34) rfl))) (by decide) (t := .long) (t' := (.object "com/example/holdfast/holdfast/bench/Workload")) (by decide) (by decide)))
  have F_r0_p99Micros_4 := Fld.other W4 F_r0_p99Micros_3 (Or.inr (slot_ne (Or.inr (hw _ (List.mem_of_getElem? (i := 44) rfl))) (Or.inr (hw _ (List.mem_of_getElem? (i := 34) rfl))) (by decide) (t := .long) (t' := (.object "com/example/holdfast/holdfast/bench/Workload")) (by decide) (by decide)))
  have F_r0_overlaps_4 := Fld.other W4 F_r0_overlaps_3 (Or.inr (slot_ne (Or.inr (hw _ (List.mem_of_getElem? (i := 46) rfl))) (Or.inr (hw _ (List.mem_of_getElem? (i := 34) rfl))) (by decide) (t := .long) (t' := (.object "com/example/holdfast/holdfast/bench/Workload")) (by decide) (by decide)))
  have SZ4 : h0.size ≤ h4.size := Nat.le_trans SZ3 (Nat.le_of_eq W4.size.symm)
  show Owes _ _ _ _ (T4.setTop (mkF m 14 #[.val (.ref r0), .val (.ref r1), .val (.ref r2), .val (.int p3), .val (.int p4), .val (.long q5), .second, .val (.long q6), .second, .val (.long q7), .second, .val (.long q8), .second] []))
  refine Owes.go ?_ fun t₀ k₀ => XS.aloadN X4.here hx rfl (hb hby d2_14) rfl rfl k₀
  show Owes _ _ _ _ (T4.setTop (mkF m 15 #[.val (.ref r0), .val (.ref r1), .val (.ref r2), .val (.int p3), .val (.int p4), .val (.long q5), .second, .val (.long q6), .second, .val (.long q7), .second, .val (.long q8), .second] [(.ref r0)]))
  refine Owes.go ?_ fun t₀ k₀ => XS.iloadN X4.here hx rfl (hb hby d2_15) rfl k₀
  show Owes _ _ _ _ (T4.setTop (mkF m 16 #[.val (.ref r0), .val (.ref r1), .val (.ref r2), .val (.int p3), .val (.int p4), .val (.long q5), .second, .val (.long q6), .second, .val (.long q7), .second, .val (.long q8), .second] [(.int p3), (.ref r0)]))
  refine Owes.putF X4 hx hZ hown (host := "") (Or.inl (hw _ (List.mem_of_getElem? (i := 35) rfl))) Via.refl e4 F_r0_clients_4 E_r0_4 (Or.inr ⟨(hw _ (List.mem_of_getElem? (i := 36) rfl)), rfl, hnm⟩) (hw _ (List.mem_of_getElem? (i := 10) rfl)) (ty := .int) (by decide) rfl rfl (hb hby d2_16) ?_
  intro T5 h5 X5 e5 W5
  have N5 := Fr.snoc X5 N4 g0
  have E_r0_5 := Exa.wr W5 E_r0_4
  have F_r0_target_5 := Fld.other W5 F_r0_target_4 (Or.inr (slot_ne (Or.inr (hw _ (List.mem_of_getElem? (i := 32) rfl))) (Or.inr (hw _ (List.mem_of_getElem? (i := 36) rfl))) (by decide) (t := (.object "java/lang/String")) (t' := .int) (by decide) (by decide)))
  have F_r0_workload_5 := Fld.other W5 F_r0_workload_4 (Or.inr (slot_ne (Or.inr (hw _ (List.mem_of_getElem? (i := 34) rfl))) (Or.inr (hw _ (List.mem_of_getElem? (i := 36) rfl))) (by decide) (t := (.object "com/example/holdfast/holdfast/bench/Workload")) (t' := .int) (by decide) (by decide)))
  have F_r0_clients_5 := Fld.same W5 F_r0_clients_4
  have F_r0_seconds_5 := Fld.other W5 F_r0_seconds_4 (Or.inr (slot_ne (Or.inr (hw _ (List.mem_of_getElem? (i := 38) rfl))) (Or.inr (hw _ (List.mem_of_getElem? (i := 36) rfl))) (by decide) (t := .int) (t' := .int) (by decide) (by decide)))
  have F_r0_cycles_5 := Fld.other W5 F_r0_cycles_4 (Or.inr (slot_ne (Or.inr (hw _ (List.mem_of_getElem? (i := 40) rfl))) (Or.inr (hw _ (List.mem_of_getElem? (i := 36) rfl))) (by decide) (t := .long) (t' := .int) (by decide) (by decide)))
  have F_r0_p50Micros_5 := Fld.other W5 F_r0_p50Micros_4 (Or.inr (slot_ne (Or.inr (hw _ (List.mem_of_getElem? (i := 42) rfl))) (Or.inr (hw _ (List.mem_of_getElem? (i := 36) rfl))) (by decide) (t := .long) (t' := .int) (by decide) (by decide)))
  have F_r0_p99Micros_5 := Fld.other W5 F_r0_p99Micros_4 (Or.inr (slot_ne (Or.inr (hw _ (List.mem_of_getElem? (i := 44) rfl))) (Or.inr (hw _ (List.mem_of_getElem? (i := 36) rfl))) (by decide) (t := .long) (t' := .int) (by decide) (by decide)))
  have F_r0_overlaps_5 := Fld.other W5 F_r0_overlaps_4 (Or.inr (slot_ne (Or.inr (hw _ (List.mem_of_getElem? (i := 46) rfl))) (Or.inr (hw _ (List.mem_of_getElem? (i := 36) rfl))) (by decide) (t := .long) (t' := .int) (by decide) (by decide)))
  have SZ5 : h0.size ≤ h5.size := Nat.le_trans SZ4 (Nat.le_of_eq W5.size.symm)
  show Owes _ _ _ _ (T5.setTop (mkF m 19 #[.val (.ref r0), .val (.ref r1), .val (.ref r2), .val (.int p3), .val (.int p4), .val (.long q5), .second, .val (.long q6), .second, .val (.long q7), .second, .val (.long q8), .second] []))
  refine Owes.go ?_ fun t₀ k₀ => XS.aloadN X5.here hx rfl (hb hby d2_19) rfl rfl k₀
  show Owes _ _ _ _ (T5.setTop (mkF m 20 #[.val (.ref r0), .val (.ref r1), .val (.ref r2), .val (.int p3), .val (.int p4), .val (.long q5), .second, .val (.long q6), .second, .val (.long q7), .second, .val (.long q8), .second] [(.ref r0)]))
  refine Owes.go ?_ fun t₀ k₀ => XS.iload X5.here hx rfl (hb hby d2_20) rfl k₀
  show Owes _ _ _ _ (T5.setTop (mkF m 22 #[.val (.ref r0), .val (.ref r1), .val (.ref r2), .val (.int p3), .val (.int p4), .val (.long q5), .second, .val (.long q6), .second, .val (.long q7), .second, .val (.long q8), .second] [(.int p4), (.ref r0)]))
  refine Owes.putF X5 hx hZ hown (host := "") (Or.inl (hw _ (List.mem_of_getElem? (i := 37) rfl))) Via.refl e5 F_r0_seconds_5 E_r0_5 (Or.inr ⟨(hw _ (List.mem_of_getElem? (i := 38) rfl)), rfl, hnm⟩) (hw _ (List.mem_of_getElem? (i := 10) rfl)) (ty := .int) (by decide) rfl rfl (hb hby d2_22) ?_
  intro T6 h6 X6 e6 W6
  have N6 := Fr.snoc X6 N5 g0
  have E_r0_6 := Exa.wr W6 E_r0_5
  have F_r0_target_6 := Fld.other W6 F_r0_target_5 (Or.inr (slot_ne (Or.inr (hw _ (List.mem_of_getElem? (i := 32) rfl))) (Or.inr (hw _ (List.mem_of_getElem? (i := 38) rfl))) (by decide) (t := (.object "java/lang/String")) (t' := .int) (by decide) (by decide)))
  have F_r0_workload_6 := Fld.other W6 F_r0_workload_5 (Or.inr (slot_ne (Or.inr (hw _ (List.mem_of_getElem? (i := 34) rfl))) (Or.inr (hw _ (List.mem_of_getElem? (i := 38) rfl))) (by decide) (t := (.object "com/example/holdfast/holdfast/bench/Workload")) (t' := .int) (by decide) (by decide)))
  have F_r0_clients_6 := Fld.other W6 F_r0_clients_5 (Or.inr (slot_ne (Or.inr (hw _ (List.mem_of_getElem? (i := 36) rfl))) (Or.inr (hw _ (List.mem_of_getElem? (i := 38) rfl))) (by decide) (t := .int) (t' := .int) (by decide) (by decide)))
  have F_r0_seconds_6 := Fld.same W6 F_r0_seconds_5
  have F_r0_cycles_6 := Fld.other W6 F_r0_cycles_5 (Or.inr (slot_ne (Or.inr (hw _ (List.mem_of_getElem? (i := 40) rfl))) (Or.inr (hw _ (List.mem_of_getElem? (i := 38) rfl))) (by decide) (t := .long) (t' := .int) (by decide) (by decide)))
  have F_r0_p50Micros_6 := Fld.other W6 F_r0_p50Micros_5 (Or.inr (slot_ne (Or.inr (hw _ (List.mem_of_getElem? (i := 42) rfl))) (Or.inr (hw _ (List.mem_of_getElem? (i := 38) rfl))) (by decide) (t := .long) (t' := .int) (by decide) (by decide)))
  have F_r0_p99Micros_6 := Fld.other W6 F_r0_p99Micros_5 (Or.inr (slot_ne (Or.inr (hw _ (List.mem_of_getElem? (i := 44) rfl))) (Or.inr (hw _ (List.mem_of_getElem? (i := 38) rfl))) (by decide) (t := .long) (t' := .int) (by decide) (by decide)))
  have F_r0_overlaps_6 := Fld.other W6 F_r0_overlaps_5 (Or.inr (slot_ne (Or.inr (hw _ (List.mem_of_getElem? (i := 46) rfl))) (Or.inr (hw _ (List.mem_of_getElem? (i := 38) rfl))) (by decide) (t := .long) (t' := .int) (by decide) (by decide)))
  have SZ6 : h0.size ≤ h6.size := Nat.le_trans SZ5 (Nat.le_of_eq W6.size.symm)
  show Owes _ _ _ _ (T6.setTop (mkF m 25 #[.val (.ref r0), .val (.ref r1), .val (.ref r2), .val (.int p3), .val (.int p4), .val (.long q5), .second, .val (.long q6), .second, .val (.long q7), .second, .val (.long q8), .second] []))
  refine Owes.go ?_ fun t₀ k₀ => XS.aloadN X6.here hx rfl (hb hby d2_25) rfl rfl k₀
  show Owes _ _ _ _ (T6.setTop (mkF m 26 #[.val (.ref r0), .val (.ref r1), .val (.ref r2), .val (.int p3), .val (.int p4), .val (.long q5), .second, .val (.long q6), .second, .val (.long q7), .second, .val (.long q8), .second] [(.ref r0)]))
  refine Owes.go ?_ fun t₀ k₀ => XS.lload X6.here hx rfl (hb hby d2_26) rfl k₀
  show Owes _ _ _ _ (T6.setTop (mkF m 28 #[.val (.ref r0), .val (.ref r1), .val (.ref r2), .val (.int p3), .val (.int p4), .val (.long q5), .second, .val (.long q6), .second, .val (.long q7), .second, .val (.long q8), .second] [(.long q5), (.ref r0)]))
  refine Owes.putF X6 hx hZ hown (host := "") (Or.inl (hw _ (List.mem_of_getElem? (i := 39) rfl))) Via.refl e6 F_r0_cycles_6 E_r0_6 (Or.inr ⟨(hw _ (List.mem_of_getElem? (i := 40) rfl)), rfl, hnm⟩) (hw _ (List.mem_of_getElem? (i := 10) rfl)) (ty := .long) (by decide) rfl rfl (hb hby d2_28) ?_
  intro T7 h7 X7 e7 W7
  have N7 := Fr.snoc X7 N6 g0
  have E_r0_7 := Exa.wr W7 E_r0_6
  have F_r0_target_7 := Fld.other W7 F_r0_target_6 (Or.inr (slot_ne (Or.inr (hw _ (List.mem_of_getElem? (i := 32) rfl))) (Or.inr (hw _ (List.mem_of_getElem? (i := 40) rfl))) (by decide) (t := (.object "java/lang/String")) (t' := .long) (by decide) (by decide)))
  have F_r0_workload_7 := Fld.other W7 F_r0_workload_6 (Or.inr (slot_ne (Or.inr (hw _ (List.mem_of_getElem? (i := 34) rfl))) (Or.inr (hw _ (List.mem_of_getElem? (i := 40) rfl))) (by decide) (t := (.object "com/example/holdfast/holdfast/bench/Workload")) (t' := .long) (by decide) (by decide)))
  have F_r0_clients_7 := Fld.other W7 F_r0_clients_6 (Or.inr (slot_ne (Or.inr (hw _ (List.mem_of_getElem? (i := 36) rfl))) (Or.inr (hw _ (List.mem_of_getElem? (i := 40) rfl))) (by decide) (t := .int) (t' := .long) (by decide) (by decide)))
  have F_r0_seconds_7 := Fld.other W7 F_r0_seconds_6 (Or.inr (slot_ne (Or.inr (hw _ (List.mem_of_getElem? (i := 38) rfl))) (Or.inr (hw _ (List.mem_of_getElem? (i := 40) rfl))) (by decide) (t := .int) (t' := .long) (by decide) (by decide)))
  have F_r0_cycles_7 := Fld.same W7 F_r0_cycles_6
  have F_r0_p50Micros_7 := Fld.other W7 F_r0_p50Micros_6 (Or.inr (slot_ne (Or.inr (hw _ (List.mem_of_getElem? (i := 42) rfl))) (Or.inr (hw _ (List.mem_of_getElem? (i := 40) rfl))) (by decide) (t := .long) (t' := .long) (by decide) (by decide)))
  have F_r0_p99Micros_7 := Fld.other W7 F_r0_p99Micros_6 (Or.inr (slot_ne (Or.inr (hw _ (List.mem_of_getElem? (i := 44) rfl))) (Or.inr (hw _ (List.mem_of_getElem? (i := 40) rfl))) (by decide) (t := .long) (t' := .long) (by decide) (by decide)))
  have F_r0_overlaps_7 := Fld.other W7 F_r0_overlaps_6 (Or.inr (slot_ne (Or.inr (hw _ (List.mem_of_getElem? (i := 46) rfl))) (Or.inr (hw _ (List.mem_of_getElem? (i := 40) rfl))) (by decide) (t := .long) (t' := .long) (by decide) (by decide)))
  have SZ7 : h0.size ≤ h7.size := Nat.le_trans SZ6 (Nat.le_of_eq W7.size.symm)
  show Owes _ _ _ _ (T7.setTop (mkF m 31 #[.val (.ref r0), .val (.ref r1), .val (.ref r2), .val (.int p3), .val (.int p4), .val (.long q5), .second, .val (.long q6), .second, .val (.long q7), .second, .val (.long q8), .second] []))
  refine Owes.go ?_ fun t₀ k₀ => XS.aloadN X7.here hx rfl (hb hby d2_31) rfl rfl k₀
  show Owes _ _ _ _ (T7.setTop (mkF m 32 #[.val (.ref r0), .val (.ref r1), .val (.ref r2), .val (.int p3), .val (.int p4), .val (.long q5), .second, .val (.long q6), .second, .val (.long q7), .second, .val (.long q8), .second] [(.ref r0)]))
  refine Owes.go ?_ fun t₀ k₀ => XS.lload X7.here hx rfl (hb hby d2_32) rfl k₀
  show Owes _ _ _ _ (T7.setTop (mkF m 34 #[.val (.ref r0), .val (.ref r1), .val (.ref r2), .val (.int p3), .val (.int p4), .val (.long q5), .second, .val (.long q6), .second, .val (.long q7), .second, .val (.long q8), .second] [(.long q6), (.ref r0)]))
  refine Owes.putF X7 hx hZ hown (host := "") (Or.inl (hw _ (List.mem_of_getElem? (i := 41) rfl))) Via.refl e7 F_r0_p50Micros_7 E_r0_7 (Or.inr ⟨(hw _ (List.mem_of_getElem? (i := 42) rfl)), rfl, hnm⟩) (hw _ (List.mem_of_getElem? (i := 10) rfl)) (ty := .long) (by decide) rfl rfl (hb hby d2_34) ?_
  intro T8 h8 X8 e8 W8
  have N8 := Fr.snoc X8 N7 g0
  have E_r0_8 := Exa.wr W8 E_r0_7
  have F_r0_target_8 := Fld.other W8 F_r0_target_7 (Or.inr (slot_ne (Or.inr (hw _ (List.mem_of_getElem? (i := 32) rfl))) (Or.inr (hw _ (List.mem_of_getElem? (i := 42) rfl))) (by decide) (t := (.object "java/lang/String")) (t' := .long) (by decide) (by decide)))
  have F_r0_workload_8 := Fld.other W8 F_r0_workload_7 (Or.inr (slot_ne (Or.inr (hw _ (List.mem_of_getElem? (i := 34) rfl))) (Or.inr (hw _ (List.mem_of_getElem? (i := 42) rfl))) (by decide) (t := (.object "com/example/holdfast/holdfast/bench/Workload")) (t' := .long) (by decide) (by decide)))
  have F_r0_clients_8 := Fld.other W8 F_r0_clients_7 (Or.inr (slot_ne (Or.inr (hw _ (List.mem_of_getElem? (i := 36) rfl))) (Or.inr (hw _ (List.mem_of_getElem? (i := 42) rfl))) (by decide) (t := .int) (t' := .long) (by decide) (by decide)))
  have F_r0_seconds_8 := Fld.other W8 F_r0_seconds_7 (Or.inr (slot_ne (Or.inr (hw _ (List.mem_of_getElem? (i := 38) rfl))) (Or.inr (hw _ (List.mem_of_getElem? (i := 42) rfl))) (by decide) (t := .int) (t' := .long) (by decide) (by decide)))
  have F_r0_cycles_8 := Fld.other W8 F_r0_cycles_7 (Or.inr (slot_ne (Or.inr (hw _ (List.mem_of_getElem? (i := 40) rfl))) (Or.inr (hw _ (List.mem_of_getElem? (i := 42) rfl))) (by decide) (t := .long) (t' := .long) (by decide) (by decide)))
  have F_r0_p50Micros_8 := Fld.same W8 F_r0_p50Micros_7
  have F_r0_p99Micros_8 := Fld.other W8 F_r0_p99Micros_7 (Or.inr (slot_ne (Or.inr (hw _ (List.mem_of_getElem? (i := 44) rfl))) (Or.inr (hw _ (List.mem_of_getElem? (i := 42) rfl))) (by decide) (t := .long) (t' := .long) (by decide) (by decide)))
  have F_r0_overlaps_8 := Fld.other W8 F_r0_overlaps_7 (Or.inr (slot_ne (Or.inr (hw _ (List.mem_of_getElem? (i := 46) rfl))) (Or.inr (hw _ (List.mem_of_getElem? (i := 42) rfl))) (by decide) (t := .long) (t' := .long) (by decide) (by decide)))
  have SZ8 : h0.size ≤ h8.size := Nat.le_trans SZ7 (Nat.le_of_eq W8.size.symm)
  show Owes _ _ _ _ (T8.setTop (mkF m 37 #[.val (.ref r0), .val (.ref r1), .val (.ref r2), .val (.int p3), .val (.int p4), .val (.long q5), .second, .val (.long q6), .second, .val (.long q7), .second, .val (.long q8), .second] []))
  refine Owes.go ?_ fun t₀ k₀ => XS.aloadN X8.here hx rfl (hb hby d2_37) rfl rfl k₀
  show Owes _ _ _ _ (T8.setTop (mkF m 38 #[.val (.ref r0), .val (.ref r1), .val (.ref r2), .val (.int p3), .val (.int p4), .val (.long q5), .second, .val (.long q6), .second, .val (.long q7), .second, .val (.long q8), .second] [(.ref r0)]))
  refine Owes.go ?_ fun t₀ k₀ => XS.lload X8.here hx rfl (hb hby d2_38) rfl k₀
  show Owes _ _ _ _ (T8.setTop (mkF m 40 #[.val (.ref r0), .val (.ref r1), .val (.ref r2), .val (.int p3), .val (.int p4), .val (.long q5), .second, .val (.long q6), .second, .val (.long q7), .second, .val (.long q8), .second] [(.long q7), (.ref r0)]))
  refine Owes.putF X8 hx hZ hown (host := "") (Or.inl (hw _ (List.mem_of_getElem? (i := 43) rfl))) Via.refl e8 F_r0_p99Micros_8 E_r0_8 (Or.inr ⟨(hw _ (List.mem_of_getElem? (i := 44) rfl)), rfl, hnm⟩) (hw _ (List.mem_of_getElem? (i := 10) rfl)) (ty := .long) (by decide) rfl rfl (hb hby d2_40) ?_
  intro T9 h9 X9 e9 W9
  have N9 := Fr.snoc X9 N8 g0
  have E_r0_9 := Exa.wr W9 E_r0_8
  have F_r0_target_9 := Fld.other W9 F_r0_target_8 (Or.inr (slot_ne (Or.inr (hw _ (List.mem_of_getElem? (i := 32) rfl))) (Or.inr (hw _ (List.mem_of_getElem? (i := 44) rfl))) (by decide) (t := (.object "java/lang/String")) (t' := .long) (by decide) (by decide)))
  have F_r0_workload_9 := Fld.other W9 F_r0_workload_8 (Or.inr (slot_ne (Or.inr (hw _ (List.mem_of_getElem? (i := 34) rfl))) (Or.inr (hw _ (List.mem_of_getElem? (i := 44) rfl))) (by decide) (t := (.object "com/example/holdfast/holdfast/bench/Workload")) (t' := .long) (by decide) (by decide)))
  have F_r0_clients_9 := Fld.other W9 F_r0_clients_8 (Or.inr (slot_ne (Or.inr (hw _ (List.mem_of_getElem? (i := 36) rfl))) (Or.inr (hw _ (List.mem_of_getElem? (i := 44) rfl))) (by decide) (t := .int) (t' := .long) (by decide) (by decide)))
  have F_r0_seconds_9 := Fld.other W9 F_r0_seconds_8 (Or.inr (slot_ne (Or.inr (hw _ (List.mem_of_getElem? (i := 38) rfl))) (Or.inr (hw _ (List.mem_of_getElem? (i := 44) rfl))) (by decide) (t := .int) (t' := .long) (by decide) (by decide)))
  have F_r0_cycles_9 := Fld.other W9 F_r0_cycles_8 (Or.inr (slot_ne (Or.inr (hw _ (List.mem_of_getElem? (i := 40) rfl))) (Or.inr (hw _ (List.mem_of_getElem? (i := 44) rfl))) (by decide) (t := .long) (t' := .long) (by decide) (by decide)))
  have F_r0_p50Micros_9 := Fld.other W9 F_r0_p50Micros_8 (Or.inr (slot_ne (Or.inr (hw _ (List.mem_of_getElem? (i := 42) rfl))) (Or.inr (hw _ (List.mem_of_getElem? (i := 44) rfl))) (by decide) (t := .long) (t' := .long) (by decide) (by decide)))
  have F_r0_p99Micros_9 := Fld.same W9 F_r0_p99Micros_8
  have F_r0_overlaps_9 := Fld.other W9 F_r0_overlaps_8 (Or.inr (slot_ne (Or.inr (hw _ (List.mem_of_getElem? (i := 46) rfl))) (Or.inr (hw _ (List.mem_of_getElem? (i := 44) rfl))) (by decide) (t := .long) (t' := .long) (by decide) (by decide)))
  have SZ9 : h0.size ≤ h9.size := Nat.le_trans SZ8 (Nat.le_of_eq W9.size.symm)
  show Owes _ _ _ _ (T9.setTop (mkF m 43 #[.val (.ref r0), .val (.ref r1), .val (.ref r2), .val (.int p3), .val (.int p4), .val (.long q5), .second, .val (.long q6), .second, .val (.long q7), .second, .val (.long q8), .second] []))
  refine Owes.go ?_ fun t₀ k₀ => XS.aloadN X9.here hx rfl (hb hby d2_43) rfl rfl k₀
  show Owes _ _ _ _ (T9.setTop (mkF m 44 #[.val (.ref r0), .val (.ref r1), .val (.ref r2), .val (.int p3), .val (.int p4), .val (.long q5), .second, .val (.long q6), .second, .val (.long q7), .second, .val (.long q8), .second] [(.ref r0)]))
  refine Owes.go ?_ fun t₀ k₀ => XS.lload X9.here hx rfl (hb hby d2_44) rfl k₀
  show Owes _ _ _ _ (T9.setTop (mkF m 46 #[.val (.ref r0), .val (.ref r1), .val (.ref r2), .val (.int p3), .val (.int p4), .val (.long q5), .second, .val (.long q6), .second, .val (.long q7), .second, .val (.long q8), .second] [(.long q8), (.ref r0)]))
  refine Owes.putF X9 hx hZ hown (host := "") (Or.inl (hw _ (List.mem_of_getElem? (i := 45) rfl))) Via.refl e9 F_r0_overlaps_9 E_r0_9 (Or.inr ⟨(hw _ (List.mem_of_getElem? (i := 46) rfl)), rfl, hnm⟩) (hw _ (List.mem_of_getElem? (i := 10) rfl)) (ty := .long) (by decide) rfl rfl (hb hby d2_46) ?_
  intro T10 h10 X10 e10 W10
  have N10 := Fr.snoc X10 N9 g0
  have E_r0_10 := Exa.wr W10 E_r0_9
  have F_r0_target_10 := Fld.other W10 F_r0_target_9 (Or.inr (slot_ne (Or.inr (hw _ (List.mem_of_getElem? (i := 32) rfl))) (Or.inr (hw _ (List.mem_of_getElem? (i := 46) rfl))) (by decide) (t := (.object "java/lang/String")) (t' := .long) (by decide) (by decide)))
  have F_r0_workload_10 := Fld.other W10 F_r0_workload_9 (Or.inr (slot_ne (Or.inr (hw _ (List.mem_of_getElem? (i := 34) rfl))) (Or.inr (hw _ (List.mem_of_getElem? (i := 46) rfl))) (by decide) (t := (.object "com/example/holdfast/holdfast/bench/Workload")) (t' := .long) (by decide) (by decide)))
  have F_r0_clients_10 := Fld.other W10 F_r0_clients_9 (Or.inr (slot_ne (Or.inr (hw _ (List.mem_of_getElem? (i := 36) rfl))) (Or.inr (hw _ (List.mem_of_getElem? (i := 46) rfl))) (by decide) (t := .int) (t' := .long) (by decide) (by decide)))
  have F_r0_seconds_10 := Fld.other W10 F_r0_seconds_9 (Or.inr (slot_ne (Or.inr (hw _ (List.mem_of_getElem? (i := 38) rfl))) (Or.inr (hw _ (List.mem_of_getElem? (i := 46) rfl))) (by decide) (t := .int) (t' := .long) (by decide) (by decide)))
  have F_r0_cycles_10 := Fld.other W10 F_r0_cycles_9 (Or.inr (slot_ne (Or.inr (hw _ (List.mem_of_getElem? (i := 40) rfl))) (Or.inr (hw _ (List.mem_of_getElem? (i := 46) rfl))) (by decide) (t := .long) (t' := .long) (by decide) (by decide)))
  have F_r0_p50Micros_10 := Fld.other W10 F_r0_p50Micros_9 (Or.inr (slot_ne (Or.inr (hw _ (List.mem_of_getElem? (i := 42) rfl))) (Or.inr (hw _ (List.mem_of_getElem? (i := 46) rfl))) (by decide) (t := .long) (t' := .long) (by decide) (by decide)))
  have F_r0_p99Micros_10 := Fld.other W10 F_r0_p99Micros_9 (Or.inr (slot_ne (Or.inr (hw _ (List.mem_of_getElem? (i := 44) rfl))) (Or.inr (hw _ (List.mem_of_getElem? (i := 46) rfl))) (by decide) (t := .long) (t' := .long) (by decide) (by decide)))
  have F_r0_overlaps_10 := Fld.same W10 F_r0_overlaps_9
  have SZ10 : h0.size ≤ h10.size := Nat.le_trans SZ9 (Nat.le_of_eq W10.size.symm)
  show Owes _ _ _ _ (T10.setTop (mkF m 49 #[.val (.ref r0), .val (.ref r1), .val (.ref r2), .val (.int p3), .val (.int p4), .val (.long q5), .second, .val (.long q6), .second, .val (.long q7), .second, .val (.long q8), .second] []))
  exact Owes.retV X10 hx hlk hret (hb hby d2_49) (by decide) (by decide) (by rw [e10]; exact ⟨rfl, N10, SZ10, E_r0_10, F_r0_seconds_10, F_r0_cycles_10⟩)
theorem d5_0 : decode prog_21_method_2_code 0 = .ok (.ldc2_w 37, 3) := by decide +kernel
theorem d5_3 : decode prog_21_method_2_code 3 = .ok (.aload_n 0, 1) := by decide +kernel
theorem d5_4 : decode prog_21_method_2_code 4 = .ok (.getfield 24, 3) := by decide +kernel
theorem d5_7 : decode prog_21_method_2_code 7 = .ok (.lmul, 1) := by decide +kernel
theorem d5_8 : decode prog_21_method_2_code 8 = .ok (.aload_n 0, 1) := by decide +kernel
theorem d5_9 : decode prog_21_method_2_code 9 = .ok (.getfield 21, 3) := by decide +kernel
theorem d5_12 : decode prog_21_method_2_code 12 = .ok (.i2l, 1) := by decide +kernel
theorem d5_13 : decode prog_21_method_2_code 13 = .ok (.ladd, 1) := by decide +kernel
theorem d5_14 : decode prog_21_method_2_code 14 = .ok (.ldc2_w 37, 3) := by decide +kernel
theorem d5_17 : decode prog_21_method_2_code 17 = .ok (.aload_n 0, 1) := by decide +kernel
theorem d5_18 : decode prog_21_method_2_code 18 = .ok (.getfield 21, 3) := by decide +kernel
theorem d5_21 : decode prog_21_method_2_code 21 = .ok (.i2l, 1) := by decide +kernel
theorem d5_22 : decode prog_21_method_2_code 22 = .ok (.lmul, 1) := by decide +kernel
theorem d5_23 : decode prog_21_method_2_code 23 = .ok (.ldiv, 1) := by decide +kernel
theorem d5_24 : decode prog_21_method_2_code 24 = .ok (.lreturn, 1) := by decide +kernel
def f_ps  (cy : Int64) (se : Int32) : Int64 := ((((2 : Int64) * cy) + (se.toInt64)) / ((2 : Int64) * (se.toInt64)))
theorem ef_5_f_ps (m : MethodId) (r0 : Addr) : entryFrame m #[(.ref r0)] 1 = mkF m 0 #[.val (.ref r0)] [] := by first | (simp [entryFrame, mkF, argsToLocals, Value.category]; done) | rfl
theorem pn_5 : plainFor (⟨"com/example/holdfast/holdfast/bench/RunResult", "perSecond", "()J"⟩ : MethodName) = true := plainFor_of_name (by first | (simp [plainName, overriddenIn]; done) | decide +kernel)
set_option maxRecDepth 65536 in
set_option maxHeartbeats 40000000 in
theorem rm_f_ps (l : Launch) (Z : State) (a0 : Array Value) (hw : ∀ d ∈ tables_1, d.before a0 Z = true) (ws : List Jvm.Cond) (r0 : Addr) (h0 : Heap) (cy : Int64) (se : Int32) (Fc : Fld Z h0 r0 "com/example/holdfast/holdfast/bench/RunResult" "cycles" "J" (.long cy)) (Fs : Fld Z h0 r0 "com/example/holdfast/holdfast/bench/RunResult" "seconds" "I" (.int se)) (hz : ¬ ((2 : Int64) * se.toInt64 = (0 : Int64))) :
    OMet l (⟨"com/example/holdfast/holdfast/bench/RunResult", "perSecond", "()J"⟩ : MethodName) prog_21_method_2_code 1 (some .long) ws ({ frames := 0, cells := 0, slots := 0, locals := 0 } : Room) #[(.ref r0)] Z h0 (fun v h L => v = some (Value.long (f_ps cy se)) ∧ L = [] ∧ h = h0) := by
  refine OMet.of pn_5 (fun m => ef_5_f_ps m r0) ?_
  intro p e s m below meth c s₁ hx hby hml hown hnm hret hlk hZ X0 e0
  refine Owes.go ?_ fun t₀ k₀ => X0.ldc2Long hx hown (mvT hZ (hw _ (List.mem_of_getElem? (i := 53) rfl))) (g := (mkF m 0 #[.val (.ref r0)] [])) rfl (hb hby d5_0) _ k₀
  show Owes _ _ _ _ (s₁.setTop (mkF m 3 #[.val (.ref r0)] [(.long (2 : Int64))]))
  refine Owes.go ?_ fun t₀ k₀ => XS.aloadN X0.here hx rfl (hb hby d5_3) rfl rfl k₀
  show Owes _ _ _ _ (s₁.setTop (mkF m 4 #[.val (.ref r0)] [(.ref r0), (.long (2 : Int64))]))
  obtain ⟨T11, X11, e11, st11⟩ := getF X0 hx hZ hown (host := "") (Or.inl (hw _ (List.mem_of_getElem? (i := 39) rfl))) Via.refl e0 Fc (g := (mkF m 4 #[.val (.ref r0)] [(.ref r0), (.long (2 : Int64))])) rfl rfl (hb hby d5_4)
  refine Owes.go ?_ st11
  show Owes _ _ _ _ (T11.setTop (mkF m 7 #[.val (.ref r0)] [(.long cy), (.long (2 : Int64))]))
  refine Owes.go ?_ fun t₀ k₀ => XS.lmul X11.here hx rfl (hb hby d5_7) rfl k₀
  show Owes _ _ _ _ (T11.setTop (mkF m 8 #[.val (.ref r0)] [(.long ((2 : Int64) * cy))]))
  refine Owes.go ?_ fun t₀ k₀ => XS.aloadN X11.here hx rfl (hb hby d5_8) rfl rfl k₀
  show Owes _ _ _ _ (T11.setTop (mkF m 9 #[.val (.ref r0)] [(.ref r0), (.long ((2 : Int64) * cy))]))
  obtain ⟨T12, X12, e12, st12⟩ := getF X11 hx hZ hown (host := "") (Or.inl (hw _ (List.mem_of_getElem? (i := 37) rfl))) Via.refl e11 Fs (g := (mkF m 9 #[.val (.ref r0)] [(.ref r0), (.long ((2 : Int64) * cy))])) rfl rfl (hb hby d5_9)
  refine Owes.go ?_ st12
  show Owes _ _ _ _ (T12.setTop (mkF m 12 #[.val (.ref r0)] [(.int se), (.long ((2 : Int64) * cy))]))
  refine Owes.go ?_ fun t₀ k₀ => XS.i2l X12.here hx rfl (hb hby d5_12) rfl k₀
  show Owes _ _ _ _ (T12.setTop (mkF m 13 #[.val (.ref r0)] [(.long (se.toInt64)), (.long ((2 : Int64) * cy))]))
  refine Owes.go ?_ fun t₀ k₀ => XS.ladd X12.here hx rfl (hb hby d5_13) rfl k₀
  show Owes _ _ _ _ (T12.setTop (mkF m 14 #[.val (.ref r0)] [(.long (((2 : Int64) * cy) + (se.toInt64)))]))
  refine Owes.go ?_ fun t₀ k₀ => X12.ldc2Long hx hown (mvT hZ (hw _ (List.mem_of_getElem? (i := 53) rfl))) (g := (mkF m 14 #[.val (.ref r0)] [(.long (((2 : Int64) * cy) + (se.toInt64)))])) rfl (hb hby d5_14) _ k₀
  show Owes _ _ _ _ (T12.setTop (mkF m 17 #[.val (.ref r0)] [(.long (2 : Int64)), (.long (((2 : Int64) * cy) + (se.toInt64)))]))
  refine Owes.go ?_ fun t₀ k₀ => XS.aloadN X12.here hx rfl (hb hby d5_17) rfl rfl k₀
  show Owes _ _ _ _ (T12.setTop (mkF m 18 #[.val (.ref r0)] [(.ref r0), (.long (2 : Int64)), (.long (((2 : Int64) * cy) + (se.toInt64)))]))
  obtain ⟨T13, X13, e13, st13⟩ := getF X12 hx hZ hown (host := "") (Or.inl (hw _ (List.mem_of_getElem? (i := 37) rfl))) Via.refl e12 Fs (g := (mkF m 18 #[.val (.ref r0)] [(.ref r0), (.long (2 : Int64)), (.long (((2 : Int64) * cy) + (se.toInt64)))])) rfl rfl (hb hby d5_18)
  refine Owes.go ?_ st13
  show Owes _ _ _ _ (T13.setTop (mkF m 21 #[.val (.ref r0)] [(.int se), (.long (2 : Int64)), (.long (((2 : Int64) * cy) + (se.toInt64)))]))
  refine Owes.go ?_ fun t₀ k₀ => XS.i2l X13.here hx rfl (hb hby d5_21) rfl k₀
  show Owes _ _ _ _ (T13.setTop (mkF m 22 #[.val (.ref r0)] [(.long (se.toInt64)), (.long (2 : Int64)), (.long (((2 : Int64) * cy) + (se.toInt64)))]))
  refine Owes.go ?_ fun t₀ k₀ => XS.lmul X13.here hx rfl (hb hby d5_22) rfl k₀
  show Owes _ _ _ _ (T13.setTop (mkF m 23 #[.val (.ref r0)] [(.long ((2 : Int64) * (se.toInt64))), (.long (((2 : Int64) * cy) + (se.toInt64)))]))
  refine Owes.go ?_ fun t₀ k₀ => XS.ldiv X13.here hx rfl (hb hby d5_23) rfl hz k₀
  show Owes _ _ _ _ (T13.setTop (mkF m 24 #[.val (.ref r0)] [(.long ((((2 : Int64) * cy) + (se.toInt64)) / ((2 : Int64) * (se.toInt64))))]))
  exact Owes.retJ X13 hx hlk hret (hb hby d5_24) (by decide) (by decide) ⟨congrArg (fun z => some (Value.long z)) (by unfold f_ps; first | done | rfl), rfl, e13⟩
theorem own_c (q : Int64) : 0 ≤ (q &&& (2305843009213693951 : Int64)).toInt ∧ (q &&& (2305843009213693951 : Int64)).toInt < 2305843009213693952 := by
  have h := c_maskL q 2305843009213693951 61 (by decide) (by decide)
  omega
theorem own_s (p : Int32) : 1 ≤ (f_max (1 : Int32) (p &&& (2147483647 : Int32))).toInt := by
  unfold f_max
  by_cases c : (1 : Int32) < (p &&& (2147483647 : Int32))
  · rw [if_pos c]
    rw [Int32.lt_iff_toInt_lt, show (1 : Int32).toInt = 1 from rfl] at c
    omega
  · rw [if_neg c]; decide
theorem own_sl {s : Int32} (h : 1 ≤ s.toInt) : ¬ (s.toInt64 = (0 : Int64)) := fun q => by
  have h1 := c_i2l s
  rw [q, show (0 : Int64).toInt = 0 from rfl] at h1
  omega
theorem own_s2v {s : Int32} (h : 1 ≤ s.toInt) : ((2 : Int64) * s.toInt64).toInt = 2 * s.toInt := by
  have h1 := c_i2l s
  have h2 := c_lmul 2 s.toInt64
  have r := rng64 (2 * s.toInt64)
  have r1 := rng32 s
  rw [h1, show (2 : Int64).toInt = 2 from rfl] at h2
  generalize (2 * s.toInt64).toInt = v at *
  omega
theorem own_s2 {s : Int32} (h : 1 ≤ s.toInt) : ¬ ((2 : Int64) * s.toInt64 = (0 : Int64)) := fun q => by
  have h1 := own_s2v h
  rw [q, show (0 : Int64).toInt = 0 from rfl] at h1
  omega
theorem own_div (c s : Int) (hs : 1 ≤ s) : (2 * c + s) / (2 * s) = c / s + if 2 * (c % s) < s then 0 else 1 := by
  have h1 := Int.emod_add_mul_ediv c s
  have h2 := Int.emod_nonneg c (b := s) (by omega)
  have h3 := Int.emod_lt_of_pos c (b := s) (by omega)
  generalize c / s = q at *
  generalize c % s = r at *
  have e : 2 * c + s = (2 * r + s) + (2 * s) * q := by rw [← h1, Int.mul_add, Int.mul_assoc]; omega
  rw [e, Int.add_mul_ediv_left _ _ (by omega)]
  by_cases k : 2 * r < s
  · rw [if_pos k, Int.ediv_eq_zero_of_lt (by omega) (by omega)]; omega
  · rw [if_neg k, show 2 * r + s = (2 * r - s) + (2 * s) * 1 by omega, Int.add_mul_ediv_left _ _ (by omega), Int.ediv_eq_zero_of_lt (by omega) (by omega)]; omega
theorem own_ps (c : Int64) (s : Int32) (hc : 0 ≤ c.toInt ∧ c.toInt < 2305843009213693952) (hs : 1 ≤ s.toInt) : (f_ps c s).toInt = c.toInt / s.toInt + if 2 * (c.toInt % s.toInt) < s.toInt then 0 else 1 := by
  unfold f_ps
  have h1 := c_i2l s
  have h2 := c_lmul 2 c
  have r2 := rng64 (2 * c)
  have h3 := c_ladd (2 * c) s.toInt64
  have r3 := rng64 (2 * c + s.toInt64)
  have rs := rng32 s
  rw [show (2 : Int64).toInt = 2 from rfl] at h2
  rw [h1] at h3
  have h4 := own_s2v hs
  have k2 : (2 * c).toInt = 2 * c.toInt := by
    generalize (2 * c).toInt = v at *
    omega
  rw [k2] at h3
  have k3 : (2 * c + s.toInt64).toInt = 2 * c.toInt + s.toInt := by
    generalize (2 * c + s.toInt64).toInt = v at *
    omega
  have hm : (2 : Int64) * s.toInt64 ≠ -1 := fun q => by rw [q, show (-1 : Int64).toInt = -1 from rfl] at h4; omega
  rw [(c_ldiv (2 * c + s.toInt64) (2 * s.toInt64) (2 * s.toInt) h4 hm).1 (by rw [k3]; omega), k3, own_div _ _ hs]
theorem own_q (c : Int64) (s : Int32) (hc : 0 ≤ c.toInt) (hs : 1 ≤ s.toInt) : (c / s.toInt64).toInt = c.toInt / s.toInt ∧ (c - c / s.toInt64 * s.toInt64).toInt = c.toInt % s.toInt := by
  have h1 := c_i2l s
  have hm : s.toInt64 ≠ -1 := fun q => by rw [q, show (-1 : Int64).toInt = -1 from rfl] at h1; omega
  exact ⟨(c_ldiv c s.toInt64 s.toInt h1 hm).1 hc, (c_lrem c s.toInt64 s.toInt h1).1 hc⟩
theorem own_lt (c : Int64) (s : Int32) (hc : 0 ≤ c.toInt) (hs : 1 ≤ s.toInt) : ((2 : Int64) * (c - c / s.toInt64 * s.toInt64) < s.toInt64) ↔ 2 * (c.toInt % s.toInt) < s.toInt := by
  have h1 := c_i2l s
  have h2 := (own_q c s hc hs).2
  have h3 := Int.emod_nonneg c.toInt (b := s.toInt) (by omega)
  have h4 := Int.emod_lt_of_pos c.toInt (b := s.toInt) (by omega)
  have rs := rng32 s
  generalize c - c / s.toInt64 * s.toInt64 = r at *
  have h5 := c_lmul 2 r
  have r5 := rng64 (2 * r)
  rw [show (2 : Int64).toInt = 2 from rfl, h2] at h5
  rw [Int64.lt_iff_toInt_lt, h1]
  generalize c.toInt % s.toInt = m at *
  generalize (2 * r).toInt = v at *
  omega
theorem own_up (c : Int64) (s : Int32) (hc : 0 ≤ c.toInt ∧ c.toInt < 2305843009213693952) (hs : 1 ≤ s.toInt) (h : ¬ ((2 : Int64) * (c - c / s.toInt64 * s.toInt64) < s.toInt64)) : f_ps c s = (c / s.toInt64) + (1 : Int64) := by
  apply Int64.toInt_inj.mp
  have h1 := own_ps c s hc hs
  rw [if_neg (fun q => h ((own_lt c s hc.1 hs).mpr q))] at h1
  have h2 := (own_q c s hc.1 hs).1
  have h3 := c_ladd (c / s.toInt64) 1
  have r3 := rng64 (c / s.toInt64 + 1)
  rw [h2, show (1 : Int64).toInt = 1 from rfl] at h3
  have h5 := Int.ediv_nonneg (a := c.toInt) (b := s.toInt) (by omega) (by omega)
  have h6 : c.toInt / s.toInt ≤ c.toInt := Int.ediv_le_self _ hc.1
  rw [h1]
  generalize c.toInt / s.toInt = q at *
  generalize (c / s.toInt64 + 1).toInt = v at *
  omega
theorem own_dn (c : Int64) (s : Int32) (hc : 0 ≤ c.toInt ∧ c.toInt < 2305843009213693952) (hs : 1 ≤ s.toInt) (h : (2 : Int64) * (c - c / s.toInt64 * s.toInt64) < s.toInt64) : f_ps c s = (c / s.toInt64) := by
  apply Int64.toInt_inj.mp
  have h1 := own_ps c s hc hs
  rw [if_pos ((own_lt c s hc.1 hs).mp h)] at h1
  rw [h1, (own_q c s hc.1 hs).1]; omega
theorem own_wS (Z : State) (a0 : Array Value) (hw : ∀ d ∈ tables_1, d.before a0 Z = true) : ∀ a ∈ Bundle.stringAtoms, a.before a0 Z = true := by
  intro a ha
  simp only [Bundle.stringAtoms, List.mem_cons, List.not_mem_nil, or_false] at ha
  rcases ha with rfl | rfl | rfl | rfl | rfl | rfl | rfl
  all_goals first | exact hw _ (List.mem_of_getElem? (i := 13) rfl) | exact hw _ (List.mem_of_getElem? (i := 14) rfl) | exact hw _ (List.mem_of_getElem? (i := 15) rfl) | exact hw _ (List.mem_of_getElem? (i := 16) rfl) | exact hw _ (List.mem_of_getElem? (i := 17) rfl) | exact hw _ (List.mem_of_getElem? (i := 18) rfl) | exact hw _ (List.mem_of_getElem? (i := 19) rfl) | exact hw _ (List.mem_of_getElem? (i := 20) rfl) | exact hw _ (List.mem_of_getElem? (i := 21) rfl) | exact hw _ (List.mem_of_getElem? (i := 22) rfl) | exact hw _ (List.mem_of_getElem? (i := 31) rfl) | exact hw _ (List.mem_of_getElem? (i := 32) rfl)
theorem pd_1 : parseMethodDescriptor "(II)I" = some ⟨[.int, .int], some .int⟩ := by decide +kernel
theorem pd_2 : parseMethodDescriptor "(Ljava/lang/String;Lcom/example/holdfast/holdfast/bench/Workload;IIJJJJ)V" = some ⟨[(.object "java/lang/String"), (.object "com/example/holdfast/holdfast/bench/Workload"), .int, .int, .long, .long, .long, .long], none⟩ := by decide +kernel
theorem pd_3 : parseMethodDescriptor "()J" = some ⟨[], some .long⟩ := by decide +kernel
def QL (n0 : Nat) (v : Option Value) (h : Heap) (L : List Loc) : Prop := v = some (.int 1) ∧ Fr n0 L
theorem ef_0 (m : MethodId) (q0 : Int64) (p1 : Int32) (q2 : Int64) (p3 : Int32) : entryFrame m #[(.long q0), (.int p1), (.long q2), (.int p3)] maxLocals = mkF m 0 #[.val (.long q0), .second, .val (.int p1), .val (.long q2), .second, .val (.int p3), .unset, .unset, .unset, .unset, .unset, .unset, .unset, .unset, .unset, .unset, .unset, .unset] [] := by first | (simp [entryFrame, mkF, argsToLocals, Value.category, maxLocals]; done) | rfl
theorem pn_0 : plainFor (⟨"com/example/holdfast/holdfast/bench/RunResultPerSecondPinLaw", "law", "(JIJI)Z"⟩ : MethodName) = true := plainFor_of_name (by first | (simp [plainName, overriddenIn]; done) | decide +kernel)
set_option maxRecDepth 65536 in
set_option maxHeartbeats 40000000 in
theorem rm0 (l : Launch) (Z : State) (a0 : Array Value) (hw : ∀ d ∈ tables_1, d.before a0 Z = true) (ws : List Jvm.Cond) (q0 : Int64) (p1 : Int32) (q2 : Int64) (p3 : Int32) (h0 : Heap) (n0 : Nat) (Z0 : n0 ≤ h0.size) (rSOLO rCONTEND rSPREAD : Addr) (S_SOLO : Sta Z h0 "com/example/holdfast/holdfast/bench/Workload" "SOLO" "Lcom/example/holdfast/holdfast/bench/Workload;" (.ref rSOLO)) (S_CONTEND : Sta Z h0 "com/example/holdfast/holdfast/bench/Workload" "CONTEND" "Lcom/example/holdfast/holdfast/bench/Workload;" (.ref rCONTEND)) (S_SPREAD : Sta Z h0 "com/example/holdfast/holdfast/bench/Workload" "SPREAD" "Lcom/example/holdfast/holdfast/bench/Workload;" (.ref rSPREAD)) :
    OMetW l x code maxLocals ret ws room_1 #[(.long q0), (.int p1), (.long q2), (.int p3)] Z h0 (QL n0) := by
  have N0 := Fr.nil n0
  refine OMetW.of pn_0 (fun m => ef_0 m q0 p1 q2 p3) ?_
  intro p e s m below meth c s₁ hx hby hml hown hnm hret hlk hZ X0 e0 hs0
  refine Owes.go ?_ fun t₀ k₀ => XS.lloadN X0.here hx rfl (hb hby at_0) rfl k₀
  show Owes _ _ _ _ (s₁.setTop (mkF m 1 #[.val (.long q0), .second, .val (.int p1), .val (.long q2), .second, .val (.int p3), .unset, .unset, .unset, .unset, .unset, .unset, .unset, .unset, .unset, .unset, .unset, .unset] [(.long q0)]))
  refine Owes.go ?_ fun t₀ k₀ => X0.ldc2Long hx hown (mvT hZ (hw _ (List.mem_of_getElem? (i := 0) rfl))) (g := (mkF m 1 #[.val (.long q0), .second, .val (.int p1), .val (.long q2), .second, .val (.int p3), .unset, .unset, .unset, .unset, .unset, .unset, .unset, .unset, .unset, .unset, .unset, .unset] [(.long q0)])) rfl (hb hby at_1) _ k₀
  show Owes _ _ _ _ (s₁.setTop (mkF m 4 #[.val (.long q0), .second, .val (.int p1), .val (.long q2), .second, .val (.int p3), .unset, .unset, .unset, .unset, .unset, .unset, .unset, .unset, .unset, .unset, .unset, .unset] [(.long (2305843009213693951 : Int64)), (.long q0)]))
  refine Owes.go ?_ fun t₀ k₀ => XS.land X0.here hx rfl (hb hby at_4) rfl k₀
  show Owes _ _ _ _ (s₁.setTop (mkF m 5 #[.val (.long q0), .second, .val (.int p1), .val (.long q2), .second, .val (.int p3), .unset, .unset, .unset, .unset, .unset, .unset, .unset, .unset, .unset, .unset, .unset, .unset] [(.long (q0 &&& (2305843009213693951 : Int64)))]))
  refine Owes.go ?_ fun t₀ k₀ => XS.lstore X0.here hx rfl (hb hby at_5) rfl (l' := #[.val (.long q0), .second, .val (.int p1), .val (.long q2), .second, .val (.int p3), .val (.long (q0 &&& (2305843009213693951 : Int64))), .second, .unset, .unset, .unset, .unset, .unset, .unset, .unset, .unset, .unset, .unset]) rfl k₀
  show Owes _ _ _ _ (s₁.setTop (mkF m 7 #[.val (.long q0), .second, .val (.int p1), .val (.long q2), .second, .val (.int p3), .val (.long (q0 &&& (2305843009213693951 : Int64))), .second, .unset, .unset, .unset, .unset, .unset, .unset, .unset, .unset, .unset, .unset] []))
  have hcI := own_c q0
  generalize (q0 &&& (2305843009213693951 : Int64)) = cI at *
  refine Owes.go ?_ fun t₀ k₀ => XS.iconst X0.here hx rfl (hb hby at_7) k₀
  show Owes _ _ _ _ (s₁.setTop (mkF m 8 #[.val (.long q0), .second, .val (.int p1), .val (.long q2), .second, .val (.int p3), .val (.long cI), .second, .unset, .unset, .unset, .unset, .unset, .unset, .unset, .unset, .unset, .unset] [(.int (1 : Int32))]))
  refine Owes.go ?_ fun t₀ k₀ => XS.iloadN X0.here hx rfl (hb hby at_8) rfl k₀
  show Owes _ _ _ _ (s₁.setTop (mkF m 9 #[.val (.long q0), .second, .val (.int p1), .val (.long q2), .second, .val (.int p3), .val (.long cI), .second, .unset, .unset, .unset, .unset, .unset, .unset, .unset, .unset, .unset, .unset] [(.int p1), (.int (1 : Int32))]))
  refine Owes.go ?_ fun t₀ k₀ => X0.ldcInt hx hown (mvT hZ (hw _ (List.mem_of_getElem? (i := 1) rfl))) (g := (mkF m 9 #[.val (.long q0), .second, .val (.int p1), .val (.long q2), .second, .val (.int p3), .val (.long cI), .second, .unset, .unset, .unset, .unset, .unset, .unset, .unset, .unset, .unset, .unset] [(.int p1), (.int (1 : Int32))])) rfl (hb hby at_9) _ k₀
  show Owes _ _ _ _ (s₁.setTop (mkF m 11 #[.val (.long q0), .second, .val (.int p1), .val (.long q2), .second, .val (.int p3), .val (.long cI), .second, .unset, .unset, .unset, .unset, .unset, .unset, .unset, .unset, .unset, .unset] [(.int (2147483647 : Int32)), (.int p1), (.int (1 : Int32))]))
  refine Owes.go ?_ fun t₀ k₀ => XS.iand X0.here hx rfl (hb hby at_11) rfl k₀
  show Owes _ _ _ _ (s₁.setTop (mkF m 12 #[.val (.long q0), .second, .val (.int p1), .val (.long q2), .second, .val (.int p3), .val (.long cI), .second, .unset, .unset, .unset, .unset, .unset, .unset, .unset, .unset, .unset, .unset] [(.int (p1 &&& (2147483647 : Int32))), (.int (1 : Int32))]))
  refine Owes.callS X0 hx hZ hown (hw _ (List.mem_of_getElem? (i := 2) rfl)) (hw _ (List.mem_of_getElem? (i := 3) rfl)) (hw _ (List.mem_of_getElem? (i := 4) rfl)) (hw _ (List.mem_of_getElem? (i := 5) rfl)) (by decide) (argsL := [(.int (1 : Int32)), (.int (p1 &&& (2147483647 : Int32)))]) (rest := []) (rm_f_max l Z a0 hw [] (1 : Int32) (p1 &&& (2147483647 : Int32)) h0 ) e0 (by rw [hml]; rfl) pd_1 rfl rfl (hb hby at_12) (by decide) (Nat.le_of_ble_eq_true rfl) (by decide) (by decide) ?_
  rintro T14 _ _ X14 ⟨rfl, rfl, e14⟩
  rw [List.append_nil] at X14
  show Owes _ _ _ _ (T14.setTop (mkF m 15 #[.val (.long q0), .second, .val (.int p1), .val (.long q2), .second, .val (.int p3), .val (.long cI), .second, .unset, .unset, .unset, .unset, .unset, .unset, .unset, .unset, .unset, .unset] [(.int (f_max (1 : Int32) (p1 &&& (2147483647 : Int32))))]))
  refine Owes.go ?_ fun t₀ k₀ => XS.istore X14.here hx rfl (hb hby at_15) rfl (l' := #[.val (.long q0), .second, .val (.int p1), .val (.long q2), .second, .val (.int p3), .val (.long cI), .second, .val (.int (f_max (1 : Int32) (p1 &&& (2147483647 : Int32)))), .unset, .unset, .unset, .unset, .unset, .unset, .unset, .unset, .unset]) rfl k₀
  show Owes _ _ _ _ (T14.setTop (mkF m 17 #[.val (.long q0), .second, .val (.int p1), .val (.long q2), .second, .val (.int p3), .val (.long cI), .second, .val (.int (f_max (1 : Int32) (p1 &&& (2147483647 : Int32)))), .unset, .unset, .unset, .unset, .unset, .unset, .unset, .unset, .unset] []))
  have hs1 := own_s p1
  generalize (f_max (1 : Int32) (p1 &&& (2147483647 : Int32))) = sI at *
  refine Owes.go ?_ fun t₀ k₀ => XS.iload X14.here hx rfl (hb hby at_17) rfl k₀
  show Owes _ _ _ _ (T14.setTop (mkF m 19 #[.val (.long q0), .second, .val (.int p1), .val (.long q2), .second, .val (.int p3), .val (.long cI), .second, .val (.int sI), .unset, .unset, .unset, .unset, .unset, .unset, .unset, .unset, .unset] [(.int p3)]))
  refine Owes.go ?_ fun t₀ k₀ => X14.ldcInt hx hown (mvT hZ (hw _ (List.mem_of_getElem? (i := 1) rfl))) (g := (mkF m 19 #[.val (.long q0), .second, .val (.int p1), .val (.long q2), .second, .val (.int p3), .val (.long cI), .second, .val (.int sI), .unset, .unset, .unset, .unset, .unset, .unset, .unset, .unset, .unset] [(.int p3)])) rfl (hb hby at_19) _ k₀
  show Owes _ _ _ _ (T14.setTop (mkF m 21 #[.val (.long q0), .second, .val (.int p1), .val (.long q2), .second, .val (.int p3), .val (.long cI), .second, .val (.int sI), .unset, .unset, .unset, .unset, .unset, .unset, .unset, .unset, .unset] [(.int (2147483647 : Int32)), (.int p3)]))
  refine Owes.go ?_ fun t₀ k₀ => XS.iand X14.here hx rfl (hb hby at_21) rfl k₀
  show Owes _ _ _ _ (T14.setTop (mkF m 22 #[.val (.long q0), .second, .val (.int p1), .val (.long q2), .second, .val (.int p3), .val (.long cI), .second, .val (.int sI), .unset, .unset, .unset, .unset, .unset, .unset, .unset, .unset, .unset] [(.int (p3 &&& (2147483647 : Int32)))]))
  refine Owes.go ?_ fun t₀ k₀ => XS.iconst X14.here hx rfl (hb hby at_22) k₀
  show Owes _ _ _ _ (T14.setTop (mkF m 23 #[.val (.long q0), .second, .val (.int p1), .val (.long q2), .second, .val (.int p3), .val (.long cI), .second, .val (.int sI), .unset, .unset, .unset, .unset, .unset, .unset, .unset, .unset, .unset] [(.int (3 : Int32)), (.int (p3 &&& (2147483647 : Int32)))]))
  refine Owes.go ?_ fun t₀ k₀ => Jvm.RoadKit.iremM X14 hx rfl (hb hby at_23) rfl (by decide : ¬ ((3 : Int32) = (0 : Int32))) k₀
  show Owes _ _ _ _ (T14.setTop (mkF m 24 #[.val (.long q0), .second, .val (.int p1), .val (.long q2), .second, .val (.int p3), .val (.long cI), .second, .val (.int sI), .unset, .unset, .unset, .unset, .unset, .unset, .unset, .unset, .unset] [(.int ((p3 &&& (2147483647 : Int32)) % (3 : Int32)))]))
  refine Owes.go ?_ fun t₀ k₀ => XS.istore X14.here hx rfl (hb hby at_24) rfl (l' := #[.val (.long q0), .second, .val (.int p1), .val (.long q2), .second, .val (.int p3), .val (.long cI), .second, .val (.int sI), .val (.int ((p3 &&& (2147483647 : Int32)) % (3 : Int32))), .unset, .unset, .unset, .unset, .unset, .unset, .unset, .unset]) rfl k₀
  show Owes _ _ _ _ (T14.setTop (mkF m 26 #[.val (.long q0), .second, .val (.int p1), .val (.long q2), .second, .val (.int p3), .val (.long cI), .second, .val (.int sI), .val (.int ((p3 &&& (2147483647 : Int32)) % (3 : Int32))), .unset, .unset, .unset, .unset, .unset, .unset, .unset, .unset] []))
  have J58_18 : ∀ (T19 : State), Stand p l e room_1 (s.setVm s.vm) m #[(.long q0), (.int p1), (.long q2), (.int p3)] below meth c T19 [] 0 0 → T19.heap = h0 → ∀ (rw : Addr), Owes p e below (EndW s (QL n0) room_1.cells room_1.slots) (T19.setTop (mkF m 58 #[.val (.long q0), .second, .val (.int p1), .val (.long q2), .second, .val (.int p3), .val (.long cI), .second, .val (.int sI), .val (.int ((p3 &&& (2147483647 : Int32)) % (3 : Int32))), .val (.ref rw), .unset, .unset, .unset, .unset, .unset, .unset, .unset] [])) := by
    intro T19 X19 e19 rw
    refine Owes.newO X19 hx hZ hown (hw _ (List.mem_of_getElem? (i := 9) rfl)) (hw _ (List.mem_of_getElem? (i := 10) rfl)) (hw _ (List.mem_of_getElem? (i := 11) rfl)) e19 (hb hby at_58) (by decide) (by decide) ?_
    intro T20 h20 X20 e20 E20 A20 D20
    obtain ⟨ro, gro⟩ : ∃ z, z = h0.size := ⟨_, rfl⟩
    rw [← gro] at A20 ⊢
    have F_target : Fld Z h20 ro "com/example/holdfast/holdfast/bench/RunResult" "target" "Ljava/lang/String;" .null := by rw [gro]; exact D20 (Or.inr (hw _ (List.mem_of_getElem? (i := 32) rfl))) (ty := (.object "java/lang/String")) (by decide)
    have F_workload : Fld Z h20 ro "com/example/holdfast/holdfast/bench/RunResult" "workload" "Lcom/example/holdfast/holdfast/bench/Workload;" .null := by rw [gro]; exact D20 (Or.inr (hw _ (List.mem_of_getElem? (i := 34) rfl))) (ty := (.object "com/example/holdfast/holdfast/bench/Workload")) (by decide)
    have F_clients : Fld Z h20 ro "com/example/holdfast/holdfast/bench/RunResult" "clients" "I" (.int (0 : Int32)) := by rw [gro]; exact D20 (Or.inr (hw _ (List.mem_of_getElem? (i := 36) rfl))) (ty := .int) (by decide)
    have F_seconds : Fld Z h20 ro "com/example/holdfast/holdfast/bench/RunResult" "seconds" "I" (.int (0 : Int32)) := by rw [gro]; exact D20 (Or.inr (hw _ (List.mem_of_getElem? (i := 38) rfl))) (ty := .int) (by decide)
    have F_cycles : Fld Z h20 ro "com/example/holdfast/holdfast/bench/RunResult" "cycles" "J" (.long (0 : Int64)) := by rw [gro]; exact D20 (Or.inr (hw _ (List.mem_of_getElem? (i := 40) rfl))) (ty := .long) (by decide)
    have F_p50Micros : Fld Z h20 ro "com/example/holdfast/holdfast/bench/RunResult" "p50Micros" "J" (.long (0 : Int64)) := by rw [gro]; exact D20 (Or.inr (hw _ (List.mem_of_getElem? (i := 42) rfl))) (ty := .long) (by decide)
    have F_p99Micros : Fld Z h20 ro "com/example/holdfast/holdfast/bench/RunResult" "p99Micros" "J" (.long (0 : Int64)) := by rw [gro]; exact D20 (Or.inr (hw _ (List.mem_of_getElem? (i := 44) rfl))) (ty := .long) (by decide)
    have F_overlaps : Fld Z h20 ro "com/example/holdfast/holdfast/bench/RunResult" "overlaps" "J" (.long (0 : Int64)) := by rw [gro]; exact D20 (Or.inr (hw _ (List.mem_of_getElem? (i := 46) rfl))) (ty := .long) (by decide)
    have gn : n0 ≤ ro := by rw [gro]; exact Z0
    show Owes _ _ _ _ (T20.setTop (mkF m 61 #[.val (.long q0), .second, .val (.int p1), .val (.long q2), .second, .val (.int p3), .val (.long cI), .second, .val (.int sI), .val (.int ((p3 &&& (2147483647 : Int32)) % (3 : Int32))), .val (.ref rw), .unset, .unset, .unset, .unset, .unset, .unset, .unset] [(.ref ro)]))
    refine Owes.go ?_ fun t₀ k₀ => XS.dup X20.here hx rfl (hb hby at_61) rfl rfl k₀
    show Owes _ _ _ _ (T20.setTop (mkF m 62 #[.val (.long q0), .second, .val (.int p1), .val (.long q2), .second, .val (.int p3), .val (.long cI), .second, .val (.int sI), .val (.int ((p3 &&& (2147483647 : Int32)) % (3 : Int32))), .val (.ref rw), .unset, .unset, .unset, .unset, .unset, .unset, .unset] [(.ref ro), (.ref ro)]))
    refine Owes.ldcS X20 hx hZ hown (hw _ (List.mem_of_getElem? (i := 12) rfl)) (own_wS Z a0 hw) e20 (own_since s 0) (Nat.zero_le _) (hb hby at_62) (n := 4) (by decide) (by decide) (by decide) (by decide) ?_
    intro aS T21 h21 k1 X21 e21 ES hS hkS hZ hown
    show Owes _ _ _ _ (T21.setTop (mkF m 64 #[.val (.long q0), .second, .val (.int p1), .val (.long q2), .second, .val (.int p3), .val (.long cI), .second, .val (.int sI), .val (.int ((p3 &&& (2147483647 : Int32)) % (3 : Int32))), .val (.ref rw), .unset, .unset, .unset, .unset, .unset, .unset, .unset] [(.ref aS), (.ref ro), (.ref ro)]))
    refine Owes.go ?_ fun t₀ k₀ => XS.aload X21.here hx rfl (hb hby at_64) rfl rfl k₀
    show Owes _ _ _ _ (T21.setTop (mkF m 66 #[.val (.long q0), .second, .val (.int p1), .val (.long q2), .second, .val (.int p3), .val (.long cI), .second, .val (.int sI), .val (.int ((p3 &&& (2147483647 : Int32)) % (3 : Int32))), .val (.ref rw), .unset, .unset, .unset, .unset, .unset, .unset, .unset] [(.ref rw), (.ref aS), (.ref ro), (.ref ro)]))
    refine Owes.go ?_ fun t₀ k₀ => XS.iload X21.here hx rfl (hb hby at_66) rfl k₀
    show Owes _ _ _ _ (T21.setTop (mkF m 68 #[.val (.long q0), .second, .val (.int p1), .val (.long q2), .second, .val (.int p3), .val (.long cI), .second, .val (.int sI), .val (.int ((p3 &&& (2147483647 : Int32)) % (3 : Int32))), .val (.ref rw), .unset, .unset, .unset, .unset, .unset, .unset, .unset] [(.int p3), (.ref rw), (.ref aS), (.ref ro), (.ref ro)]))
    refine Owes.go ?_ fun t₀ k₀ => XS.iload X21.here hx rfl (hb hby at_68) rfl k₀
    show Owes _ _ _ _ (T21.setTop (mkF m 70 #[.val (.long q0), .second, .val (.int p1), .val (.long q2), .second, .val (.int p3), .val (.long cI), .second, .val (.int sI), .val (.int ((p3 &&& (2147483647 : Int32)) % (3 : Int32))), .val (.ref rw), .unset, .unset, .unset, .unset, .unset, .unset, .unset] [(.int sI), (.int p3), (.ref rw), (.ref aS), (.ref ro), (.ref ro)]))
    refine Owes.go ?_ fun t₀ k₀ => XS.lload X21.here hx rfl (hb hby at_70) rfl k₀
    show Owes _ _ _ _ (T21.setTop (mkF m 72 #[.val (.long q0), .second, .val (.int p1), .val (.long q2), .second, .val (.int p3), .val (.long cI), .second, .val (.int sI), .val (.int ((p3 &&& (2147483647 : Int32)) % (3 : Int32))), .val (.ref rw), .unset, .unset, .unset, .unset, .unset, .unset, .unset] [(.long cI), (.int sI), (.int p3), (.ref rw), (.ref aS), (.ref ro), (.ref ro)]))
    refine Owes.go ?_ fun t₀ k₀ => XS.lloadN X21.here hx rfl (hb hby at_72) rfl k₀
    show Owes _ _ _ _ (T21.setTop (mkF m 73 #[.val (.long q0), .second, .val (.int p1), .val (.long q2), .second, .val (.int p3), .val (.long cI), .second, .val (.int sI), .val (.int ((p3 &&& (2147483647 : Int32)) % (3 : Int32))), .val (.ref rw), .unset, .unset, .unset, .unset, .unset, .unset, .unset] [(.long q2), (.long cI), (.int sI), (.int p3), (.ref rw), (.ref aS), (.ref ro), (.ref ro)]))
    refine Owes.go ?_ fun t₀ k₀ => XS.lloadN X21.here hx rfl (hb hby at_73) rfl k₀
    show Owes _ _ _ _ (T21.setTop (mkF m 74 #[.val (.long q0), .second, .val (.int p1), .val (.long q2), .second, .val (.int p3), .val (.long cI), .second, .val (.int sI), .val (.int ((p3 &&& (2147483647 : Int32)) % (3 : Int32))), .val (.ref rw), .unset, .unset, .unset, .unset, .unset, .unset, .unset] [(.long q2), (.long q2), (.long cI), (.int sI), (.int p3), (.ref rw), (.ref aS), (.ref ro), (.ref ro)]))
    refine Owes.go ?_ fun t₀ k₀ => XS.lloadN X21.here hx rfl (hb hby at_74) rfl k₀
    show Owes _ _ _ _ (T21.setTop (mkF m 75 #[.val (.long q0), .second, .val (.int p1), .val (.long q2), .second, .val (.int p3), .val (.long cI), .second, .val (.int sI), .val (.int ((p3 &&& (2147483647 : Int32)) % (3 : Int32))), .val (.ref rw), .unset, .unset, .unset, .unset, .unset, .unset, .unset] [(.long q2), (.long q2), (.long q2), (.long cI), (.int sI), (.int p3), (.ref rw), (.ref aS), (.ref ro), (.ref ro)]))
    refine Owes.callC X21 hx hZ rfl hown (hw _ (List.mem_of_getElem? (i := 20) rfl)) (hw _ (List.mem_of_getElem? (i := 21) rfl)) (hw _ (List.mem_of_getElem? (i := 11) rfl)) (hw _ (List.mem_of_getElem? (i := 22) rfl)) (by decide) (a := ro) (argsL := [(.ref aS), (.ref rw), (.int p3), (.int sI), (.long cI), (.long q2), (.long q2), (.long q2)]) (rest := [(.ref ro)]) (rm_init l Z a0 hw [] ro aS rw p3 sI cI q2 q2 q2 h21 n0 gn (A20.ext ES) (F_target.ext ES) (F_workload.ext ES) (F_clients.ext ES) (F_seconds.ext ES) (F_cycles.ext ES) (F_p50Micros.ext ES) (F_p99Micros.ext ES) (F_overlaps.ext ES)) e21 (by rw [hml]; rfl) pd_2 rfl rfl (hb hby at_75) (by decide) (Nat.le_of_ble_eq_true rfl) (by decide) (by decide) ?_
    rintro T22 v22 L22 X22 ⟨rfl, N22, SZ22, EX, FS, FC⟩
    have NF22 := Fr.app N0 N22
    have hkE := Nat.le_trans hkS SZ22
    show Owes _ _ _ _ (T22.setTop (mkF m 78 #[.val (.long q0), .second, .val (.int p1), .val (.long q2), .second, .val (.int p3), .val (.long cI), .second, .val (.int sI), .val (.int ((p3 &&& (2147483647 : Int32)) % (3 : Int32))), .val (.ref rw), .unset, .unset, .unset, .unset, .unset, .unset, .unset] [(.ref ro)]))
    refine Owes.go ?_ fun t₀ k₀ => XS.astore X22.here hx rfl (hb hby at_78) rfl rfl (l' := #[.val (.long q0), .second, .val (.int p1), .val (.long q2), .second, .val (.int p3), .val (.long cI), .second, .val (.int sI), .val (.int ((p3 &&& (2147483647 : Int32)) % (3 : Int32))), .val (.ref rw), .val (.ref ro), .unset, .unset, .unset, .unset, .unset, .unset]) rfl k₀
    show Owes _ _ _ _ (T22.setTop (mkF m 80 #[.val (.long q0), .second, .val (.int p1), .val (.long q2), .second, .val (.int p3), .val (.long cI), .second, .val (.int sI), .val (.int ((p3 &&& (2147483647 : Int32)) % (3 : Int32))), .val (.ref rw), .val (.ref ro), .unset, .unset, .unset, .unset, .unset, .unset] []))
    refine Owes.go ?_ fun t₀ k₀ => XS.lload X22.here hx rfl (hb hby at_80) rfl k₀
    show Owes _ _ _ _ (T22.setTop (mkF m 82 #[.val (.long q0), .second, .val (.int p1), .val (.long q2), .second, .val (.int p3), .val (.long cI), .second, .val (.int sI), .val (.int ((p3 &&& (2147483647 : Int32)) % (3 : Int32))), .val (.ref rw), .val (.ref ro), .unset, .unset, .unset, .unset, .unset, .unset] [(.long cI)]))
    refine Owes.go ?_ fun t₀ k₀ => XS.iload X22.here hx rfl (hb hby at_82) rfl k₀
    show Owes _ _ _ _ (T22.setTop (mkF m 84 #[.val (.long q0), .second, .val (.int p1), .val (.long q2), .second, .val (.int p3), .val (.long cI), .second, .val (.int sI), .val (.int ((p3 &&& (2147483647 : Int32)) % (3 : Int32))), .val (.ref rw), .val (.ref ro), .unset, .unset, .unset, .unset, .unset, .unset] [(.int sI), (.long cI)]))
    refine Owes.go ?_ fun t₀ k₀ => XS.i2l X22.here hx rfl (hb hby at_84) rfl k₀
    show Owes _ _ _ _ (T22.setTop (mkF m 85 #[.val (.long q0), .second, .val (.int p1), .val (.long q2), .second, .val (.int p3), .val (.long cI), .second, .val (.int sI), .val (.int ((p3 &&& (2147483647 : Int32)) % (3 : Int32))), .val (.ref rw), .val (.ref ro), .unset, .unset, .unset, .unset, .unset, .unset] [(.long (sI.toInt64)), (.long cI)]))
    refine Owes.go ?_ fun t₀ k₀ => XS.ldiv X22.here hx rfl (hb hby at_85) rfl (own_sl hs1) k₀
    show Owes _ _ _ _ (T22.setTop (mkF m 86 #[.val (.long q0), .second, .val (.int p1), .val (.long q2), .second, .val (.int p3), .val (.long cI), .second, .val (.int sI), .val (.int ((p3 &&& (2147483647 : Int32)) % (3 : Int32))), .val (.ref rw), .val (.ref ro), .unset, .unset, .unset, .unset, .unset, .unset] [(.long (cI / (sI.toInt64)))]))
    refine Owes.go ?_ fun t₀ k₀ => XS.lstore X22.here hx rfl (hb hby at_86) rfl (l' := #[.val (.long q0), .second, .val (.int p1), .val (.long q2), .second, .val (.int p3), .val (.long cI), .second, .val (.int sI), .val (.int ((p3 &&& (2147483647 : Int32)) % (3 : Int32))), .val (.ref rw), .val (.ref ro), .val (.long (cI / (sI.toInt64))), .second, .unset, .unset, .unset, .unset]) rfl k₀
    show Owes _ _ _ _ (T22.setTop (mkF m 88 #[.val (.long q0), .second, .val (.int p1), .val (.long q2), .second, .val (.int p3), .val (.long cI), .second, .val (.int sI), .val (.int ((p3 &&& (2147483647 : Int32)) % (3 : Int32))), .val (.ref rw), .val (.ref ro), .val (.long (cI / (sI.toInt64))), .second, .unset, .unset, .unset, .unset] []))
    refine Owes.go ?_ fun t₀ k₀ => XS.lload X22.here hx rfl (hb hby at_88) rfl k₀
    show Owes _ _ _ _ (T22.setTop (mkF m 90 #[.val (.long q0), .second, .val (.int p1), .val (.long q2), .second, .val (.int p3), .val (.long cI), .second, .val (.int sI), .val (.int ((p3 &&& (2147483647 : Int32)) % (3 : Int32))), .val (.ref rw), .val (.ref ro), .val (.long (cI / (sI.toInt64))), .second, .unset, .unset, .unset, .unset] [(.long cI)]))
    refine Owes.go ?_ fun t₀ k₀ => XS.iload X22.here hx rfl (hb hby at_90) rfl k₀
    show Owes _ _ _ _ (T22.setTop (mkF m 92 #[.val (.long q0), .second, .val (.int p1), .val (.long q2), .second, .val (.int p3), .val (.long cI), .second, .val (.int sI), .val (.int ((p3 &&& (2147483647 : Int32)) % (3 : Int32))), .val (.ref rw), .val (.ref ro), .val (.long (cI / (sI.toInt64))), .second, .unset, .unset, .unset, .unset] [(.int sI), (.long cI)]))
    refine Owes.go ?_ fun t₀ k₀ => XS.i2l X22.here hx rfl (hb hby at_92) rfl k₀
    show Owes _ _ _ _ (T22.setTop (mkF m 93 #[.val (.long q0), .second, .val (.int p1), .val (.long q2), .second, .val (.int p3), .val (.long cI), .second, .val (.int sI), .val (.int ((p3 &&& (2147483647 : Int32)) % (3 : Int32))), .val (.ref rw), .val (.ref ro), .val (.long (cI / (sI.toInt64))), .second, .unset, .unset, .unset, .unset] [(.long (sI.toInt64)), (.long cI)]))
    refine Owes.go ?_ fun t₀ k₀ => XS.lrem X22.here hx rfl (hb hby at_93) rfl (own_sl hs1) k₀
    show Owes _ _ _ _ (T22.setTop (mkF m 94 #[.val (.long q0), .second, .val (.int p1), .val (.long q2), .second, .val (.int p3), .val (.long cI), .second, .val (.int sI), .val (.int ((p3 &&& (2147483647 : Int32)) % (3 : Int32))), .val (.ref rw), .val (.ref ro), .val (.long (cI / (sI.toInt64))), .second, .unset, .unset, .unset, .unset] [(.long (cI - cI / (sI.toInt64) * (sI.toInt64)))]))
    refine Owes.go ?_ fun t₀ k₀ => XS.lstore X22.here hx rfl (hb hby at_94) rfl (l' := #[.val (.long q0), .second, .val (.int p1), .val (.long q2), .second, .val (.int p3), .val (.long cI), .second, .val (.int sI), .val (.int ((p3 &&& (2147483647 : Int32)) % (3 : Int32))), .val (.ref rw), .val (.ref ro), .val (.long (cI / (sI.toInt64))), .second, .val (.long (cI - cI / (sI.toInt64) * (sI.toInt64))), .second, .unset, .unset]) rfl k₀
    show Owes _ _ _ _ (T22.setTop (mkF m 96 #[.val (.long q0), .second, .val (.int p1), .val (.long q2), .second, .val (.int p3), .val (.long cI), .second, .val (.int sI), .val (.int ((p3 &&& (2147483647 : Int32)) % (3 : Int32))), .val (.ref rw), .val (.ref ro), .val (.long (cI / (sI.toInt64))), .second, .val (.long (cI - cI / (sI.toInt64) * (sI.toInt64))), .second, .unset, .unset] []))
    refine Owes.go ?_ fun t₀ k₀ => X22.ldc2Long hx hown (mvT hZ (hw _ (List.mem_of_getElem? (i := 47) rfl))) (g := (mkF m 96 #[.val (.long q0), .second, .val (.int p1), .val (.long q2), .second, .val (.int p3), .val (.long cI), .second, .val (.int sI), .val (.int ((p3 &&& (2147483647 : Int32)) % (3 : Int32))), .val (.ref rw), .val (.ref ro), .val (.long (cI / (sI.toInt64))), .second, .val (.long (cI - cI / (sI.toInt64) * (sI.toInt64))), .second, .unset, .unset] [])) rfl (hb hby at_96) _ k₀
    show Owes _ _ _ _ (T22.setTop (mkF m 99 #[.val (.long q0), .second, .val (.int p1), .val (.long q2), .second, .val (.int p3), .val (.long cI), .second, .val (.int sI), .val (.int ((p3 &&& (2147483647 : Int32)) % (3 : Int32))), .val (.ref rw), .val (.ref ro), .val (.long (cI / (sI.toInt64))), .second, .val (.long (cI - cI / (sI.toInt64) * (sI.toInt64))), .second, .unset, .unset] [(.long (2 : Int64))]))
    refine Owes.go ?_ fun t₀ k₀ => XS.lload X22.here hx rfl (hb hby at_99) rfl k₀
    show Owes _ _ _ _ (T22.setTop (mkF m 101 #[.val (.long q0), .second, .val (.int p1), .val (.long q2), .second, .val (.int p3), .val (.long cI), .second, .val (.int sI), .val (.int ((p3 &&& (2147483647 : Int32)) % (3 : Int32))), .val (.ref rw), .val (.ref ro), .val (.long (cI / (sI.toInt64))), .second, .val (.long (cI - cI / (sI.toInt64) * (sI.toInt64))), .second, .unset, .unset] [(.long (cI - cI / (sI.toInt64) * (sI.toInt64))), (.long (2 : Int64))]))
    refine Owes.go ?_ fun t₀ k₀ => XS.lmul X22.here hx rfl (hb hby at_101) rfl k₀
    show Owes _ _ _ _ (T22.setTop (mkF m 102 #[.val (.long q0), .second, .val (.int p1), .val (.long q2), .second, .val (.int p3), .val (.long cI), .second, .val (.int sI), .val (.int ((p3 &&& (2147483647 : Int32)) % (3 : Int32))), .val (.ref rw), .val (.ref ro), .val (.long (cI / (sI.toInt64))), .second, .val (.long (cI - cI / (sI.toInt64) * (sI.toInt64))), .second, .unset, .unset] [(.long ((2 : Int64) * (cI - cI / (sI.toInt64) * (sI.toInt64))))]))
    refine Owes.go ?_ fun t₀ k₀ => XS.iload X22.here hx rfl (hb hby at_102) rfl k₀
    show Owes _ _ _ _ (T22.setTop (mkF m 104 #[.val (.long q0), .second, .val (.int p1), .val (.long q2), .second, .val (.int p3), .val (.long cI), .second, .val (.int sI), .val (.int ((p3 &&& (2147483647 : Int32)) % (3 : Int32))), .val (.ref rw), .val (.ref ro), .val (.long (cI / (sI.toInt64))), .second, .val (.long (cI - cI / (sI.toInt64) * (sI.toInt64))), .second, .unset, .unset] [(.int sI), (.long ((2 : Int64) * (cI - cI / (sI.toInt64) * (sI.toInt64))))]))
    refine Owes.go ?_ fun t₀ k₀ => XS.i2l X22.here hx rfl (hb hby at_104) rfl k₀
    show Owes _ _ _ _ (T22.setTop (mkF m 105 #[.val (.long q0), .second, .val (.int p1), .val (.long q2), .second, .val (.int p3), .val (.long cI), .second, .val (.int sI), .val (.int ((p3 &&& (2147483647 : Int32)) % (3 : Int32))), .val (.ref rw), .val (.ref ro), .val (.long (cI / (sI.toInt64))), .second, .val (.long (cI - cI / (sI.toInt64) * (sI.toInt64))), .second, .unset, .unset] [(.long (sI.toInt64)), (.long ((2 : Int64) * (cI - cI / (sI.toInt64) * (sI.toInt64))))]))
    refine Owes.go ?_ fun t₀ k₀ => XS.lcmp X22.here hx rfl (hb hby at_105) rfl k₀
    show Owes _ _ _ _ (T22.setTop (mkF m 106 #[.val (.long q0), .second, .val (.int p1), .val (.long q2), .second, .val (.int p3), .val (.long cI), .second, .val (.int sI), .val (.int ((p3 &&& (2147483647 : Int32)) % (3 : Int32))), .val (.ref rw), .val (.ref ro), .val (.long (cI / (sI.toInt64))), .second, .val (.long (cI - cI / (sI.toInt64) * (sI.toInt64))), .second, .unset, .unset] [(.int (lcmpW ((2 : Int64) * (cI - cI / (sI.toInt64) * (sI.toInt64))) (sI.toInt64)))]))
    by_cases hc1 : ((2 : Int64) * (cI - cI / (sI.toInt64) * (sI.toInt64))) < (sI.toInt64)
    · skip
      refine Owes.go ?_ fun t₀ k₀ => XS.ifYes X22.here hx rfl (pc0 := 106) (pc' := 116) rfl (hb hby at_106) rfl ((if0 _ _).trans (tlt ((lw_lt _ _).mpr hc1)).1) (by decide) (by decide) k₀
      show Owes _ _ _ _ (T22.setTop (mkF m 116 #[.val (.long q0), .second, .val (.int p1), .val (.long q2), .second, .val (.int p3), .val (.long cI), .second, .val (.int sI), .val (.int ((p3 &&& (2147483647 : Int32)) % (3 : Int32))), .val (.ref rw), .val (.ref ro), .val (.long (cI / (sI.toInt64))), .second, .val (.long (cI - cI / (sI.toInt64) * (sI.toInt64))), .second, .unset, .unset] []))
      refine Owes.go ?_ fun t₀ k₀ => XS.lload X22.here hx rfl (hb hby at_116) rfl k₀
      show Owes _ _ _ _ (T22.setTop (mkF m 118 #[.val (.long q0), .second, .val (.int p1), .val (.long q2), .second, .val (.int p3), .val (.long cI), .second, .val (.int sI), .val (.int ((p3 &&& (2147483647 : Int32)) % (3 : Int32))), .val (.ref rw), .val (.ref ro), .val (.long (cI / (sI.toInt64))), .second, .val (.long (cI - cI / (sI.toInt64) * (sI.toInt64))), .second, .unset, .unset] [(.long (cI / (sI.toInt64)))]))
      refine Owes.go ?_ fun t₀ k₀ => XS.lstore X22.here hx rfl (hb hby at_118) rfl (l' := #[.val (.long q0), .second, .val (.int p1), .val (.long q2), .second, .val (.int p3), .val (.long cI), .second, .val (.int sI), .val (.int ((p3 &&& (2147483647 : Int32)) % (3 : Int32))), .val (.ref rw), .val (.ref ro), .val (.long (cI / (sI.toInt64))), .second, .val (.long (cI - cI / (sI.toInt64) * (sI.toInt64))), .second, .val (.long (cI / (sI.toInt64))), .second]) rfl k₀
      show Owes _ _ _ _ (T22.setTop (mkF m 120 #[.val (.long q0), .second, .val (.int p1), .val (.long q2), .second, .val (.int p3), .val (.long cI), .second, .val (.int sI), .val (.int ((p3 &&& (2147483647 : Int32)) % (3 : Int32))), .val (.ref rw), .val (.ref ro), .val (.long (cI / (sI.toInt64))), .second, .val (.long (cI - cI / (sI.toInt64) * (sI.toInt64))), .second, .val (.long (cI / (sI.toInt64))), .second] []))
      refine Owes.go ?_ fun t₀ k₀ => XS.aload X22.here hx rfl (hb hby at_120) rfl rfl k₀
      show Owes _ _ _ _ (T22.setTop (mkF m 122 #[.val (.long q0), .second, .val (.int p1), .val (.long q2), .second, .val (.int p3), .val (.long cI), .second, .val (.int sI), .val (.int ((p3 &&& (2147483647 : Int32)) % (3 : Int32))), .val (.ref rw), .val (.ref ro), .val (.long (cI / (sI.toInt64))), .second, .val (.long (cI - cI / (sI.toInt64) * (sI.toInt64))), .second, .val (.long (cI / (sI.toInt64))), .second] [(.ref ro)]))
      refine Owes.callV X22 hx hZ hown (hw _ (List.mem_of_getElem? (i := 48) rfl)) (hw _ (List.mem_of_getElem? (i := 49) rfl)) (notFace_of_selects (args := #[]) (mvT hZ (hw _ (List.mem_of_getElem? (i := 51) rfl)))) (hw _ (List.mem_of_getElem? (i := 51) rfl)) (hw _ (List.mem_of_getElem? (i := 50) rfl)) (hw _ (List.mem_of_getElem? (i := 11) rfl)) (hw _ (List.mem_of_getElem? (i := 52) rfl)) (by decide) (a := ro) (argsL := []) (rest := []) (rm_f_ps l Z a0 hw [] ro T22.heap cI sI FC FS (own_s2 hs1)) rfl EX (by rw [hml]; rfl) pd_3 rfl rfl (hb hby at_122) (by decide) (Nat.le_of_ble_eq_true rfl) (by decide) (by decide) ?_
      rintro T23 _ _ X23 ⟨rfl, rfl, e23⟩
      rw [List.append_nil] at X23
      show Owes _ _ _ _ (T23.setTop (mkF m 125 #[.val (.long q0), .second, .val (.int p1), .val (.long q2), .second, .val (.int p3), .val (.long cI), .second, .val (.int sI), .val (.int ((p3 &&& (2147483647 : Int32)) % (3 : Int32))), .val (.ref rw), .val (.ref ro), .val (.long (cI / (sI.toInt64))), .second, .val (.long (cI - cI / (sI.toInt64) * (sI.toInt64))), .second, .val (.long (cI / (sI.toInt64))), .second] [(.long (f_ps cI sI))]))
      refine Owes.go ?_ fun t₀ k₀ => XS.lload X23.here hx rfl (hb hby at_125) rfl k₀
      show Owes _ _ _ _ (T23.setTop (mkF m 127 #[.val (.long q0), .second, .val (.int p1), .val (.long q2), .second, .val (.int p3), .val (.long cI), .second, .val (.int sI), .val (.int ((p3 &&& (2147483647 : Int32)) % (3 : Int32))), .val (.ref rw), .val (.ref ro), .val (.long (cI / (sI.toInt64))), .second, .val (.long (cI - cI / (sI.toInt64) * (sI.toInt64))), .second, .val (.long (cI / (sI.toInt64))), .second] [(.long (cI / (sI.toInt64))), (.long (f_ps cI sI))]))
      refine Owes.go ?_ fun t₀ k₀ => XS.lcmp X23.here hx rfl (hb hby at_127) rfl k₀
      show Owes _ _ _ _ (T23.setTop (mkF m 128 #[.val (.long q0), .second, .val (.int p1), .val (.long q2), .second, .val (.int p3), .val (.long cI), .second, .val (.int sI), .val (.int ((p3 &&& (2147483647 : Int32)) % (3 : Int32))), .val (.ref rw), .val (.ref ro), .val (.long (cI / (sI.toInt64))), .second, .val (.long (cI - cI / (sI.toInt64) * (sI.toInt64))), .second, .val (.long (cI / (sI.toInt64))), .second] [(.int (lcmpW (f_ps cI sI) (cI / (sI.toInt64))))]))
      refine Owes.go ?_ fun t₀ k₀ => XS.ifNo X23.here hx rfl (hb hby at_128) rfl ((if0 _ _).trans (teq ((lw_eq _ _).mpr (own_dn cI sI hcI hs1 hc1))).2) k₀
      show Owes _ _ _ _ (T23.setTop (mkF m 131 #[.val (.long q0), .second, .val (.int p1), .val (.long q2), .second, .val (.int p3), .val (.long cI), .second, .val (.int sI), .val (.int ((p3 &&& (2147483647 : Int32)) % (3 : Int32))), .val (.ref rw), .val (.ref ro), .val (.long (cI / (sI.toInt64))), .second, .val (.long (cI - cI / (sI.toInt64) * (sI.toInt64))), .second, .val (.long (cI / (sI.toInt64))), .second] []))
      refine Owes.go ?_ fun t₀ k₀ => XS.iconst X23.here hx rfl (hb hby at_131) k₀
      show Owes _ _ _ _ (T23.setTop (mkF m 132 #[.val (.long q0), .second, .val (.int p1), .val (.long q2), .second, .val (.int p3), .val (.long cI), .second, .val (.int sI), .val (.int ((p3 &&& (2147483647 : Int32)) % (3 : Int32))), .val (.ref rw), .val (.ref ro), .val (.long (cI / (sI.toInt64))), .second, .val (.long (cI - cI / (sI.toInt64) * (sI.toInt64))), .second, .val (.long (cI / (sI.toInt64))), .second] [(.int (1 : Int32))]))
      refine Owes.go ?_ fun t₀ k₀ => XS.goto X23.here hx rfl (pc0 := 132) (pc' := 136) rfl (hb hby at_132) (by decide) (by decide) k₀
      show Owes _ _ _ _ (T23.setTop (mkF m 136 #[.val (.long q0), .second, .val (.int p1), .val (.long q2), .second, .val (.int p3), .val (.long cI), .second, .val (.int sI), .val (.int ((p3 &&& (2147483647 : Int32)) % (3 : Int32))), .val (.ref rw), .val (.ref ro), .val (.long (cI / (sI.toInt64))), .second, .val (.long (cI - cI / (sI.toInt64) * (sI.toInt64))), .second, .val (.long (cI / (sI.toInt64))), .second] [(.int (1 : Int32))]))
      exact Owes.retNW X23 hS (by rw [e23]; exact hkE) hx hlk hret (by simp) (hb hby at_136) (by decide) (by decide) ⟨rfl, NF22⟩
    · skip
      refine Owes.go ?_ fun t₀ k₀ => XS.ifNo X22.here hx rfl (hb hby at_106) rfl ((if0 _ _).trans (flt (fun q => hc1 ((lw_lt _ _).mp q))).1) k₀
      show Owes _ _ _ _ (T22.setTop (mkF m 109 #[.val (.long q0), .second, .val (.int p1), .val (.long q2), .second, .val (.int p3), .val (.long cI), .second, .val (.int sI), .val (.int ((p3 &&& (2147483647 : Int32)) % (3 : Int32))), .val (.ref rw), .val (.ref ro), .val (.long (cI / (sI.toInt64))), .second, .val (.long (cI - cI / (sI.toInt64) * (sI.toInt64))), .second, .unset, .unset] []))
      refine Owes.go ?_ fun t₀ k₀ => XS.lload X22.here hx rfl (hb hby at_109) rfl k₀
      show Owes _ _ _ _ (T22.setTop (mkF m 111 #[.val (.long q0), .second, .val (.int p1), .val (.long q2), .second, .val (.int p3), .val (.long cI), .second, .val (.int sI), .val (.int ((p3 &&& (2147483647 : Int32)) % (3 : Int32))), .val (.ref rw), .val (.ref ro), .val (.long (cI / (sI.toInt64))), .second, .val (.long (cI - cI / (sI.toInt64) * (sI.toInt64))), .second, .unset, .unset] [(.long (cI / (sI.toInt64)))]))
      refine Owes.go ?_ fun t₀ k₀ => XS.lconst X22.here hx rfl (hb hby at_111) k₀
      show Owes _ _ _ _ (T22.setTop (mkF m 112 #[.val (.long q0), .second, .val (.int p1), .val (.long q2), .second, .val (.int p3), .val (.long cI), .second, .val (.int sI), .val (.int ((p3 &&& (2147483647 : Int32)) % (3 : Int32))), .val (.ref rw), .val (.ref ro), .val (.long (cI / (sI.toInt64))), .second, .val (.long (cI - cI / (sI.toInt64) * (sI.toInt64))), .second, .unset, .unset] [(.long (1 : Int64)), (.long (cI / (sI.toInt64)))]))
      refine Owes.go ?_ fun t₀ k₀ => XS.ladd X22.here hx rfl (hb hby at_112) rfl k₀
      show Owes _ _ _ _ (T22.setTop (mkF m 113 #[.val (.long q0), .second, .val (.int p1), .val (.long q2), .second, .val (.int p3), .val (.long cI), .second, .val (.int sI), .val (.int ((p3 &&& (2147483647 : Int32)) % (3 : Int32))), .val (.ref rw), .val (.ref ro), .val (.long (cI / (sI.toInt64))), .second, .val (.long (cI - cI / (sI.toInt64) * (sI.toInt64))), .second, .unset, .unset] [(.long ((cI / (sI.toInt64)) + (1 : Int64)))]))
      refine Owes.go ?_ fun t₀ k₀ => XS.goto X22.here hx rfl (pc0 := 113) (pc' := 118) rfl (hb hby at_113) (by decide) (by decide) k₀
      show Owes _ _ _ _ (T22.setTop (mkF m 118 #[.val (.long q0), .second, .val (.int p1), .val (.long q2), .second, .val (.int p3), .val (.long cI), .second, .val (.int sI), .val (.int ((p3 &&& (2147483647 : Int32)) % (3 : Int32))), .val (.ref rw), .val (.ref ro), .val (.long (cI / (sI.toInt64))), .second, .val (.long (cI - cI / (sI.toInt64) * (sI.toInt64))), .second, .unset, .unset] [(.long ((cI / (sI.toInt64)) + (1 : Int64)))]))
      refine Owes.go ?_ fun t₀ k₀ => XS.lstore X22.here hx rfl (hb hby at_118) rfl (l' := #[.val (.long q0), .second, .val (.int p1), .val (.long q2), .second, .val (.int p3), .val (.long cI), .second, .val (.int sI), .val (.int ((p3 &&& (2147483647 : Int32)) % (3 : Int32))), .val (.ref rw), .val (.ref ro), .val (.long (cI / (sI.toInt64))), .second, .val (.long (cI - cI / (sI.toInt64) * (sI.toInt64))), .second, .val (.long ((cI / (sI.toInt64)) + (1 : Int64))), .second]) rfl k₀
      show Owes _ _ _ _ (T22.setTop (mkF m 120 #[.val (.long q0), .second, .val (.int p1), .val (.long q2), .second, .val (.int p3), .val (.long cI), .second, .val (.int sI), .val (.int ((p3 &&& (2147483647 : Int32)) % (3 : Int32))), .val (.ref rw), .val (.ref ro), .val (.long (cI / (sI.toInt64))), .second, .val (.long (cI - cI / (sI.toInt64) * (sI.toInt64))), .second, .val (.long ((cI / (sI.toInt64)) + (1 : Int64))), .second] []))
      refine Owes.go ?_ fun t₀ k₀ => XS.aload X22.here hx rfl (hb hby at_120) rfl rfl k₀
      show Owes _ _ _ _ (T22.setTop (mkF m 122 #[.val (.long q0), .second, .val (.int p1), .val (.long q2), .second, .val (.int p3), .val (.long cI), .second, .val (.int sI), .val (.int ((p3 &&& (2147483647 : Int32)) % (3 : Int32))), .val (.ref rw), .val (.ref ro), .val (.long (cI / (sI.toInt64))), .second, .val (.long (cI - cI / (sI.toInt64) * (sI.toInt64))), .second, .val (.long ((cI / (sI.toInt64)) + (1 : Int64))), .second] [(.ref ro)]))
      refine Owes.callV X22 hx hZ hown (hw _ (List.mem_of_getElem? (i := 48) rfl)) (hw _ (List.mem_of_getElem? (i := 49) rfl)) (notFace_of_selects (args := #[]) (mvT hZ (hw _ (List.mem_of_getElem? (i := 51) rfl)))) (hw _ (List.mem_of_getElem? (i := 51) rfl)) (hw _ (List.mem_of_getElem? (i := 50) rfl)) (hw _ (List.mem_of_getElem? (i := 11) rfl)) (hw _ (List.mem_of_getElem? (i := 52) rfl)) (by decide) (a := ro) (argsL := []) (rest := []) (rm_f_ps l Z a0 hw [] ro T22.heap cI sI FC FS (own_s2 hs1)) rfl EX (by rw [hml]; rfl) pd_3 rfl rfl (hb hby at_122) (by decide) (Nat.le_of_ble_eq_true rfl) (by decide) (by decide) ?_
      rintro T24 _ _ X24 ⟨rfl, rfl, e24⟩
      rw [List.append_nil] at X24
      show Owes _ _ _ _ (T24.setTop (mkF m 125 #[.val (.long q0), .second, .val (.int p1), .val (.long q2), .second, .val (.int p3), .val (.long cI), .second, .val (.int sI), .val (.int ((p3 &&& (2147483647 : Int32)) % (3 : Int32))), .val (.ref rw), .val (.ref ro), .val (.long (cI / (sI.toInt64))), .second, .val (.long (cI - cI / (sI.toInt64) * (sI.toInt64))), .second, .val (.long ((cI / (sI.toInt64)) + (1 : Int64))), .second] [(.long (f_ps cI sI))]))
      refine Owes.go ?_ fun t₀ k₀ => XS.lload X24.here hx rfl (hb hby at_125) rfl k₀
      show Owes _ _ _ _ (T24.setTop (mkF m 127 #[.val (.long q0), .second, .val (.int p1), .val (.long q2), .second, .val (.int p3), .val (.long cI), .second, .val (.int sI), .val (.int ((p3 &&& (2147483647 : Int32)) % (3 : Int32))), .val (.ref rw), .val (.ref ro), .val (.long (cI / (sI.toInt64))), .second, .val (.long (cI - cI / (sI.toInt64) * (sI.toInt64))), .second, .val (.long ((cI / (sI.toInt64)) + (1 : Int64))), .second] [(.long ((cI / (sI.toInt64)) + (1 : Int64))), (.long (f_ps cI sI))]))
      refine Owes.go ?_ fun t₀ k₀ => XS.lcmp X24.here hx rfl (hb hby at_127) rfl k₀
      show Owes _ _ _ _ (T24.setTop (mkF m 128 #[.val (.long q0), .second, .val (.int p1), .val (.long q2), .second, .val (.int p3), .val (.long cI), .second, .val (.int sI), .val (.int ((p3 &&& (2147483647 : Int32)) % (3 : Int32))), .val (.ref rw), .val (.ref ro), .val (.long (cI / (sI.toInt64))), .second, .val (.long (cI - cI / (sI.toInt64) * (sI.toInt64))), .second, .val (.long ((cI / (sI.toInt64)) + (1 : Int64))), .second] [(.int (lcmpW (f_ps cI sI) ((cI / (sI.toInt64)) + (1 : Int64))))]))
      refine Owes.go ?_ fun t₀ k₀ => XS.ifNo X24.here hx rfl (hb hby at_128) rfl ((if0 _ _).trans (teq ((lw_eq _ _).mpr (own_up cI sI hcI hs1 hc1))).2) k₀
      show Owes _ _ _ _ (T24.setTop (mkF m 131 #[.val (.long q0), .second, .val (.int p1), .val (.long q2), .second, .val (.int p3), .val (.long cI), .second, .val (.int sI), .val (.int ((p3 &&& (2147483647 : Int32)) % (3 : Int32))), .val (.ref rw), .val (.ref ro), .val (.long (cI / (sI.toInt64))), .second, .val (.long (cI - cI / (sI.toInt64) * (sI.toInt64))), .second, .val (.long ((cI / (sI.toInt64)) + (1 : Int64))), .second] []))
      refine Owes.go ?_ fun t₀ k₀ => XS.iconst X24.here hx rfl (hb hby at_131) k₀
      show Owes _ _ _ _ (T24.setTop (mkF m 132 #[.val (.long q0), .second, .val (.int p1), .val (.long q2), .second, .val (.int p3), .val (.long cI), .second, .val (.int sI), .val (.int ((p3 &&& (2147483647 : Int32)) % (3 : Int32))), .val (.ref rw), .val (.ref ro), .val (.long (cI / (sI.toInt64))), .second, .val (.long (cI - cI / (sI.toInt64) * (sI.toInt64))), .second, .val (.long ((cI / (sI.toInt64)) + (1 : Int64))), .second] [(.int (1 : Int32))]))
      refine Owes.go ?_ fun t₀ k₀ => XS.goto X24.here hx rfl (pc0 := 132) (pc' := 136) rfl (hb hby at_132) (by decide) (by decide) k₀
      show Owes _ _ _ _ (T24.setTop (mkF m 136 #[.val (.long q0), .second, .val (.int p1), .val (.long q2), .second, .val (.int p3), .val (.long cI), .second, .val (.int sI), .val (.int ((p3 &&& (2147483647 : Int32)) % (3 : Int32))), .val (.ref rw), .val (.ref ro), .val (.long (cI / (sI.toInt64))), .second, .val (.long (cI - cI / (sI.toInt64) * (sI.toInt64))), .second, .val (.long ((cI / (sI.toInt64)) + (1 : Int64))), .second] [(.int (1 : Int32))]))
      exact Owes.retNW X24 hS (by rw [e24]; exact hkE) hx hlk hret (by simp) (hb hby at_136) (by decide) (by decide) ⟨rfl, NF22⟩
  refine Owes.go ?_ fun t₀ k₀ => XS.iload X14.here hx rfl (hb hby at_26) rfl k₀
  show Owes _ _ _ _ (T14.setTop (mkF m 28 #[.val (.long q0), .second, .val (.int p1), .val (.long q2), .second, .val (.int p3), .val (.long cI), .second, .val (.int sI), .val (.int ((p3 &&& (2147483647 : Int32)) % (3 : Int32))), .unset, .unset, .unset, .unset, .unset, .unset, .unset, .unset] [(.int ((p3 &&& (2147483647 : Int32)) % (3 : Int32)))]))
  by_cases hc2 : ((p3 &&& (2147483647 : Int32)) % (3 : Int32)) = (0 : Int32)
  · skip
    refine Owes.go ?_ fun t₀ k₀ => XS.ifNo X14.here hx rfl (hb hby at_28) rfl ((if0 _ _).trans (teq hc2).2) k₀
    show Owes _ _ _ _ (T14.setTop (mkF m 31 #[.val (.long q0), .second, .val (.int p1), .val (.long q2), .second, .val (.int p3), .val (.long cI), .second, .val (.int sI), .val (.int ((p3 &&& (2147483647 : Int32)) % (3 : Int32))), .unset, .unset, .unset, .unset, .unset, .unset, .unset, .unset] []))
    obtain ⟨T25, X25, e25, st25⟩ := getS2 X14 hx hZ hown (host := "") (Or.inl (hw _ (List.mem_of_getElem? (i := 6) rfl))) Via.refl e14 S_SOLO (g := (mkF m 31 #[.val (.long q0), .second, .val (.int p1), .val (.long q2), .second, .val (.int p3), .val (.long cI), .second, .val (.int sI), .val (.int ((p3 &&& (2147483647 : Int32)) % (3 : Int32))), .unset, .unset, .unset, .unset, .unset, .unset, .unset, .unset] [])) rfl (hb hby at_31)
    refine Owes.go ?_ st25
    show Owes _ _ _ _ (T25.setTop (mkF m 34 #[.val (.long q0), .second, .val (.int p1), .val (.long q2), .second, .val (.int p3), .val (.long cI), .second, .val (.int sI), .val (.int ((p3 &&& (2147483647 : Int32)) % (3 : Int32))), .unset, .unset, .unset, .unset, .unset, .unset, .unset, .unset] [(.ref rSOLO)]))
    refine Owes.go ?_ fun t₀ k₀ => XS.astore X25.here hx rfl (hb hby at_34) rfl rfl (l' := #[.val (.long q0), .second, .val (.int p1), .val (.long q2), .second, .val (.int p3), .val (.long cI), .second, .val (.int sI), .val (.int ((p3 &&& (2147483647 : Int32)) % (3 : Int32))), .val (.ref rSOLO), .unset, .unset, .unset, .unset, .unset, .unset, .unset]) rfl k₀
    show Owes _ _ _ _ (T25.setTop (mkF m 36 #[.val (.long q0), .second, .val (.int p1), .val (.long q2), .second, .val (.int p3), .val (.long cI), .second, .val (.int sI), .val (.int ((p3 &&& (2147483647 : Int32)) % (3 : Int32))), .val (.ref rSOLO), .unset, .unset, .unset, .unset, .unset, .unset, .unset] []))
    refine Owes.go ?_ fun t₀ k₀ => XS.goto X25.here hx rfl (pc0 := 36) (pc' := 58) rfl (hb hby at_36) (by decide) (by decide) k₀
    show Owes _ _ _ _ (T25.setTop (mkF m 58 #[.val (.long q0), .second, .val (.int p1), .val (.long q2), .second, .val (.int p3), .val (.long cI), .second, .val (.int sI), .val (.int ((p3 &&& (2147483647 : Int32)) % (3 : Int32))), .val (.ref rSOLO), .unset, .unset, .unset, .unset, .unset, .unset, .unset] []))
    exact J58_18 T25 X25 e25 rSOLO
  · skip
    refine Owes.go ?_ fun t₀ k₀ => XS.ifYes X14.here hx rfl (pc0 := 28) (pc' := 39) rfl (hb hby at_28) rfl ((if0 _ _).trans (feq hc2).2) (by decide) (by decide) k₀
    show Owes _ _ _ _ (T14.setTop (mkF m 39 #[.val (.long q0), .second, .val (.int p1), .val (.long q2), .second, .val (.int p3), .val (.long cI), .second, .val (.int sI), .val (.int ((p3 &&& (2147483647 : Int32)) % (3 : Int32))), .unset, .unset, .unset, .unset, .unset, .unset, .unset, .unset] []))
    refine Owes.go ?_ fun t₀ k₀ => XS.iload X14.here hx rfl (hb hby at_39) rfl k₀
    show Owes _ _ _ _ (T14.setTop (mkF m 41 #[.val (.long q0), .second, .val (.int p1), .val (.long q2), .second, .val (.int p3), .val (.long cI), .second, .val (.int sI), .val (.int ((p3 &&& (2147483647 : Int32)) % (3 : Int32))), .unset, .unset, .unset, .unset, .unset, .unset, .unset, .unset] [(.int ((p3 &&& (2147483647 : Int32)) % (3 : Int32)))]))
    refine Owes.go ?_ fun t₀ k₀ => XS.iconst X14.here hx rfl (hb hby at_41) k₀
    show Owes _ _ _ _ (T14.setTop (mkF m 42 #[.val (.long q0), .second, .val (.int p1), .val (.long q2), .second, .val (.int p3), .val (.long cI), .second, .val (.int sI), .val (.int ((p3 &&& (2147483647 : Int32)) % (3 : Int32))), .unset, .unset, .unset, .unset, .unset, .unset, .unset, .unset] [(.int (1 : Int32)), (.int ((p3 &&& (2147483647 : Int32)) % (3 : Int32)))]))
    by_cases hc3 : ((p3 &&& (2147483647 : Int32)) % (3 : Int32)) = (1 : Int32)
    · skip
      refine Owes.go ?_ fun t₀ k₀ => XS.icmpNo X14.here hx rfl (hb hby at_42) rfl (teq hc3).2 k₀
      show Owes _ _ _ _ (T14.setTop (mkF m 45 #[.val (.long q0), .second, .val (.int p1), .val (.long q2), .second, .val (.int p3), .val (.long cI), .second, .val (.int sI), .val (.int ((p3 &&& (2147483647 : Int32)) % (3 : Int32))), .unset, .unset, .unset, .unset, .unset, .unset, .unset, .unset] []))
      obtain ⟨T26, X26, e26, st26⟩ := getS2 X14 hx hZ hown (host := "") (Or.inl (hw _ (List.mem_of_getElem? (i := 56) rfl))) Via.refl e14 S_CONTEND (g := (mkF m 45 #[.val (.long q0), .second, .val (.int p1), .val (.long q2), .second, .val (.int p3), .val (.long cI), .second, .val (.int sI), .val (.int ((p3 &&& (2147483647 : Int32)) % (3 : Int32))), .unset, .unset, .unset, .unset, .unset, .unset, .unset, .unset] [])) rfl (hb hby at_45)
      refine Owes.go ?_ st26
      show Owes _ _ _ _ (T26.setTop (mkF m 48 #[.val (.long q0), .second, .val (.int p1), .val (.long q2), .second, .val (.int p3), .val (.long cI), .second, .val (.int sI), .val (.int ((p3 &&& (2147483647 : Int32)) % (3 : Int32))), .unset, .unset, .unset, .unset, .unset, .unset, .unset, .unset] [(.ref rCONTEND)]))
      refine Owes.go ?_ fun t₀ k₀ => XS.astore X26.here hx rfl (hb hby at_48) rfl rfl (l' := #[.val (.long q0), .second, .val (.int p1), .val (.long q2), .second, .val (.int p3), .val (.long cI), .second, .val (.int sI), .val (.int ((p3 &&& (2147483647 : Int32)) % (3 : Int32))), .val (.ref rCONTEND), .unset, .unset, .unset, .unset, .unset, .unset, .unset]) rfl k₀
      show Owes _ _ _ _ (T26.setTop (mkF m 50 #[.val (.long q0), .second, .val (.int p1), .val (.long q2), .second, .val (.int p3), .val (.long cI), .second, .val (.int sI), .val (.int ((p3 &&& (2147483647 : Int32)) % (3 : Int32))), .val (.ref rCONTEND), .unset, .unset, .unset, .unset, .unset, .unset, .unset] []))
      refine Owes.go ?_ fun t₀ k₀ => XS.goto X26.here hx rfl (pc0 := 50) (pc' := 58) rfl (hb hby at_50) (by decide) (by decide) k₀
      show Owes _ _ _ _ (T26.setTop (mkF m 58 #[.val (.long q0), .second, .val (.int p1), .val (.long q2), .second, .val (.int p3), .val (.long cI), .second, .val (.int sI), .val (.int ((p3 &&& (2147483647 : Int32)) % (3 : Int32))), .val (.ref rCONTEND), .unset, .unset, .unset, .unset, .unset, .unset, .unset] []))
      exact J58_18 T26 X26 e26 rCONTEND
    · skip
      refine Owes.go ?_ fun t₀ k₀ => XS.icmpYes X14.here hx rfl (pc0 := 42) (pc' := 53) rfl (hb hby at_42) rfl (feq hc3).2 (by decide) (by decide) k₀
      show Owes _ _ _ _ (T14.setTop (mkF m 53 #[.val (.long q0), .second, .val (.int p1), .val (.long q2), .second, .val (.int p3), .val (.long cI), .second, .val (.int sI), .val (.int ((p3 &&& (2147483647 : Int32)) % (3 : Int32))), .unset, .unset, .unset, .unset, .unset, .unset, .unset, .unset] []))
      obtain ⟨T27, X27, e27, st27⟩ := getS2 X14 hx hZ hown (host := "") (Or.inl (hw _ (List.mem_of_getElem? (i := 54) rfl))) Via.refl e14 S_SPREAD (g := (mkF m 53 #[.val (.long q0), .second, .val (.int p1), .val (.long q2), .second, .val (.int p3), .val (.long cI), .second, .val (.int sI), .val (.int ((p3 &&& (2147483647 : Int32)) % (3 : Int32))), .unset, .unset, .unset, .unset, .unset, .unset, .unset, .unset] [])) rfl (hb hby at_53)
      refine Owes.go ?_ st27
      show Owes _ _ _ _ (T27.setTop (mkF m 56 #[.val (.long q0), .second, .val (.int p1), .val (.long q2), .second, .val (.int p3), .val (.long cI), .second, .val (.int sI), .val (.int ((p3 &&& (2147483647 : Int32)) % (3 : Int32))), .unset, .unset, .unset, .unset, .unset, .unset, .unset, .unset] [(.ref rSPREAD)]))
      refine Owes.go ?_ fun t₀ k₀ => XS.astore X27.here hx rfl (hb hby at_56) rfl rfl (l' := #[.val (.long q0), .second, .val (.int p1), .val (.long q2), .second, .val (.int p3), .val (.long cI), .second, .val (.int sI), .val (.int ((p3 &&& (2147483647 : Int32)) % (3 : Int32))), .val (.ref rSPREAD), .unset, .unset, .unset, .unset, .unset, .unset, .unset]) rfl k₀
      show Owes _ _ _ _ (T27.setTop (mkF m 58 #[.val (.long q0), .second, .val (.int p1), .val (.long q2), .second, .val (.int p3), .val (.long cI), .second, .val (.int sI), .val (.int ((p3 &&& (2147483647 : Int32)) % (3 : Int32))), .val (.ref rSPREAD), .unset, .unset, .unset, .unset, .unset, .unset, .unset] []))
      exact J58_18 T27 X27 e27 rSPREAD
set_option maxRecDepth 65536 in
set_option maxHeartbeats 40000000 in
theorem comes_1 {Post : Tables → Env → Array Value → State → Outcome → State → Prop} (hpost : ∀ tb e args s v u, (limb_1_1.after args s (.returned v) u = true ∧ limb_1_2.after args s (.returned v) u = true ∧ True) → ReturnedEndW s (.returned v) u (Jvm.fieldLocs frame_1_writes args s ++ Jvm.arrayLocs frame_1_arrays args s ++ Jvm.staticLocs frame_1_statics s) 16 1152 → Post tb e args s (.returned v) u) :
    ArmFor flags0 classFile x code maxLocals ret World_1 tables_1 room_1 Calls_1 rest_1 Pre_1 Post := by
  intro l hfl _ _ p e ha hc hk s m args below hf hA hF happ hP
  obtain ⟨hcalls, hrest, hpre⟩ := hP
  obtain ⟨-, -, -, hnamed, -, -, -, hat⟩ := (Spec.applies_iff hf).mp happ
  obtain ⟨hg, hn⟩ := and_e (Cond.before_iff.mp (show (Jvm.Cond.and given_1 narrow_1).before args s = true from hpre))
  obtain ⟨g1, g2⟩ := and_e hg
  obtain ⟨g3, g4⟩ := and_e g2
  obtain ⟨g5, g6⟩ := and_e g4
  obtain ⟨g7, g8⟩ := and_e g6
  obtain ⟨w0, w1, w2, w3, rfl⟩ : ∃ w0 w1 w2 w3 : Value, args = #[w0, w1, w2, w3] := by
    have hs : args.size = 4 := by simpa [Cond.value, given_1] using g1
    obtain ⟨L⟩ := args
    match L, hs with
    | [w0, w1, w2, w3], _ => exact ⟨w0, w1, w2, w3, rfl⟩
  have hw := fun d (hd : d ∈ tables_1) => atoms_spec (ws := Jvm.Cond.code x code maxLocals ret :: tables_1) hat d (List.mem_cons_of_mem _ hd)
  have hfit : Fit s := fun {y c} hc i hi => by
    obtain ⟨ha, rfl⟩ := Array.getElem?_eq_some_iff.mp hc
    have q := List.all_eq_true.mp ((Array.all_eq_true_iff_forall_mem.mp hF) _ (Array.getElem_mem ha)) i (List.mem_range.mpr hi)
    simpa [Array.getElem?_eq_getElem hi] using q
  obtain ⟨i0, ei0⟩ := isL_v g3
  obtain rfl : w0 = (.long i0) := Option.some.inj ei0
  obtain ⟨i1, ei1⟩ := is_v g5
  obtain rfl : w1 = (.int i1) := Option.some.inj ei1
  obtain ⟨i2, ei2⟩ := isL_v g7
  obtain rfl : w2 = (.long i2) := Option.some.inj ei2
  obtain ⟨i3, ei3⟩ := is_v g8
  obtain rfl : w3 = (.int i3) := Option.some.inj ei3
  obtain ⟨n1, n'⟩ := and_e hn
  obtain ⟨n2, n3⟩ := and_e n'
  obtain ⟨r1, e1⟩ := exa_v n1
  obtain ⟨r2, e2⟩ := exa_v n2
  obtain ⟨r3, e3⟩ := exa_v n3
  have S1 := Sta.start e1 (Or.inr ⟨(hw _ (List.mem_of_getElem? (i := 7) rfl)), (hw _ (List.mem_of_getElem? (i := 8) rfl))⟩)
  have S2 := Sta.start e2 (Or.inr ⟨(hw _ (List.mem_of_getElem? (i := 7) rfl)), (hw _ (List.mem_of_getElem? (i := 55) rfl))⟩)
  have S3 := Sta.start e3 (Or.inr ⟨(hw _ (List.mem_of_getElem? (i := 7) rfl)), (hw _ (List.mem_of_getElem? (i := 57) rfl))⟩)
  obtain ⟨n, o, h1, h2, h3, _, L, rfl, ⟨rfl, N⟩, hq⟩ := rm0 l s _ hw tables_1 i0 i1 i2 i3 s.heap s.heap.size (Nat.le_refl _) r1 r3 r2 S1 S3 S2 p e ha hc hk s m _ below hf ((Spec.applies_iff_loose hf).mp happ).1 ⟨rfl, State.Warmed39.refl s, rfl⟩ trivial
  refine ⟨n, _, h1, h2, h3, hpost _ _ _ _ _ _ ⟨Cond.after_iff.mpr rfl, Cond.after_iff.mpr (eq_i res_at (Term.int_eval (1)) rfl), trivial⟩ ⟨hq.1, hq.2.1, hq.2.2.1, (hq.2.2.2.sift fun y hy => Or.inr (N y hy)).mono (by decide) (by decide)⟩⟩
theorem main_1_1 : Claimed_1_1 := comes_1 fun _ _ _ _ _ _ h hF => ⟨h.1, hF⟩
theorem main_1_2 : Claimed_1_2 := comes_1 fun _ _ _ _ _ _ h hF => ⟨h.2.1, hF⟩
end Jvm.Pilot.@@N@@
namespace Jvm.Pilot.@@N@@
open Jvm Jvm.ClassFile Sem Op Lib Jvm.Free Jvm.Stand Jvm.Pilot.@@N@@.Jvm.D
/-! MADE BY PROGRAM (witnessworld.py) out of the Statement's table words and the real class files: 18 classes; the members and pool entries that the words name. The judged class is class 1, her method 1. -/
namespace start1
open Jvm.ClassFile
def u (s : String) : CpInfo := .utf8 (stringToUtf16 s)
/-- a pool by its gaps: so many unusable entries, then the entry; so many at the end -/
def gap : Nat → List CpInfo → List CpInfo
  | 0, r => r
  | n + 1, r => .unusable :: gap n r
def poolList (es : List (Nat × CpInfo)) (last : Nat) : List CpInfo := es.foldr (fun e r => gap e.1 (e.2 :: r)) (gap last [])
def pool (es : List (Nat × CpInfo)) (last : Nat) : Array CpInfo := ⟨poolList es last⟩
def fileOf (pool : Array CpInfo) (this : Nat) (attrs : Array Attribute := #[]) (ms : Array MethodInfo := #[]) (fl : Nat := 33) (sup : Nat := 0) (ifs : Array Nat := #[]) (fds : Array FieldInfo := #[]) : ClassFile where
  minorVersion := 0
  majorVersion := 65
  constantPool := pool
  accessFlags := fl
  thisClass := this
  superClass := sup
  interfaces := ifs
  fields := fds
  methods := ms
  attributes := attrs
def plain (name : String) (sup : Option ClassId) : Class where
  name := name
  kind := .ordinary
  loader := none
  accessFlags := 33
  super := sup
  interfaces := #[]
  cf := none
  fields := #[]
  methods := #[]
  instanceTypes := #[]
  staticTypes := #[]
  resolved := #[]
  callSites := []
  init := .initialized
  statics := none
  mirror := none

def pool0 : Array CpInfo := pool [(5, u "<init>"), (0, u "()V"), (1, .class_ 10), (1, u "java/lang/Object")] 113

def k0c0 : Code := { maxStack := 0, maxLocals := 1, code := object_method_1_code, exceptionTable := #[], attributes := #[] }
def k0m0 : Method := { name := "<init>", desc := "()V", sig := { parameters := [], returnType := none }, accessFlags := 1, code := some k0c0 }
/-- java/lang/Object -/
def k0 : Class := { plain "java/lang/Object" none with
  accessFlags := 33
  interfaces := #[]
  cf := some (fileOf pool0 8 #[] #[{ accessFlags := 1, nameIndex := 5, descriptorIndex := 6, attributes := #[] }] 33 0 #[] #[])
  fields := #[]
  methods := #[k0m0]
  instanceTypes := #[]
  staticTypes := #[]
  resolved := Array.replicate 124 none
  statics := none }

def pool1 : Array CpInfo := pool [(2, .class_ 4), (1, u "java/lang/Object"), (0, u "<init>"), (0, u "()V"), (0, .long 2305843009213693951), (1, .integer 2147483647), (0, .methodref 11 12), (0, .class_ 13), (0, .nameAndType 14 15), (0, u "java/lang/Math"), (0, u "max"), (0, u "(II)I"), (0, .fieldref 17 18), (0, .class_ 19), (0, .nameAndType 20 21), (0, u "com/example/holdfast/holdfast/bench/Workload"), (0, u "SOLO"), (0, u "Lcom/example/holdfast/holdfast/bench/Workload;"), (0, .fieldref 17 23), (0, .nameAndType 24 21), (0, u "CONTEND"), (0, .fieldref 17 26), (0, .nameAndType 27 21), (0, u "SPREAD"), (0, .class_ 29), (0, u "com/example/holdfast/holdfast/bench/RunResult"), (0, .string 31), (0, u "t"), (0, .methodref 28 33), (0, .nameAndType 5 34), (0, u "(Ljava/lang/String;Lcom/example/holdfast/holdfast/bench/Workload;IIJJJJ)V"), (0, .long 2), (1, .methodref 28 38), (0, .nameAndType 39 40), (0, u "perSecond"), (0, u "()J"), (0, .class_ 42), (0, u "com/example/holdfast/holdfast/bench/RunResultPerSecondPinLaw"), (2, u "law"), (0, u "(JIJI)Z")] 3

def k1m0 : Method := { name := "<init>", desc := "()V", sig := { parameters := [], returnType := none }, accessFlags := 1, code := none }
def k1c1 : Code := { maxStack := 14, maxLocals := 18, code := code, exceptionTable := #[], attributes := #[] }
def k1m1 : Method := { name := "law", desc := "(JIJI)Z", sig := { parameters := [.long, .int, .long, .int], returnType := some .boolean }, accessFlags := 9, code := some k1c1 }
/-- com/example/holdfast/holdfast/bench/RunResultPerSecondPinLaw -/
def k1 : Class := { plain "com/example/holdfast/holdfast/bench/RunResultPerSecondPinLaw" (some 0) with
  accessFlags := 49
  interfaces := #[]
  cf := some (fileOf pool1 41 #[] #[{ accessFlags := 1, nameIndex := 5, descriptorIndex := 6, attributes := #[] }, { accessFlags := 9, nameIndex := 45, descriptorIndex := 46, attributes := #[] }] 49 2 #[] #[])
  fields := #[]
  methods := #[k1m0, k1m1]
  instanceTypes := #[]
  staticTypes := #[]
  resolved := Array.replicate 50 none
  statics := none }

def pool2 : Array CpInfo := pool [(1, .class_ 2), (0, u "java/lang/Math"), (1, .class_ 6), (1, u "java/lang/Object"), (0, u "<init>"), (0, u "()V"), (89, .class_ 100), (1, u "java/lang/Math$RandomNumberGeneratorHolder"), (71, u "negativeZeroFloatBits"), (0, u "J"), (2, u "negativeZeroDoubleBits"), (21, u "max"), (46, u "$assertionsDisabled"), (0, u "Z"), (88, u "(II)I"), (2, u "twoToTheDoubleScaleDown"), (0, u "D"), (4, u "twoToTheDoubleScaleUp"), (9, u "E"), (3, u "PI"), (2, u "TAU"), (2, u "DEGREES_TO_RADIANS"), (0, u "RADIANS_TO_DEGREES")] 94

def k2m0 : Method := { name := "<init>", desc := "()V", sig := { parameters := [], returnType := none }, accessFlags := 2, code := none }
def k2c1 : Code := { maxStack := 2, maxLocals := 2, code := jdk_29_method_65_code, exceptionTable := #[], attributes := #[] }
def k2m1 : Method := { name := "max", desc := "(II)I", sig := { parameters := [.int, .int], returnType := some .int }, accessFlags := 9, code := some k2c1 }
/-- java/lang/Math -/
def k2 : Class := { plain "java/lang/Math" (some 0) with
  accessFlags := 49
  interfaces := #[]
  cf := some (fileOf pool2 1 #[.nestMembers #[98]] #[{ accessFlags := 2, nameIndex := 7, descriptorIndex := 8, attributes := #[] }, { accessFlags := 9, nameIndex := 198, descriptorIndex := 335, attributes := #[] }] 49 4 #[] #[{ accessFlags := 25, nameIndex := 354, descriptorIndex := 339, attributes := #[] }, { accessFlags := 25, nameIndex := 358, descriptorIndex := 339, attributes := #[] }, { accessFlags := 25, nameIndex := 361, descriptorIndex := 339, attributes := #[] }, { accessFlags := 26, nameIndex := 364, descriptorIndex := 339, attributes := #[] }, { accessFlags := 26, nameIndex := 365, descriptorIndex := 339, attributes := #[] }, { accessFlags := 26, nameIndex := 172, descriptorIndex := 173, attributes := #[] }, { accessFlags := 26, nameIndex := 176, descriptorIndex := 173, attributes := #[] }, { accessFlags := 8, nameIndex := 344, descriptorIndex := 339, attributes := #[] }, { accessFlags := 8, nameIndex := 338, descriptorIndex := 339, attributes := #[] }, { accessFlags := 4120, nameIndex := 245, descriptorIndex := 246, attributes := #[] }])
  fields := #[{ name := "E", type := .double, accessFlags := 25, slot := 0, constantValue := 0 }, { name := "PI", type := .double, accessFlags := 25, slot := 1, constantValue := 0 }, { name := "TAU", type := .double, accessFlags := 25, slot := 2, constantValue := 0 }, { name := "DEGREES_TO_RADIANS", type := .double, accessFlags := 26, slot := 3, constantValue := 0 }, { name := "RADIANS_TO_DEGREES", type := .double, accessFlags := 26, slot := 4, constantValue := 0 }, { name := "negativeZeroFloatBits", type := .long, accessFlags := 26, slot := 5, constantValue := 0 }, { name := "negativeZeroDoubleBits", type := .long, accessFlags := 26, slot := 6, constantValue := 0 }, { name := "twoToTheDoubleScaleUp", type := .double, accessFlags := 8, slot := 7, constantValue := 0 }, { name := "twoToTheDoubleScaleDown", type := .double, accessFlags := 8, slot := 8, constantValue := 0 }, { name := "$assertionsDisabled", type := .boolean, accessFlags := 4120, slot := 9, constantValue := 0 }]
  methods := #[k2m0, k2m1]
  instanceTypes := #[]
  staticTypes := #[.double, .double, .double, .double, .double, .long, .long, .double, .double, .boolean]
  resolved := Array.replicate 460 none
  statics := none }

def pool3 : Array CpInfo := pool [(1, .class_ 2), (0, u "java/lang/constant/Constable"), (0, .class_ 4), (0, u "java/lang/Object")] 6

/-- java/lang/constant/Constable -/
def k3 : Class := { plain "java/lang/constant/Constable" (some 0) with
  accessFlags := 1537
  interfaces := #[]
  cf := some (fileOf pool3 1 #[] #[] 1537 3 #[] #[])
  fields := #[]
  methods := #[]
  instanceTypes := #[]
  staticTypes := #[]
  resolved := Array.replicate 11 none
  statics := none }

def pool4 : Array CpInfo := pool [(1, .class_ 2), (0, u "java/lang/Comparable"), (0, .class_ 4), (0, u "java/lang/Object")] 7

/-- java/lang/Comparable -/
def k4 : Class := { plain "java/lang/Comparable" (some 0) with
  accessFlags := 1537
  interfaces := #[]
  cf := some (fileOf pool4 1 #[] #[] 1537 3 #[] #[])
  fields := #[]
  methods := #[]
  instanceTypes := #[]
  staticTypes := #[]
  resolved := Array.replicate 12 none
  statics := none }

def pool5 : Array CpInfo := pool [(1, .class_ 2), (0, u "java/io/Serializable"), (0, .class_ 4), (0, u "java/lang/Object")] 2

/-- java/io/Serializable -/
def k5 : Class := { plain "java/io/Serializable" (some 0) with
  accessFlags := 1537
  interfaces := #[]
  cf := some (fileOf pool5 1 #[] #[] 1537 3 #[] #[])
  fields := #[]
  methods := #[]
  instanceTypes := #[]
  staticTypes := #[]
  resolved := Array.replicate 7 none
  statics := none }

def pool6 : Array CpInfo := pool [(2, .class_ 4), (1, u "java/lang/Enum"), (0, u "name"), (0, u "Ljava/lang/String;"), (2, u "ordinal"), (0, u "I"), (1, .class_ 14), (1, u "java/lang/Object"), (4, u "hash"), (86, .class_ 108), (1, u "java/lang/Enum$EnumDesc"), (2, .class_ 112), (0, u "java/lang/constant/Constable"), (0, .class_ 114), (0, u "java/lang/Comparable"), (0, .class_ 116), (0, u "java/io/Serializable")] 87

/-- java/lang/Enum -/
def k6 : Class := { plain "java/lang/Enum" (some 0) with
  accessFlags := 1057
  interfaces := #[3, 4, 5]
  cf := some (fileOf pool6 2 #[.nestMembers #[106]] #[] 1057 12 #[111, 113, 115] #[{ accessFlags := 18, nameIndex := 5, descriptorIndex := 6, attributes := #[] }, { accessFlags := 18, nameIndex := 9, descriptorIndex := 10, attributes := #[] }, { accessFlags := 2, nameIndex := 19, descriptorIndex := 10, attributes := #[] }])
  fields := #[{ name := "name", type := (.object "java/lang/String"), accessFlags := 18, slot := 0, constantValue := 0 }, { name := "ordinal", type := .int, accessFlags := 18, slot := 1, constantValue := 0 }, { name := "hash", type := .int, accessFlags := 2, slot := 2, constantValue := 0 }]
  methods := #[]
  instanceTypes := #[(.object "java/lang/String"), .int, .int]
  staticTypes := #[]
  resolved := Array.replicate 204 none
  statics := none }

def pool7 : Array CpInfo := pool [(1, .class_ 2), (0, u "com/example/holdfast/holdfast/bench/Workload"), (2, u "SOLO"), (0, u "Lcom/example/holdfast/holdfast/bench/Workload;"), (2, u "CONTEND"), (2, u "SPREAD"), (2, u "$VALUES"), (0, u "[Lcom/example/holdfast/holdfast/bench/Workload;"), (6, .class_ 25), (1, u "java/lang/Enum"), (8, u "defaultClients"), (0, u "I"), (2, u "takesClients"), (0, u "Z")] 83

/-- com/example/holdfast/holdfast/bench/Workload -/
def k7 : Class := { plain "com/example/holdfast/holdfast/bench/Workload" (some 6) with
  accessFlags := 16433
  interfaces := #[]
  cf := some (fileOf pool7 1 #[] #[] 16433 23 #[] #[{ accessFlags := 16409, nameIndex := 5, descriptorIndex := 6, attributes := #[] }, { accessFlags := 16409, nameIndex := 9, descriptorIndex := 6, attributes := #[] }, { accessFlags := 16409, nameIndex := 12, descriptorIndex := 6, attributes := #[] }, { accessFlags := 18, nameIndex := 34, descriptorIndex := 35, attributes := #[] }, { accessFlags := 18, nameIndex := 38, descriptorIndex := 39, attributes := #[] }, { accessFlags := 4122, nameIndex := 15, descriptorIndex := 16, attributes := #[] }])
  fields := #[{ name := "SOLO", type := (.object "com/example/holdfast/holdfast/bench/Workload"), accessFlags := 16409, slot := 0, constantValue := 0 }, { name := "CONTEND", type := (.object "com/example/holdfast/holdfast/bench/Workload"), accessFlags := 16409, slot := 1, constantValue := 0 }, { name := "SPREAD", type := (.object "com/example/holdfast/holdfast/bench/Workload"), accessFlags := 16409, slot := 2, constantValue := 0 }, { name := "defaultClients", type := .int, accessFlags := 18, slot := 3, constantValue := 0 }, { name := "takesClients", type := .boolean, accessFlags := 18, slot := 4, constantValue := 0 }, { name := "$VALUES", type := (.array (.object "com/example/holdfast/holdfast/bench/Workload")), accessFlags := 4122, slot := 3, constantValue := 0 }]
  methods := #[]
  instanceTypes := #[(.object "java/lang/String"), .int, .int, .int, .boolean]
  staticTypes := #[(.object "com/example/holdfast/holdfast/bench/Workload"), (.object "com/example/holdfast/holdfast/bench/Workload"), (.object "com/example/holdfast/holdfast/bench/Workload"), (.array (.object "com/example/holdfast/holdfast/bench/Workload"))]
  resolved := Array.replicate 123 none
  statics := some 0 }

def pool8 : Array CpInfo := pool [(1, .methodref 2 3), (0, .class_ 4), (0, .nameAndType 5 6), (0, u "java/lang/Object"), (0, u "<init>"), (0, u "()V"), (0, .class_ 8), (0, u "java/lang/Record")] 13

def k8c0 : Code := { maxStack := 1, maxLocals := 1, code := jdk_30_method_1_code, exceptionTable := #[], attributes := #[] }
def k8m0 : Method := { name := "<init>", desc := "()V", sig := { parameters := [], returnType := none }, accessFlags := 4, code := some k8c0 }
/-- java/lang/Record -/
def k8 : Class := { plain "java/lang/Record" (some 0) with
  accessFlags := 1057
  interfaces := #[]
  cf := some (fileOf pool8 7 #[] #[{ accessFlags := 4, nameIndex := 5, descriptorIndex := 6, attributes := #[] }] 1057 2 #[] #[])
  fields := #[]
  methods := #[k8m0]
  instanceTypes := #[]
  staticTypes := #[]
  resolved := Array.replicate 22 none
  statics := none }

def pool9 : Array CpInfo := pool [(1, .methodref 2 3), (0, .class_ 4), (0, .nameAndType 5 6), (0, u "java/lang/Record"), (0, u "<init>"), (0, u "()V"), (0, .fieldref 8 9), (0, .class_ 10), (0, .nameAndType 11 12), (0, u "com/example/holdfast/holdfast/bench/RunResult"), (0, u "target"), (0, u "Ljava/lang/String;"), (0, .fieldref 8 14), (0, .nameAndType 15 16), (0, u "workload"), (0, u "Lcom/example/holdfast/holdfast/bench/Workload;"), (0, .fieldref 8 18), (0, .nameAndType 19 20), (0, u "clients"), (0, u "I"), (0, .fieldref 8 22), (0, .nameAndType 23 20), (0, u "seconds"), (0, .fieldref 8 25), (0, .nameAndType 26 27), (0, u "cycles"), (0, u "J"), (0, .fieldref 8 29), (0, .nameAndType 30 27), (0, u "p50Micros"), (0, .fieldref 8 32), (0, .nameAndType 33 27), (0, u "p99Micros"), (0, .fieldref 8 35), (0, .nameAndType 36 27), (0, u "overlaps"), (0, .long 2), (9, u "perSecond"), (0, u "()J"), (16, u "(Ljava/lang/String;Lcom/example/holdfast/holdfast/bench/Workload;IIJJJJ)V")] 43

def k9c0 : Code := { maxStack := 3, maxLocals := 13, code := prog_21_method_1_code, exceptionTable := #[], attributes := #[] }
def k9m0 : Method := { name := "<init>", desc := "(Ljava/lang/String;Lcom/example/holdfast/holdfast/bench/Workload;IIJJJJ)V", sig := { parameters := [(.object "java/lang/String"), (.object "com/example/holdfast/holdfast/bench/Workload"), .int, .int, .long, .long, .long, .long], returnType := none }, accessFlags := 0, code := some k9c0 }
def k9c1 : Code := { maxStack := 6, maxLocals := 1, code := prog_21_method_2_code, exceptionTable := #[], attributes := #[] }
def k9m1 : Method := { name := "perSecond", desc := "()J", sig := { parameters := [], returnType := some .long }, accessFlags := 0, code := some k9c1 }
/-- com/example/holdfast/holdfast/bench/RunResult -/
def k9 : Class := { plain "com/example/holdfast/holdfast/bench/RunResult" (some 8) with
  accessFlags := 48
  interfaces := #[]
  cf := some (fileOf pool9 8 #[] #[{ accessFlags := 0, nameIndex := 5, descriptorIndex := 65, attributes := #[] }, { accessFlags := 0, nameIndex := 47, descriptorIndex := 48, attributes := #[] }] 48 2 #[] #[{ accessFlags := 18, nameIndex := 11, descriptorIndex := 12, attributes := #[] }, { accessFlags := 18, nameIndex := 15, descriptorIndex := 16, attributes := #[] }, { accessFlags := 18, nameIndex := 19, descriptorIndex := 20, attributes := #[] }, { accessFlags := 18, nameIndex := 23, descriptorIndex := 20, attributes := #[] }, { accessFlags := 18, nameIndex := 26, descriptorIndex := 27, attributes := #[] }, { accessFlags := 18, nameIndex := 30, descriptorIndex := 27, attributes := #[] }, { accessFlags := 18, nameIndex := 33, descriptorIndex := 27, attributes := #[] }, { accessFlags := 18, nameIndex := 36, descriptorIndex := 27, attributes := #[] }])
  fields := #[{ name := "target", type := (.object "java/lang/String"), accessFlags := 18, slot := 0, constantValue := 0 }, { name := "workload", type := (.object "com/example/holdfast/holdfast/bench/Workload"), accessFlags := 18, slot := 1, constantValue := 0 }, { name := "clients", type := .int, accessFlags := 18, slot := 2, constantValue := 0 }, { name := "seconds", type := .int, accessFlags := 18, slot := 3, constantValue := 0 }, { name := "cycles", type := .long, accessFlags := 18, slot := 4, constantValue := 0 }, { name := "p50Micros", type := .long, accessFlags := 18, slot := 5, constantValue := 0 }, { name := "p99Micros", type := .long, accessFlags := 18, slot := 6, constantValue := 0 }, { name := "overlaps", type := .long, accessFlags := 18, slot := 7, constantValue := 0 }]
  methods := #[k9m0, k9m1]
  instanceTypes := #[(.object "java/lang/String"), (.object "com/example/holdfast/holdfast/bench/Workload"), .int, .int, .long, .long, .long, .long]
  staticTypes := #[]
  resolved := Array.replicate 109 none
  statics := none }

def pool10 : Array CpInfo := pool [(2, .class_ 4), (1, u "java/lang/CharSequence"), (42, .class_ 48), (0, u "java/lang/CharSequence$1CodePointIterator"), (10, .class_ 60), (0, u "java/lang/CharSequence$1CharIterator"), (5, .class_ 67), (0, u "java/lang/Object")] 63

/-- java/lang/CharSequence -/
def k10 : Class := { plain "java/lang/CharSequence" (some 0) with
  accessFlags := 1537
  interfaces := #[]
  cf := some (fileOf pool10 2 #[.nestMembers #[47, 59]] #[] 1537 66 #[] #[])
  fields := #[]
  methods := #[]
  instanceTypes := #[]
  staticTypes := #[]
  resolved := Array.replicate 131 none
  statics := none }

def pool11 : Array CpInfo := pool [(1, .class_ 2), (0, u "java/lang/constant/ConstantDesc"), (0, .class_ 4), (0, u "java/lang/Object")] 32

/-- java/lang/constant/ConstantDesc -/
def k11 : Class := { plain "java/lang/constant/ConstantDesc" (some 0) with
  accessFlags := 1537
  interfaces := #[]
  cf := some (fileOf pool11 1 #[] #[] 1537 3 #[] #[])
  fields := #[]
  methods := #[]
  instanceTypes := #[]
  staticTypes := #[]
  resolved := Array.replicate 37 none
  statics := none }

def pool12 : Array CpInfo := pool [(2, .class_ 4), (1, u "java/lang/Object"), (0, u "<init>"), (0, u "()V"), (3, .class_ 12), (1, u "java/lang/String"), (0, u "value"), (0, u "[B"), (2, u "coder"), (0, u "B"), (2, u "hash"), (0, u "I"), (2, u "hashIsZero"), (0, u "Z"), (13, u "COMPACT_STRINGS"), (534, .class_ 576), (0, u "java/lang/CharSequence"), (22, u "CASE_INSENSITIVE_ORDER"), (0, u "Ljava/util/Comparator;"), (500, u "serialPersistentFields"), (0, u "[Ljava/io/ObjectStreamField;"), (0, .class_ 1104), (0, u "java/lang/String$CaseInsensitiveComparator"), (1, .class_ 1107), (0, u "java/io/Serializable"), (0, .class_ 1109), (0, u "java/lang/Comparable"), (0, .class_ 1111), (0, u "java/lang/constant/Constable"), (0, .class_ 1113), (0, u "java/lang/constant/ConstantDesc"), (2, u "serialVersionUID"), (0, u "J"), (3, u "REPL"), (0, u "C"), (2, u "LATIN1"), (1, u "UTF16")] 323

def k12m0 : Method := { name := "<init>", desc := "()V", sig := { parameters := [], returnType := none }, accessFlags := 1, code := none }
/-- java/lang/String -/
def k12 : Class := { plain "java/lang/String" (some 0) with
  accessFlags := 49
  interfaces := #[5, 4, 10, 3, 11]
  cf := some (fileOf pool12 10 #[.nestMembers #[1103]] #[{ accessFlags := 1, nameIndex := 5, descriptorIndex := 6, attributes := #[] }] 49 2 #[1106, 1108, 575, 1110, 1112] #[{ accessFlags := 18, nameIndex := 13, descriptorIndex := 14, attributes := #[] }, { accessFlags := 18, nameIndex := 17, descriptorIndex := 18, attributes := #[] }, { accessFlags := 2, nameIndex := 21, descriptorIndex := 22, attributes := #[] }, { accessFlags := 2, nameIndex := 25, descriptorIndex := 26, attributes := #[] }, { accessFlags := 26, nameIndex := 1116, descriptorIndex := 1117, attributes := #[] }, { accessFlags := 24, nameIndex := 40, descriptorIndex := 26, attributes := #[] }, { accessFlags := 26, nameIndex := 1101, descriptorIndex := 1102, attributes := #[] }, { accessFlags := 26, nameIndex := 1121, descriptorIndex := 1122, attributes := #[] }, { accessFlags := 25, nameIndex := 599, descriptorIndex := 600, attributes := #[] }, { accessFlags := 24, nameIndex := 1125, descriptorIndex := 18, attributes := #[] }, { accessFlags := 24, nameIndex := 1127, descriptorIndex := 18, attributes := #[] }])
  fields := #[{ name := "value", type := (.array .byte), accessFlags := 18, slot := 0, constantValue := 0 }, { name := "coder", type := .byte, accessFlags := 18, slot := 1, constantValue := 0 }, { name := "hash", type := .int, accessFlags := 2, slot := 2, constantValue := 0 }, { name := "hashIsZero", type := .boolean, accessFlags := 2, slot := 3, constantValue := 0 }, { name := "serialVersionUID", type := .long, accessFlags := 26, slot := 0, constantValue := 0 }, { name := "COMPACT_STRINGS", type := .boolean, accessFlags := 24, slot := 1, constantValue := 0 }, { name := "serialPersistentFields", type := (.array (.object "java/io/ObjectStreamField")), accessFlags := 26, slot := 2, constantValue := 0 }, { name := "REPL", type := .char, accessFlags := 26, slot := 3, constantValue := 0 }, { name := "CASE_INSENSITIVE_ORDER", type := (.object "java/util/Comparator"), accessFlags := 25, slot := 4, constantValue := 0 }, { name := "LATIN1", type := .byte, accessFlags := 24, slot := 5, constantValue := 0 }, { name := "UTF16", type := .byte, accessFlags := 24, slot := 6, constantValue := 0 }]
  methods := #[k12m0]
  instanceTypes := #[(.array .byte), .byte, .int, .boolean]
  staticTypes := #[.long, .boolean, (.array (.object "java/io/ObjectStreamField")), .char, (.object "java/util/Comparator"), .byte, .byte]
  resolved := Array.replicate 1451 none
  statics := none }

def pool13 : Array CpInfo := pool [(1, u "java/lang/Cloneable"), (0, .class_ 1), (0, u "java/lang/Object"), (0, .class_ 3)] 3

/-- java/lang/Cloneable -/
def k13 : Class := { plain "java/lang/Cloneable" (some 0) with
  accessFlags := 1537
  interfaces := #[]
  cf := some (fileOf pool13 2 #[] #[] 1537 4 #[] #[])
  fields := #[]
  methods := #[]
  instanceTypes := #[]
  staticTypes := #[]
  resolved := Array.replicate 8 none
  statics := none }

/-- the primitive byte -/
def k14 : Class := { plain "byte" none with kind := .primitive 'B', accessFlags := 0x411 }
/-- [B -/
def k15 : Class := { plain "[B" (some 0) with kind := .array 14 .byte, interfaces := #[13, 5], accessFlags := 1041 }

/-- the primitive int -/
def k16 : Class := { plain "int" none with kind := .primitive 'I', accessFlags := 0x411 }
/-- [I -/
def k17 : Class := { plain "[I" (some 0) with kind := .array 16 .int, interfaces := #[13, 5], accessFlags := 1041 }

def heap : Heap := #[{ cls := 7, slots := #[.ref 1, .ref 2, .ref 3, .null], vm := .statics 7 },
  { cls := 7, slots := #[.null, .int 0, .int 0, .int 1, .int 0], vm := .none },
  { cls := 7, slots := #[.null, .int 1, .int 0, .int 1, .int 0], vm := .none },
  { cls := 7, slots := #[.null, .int 2, .int 0, .int 1, .int 0], vm := .none }]
def classes : Array Class := #[k0, k1, k2, k3, k4, k5, k6, k7, k8, k9, k10, k11, k12, k13, k14, k15, k16, k17]
def interned : List (Array UInt16 × Addr) := []
def slotsUsed : Nat := 19
def theMethod : MethodId := ⟨1, 1⟩
def args0 : Array Value := #[.long 5, .int 7, .long 3, .int 4]
def aboutOver (below : List Frame) : State where
  vm := { classes := classes, interned := interned.toArray }
  heap := heap
  slotsUsed := slotsUsed
  threads := #[{ frames := .invoking theMethod args0 :: below }]
def below0 : List Frame := [.native { method := ⟨0, 0⟩, args := #[] }]
def about1 : State := aboutOver below0
def p0 : Program := .bare "" "" ""
def e0 : Env := launch0.env 0 0 0
theorem w_frames : about1.frames = Frame.invoking theMethod args0 :: below0 := rfl
set_option maxRecDepth 65536 in
theorem w_args : argsFit about1.vm theMethod args0 = true := by decide +kernel
set_option maxRecDepth 65536 in
theorem w_heap : heapFits about1 = true := by decide +kernel
set_option maxRecDepth 65536 in
theorem w_runnable : about1.curStatus? = some .runnable := by decide +kernel
set_option maxRecDepth 65536 in
theorem w_alone : about1.alone = true := by decide +kernel
set_option maxRecDepth 65536 in
theorem w_named : about1.methodNamed? x = some theMethod := by decide +kernel
set_option maxRecDepth 65536 in
theorem w_hears : about1.hears theMethod below0 = true := by decide +kernel
set_option maxRecDepth 65536 in
theorem w_ripe : about1.ripe theMethod args0 below0 = true := by decide +kernel
theorem w_running : about1.status = .running := rfl
set_option maxRecDepth 65536 in
theorem w_room : about1.hasRoom e0.platform room_1 = true :=
  launch0.hasRoom_least _ room_1 (by decide +kernel) (by decide +kernel) (by decide +kernel) (by decide +kernel) (by decide +kernel) (by decide +kernel)
theorem allAtoms_all (ts : List Jvm.Cond) (a : Array Jvm.Value) (st : Jvm.State) : (allAtoms ts).before a st = ts.all (fun c => c.before a st) := by
  induction ts with
  | nil => rfl
  | cons c t ih =>
    show (Jvm.Cond.and c (allAtoms t)).before a st = _
    rw [Jvm.Cond.before_and, ih, List.all_cons]
def words1 : List Jvm.Cond := Jvm.Cond.code x code maxLocals ret :: tables_1
/-- a 'code' word, met by the world's own term for the bytes: nothing is compared byte by byte -/
theorem code_word {y : MethodName} {bytes : ByteArray} {mx : Nat} {rt : Option FieldType} {a : Array Value} {s : State} {m : MethodId} {meth : Method} {c : Code} (h1 : s.methodNamed? y = some m) (h2 : s.vm.method? m = some meth) (h3 : meth.code = some c) (h4 : c.code = bytes)
    (h5 : (c.maxLocals == mx && c.exceptionTable.isEmpty && decide (c.maxStack ≤ mostOperands) && decide (meth.sig.returnType = rt) && !meth.locks && decide (parseMethodDescriptor y.desc = some meth.sig)) = true) : (Jvm.Cond.code y bytes mx rt).before a s = true := by
  simp only [Bool.and_eq_true, beq_iff_eq, Bool.not_eq_true', decide_eq_true_eq] at h5
  obtain ⟨⟨⟨⟨⟨g1, g2⟩, g3⟩, g4⟩, g5⟩, g6⟩ := h5
  simp [Cond.before, Cond.holds, Cond.value, h1, h2, h3, h4, g1, g2, g3, g4, g5, g6]
def isCode : Jvm.Cond → Bool
  | .code _ _ _ _ => true
  | _ => false
theorem all_split {L : List Jvm.Cond} {P : Jvm.Cond → Bool} (h1 : L.all (fun c => isCode c || P c) = true) (h2 : ∀ c ∈ L.filter isCode, P c = true) : L.all P = true := by
  refine List.all_eq_true.mpr fun c hc => ?_
  have h := List.all_eq_true.mp h1 c hc
  rcases Bool.eq_false_or_eq_true (isCode c) with hi | hi
  · exact h2 c (List.mem_filter.mpr ⟨hc, hi⟩)
  · simpa [hi] using h
set_option maxRecDepth 65536 in
theorem w_c0 : (Jvm.Cond.code x code maxLocals ret).before args0 about1 = true := code_word (m := ⟨1, 1⟩) (meth := k1m1) (c := k1c1) (by decide +kernel) rfl rfl rfl (by decide +kernel)
set_option maxRecDepth 65536 in
theorem w_c1 : (Jvm.Cond.code ({ cls := "java/lang/Math", name := "max", desc := "(II)I" } : Jvm.MethodName) jdk_29_method_65_code (2 : Nat) (Option.some Jvm.ClassFile.FieldType.int)).before args0 about1 = true := code_word (m := ⟨2, 1⟩) (meth := k2m1) (c := k2c1) (by decide +kernel) rfl rfl rfl (by decide +kernel)
set_option maxRecDepth 65536 in
theorem w_c2 : (Jvm.Cond.code ({ cls := "com/example/holdfast/holdfast/bench/RunResult", name := "<init>", desc := "(Ljava/lang/String;Lcom/example/holdfast/holdfast/bench/Workload;IIJJJJ)V" } : Jvm.MethodName) prog_21_method_1_code (13 : Nat) (Option.none : Option Jvm.ClassFile.FieldType)).before args0 about1 = true := code_word (m := ⟨9, 0⟩) (meth := k9m0) (c := k9c0) (by decide +kernel) rfl rfl rfl (by decide +kernel)
set_option maxRecDepth 65536 in
theorem w_c3 : (Jvm.Cond.code ({ cls := "java/lang/Record", name := "<init>", desc := "()V" } : Jvm.MethodName) jdk_30_method_1_code (1 : Nat) (Option.none : Option Jvm.ClassFile.FieldType)).before args0 about1 = true := code_word (m := ⟨8, 0⟩) (meth := k8m0) (c := k8c0) (by decide +kernel) rfl rfl rfl (by decide +kernel)
set_option maxRecDepth 65536 in
theorem w_c4 : (Jvm.Cond.code ({ cls := "java/lang/Object", name := "<init>", desc := "()V" } : Jvm.MethodName) object_method_1_code (1 : Nat) (Option.none : Option Jvm.ClassFile.FieldType)).before args0 about1 = true := code_word (m := ⟨0, 0⟩) (meth := k0m0) (c := k0c0) (by decide +kernel) rfl rfl rfl (by decide +kernel)
set_option maxRecDepth 65536 in
theorem w_c5 : (Jvm.Cond.code ({ cls := "com/example/holdfast/holdfast/bench/RunResult", name := "perSecond", desc := "()J" } : Jvm.MethodName) prog_21_method_2_code (1 : Nat) (Option.some Jvm.ClassFile.FieldType.long)).before args0 about1 = true := code_word (m := ⟨9, 1⟩) (meth := k9m1) (c := k9c1) (by decide +kernel) rfl rfl rfl (by decide +kernel)
def codes1 : List Jvm.Cond := [Jvm.Cond.code x code maxLocals ret, Jvm.Cond.code ({ cls := "java/lang/Math", name := "max", desc := "(II)I" } : Jvm.MethodName) jdk_29_method_65_code (2 : Nat) (Option.some Jvm.ClassFile.FieldType.int), Jvm.Cond.code ({ cls := "com/example/holdfast/holdfast/bench/RunResult", name := "<init>", desc := "(Ljava/lang/String;Lcom/example/holdfast/holdfast/bench/Workload;IIJJJJ)V" } : Jvm.MethodName) prog_21_method_1_code (13 : Nat) (Option.none : Option Jvm.ClassFile.FieldType), Jvm.Cond.code ({ cls := "java/lang/Record", name := "<init>", desc := "()V" } : Jvm.MethodName) jdk_30_method_1_code (1 : Nat) (Option.none : Option Jvm.ClassFile.FieldType), Jvm.Cond.code ({ cls := "java/lang/Object", name := "<init>", desc := "()V" } : Jvm.MethodName) object_method_1_code (1 : Nat) (Option.none : Option Jvm.ClassFile.FieldType), Jvm.Cond.code ({ cls := "com/example/holdfast/holdfast/bench/RunResult", name := "perSecond", desc := "()J" } : Jvm.MethodName) prog_21_method_2_code (1 : Nat) (Option.some Jvm.ClassFile.FieldType.long)]
set_option maxRecDepth 65536 in
theorem codes_eq : words1.filter isCode = codes1 := rfl
theorem w_codes : ∀ c ∈ words1.filter isCode, c.before args0 about1 = true := by
  rw [codes_eq]
  intro c hc
  simp only [codes1, List.mem_cons, List.not_mem_nil, or_false] at hc
  rcases hc with rfl | rfl | rfl | rfl | rfl | rfl
  · exact w_c0
  · exact w_c1
  · exact w_c2
  · exact w_c3
  · exact w_c4
  · exact w_c5
set_option maxRecDepth 65536 in
theorem w_t1 : (words1.take 24).all (fun c => isCode c || c.before args0 about1) = true := by decide +kernel
set_option maxRecDepth 65536 in
theorem w_t2 : ((words1.drop 24).take 24).all (fun c => isCode c || c.before args0 about1) = true := by decide +kernel
set_option maxRecDepth 65536 in
theorem w_t3 : ((words1.drop 24).drop 24).all (fun c => isCode c || c.before args0 about1) = true := by decide +kernel
theorem w_tables : (allAtoms (Jvm.Cond.code x code maxLocals ret :: tables_1)).before args0 about1 = true := by
  rw [allAtoms_all]
  show words1.all (fun c => c.before args0 about1) = true
  refine all_split ?_ w_codes
  rw [← List.take_append_drop 24 words1, List.all_append, w_t1, ← List.take_append_drop 24 (words1.drop 24), List.all_append, w_t2, w_t3]
  rfl
set_option maxRecDepth 65536 in
theorem w_case : (Jvm.Cond.and given_1 narrow_1).before args0 about1 = true := by decide +kernel
theorem w_applies : (headSpec (Jvm.Cond.code x code maxLocals ret :: tables_1) room_1).applies x e0.platform about1 = true :=
  (Spec.applies_iff w_frames).mpr ⟨w_running, w_runnable, w_alone, w_named, w_hears, w_ripe, w_room, w_tables⟩
theorem atStart : AtStart classFile x code maxLocals ret World_1 tables_1 room_1 Calls_1 rest_1 Pre_1 launch0 p0 e0 about1 theMethod args0 below0 :=
  ⟨lists_1, trivial, launch0.admits_env _ _ _, launch0.least_env, fairChoices_fair.cas, fairChoices_fair.clock, w_frames, w_args, w_heap, w_applies, trivial, trivial, w_case⟩
end start1
theorem witness_1 : WitnessClaimed_1 := ⟨start1.p0, start1.e0, start1.about1, start1.theMethod, start1.args0, start1.below0, start1.atStart⟩
end Jvm.Pilot.@@N@@
