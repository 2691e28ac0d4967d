import JvmDerived
import JvmDerived.Pilot.@@N@@Statement
import JvmDerived.Pilot.@@N@@Code
set_option linter.unusedVariables false
set_option linter.unusedSimpArgs false
set_option maxRecDepth 65536
namespace Jvm.Pilot.@@N@@
open Jvm Jvm.ClassFile Sem Op Lib Jvm.Free Jvm.Stand Jvm.LawKit Jvm.RoadKit Bundle Jvm.Pilot.@@N@@.Jvm.D
section Own
variable {p : Program} {l : Launch} {e : Env} {R : Room} {s : State} {m : MethodId} {args : Array Value} {below : List Frame} {meth : Method} {c : Code} {T : State} {locs : List Loc} {cells slots : Nat} {Z : State} {a0 : Array Value} {h : Heap}
variable {Q : Option Value → Heap → List Loc → Prop} {F : Outcome → State → Prop} {C N : Nat} {A B : State}
/-- how a body ends: it returns v, Q holds of what it returned, of the heap and of the places written; nothing else is written (EndW: String constants may have been interned) -/
def EndN (s : State) (Q : Option Value → Heap → List Loc → Prop) (C N : Nat) (o : Outcome) (t : State) : Prop := ∃ v L, o = .returned v ∧ Q v t.heap L ∧ FrameEnd s o t L C N
/-- what a body owes from a point of its walk: it comes to its end, and F holds there -/
def Owes (p : Program) (e : Env) (below : List Frame) (F : Outcome → State → Prop) (A : State) : Prop :=
  ∃ s₂ o, Steps p.tables e below A s₂ ∧ s₂.status = .running ∧ Ended s₂ below o ∧ F o s₂
theorem Owes.go (k : Owes p e below F B) (f : ∀ t, Steps p.tables e below B t → Steps p.tables e below A t) : Owes p e below F A := by
  obtain ⟨s₂, o, h1, r⟩ := k
  exact ⟨s₂, o, f _ h1, r⟩
theorem Owes.tr (k : Owes p e below F B) (st : Steps p.tables e below A B) : Owes p e below F A := by
  obtain ⟨s₂, o, h1, r⟩ := k
  exact ⟨s₂, o, st.trans h1, r⟩
theorem Owes.mono {Q' : Option Value → Heap → List Loc → Prop} (k : Owes p e below (EndN s Q C N) A) (f : ∀ v h L, Q v h L → Q' v h L) : Owes p e below (EndN s Q' C N) A := by
  obtain ⟨s₂, o, h1, h2, h3, v, L, h4, h5, h6⟩ := k
  exact ⟨s₂, o, h1, h2, h3, v, L, h4, f _ _ _ h5, h6⟩
/-- a body's contract at given arguments and a given heap -/
def OMet (l : Launch) (y : MethodName) (bytes : ByteArray) (maxL : Nat) (ret : Option FieldType) (ws : List Jvm.Cond) (rm : Room) (as' : Array Value) (Z : State) (h0 : Heap) (Q : Option Value → Heap → List Loc → Prop) : Prop :=
  MetFree l y (head1 (Jvm.Cond.code y bytes maxL ret :: ws) rm) (fun a U => a = as' ∧ Z.Warmed39 U.vm ∧ U.heap = h0) (fun _ _ _ _ _ => True) (fun _ U o U' => ∃ v L, o = .returned v ∧ Q v U'.heap L ∧ FrameEnd U o U' L rm.cells rm.slots)
theorem OMet.of {y : MethodName} {bytes : ByteArray} {maxL : Nat} {ret : Option FieldType} {ws : List Jvm.Cond} {rm : Room} {as' : Array Value} {h0 : Heap} (hpl : plainFor y = true) {Ls : Array Slot} (ef : ∀ m, entryFrame m as' maxL = mkF m 0 Ls [])
    (body : ∀ (p : Program) (e : Env) (s : State) (m : MethodId) (below : List Frame) (meth : Method) (c : Code) (s₁ : State), p.tables.exec = Jvm.exec → c.code = bytes → c.maxLocals = maxL → s.vm.findClass y.cls = some m.cls → meth.name = y.name → meth.sig.returnType = ret → meth.locks = false → Z.Warmed39 s.vm →
      Stand p l e rm s m as' below meth c s₁ [] 0 0 → s₁.heap = h0 → Owes p e below (EndN s Q rm.cells rm.slots) (s₁.setTop (mkF m 0 Ls []))) : OMet l y bytes maxL ret ws rm as' Z h0 Q := by
  refine MetFree.of_bodySF hpl hisR ?_
  intro p e s m args below meth c s₁ Bd hml0 hP hK
  obtain ⟨rfl, hZ, hh⟩ := hP
  have hlk : meth.locks = false := BodyLoose.notSynchronized Bd
  have X0 : Stand p l e rm s m args below meth c s₁ [] 0 0 := Stand.of_body Bd
  have e0 : s₁.heap = h0 := by rw [← hh, Bd.state]; rfl
  obtain ⟨s₂, o, h1, h2, h3, h4⟩ := body p e s m below meth c s₁ Bd.exec Bd.bytes hml0 (findClass_of_methodNamed Bd.named) (name_of_methodNamed Bd.named Bd.method).1 Bd.returns hlk hZ X0 e0
  exact ⟨s₂, o, castTop (ef m) h1, h2, h3, h4⟩
theorem OMet.mono {y : MethodName} {bytes : ByteArray} {maxL : Nat} {ret : Option FieldType} {ws : List Jvm.Cond} {rm : Room} {as' : Array Value} {h0 : Heap} {Q' : Option Value → Heap → List Loc → Prop} (M : OMet l y bytes maxL ret ws rm as' Z h0 Q) (f : ∀ v h L, Q v h L → Q' v h L) : OMet l y bytes maxL ret ws rm as' Z h0 Q' := by
  intro p e ha hc hk s m args below hf happ hP hK
  obtain ⟨n, o, h1, h2, h3, v, L, h4, h5, h6⟩ := M p e ha hc hk s m args below hf happ hP hK
  exact ⟨n, o, h1, h2, h3, v, L, h4, f _ _ _ h5, h6⟩
theorem own_end (X : Stand p l e R s m args below meth c T locs cells slots) (hlk : meth.locks = false) {v : Option Value} (hv : meth.sig.returnType = none → v = none) (hc : cells ≤ C) (hs : slots ≤ N) (hq : Q v T.heap locs) {A : State}
    (hst : ∀ fs : List Frame, (∀ (f : JFrame) (acts : List Action), f.method = m → f.locked = none → f.entered = [] → (doReturn e (T.setTop f) acts v).1 = T.setFrames fs) → Steps p.tables e below A (T.setFrames fs)) : Owes p e below (EndN s Q C N) A := by
  obtain ⟨fs, hr, hrun, hended, hW, hsame⟩ := X.leave hv hlk
  exact ⟨_, _, hst fs hr, hrun, hended, v, locs, rfl, hq, ⟨_, rfl⟩, hW, hsame.mono hc hs⟩
theorem Owes.retN (X : Stand p l e R s m args below meth c T locs cells slots) (hx : p.tables.exec = Jvm.exec) (hlk : meth.locks = false) {pc : Nat} {Ls : Array Slot} {z : Int32} {t : FieldType} {rest : List Value} (hret : meth.sig.returnType = some t) (ht : t = .boolean ∨ t = .byte ∨ t = .char ∨ t = .short)
    (hd : decode c.code pc = .ok (.ireturn, 1)) (hc : cells ≤ C) (hs : slots ≤ N) (hq : Q (some (.int (nar t z))) T.heap locs) : Owes p e below (EndN s Q C N) (T.setTop (mkF m pc Ls (.int z :: rest))) :=
  own_end X hlk (fun h => by rw [hret] at h; cases h) hc hs hq fun fs hr => Jvm.RoadKit.retN X hx hret ht hd hr
theorem Owes.retI (X : Stand p l e R s m args below meth c T locs cells slots) (hx : p.tables.exec = Jvm.exec) (hlk : meth.locks = false) {pc : Nat} {Ls : Array Slot} {z : Int32} {rest : List Value} (hret : meth.sig.returnType = some .int)
    (hd : decode c.code pc = .ok (.ireturn, 1)) (hc : cells ≤ C) (hs : slots ≤ N) (hq : Q (some (.int z)) T.heap locs) : Owes p e below (EndN s Q C N) (T.setTop (mkF m pc Ls (.int z :: rest))) :=
  own_end X hlk (fun h => by rw [hret] at h; cases h) hc hs hq fun fs hr => Jvm.RoadKit.retOut X hx hret rfl (Or.inl ⟨rfl, Or.inl rfl, _, rfl⟩) hd hr
theorem Owes.retJ (X : Stand p l e R s m args below meth c T locs cells slots) (hx : p.tables.exec = Jvm.exec) (hlk : meth.locks = false) {pc : Nat} {Ls : Array Slot} {z : Int64} {rest : List Value} (hret : meth.sig.returnType = some .long)
    (hd : decode c.code pc = .ok (.lreturn, 1)) (hc : cells ≤ C) (hs : slots ≤ N) (hq : Q (some (.long z)) T.heap locs) : Owes p e below (EndN s Q C N) (T.setTop (mkF m pc Ls (.long z :: rest))) :=
  own_end X hlk (fun h => by rw [hret] at h; cases h) hc hs hq fun fs hr => Jvm.RoadKit.retOut X hx hret rfl (Or.inr (Or.inl ⟨rfl, rfl, _, rfl⟩)) hd hr
theorem Owes.retA (X : Stand p l e R s m args below meth c T locs cells slots) (hx : p.tables.exec = Jvm.exec) (hlk : meth.locks = false) {pc : Nat} {Ls : Array Slot} {w : Value} {t : FieldType} {rest : List Value} (hret : meth.sig.returnType = some t) (ht : t.isReference = true) (hn : narrow t w = w) (hw : w.isRef = true)
    (hd : decode c.code pc = .ok (.areturn, 1)) (hc : cells ≤ C) (hs : slots ≤ N) (hq : Q (some w) T.heap locs) : Owes p e below (EndN s Q C N) (T.setTop (mkF m pc Ls (w :: rest))) :=
  own_end X hlk (fun h => by rw [hret] at h; cases h) hc hs hq fun fs hr => Jvm.RoadKit.retOut X hx hret hn (Or.inr (Or.inr (Or.inr (Or.inr ⟨rfl, ht, hw⟩)))) hd hr
theorem Owes.retV (X : Stand p l e R s m args below meth c T locs cells slots) (hx : p.tables.exec = Jvm.exec) (hlk : meth.locks = false) {pc : Nat} {Ls : Array Slot} (hret : meth.sig.returnType = none)
    (hd : decode c.code pc = .ok (.return_, 1)) (hc : cells ≤ C) (hs : slots ≤ N) (hq : Q none T.heap locs) : Owes p e below (EndN s Q C N) (T.setTop (mkF m pc Ls [])) :=
  own_end X hlk (fun _ => rfl) hc hs hq fun fs hr => X.returnOut hx hret hd hr
/-- a static method by its contract -/
theorem Owes.callS (X : Stand p l e R s m args below meth c T locs cells slots) (hx : p.tables.exec = Jvm.exec) (hZ : Z.Warmed39 s.vm) {own : String} {index : Nat} {y : MethodName} {bytes : ByteArray} {maxL : Nat} {ret : Option FieldType} {rm : Room}
    (hown : s.vm.findClass own = some m.cls) (w1 : (Cond.methodLink own index y).before a0 Z = true) (w2 : (Cond.static y).before a0 Z = true) (w3 : (Cond.initialized y.cls).before a0 Z = true) (w4 : (Cond.code y bytes maxL ret).before a0 Z = true)
    (hy : y.cls ≠ "java/lang/invoke/MethodHandle" ∧ y.cls ≠ "java/lang/invoke/VarHandle") {pc : Nat} {Ls : Array Slot} {argsL rest : List Value} {Q' : Option Value → Heap → List Loc → Prop} (M : OMet l y bytes maxL ret [] rm argsL.toArray Z h Q') (eT : T.heap = h) (hsize : Ls.size = c.maxLocals)
    {ps : List FieldType} {rt : Option FieldType} (hpd : parseMethodDescriptor y.desc = some ⟨ps, rt⟩) (hln : argsL.length = ps.length) {st : List Value} (hst : st = argsL.reverse ++ rest) (hd : decode c.code pc = .ok (.invokestatic index, 3))
    (hf : rm.frames + 1 ≤ R.frames) (hl : (rest.map fun v => v.category).sum + (maxL + 11) + rm.locals ≤ R.locals) (hcl : cells + rm.cells ≤ R.cells) (hsl : slots + rm.slots ≤ R.slots)
    (k : ∀ (T' : State) (v : Option Value) (L : List Loc), Stand p l e R s m args below meth c T' (locs ++ L) (cells + rm.cells) (slots + rm.slots) → Q' v T'.heap L → Owes p e below F (T'.setTop (mkF m (pc + 3) Ls (v.toList ++ rest)))) :
    Owes p e below F (T.setTop (mkF m pc Ls st)) := by
  subst hst
  obtain ⟨v, _, ⟨T3, L3, k3, n3⟩, -, X3, ⟨Lc3, hQ3, l3, y3, z3⟩, st3⟩ := Jvm.LawKit.callS X hx (y := y) hown (mvT hZ w1) (mvT hZ w2) (mvT hZ w3) (mvT hZ w4) hy (backOf (W := (rest.map fun v => v.category).sum) M hZ w4 w3 hf hl) (g := mkF m pc Ls (argsL.reverse ++ rest)) rfl hsize (argsL := argsL) (rest := rest) (lenOf hpd hln) rfl (by show 2 * 0 + _ ≤ _; omega) hd (fun _ _ => ⟨rfl, eT, hcl, hsl⟩)
  dsimp only [Pt.U, Pt.locs, Pt.cells, Pt.slots] at X3 l3 y3 z3 st3 hQ3
  subst l3 y3 z3
  exact (k T3 v Lc3 X3 hQ3).go st3
/-- a constructor by its contract -/
theorem Owes.callC (X : Stand p l e R s m args below meth c T locs cells slots) (hx : p.tables.exec = Jvm.exec) (hZ : Z.Warmed39 s.vm) {own : String} {index : Nat} {y : MethodName} {bytes : ByteArray} {maxL : Nat} {rm : Room} (hy1 : y.name = "<init>")
    (hown : s.vm.findClass own = some m.cls) (w1 : (Cond.methodLink own index y).before a0 Z = true) (w2 : (Cond.instanceMethod y).before a0 Z = true) (w3 : (Cond.initialized y.cls).before a0 Z = true) (w4 : (Cond.code y bytes maxL none).before a0 Z = true)
    (hy : y.cls ≠ "java/lang/invoke/MethodHandle" ∧ y.cls ≠ "java/lang/invoke/VarHandle") {pc : Nat} {Ls : Array Slot} {a : Addr} {argsL rest : List Value} {Q' : Option Value → Heap → List Loc → Prop} (M : OMet l y bytes maxL none [] rm (.ref a :: argsL).toArray Z h Q') (eT : T.heap = h) (hsize : Ls.size = c.maxLocals)
    {ps : List FieldType} {rt : Option FieldType} (hpd : parseMethodDescriptor y.desc = some ⟨ps, rt⟩) (hln : argsL.length = ps.length) {st : List Value} (hst : st = argsL.reverse ++ .ref a :: rest) (hd : decode c.code pc = .ok (.invokespecial index, 3))
    (hf : rm.frames + 1 ≤ R.frames) (hl : (rest.map fun v => v.category).sum + (maxL + 11) + rm.locals ≤ R.locals) (hcl : cells + rm.cells ≤ R.cells) (hsl : slots + rm.slots ≤ R.slots)
    (k : ∀ (T' : State) (v : Option Value) (L : List Loc), Stand p l e R s m args below meth c T' (locs ++ L) (cells + rm.cells) (slots + rm.slots) → Q' v T'.heap L → Owes p e below F (T'.setTop (mkF m (pc + 3) Ls (v.toList ++ rest)))) :
    Owes p e below F (T.setTop (mkF m pc Ls st)) := by
  subst hst
  obtain ⟨v, _, ⟨T3, L3, k3, n3⟩, -, X3, ⟨Lc3, hQ3, l3, y3, z3⟩, st3⟩ := X.specialBack hx (y := y) hy1 hown (mvT hZ w1) (mvT hZ w2) (mvT hZ w4) hy (backOf (W := (rest.map fun v => v.category).sum) M hZ w4 w3 hf hl) (g := mkF m pc Ls (argsL.reverse ++ .ref a :: rest)) rfl hsize (Steps.refl _) (a := a) (argsL := argsL) (rest := rest) (lenOf hpd hln) rfl (by show 2 * 0 + _ ≤ _; omega) hd (fun _ _ => ⟨rfl, eT, hcl, hsl⟩)
  dsimp only [Pt.U, Pt.locs, Pt.cells, Pt.slots] at X3 l3 y3 z3 st3 hQ3
  subst l3 y3 z3
  exact (k T3 v Lc3 X3 hQ3).tr st3
/-- an instance method by the contract of the body that the receiver's class selects -/
theorem Owes.callV (X : Stand p l e R s m args below meth c T locs cells slots) (hx : p.tables.exec = Jvm.exec) (hZ : Z.Warmed39 s.vm) {own CR : String} {index : Nat} {y z : MethodName} {bytes : ByteArray} {maxL : Nat} {ret : Option FieldType} {rm : Room}
    (hown : s.vm.findClass own = some m.cls) (w1 : (Cond.methodLink own index y).before a0 Z = true) (w2 : (Cond.declares y).before a0 Z = true) (hnf : NotFace s y) (w5 : (Cond.selects CR y z).before a0 Z = true) (w6 : (Cond.instanceMethod z).before a0 Z = true) (w3 : (Cond.initialized z.cls).before a0 Z = true) (w4 : (Cond.code z bytes maxL ret).before a0 Z = true)
    (hy : y.cls ≠ "java/lang/invoke/MethodHandle" ∧ y.cls ≠ "java/lang/invoke/VarHandle") {pc : Nat} {Ls : Array Slot} {a : Addr} {argsL rest : List Value} {Q' : Option Value → Heap → List Loc → Prop} (M : OMet l z bytes maxL ret [] rm (.ref a :: argsL).toArray Z h Q') (eT : T.heap = h) (E : Exa Z h a CR) (hsize : Ls.size = c.maxLocals)
    {ps : List FieldType} {rt : Option FieldType} (hpd : parseMethodDescriptor y.desc = some ⟨ps, rt⟩) (hln : argsL.length = ps.length) {st : List Value} (hst : st = argsL.reverse ++ .ref a :: rest) (hd : decode c.code pc = .ok (.invokevirtual index, 3))
    (hf : rm.frames + 1 ≤ R.frames) (hl : (rest.map fun v => v.category).sum + (maxL + 11) + rm.locals ≤ R.locals) (hcl : cells + rm.cells ≤ R.cells) (hsl : slots + rm.slots ≤ R.slots)
    (k : ∀ (T' : State) (v : Option Value) (L : List Loc), Stand p l e R s m args below meth c T' (locs ++ L) (cells + rm.cells) (slots + rm.slots) → Q' v T'.heap L → Owes p e below F (T'.setTop (mkF m (pc + 3) Ls (v.toList ++ rest)))) :
    Owes p e below F (T.setTop (mkF m pc Ls st)) := by
  subst hst
  obtain ⟨cq, kq, qa, qb, qc⟩ := isOf hZ eT E
  obtain ⟨v, _, ⟨T3, L3, k3, n3⟩, -, X3, ⟨Lc3, hQ3, l3, y3, z3⟩, st3⟩ := X.virtualBack hx (y := y) (z := z) hown (mvT hZ w1) (mvT hZ w2) hnf (mvT hZ w5) (mvT hZ w6) hy (backOf (W := (rest.map fun v => v.category).sum) M hZ w4 w3 hf hl) qa qc (g := mkF m pc Ls (argsL.reverse ++ .ref a :: rest)) rfl hsize (Steps.refl _) (argsL := argsL) (rest := rest) (lenOf hpd hln) rfl (by show 2 * 0 + _ ≤ _; omega) hd (fun _ _ => ⟨rfl, eT, hcl, hsl⟩)
  dsimp only [Pt.U, Pt.locs, Pt.cells, Pt.slots] at X3 l3 y3 z3 st3 hQ3
  subst l3 y3 z3
  exact (k T3 v Lc3 X3 hQ3).tr st3
/-- a private method by its contract -/
theorem Owes.callP (X : Stand p l e R s m args below meth c T locs cells slots) (hx : p.tables.exec = Jvm.exec) (hZ : Z.Warmed39 s.vm) {own CR : String} {index : Nat} {y : MethodName} {bytes : ByteArray} {maxL : Nat} {ret : Option FieldType} {rm : Room}
    (hown : s.vm.findClass own = some m.cls) (w1 : (Cond.methodLink own index y).before a0 Z = true) (w2 : (Cond.instanceMethod y).before a0 Z = true) (w5 : (Cond.selects y.cls y y).before a0 Z = true) (w6 : (Cond.privateMethod y).before a0 Z = true) (w3 : (Cond.initialized y.cls).before a0 Z = true) (w4 : (Cond.code y bytes maxL ret).before a0 Z = true)
    (hy : y.cls ≠ "java/lang/invoke/MethodHandle" ∧ y.cls ≠ "java/lang/invoke/VarHandle") {pc : Nat} {Ls : Array Slot} {a : Addr} {argsL rest : List Value} {Q' : Option Value → Heap → List Loc → Prop} (M : OMet l y bytes maxL ret [] rm (.ref a :: argsL).toArray Z h Q') (eT : T.heap = h) (E : Exa Z h a CR) (hsize : Ls.size = c.maxLocals)
    {ps : List FieldType} {rt : Option FieldType} (hpd : parseMethodDescriptor y.desc = some ⟨ps, rt⟩) (hln : argsL.length = ps.length) {st : List Value} (hst : st = argsL.reverse ++ .ref a :: rest) (hd : decode c.code pc = .ok (.invokevirtual index, 3))
    (hf : rm.frames + 1 ≤ R.frames) (hl : (rest.map fun v => v.category).sum + (maxL + 11) + rm.locals ≤ R.locals) (hcl : cells + rm.cells ≤ R.cells) (hsl : slots + rm.slots ≤ R.slots)
    (k : ∀ (T' : State) (v : Option Value) (L : List Loc), Stand p l e R s m args below meth c T' (locs ++ L) (cells + rm.cells) (slots + rm.slots) → Q' v T'.heap L → Owes p e below F (T'.setTop (mkF m (pc + 3) Ls (v.toList ++ rest)))) :
    Owes p e below F (T.setTop (mkF m pc Ls st)) := by
  subst hst
  obtain ⟨cq, q1, q2⟩ := E.cell
  obtain ⟨v, _, ⟨T3, L3, k3, n3⟩, -, X3, ⟨Lc3, hQ3, l3, y3, z3⟩, st3⟩ := X.privateBack hx (y := y) hown (mvT hZ w1) (mvT hZ w2) (mvT hZ w5) (Cond.privateMethod_at (mvP hZ w6 (args := #[]))) (mvT hZ w4) hy (backOf (W := (rest.map fun v => v.category).sum) M hZ w4 w3 hf hl) (g := mkF m pc Ls (argsL.reverse ++ .ref a :: rest)) rfl hsize (Steps.refl _) (a := a) (by rw [eT]; exact q1) q2 (argsL := argsL) (rest := rest) (lenOf hpd hln) rfl (by show 2 * 0 + _ ≤ _; omega) hd (fun _ _ => ⟨rfl, eT, hcl, hsl⟩)
  dsimp only [Pt.U, Pt.locs, Pt.cells, Pt.slots] at X3 l3 y3 z3 st3 hQ3
  subst l3 y3 z3
  exact (k T3 v Lc3 X3 hQ3).tr st3
theorem own_st {c2 s2 : Nat} (X : Stand p l e R s m args below meth c T locs cells slots) (hc : cells = c2) (hs : slots = s2) : Stand p l e R s m args below meth c T locs c2 s2 := by subst hc hs; exact X
theorem Owes.initO (X : Stand p l e R s m args below meth c T locs cells slots) (hx : p.tables.exec = Jvm.exec) (hZ : Z.Warmed39 s.vm) {own : String} {index : Nat} (hown : s.vm.findClass own = some m.cls) (w1 : (Cond.methodLink own index Lib.objectInit).before a0 Z = true) (w2 : (Cond.instanceMethod Lib.objectInit).before a0 Z = true) (w3 : (Cond.code Lib.objectInit ⟨#[0xb1]⟩ 1 none).before a0 Z = true) (eT : T.heap = h)
    {pc : Nat} {Ls : Array Slot} {a : Addr} {rest : List Value} (hsize : Ls.size = c.maxLocals) (hd : decode c.code pc = .ok (.invokespecial index, 3)) (hf : 1 ≤ R.frames) (hl : (rest.map fun v => v.category).sum + 12 ≤ R.locals)
    (k : ∀ T' : State, Stand p l e R s m args below meth c T' locs cells slots → T'.heap = h → Owes p e below F (T'.setTop (mkF m (pc + 3) Ls rest))) : Owes p e below F (T.setTop (mkF m pc Ls (.ref a :: rest))) := by
  obtain ⟨T', X', e', st⟩ := Jvm.RoadKit.initO X hx hZ hown w1 w2 w3 eT (g := mkF m pc Ls (.ref a :: rest)) rfl hsize rfl hd hf (W := (rest.map fun v => v.category).sum) (by show 2 * 0 + _ ≤ _; omega) hl
  exact (k T' X' e').go st
theorem Owes.newO (X : Stand p l e R s m args below meth c T locs cells slots) (hx : p.tables.exec = Jvm.exec) (hZ : Z.Warmed39 s.vm) {own CC : String} {index n : Nat} (hown : s.vm.findClass own = some m.cls) (w : (Cond.classLink own index CC).before a0 Z = true) (wi : (Cond.instantiable CC n).before a0 Z = true) (wz : (Cond.initialized CC).before a0 Z = true) (eT : T.heap = h)
    {pc : Nat} {Ls : Array Slot} {rest : List Value} (hd : decode c.code pc = .ok (.new index, 3)) (hcl : cells + 1 ≤ R.cells) (hsl : slots + n ≤ R.slots)
    (k : ∀ (T' : State) (h' : Heap), Stand p l e R s m args below meth c T' locs (cells + 1) (slots + n) → T'.heap = h' → Ext h h' → Exa Z h' h.size CC → (∀ {O nm d : String} {ty : FieldType}, Laid Z a0 CC O nm d → parseFieldDescriptor d = some ty → Fld Z h' h.size O nm d (defaultValue ty)) → Owes p e below F (T'.setTop (mkF m (pc + 3) Ls (.ref h.size :: rest)))) : Owes p e below F (T.setTop (mkF m pc Ls rest)) := by
  obtain ⟨T', h', X', e', E, A, D, -, st⟩ := Jvm.RoadKit.newO X hx hZ hown w wi wz eT (g := mkF m pc Ls rest) rfl hd hcl hsl
  exact (k T' h' X' e' E A D).go st
theorem Owes.putF (X : Stand p l e R s m args below meth c T locs cells slots) (hx : p.tables.exec = Jvm.exec) (hZ : Z.Warmed39 s.vm) {own R0 O n d host CC : String} {index kk : Nat} {ty : FieldType} (hown : s.vm.findClass own = some m.cls) (w : (Cond.fieldLink own index R0 n d).before a0 Z = true ∨ (Cond.fieldLinkNest own index R0 n d host).before a0 Z = true) (via : Via Z R0 O n d) (eT : T.heap = h)
    {a : Addr} {v old : Value} (Fd : Fld Z h a O n d old) (E : Exa Z h a CC) (L : (Cond.lays CC O n d).before a0 Z = true ∨ ((Cond.laysFinal CC O n d).before a0 Z = true ∧ own = O ∧ meth.name = "<init>")) (wi : (Cond.instantiable CC kk).before a0 Z = true) (hty : parseFieldDescriptor d = some ty) (hn : narrow ty v = v) (hf : fits ty v = true)
    {pc : Nat} {Ls : Array Slot} {rest : List Value} (hd : decode c.code pc = .ok (.putfield index, 3))
    (k : ∀ (T' : State) (h' : Heap), Stand p l e R s m args below meth c T' (locs ++ [⟨a, Jvm.RoadKit.slotOf Z O n d⟩]) cells slots → T'.heap = h' → Wr h h' a (Jvm.RoadKit.slotOf Z O n d) v → Owes p e below F (T'.setTop (mkF m (pc + 3) Ls rest))) : Owes p e below F (T.setTop (mkF m pc Ls (v :: .ref a :: rest))) := by
  obtain ⟨T', h', X', e', W, st⟩ := Jvm.RoadKit.putF X hx hZ hown w via eT Fd E L wi hty hn hf (g := mkF m pc Ls (v :: .ref a :: rest)) rfl rfl hd
  exact (k T' h' X' e' W).go st
theorem Owes.alen (X : Stand p l e R s m args below meth c T locs cells slots) (hx : p.tables.exec = Jvm.exec) (hZ : Z.Warmed39 s.vm) (eT : T.heap = h) {a : Addr} {cl : Cell} {ty : FieldType} (A : Arr Z h a cl ty) {z : Int32} (hn : cl.slots.size.toInt32 = z) {pc : Nat} {Ls : Array Slot} {rest : List Value}
    (hd : decode c.code pc = .ok (.arraylength, 1)) (k : Owes p e below F (T.setTop (mkF m (pc + 1) Ls (.int z :: rest)))) : Owes p e below F (T.setTop (mkF m pc Ls (.ref a :: rest))) := by
  subst hn
  exact k.go fun t q => X.arraylength hx (by rw [eT]; exact A.1) (State.isArrayOf_alike hZ.alike A.2.1) (g := mkF m pc Ls (.ref a :: rest)) rfl rfl hd _ q
theorem Owes.aldI (X : Stand p l e R s m args below meth c T locs cells slots) (hx : p.tables.exec = Jvm.exec) (hZ : Z.Warmed39 s.vm) (eT : T.heap = h) {a : Addr} {cl : Cell} (A : Arr Z h a cl .int) {j : Int32} {v : Value} (hin : ¬ (j < 0 ∨ cl.slots.size ≤ j.toNatClampNeg)) (hat : cl.slots[j.toNatClampNeg]? = some v) {pc : Nat} {Ls : Array Slot} {rest : List Value}
    (hd : decode c.code pc = .ok (.iaload, 1)) (k : Owes p e below F (T.setTop (mkF m (pc + 1) Ls (v :: rest)))) : Owes p e below F (T.setTop (mkF m pc Ls (.int j :: .ref a :: rest))) :=
  k.go fun t q => X.iaload hx (by rw [eT]; exact A.1) (State.isArrayOf_alike hZ.alike A.2.1) A.2.2 hin hat (g := mkF m pc Ls (.int j :: .ref a :: rest)) rfl rfl hd _ q
theorem Owes.aldJ (X : Stand p l e R s m args below meth c T locs cells slots) (hx : p.tables.exec = Jvm.exec) (hZ : Z.Warmed39 s.vm) (eT : T.heap = h) {a : Addr} {cl : Cell} (A : Arr Z h a cl .long) {j : Int32} {v : Value} (hin : ¬ (j < 0 ∨ cl.slots.size ≤ j.toNatClampNeg)) (hat : cl.slots[j.toNatClampNeg]? = some v) {pc : Nat} {Ls : Array Slot} {rest : List Value}
    (hd : decode c.code pc = .ok (.laload, 1)) (k : Owes p e below F (T.setTop (mkF m (pc + 1) Ls (v :: rest)))) : Owes p e below F (T.setTop (mkF m pc Ls (.int j :: .ref a :: rest))) :=
  k.go fun t q => X.laload hx (by rw [eT]; exact A.1) (State.isArrayOf_alike hZ.alike A.2.1) A.2.2 hin hat (g := mkF m pc Ls (.int j :: .ref a :: rest)) rfl rfl hd _ q
theorem Owes.aldC (X : Stand p l e R s m args below meth c T locs cells slots) (hx : p.tables.exec = Jvm.exec) (hZ : Z.Warmed39 s.vm) (eT : T.heap = h) {a : Addr} {cl : Cell} (A : Arr Z h a cl .char) {j : Int32} {v : Value} (hin : ¬ (j < 0 ∨ cl.slots.size ≤ j.toNatClampNeg)) (hat : cl.slots[j.toNatClampNeg]? = some v) {pc : Nat} {Ls : Array Slot} {rest : List Value}
    (hd : decode c.code pc = .ok (.caload, 1)) (k : Owes p e below F (T.setTop (mkF m (pc + 1) Ls (v :: rest)))) : Owes p e below F (T.setTop (mkF m pc Ls (.int j :: .ref a :: rest))) :=
  k.go fun t q => X.caload hx (by rw [eT]; exact A.1) (State.isArrayOf_alike hZ.alike A.2.1) A.2.2 hin hat (g := mkF m pc Ls (.int j :: .ref a :: rest)) rfl rfl hd _ q
theorem Owes.aldZ (X : Stand p l e R s m args below meth c T locs cells slots) (hx : p.tables.exec = Jvm.exec) (hZ : Z.Warmed39 s.vm) (eT : T.heap = h) {a : Addr} {cl : Cell} (A : Arr Z h a cl .boolean) {j : Int32} {v : Value} (hin : ¬ (j < 0 ∨ cl.slots.size ≤ j.toNatClampNeg)) (hat : cl.slots[j.toNatClampNeg]? = some v) {pc : Nat} {Ls : Array Slot} {rest : List Value}
    (hd : decode c.code pc = .ok (.baload, 1)) (k : Owes p e below F (T.setTop (mkF m (pc + 1) Ls (v :: rest)))) : Owes p e below F (T.setTop (mkF m pc Ls (.int j :: .ref a :: rest))) :=
  k.go fun t q => X.baloadBooleans hx (by rw [eT]; exact A.1) (State.isArrayOf_alike hZ.alike A.2.1) A.2.2 hin hat (g := mkF m pc Ls (.int j :: .ref a :: rest)) rfl rfl hd _ q
theorem Owes.aldB (X : Stand p l e R s m args below meth c T locs cells slots) (hx : p.tables.exec = Jvm.exec) (hZ : Z.Warmed39 s.vm) (eT : T.heap = h) {a : Addr} {cl : Cell} (A : Arr Z h a cl .byte) {j : Int32} {v : Value} (hin : ¬ (j < 0 ∨ cl.slots.size ≤ j.toNatClampNeg)) (hat : cl.slots[j.toNatClampNeg]? = some v) {pc : Nat} {Ls : Array Slot} {rest : List Value}
    (hd : decode c.code pc = .ok (.baload, 1)) (k : Owes p e below F (T.setTop (mkF m (pc + 1) Ls (v :: rest)))) : Owes p e below F (T.setTop (mkF m pc Ls (.int j :: .ref a :: rest))) :=
  k.go fun t q => X.baloadBytes hx (by rw [eT]; exact A.1) (State.isArrayOf_alike hZ.alike A.2.1) A.2.2 hin hat (g := mkF m pc Ls (.int j :: .ref a :: rest)) rfl rfl hd _ q
theorem Owes.aldR (X : Stand p l e R s m args below meth c T locs cells slots) (hx : p.tables.exec = Jvm.exec) (hZ : Z.Warmed39 s.vm) (eT : T.heap = h) {a : Addr} {cl : Cell} {ty : FieldType} (A : Arr Z h a cl ty) (hty : ty.isReference = true) {j : Int32} {v : Value} (hin : ¬ (j < 0 ∨ cl.slots.size ≤ j.toNatClampNeg)) (hat : cl.slots[j.toNatClampNeg]? = some v) {pc : Nat} {Ls : Array Slot} {rest : List Value}
    (hd : decode c.code pc = .ok (.aaload, 1)) (k : Owes p e below F (T.setTop (mkF m (pc + 1) Ls (v :: rest)))) : Owes p e below F (T.setTop (mkF m pc Ls (.int j :: .ref a :: rest))) :=
  k.go fun t q => X.aaload hx (by rw [eT]; exact A.1) (State.isArrayOf_alike hZ.alike A.2.1) hty A.2.2 hin hat (g := mkF m pc Ls (.int j :: .ref a :: rest)) rfl rfl hd _ q
theorem own_eqI {first : State} {o : Option Outcome} {idx : List Nat} {t : Term} {k : Int32} (q : (Cond.eq t (.int k)).value args first o s idx = some true) : t.eval args first o idx s = some (.int k) := by
  simp only [Cond.value, Term.eval] at q
  cases hv : t.eval args first o idx s with
  | none => simp [hv] at q
  | some v => cases v <;> simp_all
end Own
section OwnArr
variable {p : Program} {l : Launch} {e : Env} {R : Room} {s : State} {m : MethodId} {args : Array Value} {below : List Frame} {meth : Method} {c : Code} {T : State} {locs : List Loc} {cells slots : Nat} {Z : State} {a0 : Array Value} {h h' : Heap}
variable {Q : Option Value → Heap → List Loc → Prop} {F : Outcome → State → Prop} {C N : Nat} {A B : State}
theorem own_nat {j : Int32} {i : Nat} (q : j.toInt = (i : Int)) : ¬ j < 0 ∧ j.toNatClampNeg = i := by
  constructor
  · rw [Int32.lt_iff_toInt_lt, q, show (0 : Int32).toInt = 0 from by decide]; omega
  · rw [Int32.toNatClampNeg, q]; omega
theorem own_nth {j : Int32} {i n : Nat} {cl : Cell} (q : j.toInt = (i : Int)) (hi : i < n) (S : cl.slots.size = n) : ¬ (j < 0 ∨ cl.slots.size ≤ j.toNatClampNeg) := by
  obtain ⟨q1, q2⟩ := own_nat q
  rintro (z | z)
  · exact q1 z
  · rw [q2, S] at z; omega
/-- an array with components of type ty: n places, the place i holds w i -/
def GA (Z : State) (h : Heap) (a : Addr) (ty : FieldType) (n : Nat) (w : Nat → Value) : Prop := ∃ c : Cell, Arr Z h a c ty ∧ c.slots.size = n ∧ ∀ i, i < n → c.slots[i]? = some (w i)
def upd {α : Type} (w : Nat → α) (i : Nat) (v : α) : Nat → α := fun k => if k = i then v else w k
theorem upd_same {α : Type} (w : Nat → α) (i : Nat) (v : α) : upd w i v i = v := if_pos rfl
theorem upd_ne {α : Type} (w : Nat → α) {i k : Nat} (v : α) (q : k ≠ i) : upd w i v k = w k := if_neg q
theorem GA.lt {a : Addr} {ty : FieldType} {n : Nat} {w : Nat → Value} (G0 : GA Z h a ty n w) : a < h.size := by obtain ⟨c, A, -⟩ := G0; exact A.lt
theorem GA.ext {a : Addr} {ty : FieldType} {n : Nat} {w : Nat → Value} (G0 : GA Z h a ty n w) (E : Ext h h') : GA Z h' a ty n w := by obtain ⟨c, A, r⟩ := G0; exact ⟨c, A.ext E, r⟩
theorem GA.other {a b : Addr} {ty : FieldType} {n sl : Nat} {w : Nat → Value} {v : Value} (G0 : GA Z h b ty n w) (W : Wr h h' a sl v) (q : b ≠ a) : GA Z h' b ty n w := by obtain ⟨c, A, r⟩ := G0; exact ⟨c, A.other W q, r⟩
theorem GA.keep {a : Addr} {ty : FieldType} {n : Nat} {w : Nat → Value} {ws : List Addr} (G0 : GA Z h a ty n w) (K : Keep h h' ws) (q : a ∉ ws) : GA Z h' a ty n w := by obtain ⟨c, A, r⟩ := G0; exact ⟨c, ⟨K.2.1 a c A.1 q, A.2⟩, r⟩
theorem GA.congr {a : Addr} {ty : FieldType} {n : Nat} {w w' : Nat → Value} (G0 : GA Z h a ty n w) (q : ∀ i, i < n → w i = w' i) : GA Z h a ty n w' := by obtain ⟨c, A, S, r⟩ := G0; exact ⟨c, A, S, fun i hi => by rw [← q i hi]; exact r i hi⟩
theorem GA.set {a : Addr} {ty : FieldType} {n i : Nat} {w : Nat → Value} {v : Value} (G0 : GA Z h a ty n w) (W : Wr h h' a i v) : GA Z h' a ty n (upd w i v) := by
  obtain ⟨c, A, S, r⟩ := G0
  refine ⟨_, A.same W, by rw [sz_set]; exact S, fun k hk => ?_⟩
  by_cases q : k = i
  · subst q
    rw [upd_same]
    simp [Cell.setSlot, S, hk]
  · rw [upd_ne _ _ q, ← r k hk]
    exact Array.getElem?_setIfInBounds_ne (Ne.symm q)
theorem GA.new {a : Addr} {ty : FieldType} {k : ClassId} {z : Int32} {n : Nat} (A : Arr Z h a (newA k ty z) ty) (q : z.toInt = (n : Int)) : GA Z h a ty n (fun _ => defaultValue ty) := by
  have e := (own_nat q).2
  refine ⟨_, A, by rw [sz_new]; exact e, fun i hi => ?_⟩
  simp [newA, e, hi]
theorem GA.ne {a b : Addr} {ty : FieldType} {n n' : Nat} {w w' : Nat → Value} {ty' : FieldType} (G0 : GA Z h a ty n w) (G : GA Z h b ty' n' w') (q : ty ≠ ty') : a ≠ b := fun z => by
  subst z
  obtain ⟨c, A, -⟩ := G0
  obtain ⟨c', A', -⟩ := G
  cases A.1.symm.trans A'.1
  obtain ⟨-, k, h1, comp, h2⟩ := A.2.1
  obtain ⟨-, k', h1', comp', h2'⟩ := A'.2.1
  cases h1.symm.trans h1'
  rw [h2] at h2'
  cases h2'
  exact q rfl
theorem GA.ne_obj {a b : Addr} {ty : FieldType} {n k : Nat} {w : Nat → Value} {CC : String} (E : Exa Z h a CC) (wi : (Cond.instantiable CC k).before a0 Z = true) (G0 : GA Z h b ty n w) : a ≠ b := by
  obtain ⟨c, A, -⟩ := G0
  exact ne_arr E wi A
theorem Owes.gI (X : Stand p l e R s m args below meth c T locs cells slots) (hx : p.tables.exec = Jvm.exec) (hZ : Z.Warmed39 s.vm) (eT : T.heap = h) {a : Addr} {n : Nat} {w : Nat → Value} (A : GA Z h a .int n w) {j : Int32} {i : Nat} {v : Value} (hj : j.toInt = (i : Int)) (hi : i < n) (hv : w i = v) {pc : Nat} {Ls : Array Slot} {rest : List Value}
    (hd : decode c.code pc = .ok (.iaload, 1)) (k : Owes p e below F (T.setTop (mkF m (pc + 1) Ls (v :: rest)))) : Owes p e below F (T.setTop (mkF m pc Ls (.int j :: .ref a :: rest))) := by
  obtain ⟨cl, A1, S, V⟩ := A
  exact Owes.aldI X hx hZ eT A1 (own_nth hj hi S) (by rw [(own_nat hj).2, ← hv]; exact V i hi) hd k
theorem Owes.gJ (X : Stand p l e R s m args below meth c T locs cells slots) (hx : p.tables.exec = Jvm.exec) (hZ : Z.Warmed39 s.vm) (eT : T.heap = h) {a : Addr} {n : Nat} {w : Nat → Value} (A : GA Z h a .long n w) {j : Int32} {i : Nat} {v : Value} (hj : j.toInt = (i : Int)) (hi : i < n) (hv : w i = v) {pc : Nat} {Ls : Array Slot} {rest : List Value}
    (hd : decode c.code pc = .ok (.laload, 1)) (k : Owes p e below F (T.setTop (mkF m (pc + 1) Ls (v :: rest)))) : Owes p e below F (T.setTop (mkF m pc Ls (.int j :: .ref a :: rest))) := by
  obtain ⟨cl, A1, S, V⟩ := A
  exact Owes.aldJ X hx hZ eT A1 (own_nth hj hi S) (by rw [(own_nat hj).2, ← hv]; exact V i hi) hd k
theorem Owes.gC (X : Stand p l e R s m args below meth c T locs cells slots) (hx : p.tables.exec = Jvm.exec) (hZ : Z.Warmed39 s.vm) (eT : T.heap = h) {a : Addr} {n : Nat} {w : Nat → Value} (A : GA Z h a .char n w) {j : Int32} {i : Nat} {v : Value} (hj : j.toInt = (i : Int)) (hi : i < n) (hv : w i = v) {pc : Nat} {Ls : Array Slot} {rest : List Value}
    (hd : decode c.code pc = .ok (.caload, 1)) (k : Owes p e below F (T.setTop (mkF m (pc + 1) Ls (v :: rest)))) : Owes p e below F (T.setTop (mkF m pc Ls (.int j :: .ref a :: rest))) := by
  obtain ⟨cl, A1, S, V⟩ := A
  exact Owes.aldC X hx hZ eT A1 (own_nth hj hi S) (by rw [(own_nat hj).2, ← hv]; exact V i hi) hd k
theorem Owes.gZ (X : Stand p l e R s m args below meth c T locs cells slots) (hx : p.tables.exec = Jvm.exec) (hZ : Z.Warmed39 s.vm) (eT : T.heap = h) {a : Addr} {n : Nat} {w : Nat → Value} (A : GA Z h a .boolean n w) {j : Int32} {i : Nat} {v : Value} (hj : j.toInt = (i : Int)) (hi : i < n) (hv : w i = v) {pc : Nat} {Ls : Array Slot} {rest : List Value}
    (hd : decode c.code pc = .ok (.baload, 1)) (k : Owes p e below F (T.setTop (mkF m (pc + 1) Ls (v :: rest)))) : Owes p e below F (T.setTop (mkF m pc Ls (.int j :: .ref a :: rest))) := by
  obtain ⟨cl, A1, S, V⟩ := A
  exact Owes.aldZ X hx hZ eT A1 (own_nth hj hi S) (by rw [(own_nat hj).2, ← hv]; exact V i hi) hd k
theorem Owes.gB (X : Stand p l e R s m args below meth c T locs cells slots) (hx : p.tables.exec = Jvm.exec) (hZ : Z.Warmed39 s.vm) (eT : T.heap = h) {a : Addr} {n : Nat} {w : Nat → Value} (A : GA Z h a .byte n w) {j : Int32} {i : Nat} {v : Value} (hj : j.toInt = (i : Int)) (hi : i < n) (hv : w i = v) {pc : Nat} {Ls : Array Slot} {rest : List Value}
    (hd : decode c.code pc = .ok (.baload, 1)) (k : Owes p e below F (T.setTop (mkF m (pc + 1) Ls (v :: rest)))) : Owes p e below F (T.setTop (mkF m pc Ls (.int j :: .ref a :: rest))) := by
  obtain ⟨cl, A1, S, V⟩ := A
  exact Owes.aldB X hx hZ eT A1 (own_nth hj hi S) (by rw [(own_nat hj).2, ← hv]; exact V i hi) hd k
theorem Owes.gR (X : Stand p l e R s m args below meth c T locs cells slots) (hx : p.tables.exec = Jvm.exec) (hZ : Z.Warmed39 s.vm) (eT : T.heap = h) {a : Addr} {n : Nat} {ty : FieldType} {w : Nat → Value} (A : GA Z h a ty n w) (hty : ty.isReference = true) {j : Int32} {i : Nat} {v : Value} (hj : j.toInt = (i : Int)) (hi : i < n) (hv : w i = v) {pc : Nat} {Ls : Array Slot} {rest : List Value}
    (hd : decode c.code pc = .ok (.aaload, 1)) (k : Owes p e below F (T.setTop (mkF m (pc + 1) Ls (v :: rest)))) : Owes p e below F (T.setTop (mkF m pc Ls (.int j :: .ref a :: rest))) := by
  obtain ⟨cl, A1, S, V⟩ := A
  exact Owes.aldR X hx hZ eT A1 hty (own_nth hj hi S) (by rw [(own_nat hj).2, ← hv]; exact V i hi) hd k
theorem Owes.glen (X : Stand p l e R s m args below meth c T locs cells slots) (hx : p.tables.exec = Jvm.exec) (hZ : Z.Warmed39 s.vm) (eT : T.heap = h) {a : Addr} {n : Nat} {ty : FieldType} {w : Nat → Value} (A : GA Z h a ty n w) {z : Int32} (hz : z.toInt = (n : Int)) {pc : Nat} {Ls : Array Slot} {rest : List Value}
    (hd : decode c.code pc = .ok (.arraylength, 1)) (k : Owes p e below F (T.setTop (mkF m (pc + 1) Ls (.int z :: rest)))) : Owes p e below F (T.setTop (mkF m pc Ls (.ref a :: rest))) := by
  obtain ⟨cl, A1, S, V⟩ := A
  exact Owes.alen X hx hZ eT A1 (len_of (by rw [S, (own_nat hz).2]) (own_nat hz).1) hd k
theorem Owes.sI (X : Stand p l e R s m args below meth c T locs cells slots) (hx : p.tables.exec = Jvm.exec) (hZ : Z.Warmed39 s.vm) (eT : T.heap = h) {a : Addr} {n : Nat} {w : Nat → Value} (A : GA Z h a .int n w) {j : Int32} {i : Nat} (hj : j.toInt = (i : Int)) (hi : i < n) {x : Int32} {pc : Nat} {Ls : Array Slot} {rest : List Value}
    (hd : decode c.code pc = .ok (.iastore, 1)) (k : ∀ (T' : State) (h' : Heap), Stand p l e R s m args below meth c T' (locs ++ [⟨a, i⟩]) cells slots → T'.heap = h' → Wr h h' a i (.int x) → GA Z h' a .int n (upd w i (.int x)) → Owes p e below F (T'.setTop (mkF m (pc + 1) Ls rest))) : Owes p e below F (T.setTop (mkF m pc Ls (.int x :: .int j :: .ref a :: rest))) := by
  have A0 := A
  obtain ⟨cl, A1, S, V⟩ := A
  obtain ⟨T', h', X', e', W, st⟩ := stI X hx hZ eT A1 (j := j) (x := x) (own_nth hj hi S) (g := mkF m pc Ls (.int x :: .int j :: .ref a :: rest)) rfl rfl hd
  rw [(own_nat hj).2] at X' W
  exact (k T' h' X' e' W (A0.set W)).go st
theorem Owes.sJ (X : Stand p l e R s m args below meth c T locs cells slots) (hx : p.tables.exec = Jvm.exec) (hZ : Z.Warmed39 s.vm) (eT : T.heap = h) {a : Addr} {n : Nat} {w : Nat → Value} (A : GA Z h a .long n w) {j : Int32} {i : Nat} (hj : j.toInt = (i : Int)) (hi : i < n) {x : Int64} {pc : Nat} {Ls : Array Slot} {rest : List Value}
    (hd : decode c.code pc = .ok (.lastore, 1)) (k : ∀ (T' : State) (h' : Heap), Stand p l e R s m args below meth c T' (locs ++ [⟨a, i⟩]) cells slots → T'.heap = h' → Wr h h' a i (.long x) → GA Z h' a .long n (upd w i (.long x)) → Owes p e below F (T'.setTop (mkF m (pc + 1) Ls rest))) : Owes p e below F (T.setTop (mkF m pc Ls (.long x :: .int j :: .ref a :: rest))) := by
  have A0 := A
  obtain ⟨cl, A1, S, V⟩ := A
  obtain ⟨T', h', X', e', W, st⟩ := stJ X hx hZ eT A1 (j := j) (x := x) (own_nth hj hi S) (g := mkF m pc Ls (.long x :: .int j :: .ref a :: rest)) rfl rfl hd
  rw [(own_nat hj).2] at X' W
  exact (k T' h' X' e' W (A0.set W)).go st
theorem Owes.sR (X : Stand p l e R s m args below meth c T locs cells slots) (hx : p.tables.exec = Jvm.exec) (hZ : Z.Warmed39 s.vm) (eT : T.heap = h) {a : Addr} {n : Nat} {ty : FieldType} {w : Nat → Value} (A : GA Z h a ty n w) (hty : ty.isReference = true) {j : Int32} {i : Nat} (hj : j.toInt = (i : Int)) (hi : i < n) {v : Value} (SF : Sto Z h a v) {pc : Nat} {Ls : Array Slot} {rest : List Value}
    (hd : decode c.code pc = .ok (.aastore, 1)) (k : ∀ (T' : State) (h' : Heap), Stand p l e R s m args below meth c T' (locs ++ [⟨a, i⟩]) cells slots → T'.heap = h' → Wr h h' a i v → GA Z h' a ty n (upd w i v) → Owes p e below F (T'.setTop (mkF m (pc + 1) Ls rest))) : Owes p e below F (T.setTop (mkF m pc Ls (v :: .int j :: .ref a :: rest))) := by
  have A0 := A
  obtain ⟨cl, A1, S, V⟩ := A
  obtain ⟨T', h', X', e', W, st⟩ := stR X hx hZ eT A1 (j := j) (v := v) (own_nth hj hi S) hty SF (g := mkF m pc Ls (v :: .int j :: .ref a :: rest)) rfl rfl hd
  rw [(own_nat hj).2] at X' W
  exact (k T' h' X' e' W (A0.set W)).go st
theorem Owes.newArr (X : Stand p l e R s m args below meth c T locs cells slots) (hx : p.tables.exec = Jvm.exec) (hZ : Z.Warmed39 s.vm) {aty : ArrayType} (w : (Cond.arrayClass (newarray.typeOf aty)).before a0 Z = true) (eT : T.heap = h) {z : Int32} {n : Nat} (hz : z.toInt = (n : Int)) (hb : n * 8 ≤ 536870912) (hcl : cells + 1 ≤ R.cells) (hsl : slots + n ≤ R.slots) {ad : String} (had : "[" ++ (newarray.typeOf aty).toString = ad) {pc : Nat} {Ls : Array Slot} {rest : List Value}
    (hd : decode c.code pc = .ok (.newarray aty, 2)) (k : ∀ (T' : State) (h' : Heap), Stand p l e R s m args below meth c T' locs (cells + 1) (slots + n) → T'.heap = h' → Ext h h' → GA Z h' h.size (newarray.typeOf aty) n (fun _ => defaultValue (newarray.typeOf aty)) → Exa Z h' h.size ad → Owes p e below F (T'.setTop (mkF m (pc + 2) Ls (.ref h.size :: rest)))) : Owes p e below F (T.setTop (mkF m pc Ls (.int z :: rest))) := by
  obtain ⟨T', h', cA, X', e', E, A1, EX, st⟩ := newPE X hx hZ w eT (g := mkF m pc Ls (.int z :: rest)) rfl hd (n := z) rfl (own_nat hz).1 (cap := n) (Nat.le_of_eq (own_nat hz).2) hb hcl hsl had
  exact (k T' h' X' e' E (GA.new A1 hz) EX).go st
theorem Owes.newArrA (X : Stand p l e R s m args below meth c T locs cells slots) (hx : p.tables.exec = Jvm.exec) (hZ : Z.Warmed39 s.vm) {own CC : String} {ty : FieldType} {index : Nat} (hown : s.vm.findClass own = some m.cls) (hC : (FieldType.array ty).toString = CC) (w1 : (Cond.classLink own index CC).before a0 Z = true) (w2 : (Cond.arrayOver (.array ty)).before a0 Z = true) (eT : T.heap = h) {z : Int32} {n : Nat} (hz : z.toInt = (n : Int)) (hb : n * 8 ≤ 536870912) (hcl : cells + 1 ≤ R.cells) (hsl : slots + n ≤ R.slots) {pc : Nat} {Ls : Array Slot} {rest : List Value}
    (hd : decode c.code pc = .ok (.anewarray index, 3)) (k : ∀ (T' : State) (h' : Heap) (cA : ClassId), Stand p l e R s m args below meth c T' locs (cells + 1) (slots + n) → T'.heap = h' → Ext h h' → Arr Z h' h.size (newA cA (.array ty) z) (.array ty) → OvrA Z cA ty CC → Owes p e below F (T'.setTop (mkF m (pc + 3) Ls (.ref h.size :: rest)))) : Owes p e below F (T.setTop (mkF m pc Ls (.int z :: rest))) := by
  obtain ⟨T', h', cA, X', e', E, A1, EX, O, st⟩ := newRA X hx hZ hown hC w1 w2 eT (g := mkF m pc Ls (.int z :: rest)) rfl hd (n := z) rfl (own_nat hz).1 (cap := n) (Nat.le_of_eq (own_nat hz).2) hb hcl hsl rfl
  exact (k T' h' cA X' e' E A1 O).go st
/-- the same, and the array's own class -/
def GC (Z : State) (h : Heap) (a : Addr) (ty : FieldType) (n : Nat) (w : Nat → Value) (kc : ClassId) : Prop := ∃ c : Cell, Arr Z h a c ty ∧ c.cls = kc ∧ c.slots.size = n ∧ ∀ i, i < n → c.slots[i]? = some (w i)
theorem GC.ga {a : Addr} {ty : FieldType} {n : Nat} {w : Nat → Value} {kc : ClassId} (G0 : GC Z h a ty n w kc) : GA Z h a ty n w := by obtain ⟨c, A, -, r⟩ := G0; exact ⟨c, A, r⟩
theorem GC.ext {a : Addr} {ty : FieldType} {n : Nat} {w : Nat → Value} {kc : ClassId} (G0 : GC Z h a ty n w kc) (E : Ext h h') : GC Z h' a ty n w kc := by obtain ⟨c, A, r⟩ := G0; exact ⟨c, A.ext E, r⟩
theorem GC.other {a b : Addr} {ty : FieldType} {n sl : Nat} {w : Nat → Value} {v : Value} {kc : ClassId} (G0 : GC Z h b ty n w kc) (W : Wr h h' a sl v) (q : b ≠ a) : GC Z h' b ty n w kc := by obtain ⟨c, A, r⟩ := G0; exact ⟨c, A.other W q, r⟩
theorem GC.congr {a : Addr} {ty : FieldType} {n : Nat} {w w' : Nat → Value} {kc : ClassId} (G0 : GC Z h a ty n w kc) (q : ∀ i, i < n → w i = w' i) : GC Z h a ty n w' kc := by obtain ⟨c, A, K, S, r⟩ := G0; exact ⟨c, A, K, S, fun i hi => by rw [← q i hi]; exact r i hi⟩
theorem GC.set {a : Addr} {ty : FieldType} {n i : Nat} {w : Nat → Value} {v : Value} {kc : ClassId} (G0 : GC Z h a ty n w kc) (W : Wr h h' a i v) : GC Z h' a ty n (upd w i v) kc := by
  obtain ⟨c, A, K, S, r⟩ := G0
  refine ⟨_, A.same W, K, by rw [sz_set]; exact S, fun k hk => ?_⟩
  by_cases q : k = i
  · subst q
    rw [upd_same]
    simp [Cell.setSlot, S, hk]
  · rw [upd_ne _ _ q, ← r k hk]
    exact Array.getElem?_setIfInBounds_ne (Ne.symm q)
theorem GC.new {a : Addr} {ty : FieldType} {k : ClassId} {z : Int32} {n : Nat} (A : Arr Z h a (newA k ty z) ty) (q : z.toInt = (n : Int)) : GC Z h a ty n (fun _ => defaultValue ty) k := by
  have e := (own_nat q).2
  refine ⟨_, A, rfl, by rw [sz_new]; exact e, fun i hi => ?_⟩
  simp [newA, e, hi]
theorem GC.sto {a y : Addr} {ty t0 : FieldType} {n : Nat} {w : Nat → Value} {kc : ClassId} {CC : String} (G0 : GC Z h a t0 n w kc) (O : OvrA Z kc ty CC) (I : Ins Z h y CC true) : Sto Z h a (.ref y) := by
  obtain ⟨c, A, K, -⟩ := G0
  exact Sto.ofVA A K O I
end OwnArr

section OwnBits
def bt (w : Int64) (b : Nat) : Bool := w.toBitVec.getLsbD b
theorem bt_zero (b : Nat) : bt 0 b = false := by simp [bt]
theorem bt_ext {x y : Int64} (h : ∀ b, b < 64 → bt x b = bt y b) : x = y := Int64.toBitVec_inj.mp (BitVec.eq_of_getLsbD_eq h)
theorem bt_ne0 {x : Int64} (h : ¬ x = 0) : ∃ b, b < 64 ∧ bt x b = true := by
  apply Classical.byContradiction
  intro q
  apply h
  apply bt_ext
  intro b hb
  rw [bt_zero]
  cases hv : bt x b
  · rfl
  · exact absurd ⟨b, hb, hv⟩ q
theorem bt_eq0 {x : Int64} (h : x = 0) (b : Nat) : bt x b = false := by rw [h, bt_zero]
theorem bt_and (x y : Int64) (b : Nat) : bt (x &&& y) b = (bt x b && bt y b) := by simp [bt]
theorem bt_or (x y : Int64) (b : Nat) : bt (x ||| y) b = (bt x b || bt y b) := by simp [bt]
theorem bt_xor (x y : Int64) (b : Nat) : bt (x ^^^ y) b = (bt x b ^^ bt y b) := by simp [bt]
theorem bt_m1 (b : Nat) (hb : b < 64) : bt (-1) b = true := (by decide +kernel : ∀ b : Fin 64, bt (-1) b.1 = true) ⟨b, hb⟩
theorem bt_1 (b : Nat) : bt 1 b = decide (b = 0) := by
  by_cases hb : b < 64
  · exact (by decide +kernel : ∀ b : Fin 64, bt 1 b.1 = decide (b.1 = 0)) ⟨b, hb⟩
  · have : ¬ b = 0 := by omega
    simp only [this, decide_false]
    exact BitVec.getLsbD_of_ge _ _ (by omega)
theorem i32_nat {q : Int32} {i : Nat} (h : q.toInt = (i : Int)) : q.toBitVec.toNat = i := by
  have h1 : q.toBitVec.toInt = (i : Int) := h
  have h2 := q.toBitVec.isLt
  rw [BitVec.toInt_eq_toNat_cond] at h1
  split at h1 <;> omega
theorem bt_shl (x : Int64) (q : Int32) (i : Nat) (h : q.toInt = (i : Int)) (b : Nat) (hb : b < 64) : bt (x <<< (q &&& 0x3f).toInt64) b = (decide (i % 64 ≤ b) && bt x (b - i % 64)) := by
  have e : q.toBitVec.toNat % 64 = i % 64 := by rw [i32_nat h]
  show (x.toBitVec <<< ((q &&& 0x3f).toInt64.toBitVec.smod 64)).getLsbD b = _
  rw [BitVec.shiftLeft_eq', (sm64 q _ e).1, smod64 _ (sm64 q _ e).2, BitVec.getLsbD_shiftLeft]
  by_cases c : i % 64 ≤ b
  · simp [c, hb, bt, Nat.not_lt.mpr c]
  · simp [c, hb, Nat.lt_of_not_le c]
theorem bt_ushr (x : Int64) (q : Int32) (i : Nat) (h : q.toInt = (i : Int)) (b : Nat) : bt ((x.toUInt64 >>> (q &&& 0x3f).toInt64.toUInt64).toInt64) b = bt x (i % 64 + b) := by
  have e : q.toBitVec.toNat % 64 = i % 64 := by rw [i32_nat h]
  have h5 := (sm64 q _ e).2
  show (x.toBitVec >>> ((q &&& 0x3f).toInt64.toBitVec % 64)).getLsbD b = _
  rw [BitVec.ushiftRight_eq', BitVec.getLsbD_ushiftRight, BitVec.toNat_umod, (sm64 q _ e).1, BitVec.toNat_ofNat]
  have : i % 64 % 2 ^ 64 % (64 : BitVec 64).toNat = i % 64 := by show i % 64 % 2 ^ 64 % 64 = _; omega
  rw [this]; rfl
/-- the word with just the bit i % 64 -/
theorem bt_one_shl (q : Int32) (i : Nat) (h : q.toInt = (i : Int)) (b : Nat) (hb : b < 64) : bt ((1 : Int64) <<< (q &&& 0x3f).toInt64) b = decide (b = i % 64) := by
  rw [bt_shl _ q i h b hb, bt_1]
  by_cases c : b = i % 64
  · simp [c]
  · by_cases d : i % 64 ≤ b
    · have : ¬ b - i % 64 = 0 := by omega
      simp [c, this]
    · simp [c, d]
theorem bt_m1_shl (q : Int32) (i : Nat) (h : q.toInt = (i : Int)) (b : Nat) (hb : b < 64) : bt ((-1 : Int64) <<< (q &&& 0x3f).toInt64) b = decide (i % 64 ≤ b) := by
  rw [bt_shl _ q i h b hb, bt_m1 _ (by omega)]; simp
theorem bt_m1_ushr (q : Int32) (i : Nat) (hi : i < 64) (h : q.toInt = ((63 - i : Nat) : Int)) (b : Nat) (hb : b < 64) : bt (((-1 : Int64).toUInt64 >>> (q &&& 0x3f).toInt64.toUInt64).toInt64) b = decide (b ≤ i) := by
  rw [bt_ushr _ q _ h, Nat.mod_eq_of_lt (show 63 - i < 64 by omega)]
  by_cases c : b ≤ i
  · simp only [c, decide_true]
    exact bt_m1 _ (by omega)
  · simp only [c, decide_false]
    exact BitVec.getLsbD_of_ge _ _ (by omega)
/-- the lowest bit's mask -/
theorem own_low (x : Int32) (t : Nat) (ht : t < 32) (h1 : x.toBitVec.getLsbD t = true) (h2 : ∀ b, b < t → x.toBitVec.getLsbD b = false) : ((x ^^^ (-1 : Int32)) &&& (x - (1 : Int32))) = Int32.ofNat (2 ^ t - 1) := by
  apply Int32.toBitVec_inj.mp
  show (x.toBitVec ^^^ (-1 : Int32).toBitVec) &&& (x.toBitVec - (1 : Int32).toBitVec) = BitVec.ofNat 32 (2 ^ t - 1)
  generalize x.toBitVec = y at *
  have hlt := y.isLt
  have b1 : y.toNat.testBit t = true := h1
  have b2 : ∀ b, b < t → y.toNat.testBit b = false := h2
  have m0 : y.toNat % 2 ^ t = 0 := by
    apply Nat.eq_of_testBit_eq
    intro j
    rw [Nat.testBit_mod_two_pow, Nat.zero_testBit]
    by_cases c : j < t
    · simp [c, b2 j c]
    · simp [c]
  have hd : y.toNat / 2 ^ t % 2 = 1 := by
    rw [Nat.testBit_eq_decide_div_mod_eq] at b1
    exact of_decide_eq_true b1
  have hp : 0 < 2 ^ t := Nat.two_pow_pos t
  have e1 : y.toNat = 2 ^ (t + 1) * (y.toNat / 2 ^ t / 2) + 2 ^ t := by
    have q1 := Nat.div_add_mod y.toNat (2 ^ t)
    have q2 := Nat.div_add_mod (y.toNat / 2 ^ t) 2
    rw [m0] at q1
    rw [hd] at q2
    rw [Nat.pow_succ]
    generalize y.toNat / 2 ^ t = a at *
    have q3 : 2 ^ t * 2 * (a / 2) + 2 ^ t = 2 ^ t * (2 * (a / 2) + 1) := by rw [Nat.mul_add, Nat.mul_one, Nat.mul_assoc]
    rw [q3, q2]; omega
  generalize y.toNat / 2 ^ t / 2 = hi at *
  have hle : 2 ^ t < 2 ^ (t + 1) := by rw [Nat.pow_succ]; omega
  have e2 : (y - (1 : Int32).toBitVec).toNat = 2 ^ (t + 1) * hi + (2 ^ t - 1) := by
    rw [BitVec.toNat_sub, show (1 : Int32).toBitVec.toNat = 1 by decide]
    omega
  apply BitVec.eq_of_getLsbD_eq
  intro j hj
  rw [BitVec.getLsbD_and, BitVec.getLsbD_xor, show (-1 : Int32).toBitVec.getLsbD j = true from (by decide +kernel : ∀ j : Fin 32, (-1 : Int32).toBitVec.getLsbD j.1 = true) ⟨j, hj⟩]
  have l1 : y.getLsbD j = y.toNat.testBit j := rfl
  have l2 : (y - (1 : Int32).toBitVec).getLsbD j = (y - (1 : Int32).toBitVec).toNat.testBit j := rfl
  rw [l1, l2, e2, e1, Nat.testBit_two_pow_mul_add _ hle, Nat.testBit_two_pow_mul_add _ (show 2 ^ t - 1 < 2 ^ (t + 1) by omega), BitVec.getLsbD_ofNat]
  rw [Nat.testBit_two_pow, Nat.testBit_two_pow_sub_one]
  by_cases c : j < t + 1
  · by_cases d : t = j
    · subst d; simp
    · have : j < t := by omega
      simp [c, d, this, hj]
  · have : ¬ j < t := by omega
    simp [c, this]
end OwnBits

section OwnRank
theorem dk_succ (x k : Nat) : x / 64 ^ (k + 1) = x / 64 ^ k / 64 := by rw [Nat.pow_succ, Nat.div_div_eq_div_mul]
theorem dk_mono {x y a b : Nat} (h : x / 64 ^ a = y / 64 ^ a) (hab : a ≤ b) : x / 64 ^ b = y / 64 ^ b := by
  obtain ⟨c, rfl⟩ := Nat.le.dest hab
  rw [Nat.pow_add, ← Nat.div_div_eq_div_mul, ← Nat.div_div_eq_div_mul, h]
/-- the words of level k tell of the members M -/
def LV (M : Nat → Prop) (k len : Nat) (f : Nat → Int64) : Prop := ∀ i, i < len → ∀ b, b < 64 → (bt (f i) b = true ↔ ∃ x, M x ∧ x / 64 ^ k = 64 * i + b)
theorem LV.empty (k len : Nat) : LV (fun _ => False) k len (fun _ => 0) := fun i _ b _ => by
  rw [bt_zero]
  exact ⟨fun h => Bool.noConfusion h, fun ⟨_, h, _⟩ => h.elim⟩
theorem LV.congr {M M' : Nat → Prop} {k len : Nat} {f : Nat → Int64} (H : LV M k len f) (q : ∀ x, M x ↔ M' x) : LV M' k len f := fun i hi b hb => by
  rw [H i hi b hb]
  exact ⟨fun ⟨x, h1, h2⟩ => ⟨x, (q x).mp h1, h2⟩, fun ⟨x, h1, h2⟩ => ⟨x, (q x).mpr h1, h2⟩⟩
theorem LV.add {M : Nat → Prop} {k len : Nat} {f : Nat → Int64} (H : LV M k len f) (n : Nat) (at_ : Int32) (ha : at_.toInt = ((n / 64 ^ k : Nat) : Int)) :
    LV (fun x => M x ∨ x = n) k len (upd f (n / 64 ^ k / 64) (f (n / 64 ^ k / 64) ||| ((1 : Int64) <<< (at_ &&& 0x3f).toInt64))) := fun i hi b hb => by
  generalize hA : n / 64 ^ k = A at *
  by_cases q : i = A / 64
  · subst q
    rw [upd_same, bt_or, bt_one_shl _ _ ha b hb]
    constructor
    · intro z
      rcases Bool.or_eq_true_iff.mp z with z | z
      · obtain ⟨x, h1, h2⟩ := (H _ hi b hb).mp z
        exact ⟨x, Or.inl h1, h2⟩
      · have z := of_decide_eq_true z
        exact ⟨n, Or.inr rfl, by rw [hA]; omega⟩
    · rintro ⟨x, h1 | rfl, h2⟩
      · rw [(H _ hi b hb).mpr ⟨x, h1, h2⟩]; rfl
      · rw [hA] at h2
        have : b = A % 64 := by omega
        simp [this]
  · rw [upd_ne _ _ q, H i hi b hb]
    constructor
    · rintro ⟨x, h1, h2⟩; exact ⟨x, Or.inl h1, h2⟩
    · rintro ⟨x, h1 | rfl, h2⟩
      · exact ⟨x, h1, h2⟩
      · rw [hA] at h2; exact absurd (by omega) q
/-- a word that held a member: the levels above tell of it already -/
theorem LV.up {M : Nat → Prop} {k len : Nat} {f : Nat → Int64} (H : LV M k len f) {n : Nat} (hi : n / 64 ^ k / 64 < len) (hne : ¬ f (n / 64 ^ k / 64) = 0) : ∃ x, M x ∧ x / 64 ^ (k + 1) = n / 64 ^ (k + 1) := by
  obtain ⟨b, hb, z⟩ := bt_ne0 hne
  obtain ⟨x, h1, h2⟩ := (H _ hi b hb).mp z
  exact ⟨x, h1, by rw [dk_succ, dk_succ, h2]; omega⟩
theorem LV.more {M : Nat → Prop} {j len k : Nat} {f : Nat → Int64} {n : Nat} (H : LV M j len f) (hj : k ≤ j) (q : ∃ x, M x ∧ x / 64 ^ k = n / 64 ^ k) : LV (fun x => M x ∨ x = n) j len f := fun i hi b hb => by
  rw [H i hi b hb]
  constructor
  · rintro ⟨x, h1, h2⟩; exact ⟨x, Or.inl h1, h2⟩
  · rintro ⟨x, h1 | rfl, h2⟩
    · exact ⟨x, h1, h2⟩
    · obtain ⟨x', h3, h4⟩ := q
      exact ⟨x', h3, (dk_mono h4 hj).trans h2⟩
theorem LV.del {M : Nat → Prop} {k len : Nat} {f : Nat → Int64} (H : LV M k len f) (n : Nat) (at_ : Int32) (ha : at_.toInt = ((n / 64 ^ k : Nat) : Int)) (hno : ∀ x, M x → x ≠ n → x / 64 ^ k ≠ n / 64 ^ k) :
    LV (fun x => M x ∧ x ≠ n) k len (upd f (n / 64 ^ k / 64) (f (n / 64 ^ k / 64) &&& (((1 : Int64) <<< (at_ &&& 0x3f).toInt64) ^^^ (-1 : Int64)))) := fun i hi b hb => by
  generalize hA : n / 64 ^ k = A at *
  by_cases q : i = A / 64
  · subst q
    rw [upd_same, bt_and, bt_xor, bt_one_shl _ _ ha b hb, bt_m1 b hb]
    constructor
    · intro z
      obtain ⟨z1, z2⟩ := Bool.and_eq_true_iff.mp z
      have z3 : ¬ b = A % 64 := by
        intro w
        simp [w] at z2
      obtain ⟨x, h1, h2⟩ := (H _ hi b hb).mp z1
      exact ⟨x, ⟨h1, fun w => by subst w; rw [hA] at h2; omega⟩, h2⟩
    · rintro ⟨x, ⟨h1, h3⟩, h2⟩
      have z1 := (H _ hi b hb).mpr ⟨x, h1, h2⟩
      have z3 : ¬ b = A % 64 := fun w => hno x h1 h3 (by rw [h2]; omega)
      rw [z1]; simp [z3]
  · rw [upd_ne _ _ q, H i hi b hb]
    constructor
    · rintro ⟨x, h1, h2⟩; exact ⟨x, ⟨h1, fun w => by subst w; rw [hA] at h2; exact absurd (by omega) q⟩, h2⟩
    · rintro ⟨x, ⟨h1, _⟩, h2⟩; exact ⟨x, h1, h2⟩
theorem LV.less {M : Nat → Prop} {j len k : Nat} {f : Nat → Int64} {n : Nat} (H : LV M j len f) (hj : k ≤ j) (q : ∃ x, (M x ∧ x ≠ n) ∧ x / 64 ^ k = n / 64 ^ k) : LV (fun x => M x ∧ x ≠ n) j len f := fun i hi b hb => by
  rw [H i hi b hb]
  constructor
  · rintro ⟨x, h1, h2⟩
    by_cases w : x = n
    · subst w
      obtain ⟨x', h3, h4⟩ := q
      exact ⟨x', h3, (dk_mono h4 hj).trans h2⟩
    · exact ⟨x, ⟨h1, w⟩, h2⟩
  · rintro ⟨x, ⟨h1, _⟩, h2⟩; exact ⟨x, h1, h2⟩
/-- an empty word: nobody is there -/
theorem LV.none {M : Nat → Prop} {k len : Nat} {f : Nat → Int64} (H : LV M k len f) {n : Nat} (hi : n / 64 ^ k / 64 < len) (hz : f (n / 64 ^ k / 64) = 0) (x : Nat) (hx : M x) : x / 64 ^ (k + 1) ≠ n / 64 ^ (k + 1) := fun w => by
  rw [dk_succ, dk_succ] at w
  have := (H _ hi (x / 64 ^ k % 64) (by omega)).mpr ⟨x, hx, by omega⟩
  rw [bt_eq0 hz] at this
  cases this
/-- up the levels: every member from 'from' on lies at or above A at level k, and whatever lies there is such a member -/
def Up (M : Nat → Prop) (fr k A : Nat) : Prop := (∀ x, M x → fr ≤ x → A ≤ x / 64 ^ k) ∧ ∀ x, M x → A ≤ x / 64 ^ k → fr ≤ x
theorem Up.start (M : Nat → Prop) (fr : Nat) : Up M fr 0 fr := ⟨fun x _ h => by simpa using h, fun x _ h => by simpa using h⟩
theorem Up.next {M : Nat → Prop} {fr k A len : Nat} {f : Nat → Int64} (U : Up M fr k A) (H : LV M k len f) (hi : A / 64 < len) (q : Int32) (hq : q.toInt = (A : Int)) (hz : f (A / 64) &&& ((-1 : Int64) <<< (q &&& 0x3f).toInt64) = 0) : Up M fr (k + 1) (A / 64 + 1) := by
  have hno : ∀ x, M x → A ≤ x / 64 ^ k → A / 64 + 1 ≤ x / 64 ^ k / 64 := by
    intro x hx hA
    apply Classical.byContradiction
    intro hc
    have e : x / 64 ^ k / 64 = A / 64 := by omega
    have hb : x / 64 ^ k % 64 < 64 := by omega
    have h1 := (H _ hi _ hb).mpr ⟨x, hx, by omega⟩
    have h2 := bt_eq0 hz (x / 64 ^ k % 64)
    rw [bt_and, h1, bt_m1_shl _ _ hq _ hb] at h2
    have : A % 64 ≤ x / 64 ^ k % 64 := by omega
    simp [this] at h2
  refine ⟨fun x hx hf => ?_, fun x hx hA => U.2 x hx ?_⟩
  · rw [dk_succ]; exact hno x hx (U.1 x hx hf)
  · rw [dk_succ] at hA; omega
/-- the least member from 'from' on, seen at level k -/
def Dn (M : Nat → Prop) (fr k y : Nat) : Prop := (∃ x, M x ∧ x / 64 ^ k = y) ∧ (∀ x, M x → fr ≤ x → y ≤ x / 64 ^ k) ∧ ∀ x, M x → x / 64 ^ k = y → fr ≤ x
/-- t is the lowest bit of w -/
def Low (w : Int64) (t : Nat) : Prop := t < 64 ∧ bt w t = true ∧ ∀ b, b < t → bt w b = false
theorem Low.ex {w : Int64} (h : ¬ w = 0) : ∃ t, Low w t := by
  obtain ⟨b, hb, hv⟩ := bt_ne0 h
  induction b using Nat.strongRecOn with
  | ind b ih =>
    by_cases q : ∃ b', b' < b ∧ bt w b' = true
    · obtain ⟨b', h1, h2⟩ := q
      exact ih b' h1 (by omega) h2
    · refine ⟨b, hb, hv, fun b' h' => ?_⟩
      cases hx : bt w b'
      · rfl
      · exact absurd ⟨b', h', hx⟩ q
theorem Up.found {M : Nat → Prop} {fr k A len t : Nat} {f : Nat → Int64} (U : Up M fr k A) (H : LV M k len f) (hi : A / 64 < len) (q : Int32) (hq : q.toInt = (A : Int)) (ht : Low (f (A / 64) &&& ((-1 : Int64) <<< (q &&& 0x3f).toInt64)) t) : Dn M fr k (A - A % 64 + t) := by
  obtain ⟨t1, t2, t3⟩ := ht
  rw [bt_and, bt_m1_shl _ _ hq _ t1] at t2
  obtain ⟨t4, t5⟩ := Bool.and_eq_true_iff.mp t2
  have t5 := of_decide_eq_true t5
  obtain ⟨x0, h1, h2⟩ := (H _ hi t t1).mp t4
  have e : A - A % 64 = 64 * (A / 64) := by omega
  rw [e]
  refine ⟨⟨x0, h1, h2⟩, fun x hx hf => ?_, fun x hx hxe => U.2 x hx (by omega)⟩
  have hA := U.1 x hx hf
  apply Classical.byContradiction
  intro hc
  have e2 : x / 64 ^ k / 64 = A / 64 := by omega
  have hb : x / 64 ^ k % 64 < 64 := by omega
  have h3 := (H _ hi _ hb).mpr ⟨x, hx, by omega⟩
  have h4 := t3 (x / 64 ^ k % 64) (by omega)
  rw [bt_and, h3, bt_m1_shl _ _ hq _ hb] at h4
  have : A % 64 ≤ x / 64 ^ k % 64 := by omega
  simp [this] at h4
theorem Dn.down {M : Nat → Prop} {fr k y len t : Nat} {f : Nat → Int64} (D : Dn M fr (k + 1) y) (H : LV M k len f) (hi : y < len) (ht : Low (f y) t) : Dn M fr k (64 * y + t) := by
  obtain ⟨d1, d2, d3⟩ := D
  obtain ⟨t1, t2, t3⟩ := ht
  obtain ⟨x0, h1, h2⟩ := (H _ hi t t1).mp t2
  refine ⟨⟨x0, h1, h2⟩, fun x hx hf => ?_, fun x hx hxe => d3 x hx (by rw [dk_succ]; omega)⟩
  have h3 := d2 x hx hf
  rw [dk_succ] at h3
  apply Classical.byContradiction
  intro hc
  have hb : x / 64 ^ k % 64 < 64 := by omega
  have h4 := (H _ hi _ hb).mpr ⟨x, hx, by omega⟩
  have h5 := t3 (x / 64 ^ k % 64) (by omega)
  rw [h4] at h5; cases h5
theorem Dn.word {M : Nat → Prop} {fr k y len : Nat} {f : Nat → Int64} (D : Dn M fr (k + 1) y) (H : LV M k len f) (hi : y < len) : ¬ f y = 0 := fun hz => by
  obtain ⟨x, h1, h2⟩ := D.1
  rw [dk_succ] at h2
  have h4 := (H _ hi (x / 64 ^ k % 64) (by omega)).mpr ⟨x, h1, by omega⟩
  rw [bt_eq0 hz] at h4; cases h4
/-- what 'next' answers -/
def NextIs (M : Nat → Prop) (fr : Nat) (r : Int) : Prop := (r = -1 ∧ ∀ x, M x → ¬ fr ≤ x) ∨ ∃ y : Nat, r = (y : Int) ∧ M y ∧ fr ≤ y ∧ ∀ x, M x → fr ≤ x → y ≤ x
theorem Dn.last {M : Nat → Prop} {fr y : Nat} (D : Dn M fr 0 y) : NextIs M fr (y : Int) := by
  obtain ⟨⟨x, h1, h2⟩, d2, d3⟩ := D
  simp only [Nat.pow_zero, Nat.div_one] at *
  subst h2
  exact Or.inr ⟨x, rfl, h1, d3 x h1 rfl, d2⟩
theorem NextIs.one {M : Nat → Prop} {fr : Nat} {r r' : Int} (h : NextIs M fr r) (h' : NextIs M fr r') : r = r' := by
  rcases h with ⟨rfl, h1⟩ | ⟨y, rfl, h1, h2, h3⟩ <;> rcases h' with ⟨rfl, h1'⟩ | ⟨y', rfl, h1', h2', h3'⟩
  · rfl
  · exact absurd h2' (h1 _ h1')
  · exact absurd h2 (h1' _ h1)
  · have := h3 _ h1' h2'
    have := h3' _ h1 h2
    omega
/-- the mirror: the greatest member up to 'upTo' (A at level k; -1: nothing is left) -/
def UpP (M : Nat → Prop) (fr : Int) (k : Nat) (A : Int) : Prop := (∀ x : Nat, M x → (x : Int) ≤ fr → ((x / 64 ^ k : Nat) : Int) ≤ A) ∧ ∀ x : Nat, M x → ((x / 64 ^ k : Nat) : Int) ≤ A → (x : Int) ≤ fr
theorem UpP.start (M : Nat → Prop) (fr : Int) : UpP M fr 0 fr := ⟨fun x _ h => by simpa using h, fun x _ h => by simpa using h⟩
theorem UpP.next {M : Nat → Prop} {fr : Int} {k A len : Nat} {f : Nat → Int64} (U : UpP M fr k (A : Int)) (H : LV M k len f) (hi : A / 64 < len) (q : Int32) (hq : q.toInt = ((63 - A % 64 : Nat) : Int)) (hz : f (A / 64) &&& (((-1 : Int64).toUInt64 >>> (q &&& 0x3f).toInt64.toUInt64).toInt64) = 0) : UpP M fr (k + 1) (((A / 64 : Nat) : Int) - 1) := by
  have hno : ∀ x, M x → x / 64 ^ k ≤ A → x / 64 ^ k / 64 + 1 ≤ A / 64 := by
    intro x hx hA
    apply Classical.byContradiction
    intro hc
    have e : x / 64 ^ k / 64 = A / 64 := by omega
    have hb : x / 64 ^ k % 64 < 64 := by omega
    have h1 := (H _ hi _ hb).mpr ⟨x, hx, by omega⟩
    have h2 := bt_eq0 hz (x / 64 ^ k % 64)
    rw [bt_and, h1, bt_m1_ushr _ (A % 64) (by omega) hq _ hb] at h2
    have : x / 64 ^ k % 64 ≤ A % 64 := by omega
    simp [this] at h2
  refine ⟨fun x hx hf => ?_, fun x hx hA => U.2 x hx ?_⟩
  · have := hno x hx (by have := U.1 x hx hf; omega)
    rw [dk_succ]; omega
  · rw [dk_succ] at hA; omega
def DnP (M : Nat → Prop) (fr : Int) (k y : Nat) : Prop := (∃ x, M x ∧ x / 64 ^ k = y) ∧ (∀ x : Nat, M x → (x : Int) ≤ fr → x / 64 ^ k ≤ y) ∧ ∀ x : Nat, M x → x / 64 ^ k = y → (x : Int) ≤ fr
def High (w : Int64) (t : Nat) : Prop := t < 64 ∧ bt w t = true ∧ ∀ b, t < b → b < 64 → bt w b = false
theorem High.ex {w : Int64} (h : ¬ w = 0) : ∃ t, High w t := by
  obtain ⟨b, hb, hv⟩ := bt_ne0 h
  generalize hn : 64 - b = n
  induction n using Nat.strongRecOn generalizing b with
  | ind n ih =>
    by_cases q : ∃ b', b < b' ∧ b' < 64 ∧ bt w b' = true
    · obtain ⟨b', h1, h2, h3⟩ := q
      exact ih (64 - b') (by omega) b' h2 h3 rfl
    · refine ⟨b, hb, hv, fun b' h' h'' => ?_⟩
      cases hx : bt w b'
      · rfl
      · exact absurd ⟨b', h', h'', hx⟩ q
theorem UpP.found {M : Nat → Prop} {fr : Int} {k A len t : Nat} {f : Nat → Int64} (U : UpP M fr k (A : Int)) (H : LV M k len f) (hi : A / 64 < len) (q : Int32) (hq : q.toInt = ((63 - A % 64 : Nat) : Int)) (ht : High (f (A / 64) &&& (((-1 : Int64).toUInt64 >>> (q &&& 0x3f).toInt64.toUInt64).toInt64)) t) : DnP M fr k (A - A % 64 + t) := by
  obtain ⟨t1, t2, t3⟩ := ht
  rw [bt_and, bt_m1_ushr _ (A % 64) (by omega) hq _ t1] at t2
  obtain ⟨t4, t5⟩ := Bool.and_eq_true_iff.mp t2
  have t5 := of_decide_eq_true t5
  obtain ⟨x0, h1, h2⟩ := (H _ hi t t1).mp t4
  have e : A - A % 64 = 64 * (A / 64) := by omega
  rw [e]
  refine ⟨⟨x0, h1, h2⟩, fun x hx hf => ?_, fun x hx hxe => U.2 x hx (by omega)⟩
  have hA := U.1 x hx hf
  apply Classical.byContradiction
  intro hc
  have e2 : x / 64 ^ k / 64 = A / 64 := by omega
  have hb : x / 64 ^ k % 64 < 64 := by omega
  have h3 := (H _ hi _ hb).mpr ⟨x, hx, by omega⟩
  have h4 := t3 (x / 64 ^ k % 64) (by omega) hb
  rw [bt_and, h3, bt_m1_ushr _ (A % 64) (by omega) hq _ hb] at h4
  have : x / 64 ^ k % 64 ≤ A % 64 := by omega
  simp [this] at h4
theorem DnP.down {M : Nat → Prop} {fr : Int} {k y len t : Nat} {f : Nat → Int64} (D : DnP M fr (k + 1) y) (H : LV M k len f) (hi : y < len) (ht : High (f y) t) : DnP M fr k (64 * y + t) := by
  obtain ⟨d1, d2, d3⟩ := D
  obtain ⟨t1, t2, t3⟩ := ht
  obtain ⟨x0, h1, h2⟩ := (H _ hi t t1).mp t2
  refine ⟨⟨x0, h1, h2⟩, fun x hx hf => ?_, fun x hx hxe => d3 x hx (by rw [dk_succ]; omega)⟩
  have h3 := d2 x hx hf
  rw [dk_succ] at h3
  apply Classical.byContradiction
  intro hc
  have hb : x / 64 ^ k % 64 < 64 := by omega
  have h4 := (H _ hi _ hb).mpr ⟨x, hx, by omega⟩
  have h5 := t3 (x / 64 ^ k % 64) (by omega) hb
  rw [h4] at h5; cases h5
theorem DnP.word {M : Nat → Prop} {fr : Int} {k y len : Nat} {f : Nat → Int64} (D : DnP M fr (k + 1) y) (H : LV M k len f) (hi : y < len) : ¬ f y = 0 := fun hz => by
  obtain ⟨x, h1, h2⟩ := D.1
  rw [dk_succ] at h2
  have h4 := (H _ hi (x / 64 ^ k % 64) (by omega)).mpr ⟨x, h1, by omega⟩
  rw [bt_eq0 hz] at h4; cases h4
def PrevIs (M : Nat → Prop) (fr : Int) (r : Int) : Prop := (r = -1 ∧ ∀ x : Nat, M x → ¬ (x : Int) ≤ fr) ∨ ∃ y : Nat, r = (y : Int) ∧ M y ∧ (y : Int) ≤ fr ∧ ∀ x : Nat, M x → (x : Int) ≤ fr → x ≤ y
theorem DnP.last {M : Nat → Prop} {fr : Int} {y : Nat} (D : DnP M fr 0 y) : PrevIs M fr (y : Int) := by
  obtain ⟨⟨x, h1, h2⟩, d2, d3⟩ := D
  simp only [Nat.pow_zero, Nat.div_one] at *
  subst h2
  exact Or.inr ⟨x, rfl, h1, d3 x h1 rfl, d2⟩
theorem PrevIs.one {M : Nat → Prop} {fr : Int} {r r' : Int} (h : PrevIs M fr r) (h' : PrevIs M fr r') : r = r' := by
  rcases h with ⟨rfl, h1⟩ | ⟨y, rfl, h1, h2, h3⟩ <;> rcases h' with ⟨rfl, h1'⟩ | ⟨y', rfl, h1', h2', h3'⟩
  · rfl
  · exact absurd h2' (h1 _ h1')
  · exact absurd h2 (h1' _ h1)
  · have := h3 _ h1' h2'
    have := h3' _ h1 h2
    omega
theorem own_lti {x y : Int32} {a b : Nat} (hx : x.toInt = (a : Int)) (hy : y.toInt = (b : Int)) (h : a < b) : x < y := by rw [Int32.lt_iff_toInt_lt, hx, hy]; omega
theorem own_nlti {x y : Int32} {a b : Nat} (hx : x.toInt = (a : Int)) (hy : y.toInt = (b : Int)) (h : ¬ a < b) : ¬ x < y := by rw [Int32.lt_iff_toInt_lt, hx, hy]; omega
theorem own_eqi {x y : Int32} {a b : Nat} (hx : x.toInt = (a : Int)) (hy : y.toInt = (b : Int)) (h : a = b) : x = y := Int32.toInt_inj.mp (by rw [hx, hy, h])
theorem own_nei {x y : Int32} {a b : Nat} (hx : x.toInt = (a : Int)) (hy : y.toInt = (b : Int)) (h : ¬ a = b) : ¬ x = y := fun q => h (by subst q; omega)
theorem own_inc {x : Int32} {a : Nat} (hx : x.toInt = (a : Int)) (h : a < 2147483647) : (x + (1 : Int32)).toInt = ((a + 1 : Nat) : Int) := by
  have h1 := c_iadd x 1
  have r := rng32 (x + 1)
  rw [show (1 : Int32).toInt = 1 from rfl] at h1
  omega
theorem own_dec {x : Int32} {a : Nat} (hx : x.toInt = ((a + 1 : Nat) : Int)) : (x + (-1 : Int32)).toInt = (a : Int) := by
  have h1 := c_iadd x (-1)
  have r := rng32 (x + (-1))
  rw [show (-1 : Int32).toInt = -1 from rfl] at h1
  have r2 := rng32 x
  omega
theorem own_sh6 {x : Int32} {a : Nat} (hx : x.toInt = (a : Int)) : ((x.toUInt32 >>> ((6 : Int32) &&& 31).toUInt32).toInt32).toInt = ((a / 64 : Nat) : Int) := by
  have h := c_iushr x 6 6 (by decide) (by decide)
  have r := rng32 x
  rw [h, hx]
  omega
theorem own_ofNat {n : Nat} (h : n < 2147483648) : (Int32.ofNat n).toInt = (n : Int) := Int32.toInt_ofNat_of_lt (by omega)
end OwnRank

section OwnCount
def cnt (key : Nat → Nat) : Nat → Nat → Nat
  | 0, _ => 0
  | P + 1, t => cnt key P t + if key P = t then 1 else 0
def pre (key : Nat → Nat) (P : Nat) : Nat → Nat
  | 0 => 0
  | T + 1 => pre key P T + cnt key P T
theorem cnt_s (key : Nat → Nat) (P t : Nat) : cnt key (P + 1) t = cnt key P t + if key P = t then 1 else 0 := rfl
theorem pre_s (key : Nat → Nat) (P T : Nat) : pre key P (T + 1) = pre key P T + cnt key P T := rfl
theorem pre_z (key : Nat → Nat) (T : Nat) : pre key 0 T = 0 := by
  induction T with
  | zero => rfl
  | succ T ih => rw [pre_s, ih]; rfl
theorem pre_sP (key : Nat → Nat) (P T : Nat) : pre key (P + 1) T = pre key P T + if key P < T then 1 else 0 := by
  induction T with
  | zero => rfl
  | succ T ih =>
    rw [pre_s, pre_s, ih, cnt_s]
    by_cases a : key P < T
    · have b : ¬ key P = T := by omega
      rw [if_pos a, if_neg b, if_pos (by omega)]; omega
    · by_cases b : key P = T
      · rw [if_neg a, if_pos b, if_pos (by omega)]; omega
      · rw [if_neg a, if_neg b, if_neg (by omega)]; omega
theorem pre_le (key : Nat → Nat) (P T : Nat) : pre key P T ≤ P := by
  induction P with
  | zero => rw [pre_z]; omega
  | succ P ih =>
    rw [pre_sP]
    split <;> omega
theorem pre_mono (key : Nat → Nat) (P : Nat) {a b : Nat} (h : a ≤ b) : pre key P a ≤ pre key P b := by
  induction h with
  | refl => exact Nat.le_refl _
  | step _ ih => exact Nat.le_trans ih (by rw [pre_s]; omega)
theorem cnt_mono (key : Nat → Nat) (t : Nat) {a b : Nat} (h : a ≤ b) : cnt key a t ≤ cnt key b t := by
  induction h with
  | refl => exact Nat.le_refl _
  | step _ ih => exact Nat.le_trans ih (by rw [cnt_s]; omega)
theorem cnt_lt (key : Nat → Nat) {P N : Nat} (h : P < N) : cnt key P (key P) < cnt key N (key P) := by
  have h1 := cnt_mono key (key P) (show P + 1 ≤ N from h)
  rw [cnt_s, if_pos rfl] at h1
  omega
theorem cnt_le (key : Nat → Nat) (P t : Nat) : cnt key P t ≤ P := by
  induction P with
  | zero => exact Nat.le_refl _
  | succ P ih => rw [cnt_s]; split <;> omega
/-- the counting sort behind P of N places: A says where each key's next place is, G what lies where -/
def CS (key : Nat → Nat) (N n P : Nat) (A G : Nat → Int32) : Prop :=
  (∀ t, t < n → (A t).toInt = ((pre key N t + cnt key P t : Nat) : Int)) ∧
  (∀ t, t < n → ∀ k, pre key N t ≤ k → k < pre key N t + cnt key P t → ∃ i, i < P ∧ (G k).toInt = (i : Int) ∧ key i = t) ∧
  ∀ i, i < P → key i < n → ∃ k, pre key N (key i) ≤ k ∧ k < pre key N (key i) + cnt key P (key i) ∧ (G k).toInt = (i : Int)
theorem CS.start {key : Nat → Nat} {N n : Nat} {A G : Nat → Int32} (h : ∀ t, t < n → (A t).toInt = (pre key N t : Int)) : CS key N n 0 A G :=
  ⟨fun t ht => by rw [h t ht]; rfl, fun t _ k h1 h2 => absurd h2 (by show ¬ k < pre key N t + 0; omega), fun i hi => absurd hi (Nat.not_lt_zero _)⟩
theorem CS.skip {key : Nat → Nat} {N n P : Nat} {A G : Nat → Int32} (H : CS key N n P A G) (hk : ¬ key P < n) : CS key N n (P + 1) A G := by
  obtain ⟨h1, h2, h3⟩ := H
  have e : ∀ t, t < n → cnt key (P + 1) t = cnt key P t := fun t ht => by rw [cnt_s, if_neg (by omega)]; rfl
  refine ⟨fun t ht => by rw [e t ht]; exact h1 t ht, fun t ht k a b => ?_, fun i hi hki => ?_⟩
  · rw [e t ht] at b
    obtain ⟨i, q1, q2, q3⟩ := h2 t ht k a b
    exact ⟨i, by omega, q2, q3⟩
  · by_cases q : i = P
    · subst q; exact absurd hki hk
    · obtain ⟨k, q1, q2, q3⟩ := h3 i (by omega) hki
      exact ⟨k, q1, by rw [e _ hki]; exact q2, q3⟩
theorem CS.idx {key : Nat → Nat} {N n P : Nat} {A G : Nat → Int32} (H : CS key N n P A G) (hP : P < N) (hk : key P < n) : (A (key P)).toInt = ((pre key N (key P) + cnt key P (key P) : Nat) : Int) ∧ pre key N (key P) + cnt key P (key P) < pre key N (key P + 1) := by
  refine ⟨H.1 _ hk, ?_⟩
  have := cnt_lt key hP
  rw [pre_s]; omega
theorem CS.step {key : Nat → Nat} {N n P : Nat} {A G : Nat → Int32} {x y : Int32} (H : CS key N n P A G) (hP : P < N) (hk : key P < n) (hx : x.toInt = ((pre key N (key P) + cnt key P (key P) + 1 : Nat) : Int)) (hy : y.toInt = (P : Int)) :
    CS key N n (P + 1) (upd A (key P) x) (upd G (pre key N (key P) + cnt key P (key P)) y) := by
  have hI := (H.idx hP hk).2
  obtain ⟨h1, h2, h3⟩ := H
  have e0 : cnt key (P + 1) (key P) = cnt key P (key P) + 1 := by rw [cnt_s, if_pos rfl]
  have e : ∀ t, t ≠ key P → cnt key (P + 1) t = cnt key P t := fun t ht => by rw [cnt_s, if_neg (fun q => ht q.symm)]; rfl
  have dj : ∀ t, t ≠ key P → ∀ k, pre key N t ≤ k → k < pre key N t + cnt key P t → k ≠ pre key N (key P) + cnt key P (key P) := by
    intro t ht k a b q
    have c1 := cnt_mono key t (Nat.le_of_lt hP)
    have b1 : k < pre key N (t + 1) := by rw [pre_s]; omega
    by_cases c : t < key P
    · have := pre_mono key N (show t + 1 ≤ key P from c)
      omega
    · have := pre_mono key N (show key P + 1 ≤ t by omega)
      omega
  refine ⟨fun t ht => ?_, fun t ht k a b => ?_, fun i hi hki => ?_⟩
  · by_cases q : t = key P
    · rw [q, upd_same, hx, e0]; omega
    · rw [upd_ne _ _ q, e t q]; exact h1 t ht
  · by_cases q : t = key P
    · subst q
      rw [e0] at b
      by_cases q2 : k = pre key N (key P) + cnt key P (key P)
      · rw [q2, upd_same]; exact ⟨P, by omega, hy, rfl⟩
      · rw [upd_ne _ _ q2]
        obtain ⟨i, z1, z2, z3⟩ := h2 _ ht k a (by omega)
        exact ⟨i, by omega, z2, z3⟩
    · rw [e t q] at b
      rw [upd_ne _ _ (dj t q k a b)]
      obtain ⟨i, z1, z2, z3⟩ := h2 t ht k a b
      exact ⟨i, by omega, z2, z3⟩
  · by_cases q : i = P
    · subst q
      exact ⟨pre key N (key i) + cnt key i (key i), Nat.le_add_right _ _, by rw [e0]; omega, by rw [upd_same]; exact hy⟩
    · obtain ⟨k, z1, z2, z3⟩ := h3 i (by omega) hki
      by_cases q2 : key i = key P
      · rw [q2] at z1 z2 ⊢
        exact ⟨k, z1, by rw [e0]; omega, by rw [upd_ne _ _ (by omega)]; exact z3⟩
      · exact ⟨k, z1, by rw [e _ q2]; exact z2, by rw [upd_ne _ _ (dj _ q2 k z1 z2)]; exact z3⟩
/-- the bits of two words -/
def bitOf (T : Nat → Int64) (i : Nat) : Bool := bt (T (i / 64)) (i % 64)
theorem bitOf_set (T : Nat → Int64) (q : Int32) (a : Nat) (h : q.toInt = (a : Int)) (i : Nat) : bitOf (upd T (a / 64) (T (a / 64) ||| ((1 : Int64) <<< (q &&& 0x3f).toInt64))) i = (bitOf T i || decide (i = a)) := by
  unfold bitOf
  by_cases c : i / 64 = a / 64
  · rw [c, upd_same, bt_or, bt_one_shl q a h _ (by omega)]
    congr 1
    by_cases d : i = a
    · simp [d]
    · have : ¬ i % 64 = a % 64 := by omega
      simp [d, this]
  · rw [upd_ne _ _ c]
    have : ¬ i = a := fun z => c (by rw [z])
    simp [this]
theorem bitOf_clr (T : Nat → Int64) (q : Int32) (a : Nat) (h : q.toInt = (a : Int)) (i : Nat) : bitOf (upd T (a / 64) (T (a / 64) &&& (((1 : Int64) <<< (q &&& 0x3f).toInt64) ^^^ (-1 : Int64)))) i = (bitOf T i && !decide (i = a)) := by
  unfold bitOf
  by_cases c : i / 64 = a / 64
  · rw [c, upd_same, bt_and, bt_xor, bt_one_shl q a h _ (by omega), bt_m1 _ (by omega)]
    congr 1
    by_cases d : i = a
    · simp [d]
    · have : ¬ i % 64 = a % 64 := by omega
      simp [d, this]
  · rw [upd_ne _ _ c]
    have : ¬ i = a := fun z => c (by rw [z])
    simp [this]
end OwnCount

section OwnTried
variable {p : Program} {l : Launch} {e : Env} {R : Room} {s : State} {m : MethodId} {args : Array Value} {below : List Frame} {meth : Method} {c : Code} {T : State} {locs : List Loc} {cells slots : Nat} {Z : State} {a0 : Array Value} {h h' : Heap}
variable {F : Outcome → State → Prop}
theorem own_dupX2 {tb : Tables} [Ours tb] {e : Env} {below : List Frame} {T target : State} {m : MethodId} {c : Code} {g : JFrame} (h : At T m c below) (hx : tb.exec = Jvm.exec) (hg : g.method = m) {x y z : Value} {rest : List Value} (hd : decode c.code g.pc = .ok (.dup_x2, 1)) (hs : g.stack = x :: y :: z :: rest) (hc : x.category = 1) (hc' : y.category = 1) (hc2 : z.category = 1)
    (hr : Steps tb e below (T.setTop { g with pc := g.pc + 1, stack := x :: y :: z :: x :: rest }) target) : Steps tb e below (T.setTop g) target := by
  subst hg
  jvm_step h [h.top, hx, hd, hs, hc, hc', hc2]
  exact hr
theorem GA.setI {a : Addr} {n k : Nat} {w : Nat → Int32} {x : Int32} (A : GA Z h a .int n (upd (fun i => Value.int (w i)) k (.int x))) : GA Z h a .int n (fun i => .int (upd w k x i)) :=
  A.congr fun i _ => by
    by_cases q : i = k
    · rw [q, upd_same, upd_same]
    · rw [upd_ne _ _ q, upd_ne _ _ q]
theorem GA.setJ {a : Addr} {n k : Nat} {w : Nat → Int64} {x : Int64} (A : GA Z h a .long n (upd (fun i => Value.long (w i)) k (.long x))) : GA Z h a .long n (fun i => .long (upd w k x i)) :=
  A.congr fun i _ => by
    by_cases q : i = k
    · rw [q, upd_same, upd_same]
    · rw [upd_ne _ _ q, upd_ne _ _ q]
theorem Owes.cloneI (X : Stand p l e R s m args below meth c T locs cells slots) (hx : p.tables.exec = Jvm.exec) (hZ : Z.Warmed39 s.vm) {own : String} {index : Nat} (hown : s.vm.findClass own = some m.cls)
    (w1 : (Cond.methodLink own index ⟨"[I", "clone", "()Ljava/lang/Object;"⟩).before a0 Z = true) (w2 : (Cond.sameMethod "[I" "java/lang/Object" "clone" "()Ljava/lang/Object;").before a0 Z = true) (w3 : (Cond.native ⟨"java/lang/Object", "clone", "()Ljava/lang/Object;"⟩).before a0 Z = true)
    (w4 : (Cond.instanceMethod ⟨"java/lang/Object", "clone", "()Ljava/lang/Object;"⟩).before a0 Z = true) (w5 : (Cond.selects "[I" ⟨"[I", "clone", "()Ljava/lang/Object;"⟩ ⟨"java/lang/Object", "clone", "()Ljava/lang/Object;"⟩).before a0 Z = true) (w6 : (Cond.castable "[I" "java/lang/Cloneable").before a0 Z = true)
    (eT : T.heap = h) {a : Addr} {n : Nat} {w : Nat → Int32} (A : GA Z h a .int n (fun i => .int (w i))) (E : Exa Z h a "[I") {pc : Nat} {Ls : Array Slot} {rest : List Value} (hsize : Ls.size = c.maxLocals) (hd : decode c.code pc = .ok (.invokevirtual index, 3)) (hf : 1 ≤ R.frames) (hl : (rest.map fun v => v.category).sum + 14 ≤ R.locals) (hcl : cells + 1 ≤ R.cells) (hsl : slots + n ≤ R.slots)
    (k : ∀ (T' : State) (h' : Heap), Stand p l e R s m args below meth c T' locs (cells + 1) (slots + n) → T'.heap = h' → Ext h h' → GA Z h' h.size .int n (fun i => .int (w i)) → Exa Z h' h.size "[I" → Owes p e below F (T'.setTop (mkF m (pc + 3) Ls (.ref h.size :: rest)))) : Owes p e below F (T.setTop (mkF m pc Ls (.ref a :: rest))) := by
  obtain ⟨cl, A1, S, V⟩ := A
  have FC : FitC Z cl := fitC_of A1 fun i hi v hv => by rw [V i (by omega)] at hv; cases hv; rfl
  obtain ⟨T', h', X', e', ex, A', E', st⟩ := cloneA X hx hZ hown w1 w2 w3 w4 w5 w6 eT A1 E FC (g := mkF m pc Ls (.ref a :: rest)) rfl hsize rfl hd hf (W := (rest.map fun v => v.category).sum) (by show 2 * 0 + _ ≤ _; omega) hl (Nat.le_of_eq S) hcl hsl
  exact (k T' h' X' e' ex ⟨cloneOf cl, A', S, V⟩ E').go st
theorem Owes.cast (X : Stand p l e R s m args below meth c T locs cells slots) (hx : p.tables.exec = Jvm.exec) (hZ : Z.Warmed39 s.vm) {own K : String} {index : Nat} (hown : s.vm.findClass own = some m.cls) (w : (Cond.classLink own index K).before a0 Z = true) (eT : T.heap = h) {a : Addr} (E : Exa Z h a K) {pc : Nat} {Ls : Array Slot} {rest : List Value}
    (hd : decode c.code pc = .ok (.checkcast index, 3)) (k : ∀ T' : State, Stand p l e R s m args below meth c T' locs cells slots → T'.heap = h → Owes p e below F (T'.setTop (mkF m (pc + 3) Ls (.ref a :: rest)))) : Owes p e below F (T.setTop (mkF m pc Ls (.ref a :: rest))) := by
  obtain ⟨T', X', e', st⟩ := castY X hx hZ hown w eT (Ins.self E) (g := mkF m pc Ls (.ref a :: rest)) rfl rfl hd
  exact (k T' X' e').go st
/-- an int array of n places whose values lie in 0 .. hi - 1 -/
def BA (Z : State) (h : Heap) (a : Addr) (n : Nat) (hi : Int) : Prop := ∃ w : Nat → Int32, GA Z h a .int n (fun i => .int (w i)) ∧ ∀ i, i < n → 0 ≤ (w i).toInt ∧ (w i).toInt < hi
theorem BA.lt {a : Addr} {n : Nat} {hi : Int} (B : BA Z h a n hi) : a < h.size := by obtain ⟨w, A, -⟩ := B; exact A.lt
theorem BA.ext {a : Addr} {n : Nat} {hi : Int} (B : BA Z h a n hi) (E : Ext h h') : BA Z h' a n hi := by obtain ⟨w, A, r⟩ := B; exact ⟨w, A.ext E, r⟩
theorem BA.other {a b : Addr} {n sl : Nat} {hi : Int} {v : Value} (B : BA Z h b n hi) (W : Wr h h' a sl v) (q : b ≠ a) : BA Z h' b n hi := by obtain ⟨w, A, r⟩ := B; exact ⟨w, A.other W q, r⟩
theorem BA.keep {a : Addr} {n : Nat} {hi : Int} {ws : List Addr} (B : BA Z h a n hi) (K : Keep h h' ws) (q : a ∉ ws) : BA Z h' a n hi := by obtain ⟨w, A, r⟩ := B; exact ⟨w, A.keep K q, r⟩
theorem BA.new {a : Addr} {n : Nat} {hi : Int} (A : GA Z h a .int n (fun _ => defaultValue .int)) (q : 0 < hi) : BA Z h a n hi := ⟨fun _ => 0, A, fun _ _ => ⟨(by decide : (0 : Int) ≤ (0 : Int32).toInt), (show (0 : Int32).toInt < hi from q)⟩⟩
theorem Owes.sB (X : Stand p l e R s m args below meth c T locs cells slots) (hx : p.tables.exec = Jvm.exec) (hZ : Z.Warmed39 s.vm) (eT : T.heap = h) {a : Addr} {n : Nat} {hi : Int} (B : BA Z h a n hi) {j : Int32} {i : Nat} (hj : j.toInt = (i : Int)) (hi' : i < n) {x : Int32} (hx0 : 0 ≤ x.toInt ∧ x.toInt < hi) {pc : Nat} {Ls : Array Slot} {rest : List Value}
    (hd : decode c.code pc = .ok (.iastore, 1)) (k : ∀ (T' : State) (h' : Heap), Stand p l e R s m args below meth c T' (locs ++ [⟨a, i⟩]) cells slots → T'.heap = h' → Wr h h' a i (.int x) → BA Z h' a n hi → Owes p e below F (T'.setTop (mkF m (pc + 1) Ls rest))) : Owes p e below F (T.setTop (mkF m pc Ls (.int x :: .int j :: .ref a :: rest))) := by
  obtain ⟨w, A, r⟩ := B
  refine Owes.sI X hx hZ eT A hj hi' hd ?_
  intro T' h' X' e' W G
  refine k T' h' X' e' W ⟨_, G.setI, fun q hq => ?_⟩
  by_cases c : q = i
  · rw [c, upd_same]; exact hx0
  · rw [upd_ne _ _ c]; exact r q hq
theorem own_ni2 {a x y : Nat} (h1 : a ≠ x) (h2 : a ≠ y) : a ∉ [x, y] := by simp [h1, h2]
theorem own_ni1 {a x : Nat} (h1 : a ≠ x) : a ∉ [x] := by simp [h1]
theorem own_ni4 {a x y z w : Nat} (h1 : a ≠ x) (h2 : a ≠ y) (h3 : a ≠ z) (h4 : a ≠ w) : a ∉ [x, y, z, w] := by simp [h1, h2, h3, h4]
/-- the keys -/
def kJ (O Fa Sl : Nat → Int32) (i : Nat) : Nat := if (Sl (O i).toInt.toNat).toInt < (Fa (O i).toInt.toNat).toInt then 1000 else (Fa (O i).toInt.toNat).toInt.toNat
def kL (O Fa Sl : Nat → Int32) (n : Nat) (i : Nat) : Nat := if (Sl (O i).toInt.toNat).toInt < (Fa (O i).toInt.toNat).toInt then 1000 else if (Sl (O i).toInt.toNat).toInt + 1 < (n : Int) then ((Sl (O i).toInt.toNat).toInt + 1).toNat else 1000
theorem own_kJL {O Fa Sl : Nat → Int32} {n i : Nat} (hn : n ≤ 4) (hO : ∀ i, i < 65 → 0 ≤ (O i).toInt ∧ (O i).toInt < 65) (hF : ∀ i, i < 65 → 0 ≤ (Fa i).toInt ∧ (Fa i).toInt < (n : Int)) (hi : i < 65) : kJ O Fa Sl i < n → kJ O Fa Sl i < kL O Fa Sl n i := by
  have h1 := hF (O i).toInt.toNat (by have := hO i hi; omega)
  unfold kJ kL
  generalize (Sl (O i).toInt.toNat).toInt = s at *
  generalize (Fa (O i).toInt.toNat).toInt = f at *
  by_cases c : s < f
  · rw [if_pos c]; omega
  · rw [if_neg c, if_neg c]
    by_cases d : s + 1 < (n : Int)
    · rw [if_pos d]; omega
    · rw [if_neg d]; omega
theorem own_on {O Fa Sl : Nat → Int32} {n i q : Nat} (hn : n ≤ 4) (hO : ∀ i, i < 65 → 0 ≤ (O i).toInt ∧ (O i).toInt < 65) (hF : ∀ i, i < 65 → 0 ≤ (Fa i).toInt ∧ (Fa i).toInt < (n : Int)) (hi : i < 65) (hq : q < n) : (kJ O Fa Sl i < q + 1 ∧ ¬ kL O Fa Sl n i < q + 1) ↔ ((Fa (O i).toInt.toNat).toInt ≤ (q : Int) ∧ (q : Int) ≤ (Sl (O i).toInt.toNat).toInt) := by
  have h1 := hF (O i).toInt.toNat (by have := hO i hi; omega)
  unfold kJ kL
  generalize (Sl (O i).toInt.toNat).toInt = s at *
  generalize (Fa (O i).toInt.toNat).toInt = f at *
  by_cases c : s < f
  · rw [if_pos c, if_pos c]; omega
  · rw [if_neg c, if_neg c]
    by_cases d : s + 1 < (n : Int)
    · rw [if_pos d]; omega
    · rw [if_neg d]; omega
theorem cnt_upd {key : Nat → Nat} {P n k : Nat} {w : Nat → Int32} {x : Int32} (h : ∀ t, t ≤ n → (w t).toInt = (cnt key P t : Int)) (hk : key P = k) (hx : x.toInt = (cnt key P k : Int) + 1) : ∀ t, t ≤ n → (upd w k x t).toInt = (cnt key (P + 1) t : Int) := fun t ht => by
  rw [cnt_s]
  by_cases q : t = k
  · rw [q, upd_same, hx, if_pos hk]; omega
  · rw [upd_ne _ _ q, h t ht, if_neg (by omega)]; omega
theorem cnt_skip {key : Nat → Nat} {P n : Nat} {w : Nat → Int32} (h : ∀ t, t ≤ n → (w t).toInt = (cnt key P t : Int)) (hk : n < key P) : ∀ t, t ≤ n → (w t).toInt = (cnt key (P + 1) t : Int) := fun t ht => by
  rw [cnt_s, h t ht, if_neg (by omega)]; rfl
/-- what the constructor leaves in the four tables -/
def Tab (kj kl : Nat → Nat) (n gj gl : Nat) (JF G LF H : Nat → Int32) : Prop :=
  (∀ t, t ≤ n → (JF t).toInt = (pre kj 65 t : Int)) ∧ (∀ t, t ≤ n → (LF t).toInt = (pre kl 65 t : Int)) ∧ pre kj 65 (n + 1) = gj ∧ pre kl 65 (n + 1) = gl ∧ (∃ A, CS kj 65 n 65 A G) ∧ ∃ A, CS kl 65 n 65 A H
theorem CS.all {key : Nat → Nat} {n t i : Nat} {A G : Nat → Int32} (C : CS key 65 n 65 A G) (ht : t < n) (hi : i < 65) : (∃ q, pre key 65 t ≤ q ∧ q < pre key 65 (t + 1) ∧ (G q).toInt = (i : Int)) ↔ key i = t := by
  constructor
  · rintro ⟨q, h1, h2, h3⟩
    rw [pre_s] at h2
    obtain ⟨j, h4, h5, h6⟩ := C.2.1 t ht q h1 h2
    have : i = j := by omega
    rw [this]; exact h6
  · intro h
    obtain ⟨q, h1, h2, h3⟩ := C.2.2 i hi (by omega)
    rw [h] at h1 h2
    exact ⟨q, h1, by rw [pre_s]; exact h2, h3⟩
theorem CS.val {key : Nat → Nat} {n t q : Nat} {A G : Nat → Int32} (C : CS key 65 n 65 A G) (ht : t < n) (h1 : pre key 65 t ≤ q) (h2 : q < pre key 65 (t + 1)) : ∃ i : Nat, i < 65 ∧ (G q).toInt = (i : Int) := by
  rw [pre_s] at h2
  obtain ⟨i, h4, h5, -⟩ := C.2.1 t ht q h1 h2
  exact ⟨i, h4, h5⟩
end OwnTried

theorem d9_0 : decode jdk_33_method_48_code 0 = .ok (.iload_n 0, 1) := by decide +kernel
theorem d9_1 : decode jdk_33_method_48_code 1 = .ok (.iconst (-1), 1) := by decide +kernel
theorem d9_2 : decode jdk_33_method_48_code 2 = .ok (.ixor, 1) := by decide +kernel
theorem d9_3 : decode jdk_33_method_48_code 3 = .ok (.iload_n 0, 1) := by decide +kernel
theorem d9_4 : decode jdk_33_method_48_code 4 = .ok (.iconst 1, 1) := by decide +kernel
theorem d9_5 : decode jdk_33_method_48_code 5 = .ok (.isub, 1) := by decide +kernel
theorem d9_6 : decode jdk_33_method_48_code 6 = .ok (.iand, 1) := by decide +kernel
theorem d9_7 : decode jdk_33_method_48_code 7 = .ok (.istore_n 0, 1) := by decide +kernel
theorem d9_8 : decode jdk_33_method_48_code 8 = .ok (.iload_n 0, 1) := by decide +kernel
theorem d9_9 : decode jdk_33_method_48_code 9 = .ok (.ifCond .gt 8, 3) := by decide +kernel
theorem d9_17 : decode jdk_33_method_48_code 17 = .ok (.iconst 1, 1) := by decide +kernel
theorem d9_18 : decode jdk_33_method_48_code 18 = .ok (.istore_n 1, 1) := by decide +kernel
theorem d9_19 : decode jdk_33_method_48_code 19 = .ok (.iload_n 0, 1) := by decide +kernel
theorem d9_20 : decode jdk_33_method_48_code 20 = .ok (.ldc_w 264, 3) := by decide +kernel
theorem d9_23 : decode jdk_33_method_48_code 23 = .ok (.if_icmp .le 11, 3) := by decide +kernel
theorem d9_26 : decode jdk_33_method_48_code 26 = .ok (.iinc 1 16, 3) := by decide +kernel
theorem d9_29 : decode jdk_33_method_48_code 29 = .ok (.iload_n 0, 1) := by decide +kernel
theorem d9_30 : decode jdk_33_method_48_code 30 = .ok (.bipush 16, 2) := by decide +kernel
theorem d9_32 : decode jdk_33_method_48_code 32 = .ok (.iushr, 1) := by decide +kernel
theorem d9_33 : decode jdk_33_method_48_code 33 = .ok (.istore_n 0, 1) := by decide +kernel
theorem d9_34 : decode jdk_33_method_48_code 34 = .ok (.iload_n 0, 1) := by decide +kernel
theorem d9_35 : decode jdk_33_method_48_code 35 = .ok (.sipush 256, 3) := by decide +kernel
theorem d9_38 : decode jdk_33_method_48_code 38 = .ok (.if_icmp .le 11, 3) := by decide +kernel
theorem d9_41 : decode jdk_33_method_48_code 41 = .ok (.iinc 1 8, 3) := by decide +kernel
theorem d9_44 : decode jdk_33_method_48_code 44 = .ok (.iload_n 0, 1) := by decide +kernel
theorem d9_45 : decode jdk_33_method_48_code 45 = .ok (.bipush 8, 2) := by decide +kernel
theorem d9_47 : decode jdk_33_method_48_code 47 = .ok (.iushr, 1) := by decide +kernel
theorem d9_48 : decode jdk_33_method_48_code 48 = .ok (.istore_n 0, 1) := by decide +kernel
theorem d9_49 : decode jdk_33_method_48_code 49 = .ok (.iload_n 0, 1) := by decide +kernel
theorem d9_50 : decode jdk_33_method_48_code 50 = .ok (.bipush 16, 2) := by decide +kernel
theorem d9_52 : decode jdk_33_method_48_code 52 = .ok (.if_icmp .le 10, 3) := by decide +kernel
theorem d9_55 : decode jdk_33_method_48_code 55 = .ok (.iinc 1 4, 3) := by decide +kernel
theorem d9_58 : decode jdk_33_method_48_code 58 = .ok (.iload_n 0, 1) := by decide +kernel
theorem d9_59 : decode jdk_33_method_48_code 59 = .ok (.iconst 4, 1) := by decide +kernel
theorem d9_60 : decode jdk_33_method_48_code 60 = .ok (.iushr, 1) := by decide +kernel
theorem d9_61 : decode jdk_33_method_48_code 61 = .ok (.istore_n 0, 1) := by decide +kernel
theorem d9_62 : decode jdk_33_method_48_code 62 = .ok (.iload_n 0, 1) := by decide +kernel
theorem d9_63 : decode jdk_33_method_48_code 63 = .ok (.iconst 4, 1) := by decide +kernel
theorem d9_64 : decode jdk_33_method_48_code 64 = .ok (.if_icmp .le 10, 3) := by decide +kernel
theorem d9_67 : decode jdk_33_method_48_code 67 = .ok (.iinc 1 2, 3) := by decide +kernel
theorem d9_70 : decode jdk_33_method_48_code 70 = .ok (.iload_n 0, 1) := by decide +kernel
theorem d9_71 : decode jdk_33_method_48_code 71 = .ok (.iconst 2, 1) := by decide +kernel
theorem d9_72 : decode jdk_33_method_48_code 72 = .ok (.iushr, 1) := by decide +kernel
theorem d9_73 : decode jdk_33_method_48_code 73 = .ok (.istore_n 0, 1) := by decide +kernel
theorem d9_74 : decode jdk_33_method_48_code 74 = .ok (.iload_n 1, 1) := by decide +kernel
theorem d9_75 : decode jdk_33_method_48_code 75 = .ok (.iload_n 0, 1) := by decide +kernel
theorem d9_76 : decode jdk_33_method_48_code 76 = .ok (.iconst 1, 1) := by decide +kernel
theorem d9_77 : decode jdk_33_method_48_code 77 = .ok (.iushr, 1) := by decide +kernel
theorem d9_78 : decode jdk_33_method_48_code 78 = .ok (.iadd, 1) := by decide +kernel
theorem d9_79 : decode jdk_33_method_48_code 79 = .ok (.ireturn, 1) := by decide +kernel
theorem d9_12 : decode jdk_33_method_48_code 12 = .ok (.iload_n 0, 1) := by decide +kernel
theorem d9_13 : decode jdk_33_method_48_code 13 = .ok (.bipush 32, 2) := by decide +kernel
theorem d9_15 : decode jdk_33_method_48_code 15 = .ok (.iand, 1) := by decide +kernel
theorem d9_16 : decode jdk_33_method_48_code 16 = .ok (.ireturn, 1) := by decide +kernel
def f_ntzI (p0 : Int32)  : Int32 := (if (0 : Int32) < ((p0 ^^^ (-1 : Int32)) &&& (p0 - (1 : Int32))) then (if (65536 : Int32) < ((p0 ^^^ (-1 : Int32)) &&& (p0 - (1 : Int32))) then (if (256 : Int32) < ((((p0 ^^^ (-1 : Int32)) &&& (p0 - (1 : Int32))).toUInt32 >>> ((16 : Int32) &&& 31).toUInt32).toInt32) then (if (16 : Int32) < ((((((p0 ^^^ (-1 : Int32)) &&& (p0 - (1 : Int32))).toUInt32 >>> ((16 : Int32) &&& 31).toUInt32).toInt32).toUInt32 >>> ((8 : Int32) &&& 31).toUInt32).toInt32) then (if (4 : Int32) < ((((((((p0 ^^^ (-1 : Int32)) &&& (p0 - (1 : Int32))).toUInt32 >>> ((16 : Int32) &&& 31).toUInt32).toInt32).toUInt32 >>> ((8 : Int32) &&& 31).toUInt32).toInt32).toUInt32 >>> ((4 : Int32) &&& 31).toUInt32).toInt32) then ((((((1 : Int32) + (16 : Int32)) + (8 : Int32)) + (4 : Int32)) + (2 : Int32)) + ((((((((((((p0 ^^^ (-1 : Int32)) &&& (p0 - (1 : Int32))).toUInt32 >>> ((16 : Int32) &&& 31).toUInt32).toInt32).toUInt32 >>> ((8 : Int32) &&& 31).toUInt32).toInt32).toUInt32 >>> ((4 : Int32) &&& 31).toUInt32).toInt32).toUInt32 >>> ((2 : Int32) &&& 31).toUInt32).toInt32).toUInt32 >>> ((1 : Int32) &&& 31).toUInt32).toInt32)) else (((((1 : Int32) + (16 : Int32)) + (8 : Int32)) + (4 : Int32)) + ((((((((((p0 ^^^ (-1 : Int32)) &&& (p0 - (1 : Int32))).toUInt32 >>> ((16 : Int32) &&& 31).toUInt32).toInt32).toUInt32 >>> ((8 : Int32) &&& 31).toUInt32).toInt32).toUInt32 >>> ((4 : Int32) &&& 31).toUInt32).toInt32).toUInt32 >>> ((1 : Int32) &&& 31).toUInt32).toInt32))) else (if (4 : Int32) < ((((((p0 ^^^ (-1 : Int32)) &&& (p0 - (1 : Int32))).toUInt32 >>> ((16 : Int32) &&& 31).toUInt32).toInt32).toUInt32 >>> ((8 : Int32) &&& 31).toUInt32).toInt32) then (((((1 : Int32) + (16 : Int32)) + (8 : Int32)) + (2 : Int32)) + ((((((((((p0 ^^^ (-1 : Int32)) &&& (p0 - (1 : Int32))).toUInt32 >>> ((16 : Int32) &&& 31).toUInt32).toInt32).toUInt32 >>> ((8 : Int32) &&& 31).toUInt32).toInt32).toUInt32 >>> ((2 : Int32) &&& 31).toUInt32).toInt32).toUInt32 >>> ((1 : Int32) &&& 31).toUInt32).toInt32)) else ((((1 : Int32) + (16 : Int32)) + (8 : Int32)) + ((((((((p0 ^^^ (-1 : Int32)) &&& (p0 - (1 : Int32))).toUInt32 >>> ((16 : Int32) &&& 31).toUInt32).toInt32).toUInt32 >>> ((8 : Int32) &&& 31).toUInt32).toInt32).toUInt32 >>> ((1 : Int32) &&& 31).toUInt32).toInt32)))) else (if (16 : Int32) < ((((p0 ^^^ (-1 : Int32)) &&& (p0 - (1 : Int32))).toUInt32 >>> ((16 : Int32) &&& 31).toUInt32).toInt32) then (if (4 : Int32) < ((((((p0 ^^^ (-1 : Int32)) &&& (p0 - (1 : Int32))).toUInt32 >>> ((16 : Int32) &&& 31).toUInt32).toInt32).toUInt32 >>> ((4 : Int32) &&& 31).toUInt32).toInt32) then (((((1 : Int32) + (16 : Int32)) + (4 : Int32)) + (2 : Int32)) + ((((((((((p0 ^^^ (-1 : Int32)) &&& (p0 - (1 : Int32))).toUInt32 >>> ((16 : Int32) &&& 31).toUInt32).toInt32).toUInt32 >>> ((4 : Int32) &&& 31).toUInt32).toInt32).toUInt32 >>> ((2 : Int32) &&& 31).toUInt32).toInt32).toUInt32 >>> ((1 : Int32) &&& 31).toUInt32).toInt32)) else ((((1 : Int32) + (16 : Int32)) + (4 : Int32)) + ((((((((p0 ^^^ (-1 : Int32)) &&& (p0 - (1 : Int32))).toUInt32 >>> ((16 : Int32) &&& 31).toUInt32).toInt32).toUInt32 >>> ((4 : Int32) &&& 31).toUInt32).toInt32).toUInt32 >>> ((1 : Int32) &&& 31).toUInt32).toInt32))) else (if (4 : Int32) < ((((p0 ^^^ (-1 : Int32)) &&& (p0 - (1 : Int32))).toUInt32 >>> ((16 : Int32) &&& 31).toUInt32).toInt32) then ((((1 : Int32) + (16 : Int32)) + (2 : Int32)) + ((((((((p0 ^^^ (-1 : Int32)) &&& (p0 - (1 : Int32))).toUInt32 >>> ((16 : Int32) &&& 31).toUInt32).toInt32).toUInt32 >>> ((2 : Int32) &&& 31).toUInt32).toInt32).toUInt32 >>> ((1 : Int32) &&& 31).toUInt32).toInt32)) else (((1 : Int32) + (16 : Int32)) + ((((((p0 ^^^ (-1 : Int32)) &&& (p0 - (1 : Int32))).toUInt32 >>> ((16 : Int32) &&& 31).toUInt32).toInt32).toUInt32 >>> ((1 : Int32) &&& 31).toUInt32).toInt32))))) else (if (256 : Int32) < ((p0 ^^^ (-1 : Int32)) &&& (p0 - (1 : Int32))) then (if (16 : Int32) < ((((p0 ^^^ (-1 : Int32)) &&& (p0 - (1 : Int32))).toUInt32 >>> ((8 : Int32) &&& 31).toUInt32).toInt32) then (if (4 : Int32) < ((((((p0 ^^^ (-1 : Int32)) &&& (p0 - (1 : Int32))).toUInt32 >>> ((8 : Int32) &&& 31).toUInt32).toInt32).toUInt32 >>> ((4 : Int32) &&& 31).toUInt32).toInt32) then (((((1 : Int32) + (8 : Int32)) + (4 : Int32)) + (2 : Int32)) + ((((((((((p0 ^^^ (-1 : Int32)) &&& (p0 - (1 : Int32))).toUInt32 >>> ((8 : Int32) &&& 31).toUInt32).toInt32).toUInt32 >>> ((4 : Int32) &&& 31).toUInt32).toInt32).toUInt32 >>> ((2 : Int32) &&& 31).toUInt32).toInt32).toUInt32 >>> ((1 : Int32) &&& 31).toUInt32).toInt32)) else ((((1 : Int32) + (8 : Int32)) + (4 : Int32)) + ((((((((p0 ^^^ (-1 : Int32)) &&& (p0 - (1 : Int32))).toUInt32 >>> ((8 : Int32) &&& 31).toUInt32).toInt32).toUInt32 >>> ((4 : Int32) &&& 31).toUInt32).toInt32).toUInt32 >>> ((1 : Int32) &&& 31).toUInt32).toInt32))) else (if (4 : Int32) < ((((p0 ^^^ (-1 : Int32)) &&& (p0 - (1 : Int32))).toUInt32 >>> ((8 : Int32) &&& 31).toUInt32).toInt32) then ((((1 : Int32) + (8 : Int32)) + (2 : Int32)) + ((((((((p0 ^^^ (-1 : Int32)) &&& (p0 - (1 : Int32))).toUInt32 >>> ((8 : Int32) &&& 31).toUInt32).toInt32).toUInt32 >>> ((2 : Int32) &&& 31).toUInt32).toInt32).toUInt32 >>> ((1 : Int32) &&& 31).toUInt32).toInt32)) else (((1 : Int32) + (8 : Int32)) + ((((((p0 ^^^ (-1 : Int32)) &&& (p0 - (1 : Int32))).toUInt32 >>> ((8 : Int32) &&& 31).toUInt32).toInt32).toUInt32 >>> ((1 : Int32) &&& 31).toUInt32).toInt32)))) else (if (16 : Int32) < ((p0 ^^^ (-1 : Int32)) &&& (p0 - (1 : Int32))) then (if (4 : Int32) < ((((p0 ^^^ (-1 : Int32)) &&& (p0 - (1 : Int32))).toUInt32 >>> ((4 : Int32) &&& 31).toUInt32).toInt32) then ((((1 : Int32) + (4 : Int32)) + (2 : Int32)) + ((((((((p0 ^^^ (-1 : Int32)) &&& (p0 - (1 : Int32))).toUInt32 >>> ((4 : Int32) &&& 31).toUInt32).toInt32).toUInt32 >>> ((2 : Int32) &&& 31).toUInt32).toInt32).toUInt32 >>> ((1 : Int32) &&& 31).toUInt32).toInt32)) else (((1 : Int32) + (4 : Int32)) + ((((((p0 ^^^ (-1 : Int32)) &&& (p0 - (1 : Int32))).toUInt32 >>> ((4 : Int32) &&& 31).toUInt32).toInt32).toUInt32 >>> ((1 : Int32) &&& 31).toUInt32).toInt32))) else (if (4 : Int32) < ((p0 ^^^ (-1 : Int32)) &&& (p0 - (1 : Int32))) then (((1 : Int32) + (2 : Int32)) + ((((((p0 ^^^ (-1 : Int32)) &&& (p0 - (1 : Int32))).toUInt32 >>> ((2 : Int32) &&& 31).toUInt32).toInt32).toUInt32 >>> ((1 : Int32) &&& 31).toUInt32).toInt32)) else ((1 : Int32) + ((((p0 ^^^ (-1 : Int32)) &&& (p0 - (1 : Int32))).toUInt32 >>> ((1 : Int32) &&& 31).toUInt32).toInt32)))))) else (((p0 ^^^ (-1 : Int32)) &&& (p0 - (1 : Int32))) &&& (32 : Int32)))
theorem ef_9_f_ntzI (m : MethodId) (p0 : Int32) : entryFrame m #[(.int p0)] 2 = mkF m 0 #[.val (.int p0), .unset] [] := by first | (simp [entryFrame, mkF, argsToLocals, Value.category]; done) | rfl
theorem pn_9 : plainFor (⟨"java/lang/Integer", "numberOfTrailingZeros", "(I)I"⟩ : MethodName) = true := plainFor_of_name (by first | (simp [plainName, overriddenIn]; done) | decide +kernel)
set_option maxRecDepth 65536 in
set_option maxHeartbeats 40000000 in
theorem rm_f_ntzI (l : Launch) (Z : State) (a0 : Array Value) (hw : ∀ d ∈ tables_1, d.before a0 Z = true) (ws : List Jvm.Cond) (p0 : Int32) (h0 : Heap)  :
    OMet l (⟨"java/lang/Integer", "numberOfTrailingZeros", "(I)I"⟩ : MethodName) jdk_33_method_48_code 2 (some .int) ws ({ frames := 0, cells := 0, slots := 0, locals := 0 } : Room) #[(.int p0)] Z h0 (fun v h L => v = some (Value.int (f_ntzI p0)) ∧ L = [] ∧ h = h0) := by
  refine OMet.of pn_9 (fun m => ef_9_f_ntzI m p0) ?_
  intro p e s m below meth c s₁ hx hby hml hown hnm hret hlk hZ X0 e0
  refine Owes.go ?_ fun t₀ k₀ => XS.iloadN X0.here hx rfl (hb hby d9_0) rfl k₀
  show Owes _ _ _ _ (s₁.setTop (mkF m 1 #[.val (.int p0), .unset] [(.int p0)]))
  refine Owes.go ?_ fun t₀ k₀ => XS.iconst X0.here hx rfl (hb hby d9_1) k₀
  show Owes _ _ _ _ (s₁.setTop (mkF m 2 #[.val (.int p0), .unset] [(.int (-1 : Int32)), (.int p0)]))
  refine Owes.go ?_ fun t₀ k₀ => XS.ixor X0.here hx rfl (hb hby d9_2) rfl k₀
  show Owes _ _ _ _ (s₁.setTop (mkF m 3 #[.val (.int p0), .unset] [(.int (p0 ^^^ (-1 : Int32)))]))
  refine Owes.go ?_ fun t₀ k₀ => XS.iloadN X0.here hx rfl (hb hby d9_3) rfl k₀
  show Owes _ _ _ _ (s₁.setTop (mkF m 4 #[.val (.int p0), .unset] [(.int p0), (.int (p0 ^^^ (-1 : Int32)))]))
  refine Owes.go ?_ fun t₀ k₀ => XS.iconst X0.here hx rfl (hb hby d9_4) k₀
  show Owes _ _ _ _ (s₁.setTop (mkF m 5 #[.val (.int p0), .unset] [(.int (1 : Int32)), (.int p0), (.int (p0 ^^^ (-1 : Int32)))]))
  refine Owes.go ?_ fun t₀ k₀ => XS.isub X0.here hx rfl (hb hby d9_5) rfl k₀
  show Owes _ _ _ _ (s₁.setTop (mkF m 6 #[.val (.int p0), .unset] [(.int (p0 - (1 : Int32))), (.int (p0 ^^^ (-1 : Int32)))]))
  refine Owes.go ?_ fun t₀ k₀ => XS.iand X0.here hx rfl (hb hby d9_6) rfl k₀
  show Owes _ _ _ _ (s₁.setTop (mkF m 7 #[.val (.int p0), .unset] [(.int ((p0 ^^^ (-1 : Int32)) &&& (p0 - (1 : Int32))))]))
  refine Owes.go ?_ fun t₀ k₀ => XS.istoreN X0.here hx rfl (hb hby d9_7) rfl (l' := #[.val (.int ((p0 ^^^ (-1 : Int32)) &&& (p0 - (1 : Int32)))), .unset]) rfl k₀
  show Owes _ _ _ _ (s₁.setTop (mkF m 8 #[.val (.int ((p0 ^^^ (-1 : Int32)) &&& (p0 - (1 : Int32)))), .unset] []))
  refine Owes.go ?_ fun t₀ k₀ => XS.iloadN X0.here hx rfl (hb hby d9_8) rfl k₀
  show Owes _ _ _ _ (s₁.setTop (mkF m 9 #[.val (.int ((p0 ^^^ (-1 : Int32)) &&& (p0 - (1 : Int32)))), .unset] [(.int ((p0 ^^^ (-1 : Int32)) &&& (p0 - (1 : Int32))))]))
  by_cases hc1 : (0 : Int32) < ((p0 ^^^ (-1 : Int32)) &&& (p0 - (1 : Int32)))
  · skip
    refine Owes.go ?_ fun t₀ k₀ => XS.ifYes X0.here hx rfl (pc0 := 9) (pc' := 17) rfl (hb hby d9_9) rfl ((if0 _ _).trans (tlt hc1).2.2.1) (by decide) (by decide) k₀
    show Owes _ _ _ _ (s₁.setTop (mkF m 17 #[.val (.int ((p0 ^^^ (-1 : Int32)) &&& (p0 - (1 : Int32)))), .unset] []))
    refine Owes.go ?_ fun t₀ k₀ => XS.iconst X0.here hx rfl (hb hby d9_17) k₀
    show Owes _ _ _ _ (s₁.setTop (mkF m 18 #[.val (.int ((p0 ^^^ (-1 : Int32)) &&& (p0 - (1 : Int32)))), .unset] [(.int (1 : Int32))]))
    refine Owes.go ?_ fun t₀ k₀ => XS.istoreN X0.here hx rfl (hb hby d9_18) rfl (l' := #[.val (.int ((p0 ^^^ (-1 : Int32)) &&& (p0 - (1 : Int32)))), .val (.int (1 : Int32))]) rfl k₀
    show Owes _ _ _ _ (s₁.setTop (mkF m 19 #[.val (.int ((p0 ^^^ (-1 : Int32)) &&& (p0 - (1 : Int32)))), .val (.int (1 : Int32))] []))
    refine Owes.go ?_ fun t₀ k₀ => XS.iloadN X0.here hx rfl (hb hby d9_19) rfl k₀
    show Owes _ _ _ _ (s₁.setTop (mkF m 20 #[.val (.int ((p0 ^^^ (-1 : Int32)) &&& (p0 - (1 : Int32)))), .val (.int (1 : Int32))] [(.int ((p0 ^^^ (-1 : Int32)) &&& (p0 - (1 : Int32))))]))
    refine Owes.go ?_ fun t₀ k₀ => X0.ldcwInt hx hown (mvT hZ (hw _ (List.mem_of_getElem? (i := 68) rfl))) (g := (mkF m 20 #[.val (.int ((p0 ^^^ (-1 : Int32)) &&& (p0 - (1 : Int32)))), .val (.int (1 : Int32))] [(.int ((p0 ^^^ (-1 : Int32)) &&& (p0 - (1 : Int32))))])) rfl (hb hby d9_20) _ k₀
    show Owes _ _ _ _ (s₁.setTop (mkF m 23 #[.val (.int ((p0 ^^^ (-1 : Int32)) &&& (p0 - (1 : Int32)))), .val (.int (1 : Int32))] [(.int (65536 : Int32)), (.int ((p0 ^^^ (-1 : Int32)) &&& (p0 - (1 : Int32))))]))
    by_cases hc2 : (65536 : Int32) < ((p0 ^^^ (-1 : Int32)) &&& (p0 - (1 : Int32)))
    · skip
      refine Owes.go ?_ fun t₀ k₀ => XS.icmpNo X0.here hx rfl (hb hby d9_23) rfl (tlt hc2).2.2.2 k₀
      show Owes _ _ _ _ (s₁.setTop (mkF m 26 #[.val (.int ((p0 ^^^ (-1 : Int32)) &&& (p0 - (1 : Int32)))), .val (.int (1 : Int32))] []))
      refine Owes.go ?_ fun t₀ k₀ => XS.iinc X0.here hx rfl (hb hby d9_26) rfl (l' := #[.val (.int ((p0 ^^^ (-1 : Int32)) &&& (p0 - (1 : Int32)))), .val (.int ((1 : Int32) + (16 : Int32)))]) rfl k₀
      show Owes _ _ _ _ (s₁.setTop (mkF m 29 #[.val (.int ((p0 ^^^ (-1 : Int32)) &&& (p0 - (1 : Int32)))), .val (.int ((1 : Int32) + (16 : Int32)))] []))
      refine Owes.go ?_ fun t₀ k₀ => XS.iloadN X0.here hx rfl (hb hby d9_29) rfl k₀
      show Owes _ _ _ _ (s₁.setTop (mkF m 30 #[.val (.int ((p0 ^^^ (-1 : Int32)) &&& (p0 - (1 : Int32)))), .val (.int ((1 : Int32) + (16 : Int32)))] [(.int ((p0 ^^^ (-1 : Int32)) &&& (p0 - (1 : Int32))))]))
      refine Owes.go ?_ fun t₀ k₀ => XS.bipush X0.here hx rfl (hb hby d9_30) k₀
      show Owes _ _ _ _ (s₁.setTop (mkF m 32 #[.val (.int ((p0 ^^^ (-1 : Int32)) &&& (p0 - (1 : Int32)))), .val (.int ((1 : Int32) + (16 : Int32)))] [(.int (16 : Int32)), (.int ((p0 ^^^ (-1 : Int32)) &&& (p0 - (1 : Int32))))]))
      refine Owes.go ?_ fun t₀ k₀ => XS.iushr X0.here hx rfl (hb hby d9_32) rfl k₀
      show Owes _ _ _ _ (s₁.setTop (mkF m 33 #[.val (.int ((p0 ^^^ (-1 : Int32)) &&& (p0 - (1 : Int32)))), .val (.int ((1 : Int32) + (16 : Int32)))] [(.int ((((p0 ^^^ (-1 : Int32)) &&& (p0 - (1 : Int32))).toUInt32 >>> ((16 : Int32) &&& 31).toUInt32).toInt32))]))
      refine Owes.go ?_ fun t₀ k₀ => XS.istoreN X0.here hx rfl (hb hby d9_33) rfl (l' := #[.val (.int ((((p0 ^^^ (-1 : Int32)) &&& (p0 - (1 : Int32))).toUInt32 >>> ((16 : Int32) &&& 31).toUInt32).toInt32)), .val (.int ((1 : Int32) + (16 : Int32)))]) rfl k₀
      show Owes _ _ _ _ (s₁.setTop (mkF m 34 #[.val (.int ((((p0 ^^^ (-1 : Int32)) &&& (p0 - (1 : Int32))).toUInt32 >>> ((16 : Int32) &&& 31).toUInt32).toInt32)), .val (.int ((1 : Int32) + (16 : Int32)))] []))
      refine Owes.go ?_ fun t₀ k₀ => XS.iloadN X0.here hx rfl (hb hby d9_34) rfl k₀
      show Owes _ _ _ _ (s₁.setTop (mkF m 35 #[.val (.int ((((p0 ^^^ (-1 : Int32)) &&& (p0 - (1 : Int32))).toUInt32 >>> ((16 : Int32) &&& 31).toUInt32).toInt32)), .val (.int ((1 : Int32) + (16 : Int32)))] [(.int ((((p0 ^^^ (-1 : Int32)) &&& (p0 - (1 : Int32))).toUInt32 >>> ((16 : Int32) &&& 31).toUInt32).toInt32))]))
      refine Owes.go ?_ fun t₀ k₀ => XS.sipush X0.here hx rfl (hb hby d9_35) k₀
      show Owes _ _ _ _ (s₁.setTop (mkF m 38 #[.val (.int ((((p0 ^^^ (-1 : Int32)) &&& (p0 - (1 : Int32))).toUInt32 >>> ((16 : Int32) &&& 31).toUInt32).toInt32)), .val (.int ((1 : Int32) + (16 : Int32)))] [(.int (256 : Int32)), (.int ((((p0 ^^^ (-1 : Int32)) &&& (p0 - (1 : Int32))).toUInt32 >>> ((16 : Int32) &&& 31).toUInt32).toInt32))]))
      by_cases hc3 : (256 : Int32) < ((((p0 ^^^ (-1 : Int32)) &&& (p0 - (1 : Int32))).toUInt32 >>> ((16 : Int32) &&& 31).toUInt32).toInt32)
      · skip
        refine Owes.go ?_ fun t₀ k₀ => XS.icmpNo X0.here hx rfl (hb hby d9_38) rfl (tlt hc3).2.2.2 k₀
        show Owes _ _ _ _ (s₁.setTop (mkF m 41 #[.val (.int ((((p0 ^^^ (-1 : Int32)) &&& (p0 - (1 : Int32))).toUInt32 >>> ((16 : Int32) &&& 31).toUInt32).toInt32)), .val (.int ((1 : Int32) + (16 : Int32)))] []))
        refine Owes.go ?_ fun t₀ k₀ => XS.iinc X0.here hx rfl (hb hby d9_41) rfl (l' := #[.val (.int ((((p0 ^^^ (-1 : Int32)) &&& (p0 - (1 : Int32))).toUInt32 >>> ((16 : Int32) &&& 31).toUInt32).toInt32)), .val (.int (((1 : Int32) + (16 : Int32)) + (8 : Int32)))]) rfl k₀
        show Owes _ _ _ _ (s₁.setTop (mkF m 44 #[.val (.int ((((p0 ^^^ (-1 : Int32)) &&& (p0 - (1 : Int32))).toUInt32 >>> ((16 : Int32) &&& 31).toUInt32).toInt32)), .val (.int (((1 : Int32) + (16 : Int32)) + (8 : Int32)))] []))
        refine Owes.go ?_ fun t₀ k₀ => XS.iloadN X0.here hx rfl (hb hby d9_44) rfl k₀
        show Owes _ _ _ _ (s₁.setTop (mkF m 45 #[.val (.int ((((p0 ^^^ (-1 : Int32)) &&& (p0 - (1 : Int32))).toUInt32 >>> ((16 : Int32) &&& 31).toUInt32).toInt32)), .val (.int (((1 : Int32) + (16 : Int32)) + (8 : Int32)))] [(.int ((((p0 ^^^ (-1 : Int32)) &&& (p0 - (1 : Int32))).toUInt32 >>> ((16 : Int32) &&& 31).toUInt32).toInt32))]))
        refine Owes.go ?_ fun t₀ k₀ => XS.bipush X0.here hx rfl (hb hby d9_45) k₀
        show Owes _ _ _ _ (s₁.setTop (mkF m 47 #[.val (.int ((((p0 ^^^ (-1 : Int32)) &&& (p0 - (1 : Int32))).toUInt32 >>> ((16 : Int32) &&& 31).toUInt32).toInt32)), .val (.int (((1 : Int32) + (16 : Int32)) + (8 : Int32)))] [(.int (8 : Int32)), (.int ((((p0 ^^^ (-1 : Int32)) &&& (p0 - (1 : Int32))).toUInt32 >>> ((16 : Int32) &&& 31).toUInt32).toInt32))]))
        refine Owes.go ?_ fun t₀ k₀ => XS.iushr X0.here hx rfl (hb hby d9_47) rfl k₀
        show Owes _ _ _ _ (s₁.setTop (mkF m 48 #[.val (.int ((((p0 ^^^ (-1 : Int32)) &&& (p0 - (1 : Int32))).toUInt32 >>> ((16 : Int32) &&& 31).toUInt32).toInt32)), .val (.int (((1 : Int32) + (16 : Int32)) + (8 : Int32)))] [(.int ((((((p0 ^^^ (-1 : Int32)) &&& (p0 - (1 : Int32))).toUInt32 >>> ((16 : Int32) &&& 31).toUInt32).toInt32).toUInt32 >>> ((8 : Int32) &&& 31).toUInt32).toInt32))]))
        refine Owes.go ?_ fun t₀ k₀ => XS.istoreN X0.here hx rfl (hb hby d9_48) rfl (l' := #[.val (.int ((((((p0 ^^^ (-1 : Int32)) &&& (p0 - (1 : Int32))).toUInt32 >>> ((16 : Int32) &&& 31).toUInt32).toInt32).toUInt32 >>> ((8 : Int32) &&& 31).toUInt32).toInt32)), .val (.int (((1 : Int32) + (16 : Int32)) + (8 : Int32)))]) rfl k₀
        show Owes _ _ _ _ (s₁.setTop (mkF m 49 #[.val (.int ((((((p0 ^^^ (-1 : Int32)) &&& (p0 - (1 : Int32))).toUInt32 >>> ((16 : Int32) &&& 31).toUInt32).toInt32).toUInt32 >>> ((8 : Int32) &&& 31).toUInt32).toInt32)), .val (.int (((1 : Int32) + (16 : Int32)) + (8 : Int32)))] []))
        refine Owes.go ?_ fun t₀ k₀ => XS.iloadN X0.here hx rfl (hb hby d9_49) rfl k₀
        show Owes _ _ _ _ (s₁.setTop (mkF m 50 #[.val (.int ((((((p0 ^^^ (-1 : Int32)) &&& (p0 - (1 : Int32))).toUInt32 >>> ((16 : Int32) &&& 31).toUInt32).toInt32).toUInt32 >>> ((8 : Int32) &&& 31).toUInt32).toInt32)), .val (.int (((1 : Int32) + (16 : Int32)) + (8 : Int32)))] [(.int ((((((p0 ^^^ (-1 : Int32)) &&& (p0 - (1 : Int32))).toUInt32 >>> ((16 : Int32) &&& 31).toUInt32).toInt32).toUInt32 >>> ((8 : Int32) &&& 31).toUInt32).toInt32))]))
        refine Owes.go ?_ fun t₀ k₀ => XS.bipush X0.here hx rfl (hb hby d9_50) k₀
        show Owes _ _ _ _ (s₁.setTop (mkF m 52 #[.val (.int ((((((p0 ^^^ (-1 : Int32)) &&& (p0 - (1 : Int32))).toUInt32 >>> ((16 : Int32) &&& 31).toUInt32).toInt32).toUInt32 >>> ((8 : Int32) &&& 31).toUInt32).toInt32)), .val (.int (((1 : Int32) + (16 : Int32)) + (8 : Int32)))] [(.int (16 : Int32)), (.int ((((((p0 ^^^ (-1 : Int32)) &&& (p0 - (1 : Int32))).toUInt32 >>> ((16 : Int32) &&& 31).toUInt32).toInt32).toUInt32 >>> ((8 : Int32) &&& 31).toUInt32).toInt32))]))
        by_cases hc4 : (16 : Int32) < ((((((p0 ^^^ (-1 : Int32)) &&& (p0 - (1 : Int32))).toUInt32 >>> ((16 : Int32) &&& 31).toUInt32).toInt32).toUInt32 >>> ((8 : Int32) &&& 31).toUInt32).toInt32)
        · skip
          refine Owes.go ?_ fun t₀ k₀ => XS.icmpNo X0.here hx rfl (hb hby d9_52) rfl (tlt hc4).2.2.2 k₀
          show Owes _ _ _ _ (s₁.setTop (mkF m 55 #[.val (.int ((((((p0 ^^^ (-1 : Int32)) &&& (p0 - (1 : Int32))).toUInt32 >>> ((16 : Int32) &&& 31).toUInt32).toInt32).toUInt32 >>> ((8 : Int32) &&& 31).toUInt32).toInt32)), .val (.int (((1 : Int32) + (16 : Int32)) + (8 : Int32)))] []))
          refine Owes.go ?_ fun t₀ k₀ => XS.iinc X0.here hx rfl (hb hby d9_55) rfl (l' := #[.val (.int ((((((p0 ^^^ (-1 : Int32)) &&& (p0 - (1 : Int32))).toUInt32 >>> ((16 : Int32) &&& 31).toUInt32).toInt32).toUInt32 >>> ((8 : Int32) &&& 31).toUInt32).toInt32)), .val (.int ((((1 : Int32) + (16 : Int32)) + (8 : Int32)) + (4 : Int32)))]) rfl k₀
          show Owes _ _ _ _ (s₁.setTop (mkF m 58 #[.val (.int ((((((p0 ^^^ (-1 : Int32)) &&& (p0 - (1 : Int32))).toUInt32 >>> ((16 : Int32) &&& 31).toUInt32).toInt32).toUInt32 >>> ((8 : Int32) &&& 31).toUInt32).toInt32)), .val (.int ((((1 : Int32) + (16 : Int32)) + (8 : Int32)) + (4 : Int32)))] []))
          refine Owes.go ?_ fun t₀ k₀ => XS.iloadN X0.here hx rfl (hb hby d9_58) rfl k₀
          show Owes _ _ _ _ (s₁.setTop (mkF m 59 #[.val (.int ((((((p0 ^^^ (-1 : Int32)) &&& (p0 - (1 : Int32))).toUInt32 >>> ((16 : Int32) &&& 31).toUInt32).toInt32).toUInt32 >>> ((8 : Int32) &&& 31).toUInt32).toInt32)), .val (.int ((((1 : Int32) + (16 : Int32)) + (8 : Int32)) + (4 : Int32)))] [(.int ((((((p0 ^^^ (-1 : Int32)) &&& (p0 - (1 : Int32))).toUInt32 >>> ((16 : Int32) &&& 31).toUInt32).toInt32).toUInt32 >>> ((8 : Int32) &&& 31).toUInt32).toInt32))]))
          refine Owes.go ?_ fun t₀ k₀ => XS.iconst X0.here hx rfl (hb hby d9_59) k₀
          show Owes _ _ _ _ (s₁.setTop (mkF m 60 #[.val (.int ((((((p0 ^^^ (-1 : Int32)) &&& (p0 - (1 : Int32))).toUInt32 >>> ((16 : Int32) &&& 31).toUInt32).toInt32).toUInt32 >>> ((8 : Int32) &&& 31).toUInt32).toInt32)), .val (.int ((((1 : Int32) + (16 : Int32)) + (8 : Int32)) + (4 : Int32)))] [(.int (4 : Int32)), (.int ((((((p0 ^^^ (-1 : Int32)) &&& (p0 - (1 : Int32))).toUInt32 >>> ((16 : Int32) &&& 31).toUInt32).toInt32).toUInt32 >>> ((8 : Int32) &&& 31).toUInt32).toInt32))]))
          refine Owes.go ?_ fun t₀ k₀ => XS.iushr X0.here hx rfl (hb hby d9_60) rfl k₀
          show Owes _ _ _ _ (s₁.setTop (mkF m 61 #[.val (.int ((((((p0 ^^^ (-1 : Int32)) &&& (p0 - (1 : Int32))).toUInt32 >>> ((16 : Int32) &&& 31).toUInt32).toInt32).toUInt32 >>> ((8 : Int32) &&& 31).toUInt32).toInt32)), .val (.int ((((1 : Int32) + (16 : Int32)) + (8 : Int32)) + (4 : Int32)))] [(.int ((((((((p0 ^^^ (-1 : Int32)) &&& (p0 - (1 : Int32))).toUInt32 >>> ((16 : Int32) &&& 31).toUInt32).toInt32).toUInt32 >>> ((8 : Int32) &&& 31).toUInt32).toInt32).toUInt32 >>> ((4 : Int32) &&& 31).toUInt32).toInt32))]))
          refine Owes.go ?_ fun t₀ k₀ => XS.istoreN X0.here hx rfl (hb hby d9_61) rfl (l' := #[.val (.int ((((((((p0 ^^^ (-1 : Int32)) &&& (p0 - (1 : Int32))).toUInt32 >>> ((16 : Int32) &&& 31).toUInt32).toInt32).toUInt32 >>> ((8 : Int32) &&& 31).toUInt32).toInt32).toUInt32 >>> ((4 : Int32) &&& 31).toUInt32).toInt32)), .val (.int ((((1 : Int32) + (16 : Int32)) + (8 : Int32)) + (4 : Int32)))]) rfl k₀
          show Owes _ _ _ _ (s₁.setTop (mkF m 62 #[.val (.int ((((((((p0 ^^^ (-1 : Int32)) &&& (p0 - (1 : Int32))).toUInt32 >>> ((16 : Int32) &&& 31).toUInt32).toInt32).toUInt32 >>> ((8 : Int32) &&& 31).toUInt32).toInt32).toUInt32 >>> ((4 : Int32) &&& 31).toUInt32).toInt32)), .val (.int ((((1 : Int32) + (16 : Int32)) + (8 : Int32)) + (4 : Int32)))] []))
          refine Owes.go ?_ fun t₀ k₀ => XS.iloadN X0.here hx rfl (hb hby d9_62) rfl k₀
          show Owes _ _ _ _ (s₁.setTop (mkF m 63 #[.val (.int ((((((((p0 ^^^ (-1 : Int32)) &&& (p0 - (1 : Int32))).toUInt32 >>> ((16 : Int32) &&& 31).toUInt32).toInt32).toUInt32 >>> ((8 : Int32) &&& 31).toUInt32).toInt32).toUInt32 >>> ((4 : Int32) &&& 31).toUInt32).toInt32)), .val (.int ((((1 : Int32) + (16 : Int32)) + (8 : Int32)) + (4 : Int32)))] [(.int ((((((((p0 ^^^ (-1 : Int32)) &&& (p0 - (1 : Int32))).toUInt32 >>> ((16 : Int32) &&& 31).toUInt32).toInt32).toUInt32 >>> ((8 : Int32) &&& 31).toUInt32).toInt32).toUInt32 >>> ((4 : Int32) &&& 31).toUInt32).toInt32))]))
          refine Owes.go ?_ fun t₀ k₀ => XS.iconst X0.here hx rfl (hb hby d9_63) k₀
          show Owes _ _ _ _ (s₁.setTop (mkF m 64 #[.val (.int ((((((((p0 ^^^ (-1 : Int32)) &&& (p0 - (1 : Int32))).toUInt32 >>> ((16 : Int32) &&& 31).toUInt32).toInt32).toUInt32 >>> ((8 : Int32) &&& 31).toUInt32).toInt32).toUInt32 >>> ((4 : Int32) &&& 31).toUInt32).toInt32)), .val (.int ((((1 : Int32) + (16 : Int32)) + (8 : Int32)) + (4 : Int32)))] [(.int (4 : Int32)), (.int ((((((((p0 ^^^ (-1 : Int32)) &&& (p0 - (1 : Int32))).toUInt32 >>> ((16 : Int32) &&& 31).toUInt32).toInt32).toUInt32 >>> ((8 : Int32) &&& 31).toUInt32).toInt32).toUInt32 >>> ((4 : Int32) &&& 31).toUInt32).toInt32))]))
          by_cases hc5 : (4 : Int32) < ((((((((p0 ^^^ (-1 : Int32)) &&& (p0 - (1 : Int32))).toUInt32 >>> ((16 : Int32) &&& 31).toUInt32).toInt32).toUInt32 >>> ((8 : Int32) &&& 31).toUInt32).toInt32).toUInt32 >>> ((4 : Int32) &&& 31).toUInt32).toInt32)
          · skip
            refine Owes.go ?_ fun t₀ k₀ => XS.icmpNo X0.here hx rfl (hb hby d9_64) rfl (tlt hc5).2.2.2 k₀
            show Owes _ _ _ _ (s₁.setTop (mkF m 67 #[.val (.int ((((((((p0 ^^^ (-1 : Int32)) &&& (p0 - (1 : Int32))).toUInt32 >>> ((16 : Int32) &&& 31).toUInt32).toInt32).toUInt32 >>> ((8 : Int32) &&& 31).toUInt32).toInt32).toUInt32 >>> ((4 : Int32) &&& 31).toUInt32).toInt32)), .val (.int ((((1 : Int32) + (16 : Int32)) + (8 : Int32)) + (4 : Int32)))] []))
            refine Owes.go ?_ fun t₀ k₀ => XS.iinc X0.here hx rfl (hb hby d9_67) rfl (l' := #[.val (.int ((((((((p0 ^^^ (-1 : Int32)) &&& (p0 - (1 : Int32))).toUInt32 >>> ((16 : Int32) &&& 31).toUInt32).toInt32).toUInt32 >>> ((8 : Int32) &&& 31).toUInt32).toInt32).toUInt32 >>> ((4 : Int32) &&& 31).toUInt32).toInt32)), .val (.int (((((1 : Int32) + (16 : Int32)) + (8 : Int32)) + (4 : Int32)) + (2 : Int32)))]) rfl k₀
            show Owes _ _ _ _ (s₁.setTop (mkF m 70 #[.val (.int ((((((((p0 ^^^ (-1 : Int32)) &&& (p0 - (1 : Int32))).toUInt32 >>> ((16 : Int32) &&& 31).toUInt32).toInt32).toUInt32 >>> ((8 : Int32) &&& 31).toUInt32).toInt32).toUInt32 >>> ((4 : Int32) &&& 31).toUInt32).toInt32)), .val (.int (((((1 : Int32) + (16 : Int32)) + (8 : Int32)) + (4 : Int32)) + (2 : Int32)))] []))
            refine Owes.go ?_ fun t₀ k₀ => XS.iloadN X0.here hx rfl (hb hby d9_70) rfl k₀
            show Owes _ _ _ _ (s₁.setTop (mkF m 71 #[.val (.int ((((((((p0 ^^^ (-1 : Int32)) &&& (p0 - (1 : Int32))).toUInt32 >>> ((16 : Int32) &&& 31).toUInt32).toInt32).toUInt32 >>> ((8 : Int32) &&& 31).toUInt32).toInt32).toUInt32 >>> ((4 : Int32) &&& 31).toUInt32).toInt32)), .val (.int (((((1 : Int32) + (16 : Int32)) + (8 : Int32)) + (4 : Int32)) + (2 : Int32)))] [(.int ((((((((p0 ^^^ (-1 : Int32)) &&& (p0 - (1 : Int32))).toUInt32 >>> ((16 : Int32) &&& 31).toUInt32).toInt32).toUInt32 >>> ((8 : Int32) &&& 31).toUInt32).toInt32).toUInt32 >>> ((4 : Int32) &&& 31).toUInt32).toInt32))]))
            refine Owes.go ?_ fun t₀ k₀ => XS.iconst X0.here hx rfl (hb hby d9_71) k₀
            show Owes _ _ _ _ (s₁.setTop (mkF m 72 #[.val (.int ((((((((p0 ^^^ (-1 : Int32)) &&& (p0 - (1 : Int32))).toUInt32 >>> ((16 : Int32) &&& 31).toUInt32).toInt32).toUInt32 >>> ((8 : Int32) &&& 31).toUInt32).toInt32).toUInt32 >>> ((4 : Int32) &&& 31).toUInt32).toInt32)), .val (.int (((((1 : Int32) + (16 : Int32)) + (8 : Int32)) + (4 : Int32)) + (2 : Int32)))] [(.int (2 : Int32)), (.int ((((((((p0 ^^^ (-1 : Int32)) &&& (p0 - (1 : Int32))).toUInt32 >>> ((16 : Int32) &&& 31).toUInt32).toInt32).toUInt32 >>> ((8 : Int32) &&& 31).toUInt32).toInt32).toUInt32 >>> ((4 : Int32) &&& 31).toUInt32).toInt32))]))
            refine Owes.go ?_ fun t₀ k₀ => XS.iushr X0.here hx rfl (hb hby d9_72) rfl k₀
            show Owes _ _ _ _ (s₁.setTop (mkF m 73 #[.val (.int ((((((((p0 ^^^ (-1 : Int32)) &&& (p0 - (1 : Int32))).toUInt32 >>> ((16 : Int32) &&& 31).toUInt32).toInt32).toUInt32 >>> ((8 : Int32) &&& 31).toUInt32).toInt32).toUInt32 >>> ((4 : Int32) &&& 31).toUInt32).toInt32)), .val (.int (((((1 : Int32) + (16 : Int32)) + (8 : Int32)) + (4 : Int32)) + (2 : Int32)))] [(.int ((((((((((p0 ^^^ (-1 : Int32)) &&& (p0 - (1 : Int32))).toUInt32 >>> ((16 : Int32) &&& 31).toUInt32).toInt32).toUInt32 >>> ((8 : Int32) &&& 31).toUInt32).toInt32).toUInt32 >>> ((4 : Int32) &&& 31).toUInt32).toInt32).toUInt32 >>> ((2 : Int32) &&& 31).toUInt32).toInt32))]))
            refine Owes.go ?_ fun t₀ k₀ => XS.istoreN X0.here hx rfl (hb hby d9_73) rfl (l' := #[.val (.int ((((((((((p0 ^^^ (-1 : Int32)) &&& (p0 - (1 : Int32))).toUInt32 >>> ((16 : Int32) &&& 31).toUInt32).toInt32).toUInt32 >>> ((8 : Int32) &&& 31).toUInt32).toInt32).toUInt32 >>> ((4 : Int32) &&& 31).toUInt32).toInt32).toUInt32 >>> ((2 : Int32) &&& 31).toUInt32).toInt32)), .val (.int (((((1 : Int32) + (16 : Int32)) + (8 : Int32)) + (4 : Int32)) + (2 : Int32)))]) rfl k₀
            show Owes _ _ _ _ (s₁.setTop (mkF m 74 #[.val (.int ((((((((((p0 ^^^ (-1 : Int32)) &&& (p0 - (1 : Int32))).toUInt32 >>> ((16 : Int32) &&& 31).toUInt32).toInt32).toUInt32 >>> ((8 : Int32) &&& 31).toUInt32).toInt32).toUInt32 >>> ((4 : Int32) &&& 31).toUInt32).toInt32).toUInt32 >>> ((2 : Int32) &&& 31).toUInt32).toInt32)), .val (.int (((((1 : Int32) + (16 : Int32)) + (8 : Int32)) + (4 : Int32)) + (2 : Int32)))] []))
            refine Owes.go ?_ fun t₀ k₀ => XS.iloadN X0.here hx rfl (hb hby d9_74) rfl k₀
            show Owes _ _ _ _ (s₁.setTop (mkF m 75 #[.val (.int ((((((((((p0 ^^^ (-1 : Int32)) &&& (p0 - (1 : Int32))).toUInt32 >>> ((16 : Int32) &&& 31).toUInt32).toInt32).toUInt32 >>> ((8 : Int32) &&& 31).toUInt32).toInt32).toUInt32 >>> ((4 : Int32) &&& 31).toUInt32).toInt32).toUInt32 >>> ((2 : Int32) &&& 31).toUInt32).toInt32)), .val (.int (((((1 : Int32) + (16 : Int32)) + (8 : Int32)) + (4 : Int32)) + (2 : Int32)))] [(.int (((((1 : Int32) + (16 : Int32)) + (8 : Int32)) + (4 : Int32)) + (2 : Int32)))]))
            refine Owes.go ?_ fun t₀ k₀ => XS.iloadN X0.here hx rfl (hb hby d9_75) rfl k₀
            show Owes _ _ _ _ (s₁.setTop (mkF m 76 #[.val (.int ((((((((((p0 ^^^ (-1 : Int32)) &&& (p0 - (1 : Int32))).toUInt32 >>> ((16 : Int32) &&& 31).toUInt32).toInt32).toUInt32 >>> ((8 : Int32) &&& 31).toUInt32).toInt32).toUInt32 >>> ((4 : Int32) &&& 31).toUInt32).toInt32).toUInt32 >>> ((2 : Int32) &&& 31).toUInt32).toInt32)), .val (.int (((((1 : Int32) + (16 : Int32)) + (8 : Int32)) + (4 : Int32)) + (2 : Int32)))] [(.int ((((((((((p0 ^^^ (-1 : Int32)) &&& (p0 - (1 : Int32))).toUInt32 >>> ((16 : Int32) &&& 31).toUInt32).toInt32).toUInt32 >>> ((8 : Int32) &&& 31).toUInt32).toInt32).toUInt32 >>> ((4 : Int32) &&& 31).toUInt32).toInt32).toUInt32 >>> ((2 : Int32) &&& 31).toUInt32).toInt32)), (.int (((((1 : Int32) + (16 : Int32)) + (8 : Int32)) + (4 : Int32)) + (2 : Int32)))]))
            refine Owes.go ?_ fun t₀ k₀ => XS.iconst X0.here hx rfl (hb hby d9_76) k₀
            show Owes _ _ _ _ (s₁.setTop (mkF m 77 #[.val (.int ((((((((((p0 ^^^ (-1 : Int32)) &&& (p0 - (1 : Int32))).toUInt32 >>> ((16 : Int32) &&& 31).toUInt32).toInt32).toUInt32 >>> ((8 : Int32) &&& 31).toUInt32).toInt32).toUInt32 >>> ((4 : Int32) &&& 31).toUInt32).toInt32).toUInt32 >>> ((2 : Int32) &&& 31).toUInt32).toInt32)), .val (.int (((((1 : Int32) + (16 : Int32)) + (8 : Int32)) + (4 : Int32)) + (2 : Int32)))] [(.int (1 : Int32)), (.int ((((((((((p0 ^^^ (-1 : Int32)) &&& (p0 - (1 : Int32))).toUInt32 >>> ((16 : Int32) &&& 31).toUInt32).toInt32).toUInt32 >>> ((8 : Int32) &&& 31).toUInt32).toInt32).toUInt32 >>> ((4 : Int32) &&& 31).toUInt32).toInt32).toUInt32 >>> ((2 : Int32) &&& 31).toUInt32).toInt32)), (.int (((((1 : Int32) + (16 : Int32)) + (8 : Int32)) + (4 : Int32)) + (2 : Int32)))]))
            refine Owes.go ?_ fun t₀ k₀ => XS.iushr X0.here hx rfl (hb hby d9_77) rfl k₀
            show Owes _ _ _ _ (s₁.setTop (mkF m 78 #[.val (.int ((((((((((p0 ^^^ (-1 : Int32)) &&& (p0 - (1 : Int32))).toUInt32 >>> ((16 : Int32) &&& 31).toUInt32).toInt32).toUInt32 >>> ((8 : Int32) &&& 31).toUInt32).toInt32).toUInt32 >>> ((4 : Int32) &&& 31).toUInt32).toInt32).toUInt32 >>> ((2 : Int32) &&& 31).toUInt32).toInt32)), .val (.int (((((1 : Int32) + (16 : Int32)) + (8 : Int32)) + (4 : Int32)) + (2 : Int32)))] [(.int ((((((((((((p0 ^^^ (-1 : Int32)) &&& (p0 - (1 : Int32))).toUInt32 >>> ((16 : Int32) &&& 31).toUInt32).toInt32).toUInt32 >>> ((8 : Int32) &&& 31).toUInt32).toInt32).toUInt32 >>> ((4 : Int32) &&& 31).toUInt32).toInt32).toUInt32 >>> ((2 : Int32) &&& 31).toUInt32).toInt32).toUInt32 >>> ((1 : Int32) &&& 31).toUInt32).toInt32)), (.int (((((1 : Int32) + (16 : Int32)) + (8 : Int32)) + (4 : Int32)) + (2 : Int32)))]))
            refine Owes.go ?_ fun t₀ k₀ => XS.iadd X0.here hx rfl (hb hby d9_78) rfl k₀
            show Owes _ _ _ _ (s₁.setTop (mkF m 79 #[.val (.int ((((((((((p0 ^^^ (-1 : Int32)) &&& (p0 - (1 : Int32))).toUInt32 >>> ((16 : Int32) &&& 31).toUInt32).toInt32).toUInt32 >>> ((8 : Int32) &&& 31).toUInt32).toInt32).toUInt32 >>> ((4 : Int32) &&& 31).toUInt32).toInt32).toUInt32 >>> ((2 : Int32) &&& 31).toUInt32).toInt32)), .val (.int (((((1 : Int32) + (16 : Int32)) + (8 : Int32)) + (4 : Int32)) + (2 : Int32)))] [(.int ((((((1 : Int32) + (16 : Int32)) + (8 : Int32)) + (4 : Int32)) + (2 : Int32)) + ((((((((((((p0 ^^^ (-1 : Int32)) &&& (p0 - (1 : Int32))).toUInt32 >>> ((16 : Int32) &&& 31).toUInt32).toInt32).toUInt32 >>> ((8 : Int32) &&& 31).toUInt32).toInt32).toUInt32 >>> ((4 : Int32) &&& 31).toUInt32).toInt32).toUInt32 >>> ((2 : Int32) &&& 31).toUInt32).toInt32).toUInt32 >>> ((1 : Int32) &&& 31).toUInt32).toInt32)))]))
            exact Owes.retI X0 hx hlk hret (hb hby d9_79) (by decide) (by decide) ⟨congrArg (fun z => some (Value.int z)) (by unfold f_ntzI; rw [if_pos hc1, if_pos hc2, if_pos hc3, if_pos hc4, if_pos hc5]; first | done | rfl), rfl, e0⟩
          · skip
            refine Owes.go ?_ fun t₀ k₀ => XS.icmpYes X0.here hx rfl (pc0 := 64) (pc' := 74) rfl (hb hby d9_64) rfl (flt hc5).2.2.2 (by decide) (by decide) k₀
            show Owes _ _ _ _ (s₁.setTop (mkF m 74 #[.val (.int ((((((((p0 ^^^ (-1 : Int32)) &&& (p0 - (1 : Int32))).toUInt32 >>> ((16 : Int32) &&& 31).toUInt32).toInt32).toUInt32 >>> ((8 : Int32) &&& 31).toUInt32).toInt32).toUInt32 >>> ((4 : Int32) &&& 31).toUInt32).toInt32)), .val (.int ((((1 : Int32) + (16 : Int32)) + (8 : Int32)) + (4 : Int32)))] []))
            refine Owes.go ?_ fun t₀ k₀ => XS.iloadN X0.here hx rfl (hb hby d9_74) rfl k₀
            show Owes _ _ _ _ (s₁.setTop (mkF m 75 #[.val (.int ((((((((p0 ^^^ (-1 : Int32)) &&& (p0 - (1 : Int32))).toUInt32 >>> ((16 : Int32) &&& 31).toUInt32).toInt32).toUInt32 >>> ((8 : Int32) &&& 31).toUInt32).toInt32).toUInt32 >>> ((4 : Int32) &&& 31).toUInt32).toInt32)), .val (.int ((((1 : Int32) + (16 : Int32)) + (8 : Int32)) + (4 : Int32)))] [(.int ((((1 : Int32) + (16 : Int32)) + (8 : Int32)) + (4 : Int32)))]))
            refine Owes.go ?_ fun t₀ k₀ => XS.iloadN X0.here hx rfl (hb hby d9_75) rfl k₀
            show Owes _ _ _ _ (s₁.setTop (mkF m 76 #[.val (.int ((((((((p0 ^^^ (-1 : Int32)) &&& (p0 - (1 : Int32))).toUInt32 >>> ((16 : Int32) &&& 31).toUInt32).toInt32).toUInt32 >>> ((8 : Int32) &&& 31).toUInt32).toInt32).toUInt32 >>> ((4 : Int32) &&& 31).toUInt32).toInt32)), .val (.int ((((1 : Int32) + (16 : Int32)) + (8 : Int32)) + (4 : Int32)))] [(.int ((((((((p0 ^^^ (-1 : Int32)) &&& (p0 - (1 : Int32))).toUInt32 >>> ((16 : Int32) &&& 31).toUInt32).toInt32).toUInt32 >>> ((8 : Int32) &&& 31).toUInt32).toInt32).toUInt32 >>> ((4 : Int32) &&& 31).toUInt32).toInt32)), (.int ((((1 : Int32) + (16 : Int32)) + (8 : Int32)) + (4 : Int32)))]))
            refine Owes.go ?_ fun t₀ k₀ => XS.iconst X0.here hx rfl (hb hby d9_76) k₀
            show Owes _ _ _ _ (s₁.setTop (mkF m 77 #[.val (.int ((((((((p0 ^^^ (-1 : Int32)) &&& (p0 - (1 : Int32))).toUInt32 >>> ((16 : Int32) &&& 31).toUInt32).toInt32).toUInt32 >>> ((8 : Int32) &&& 31).toUInt32).toInt32).toUInt32 >>> ((4 : Int32) &&& 31).toUInt32).toInt32)), .val (.int ((((1 : Int32) + (16 : Int32)) + (8 : Int32)) + (4 : Int32)))] [(.int (1 : Int32)), (.int ((((((((p0 ^^^ (-1 : Int32)) &&& (p0 - (1 : Int32))).toUInt32 >>> ((16 : Int32) &&& 31).toUInt32).toInt32).toUInt32 >>> ((8 : Int32) &&& 31).toUInt32).toInt32).toUInt32 >>> ((4 : Int32) &&& 31).toUInt32).toInt32)), (.int ((((1 : Int32) + (16 : Int32)) + (8 : Int32)) + (4 : Int32)))]))
            refine Owes.go ?_ fun t₀ k₀ => XS.iushr X0.here hx rfl (hb hby d9_77) rfl k₀
            show Owes _ _ _ _ (s₁.setTop (mkF m 78 #[.val (.int ((((((((p0 ^^^ (-1 : Int32)) &&& (p0 - (1 : Int32))).toUInt32 >>> ((16 : Int32) &&& 31).toUInt32).toInt32).toUInt32 >>> ((8 : Int32) &&& 31).toUInt32).toInt32).toUInt32 >>> ((4 : Int32) &&& 31).toUInt32).toInt32)), .val (.int ((((1 : Int32) + (16 : Int32)) + (8 : Int32)) + (4 : Int32)))] [(.int ((((((((((p0 ^^^ (-1 : Int32)) &&& (p0 - (1 : Int32))).toUInt32 >>> ((16 : Int32) &&& 31).toUInt32).toInt32).toUInt32 >>> ((8 : Int32) &&& 31).toUInt32).toInt32).toUInt32 >>> ((4 : Int32) &&& 31).toUInt32).toInt32).toUInt32 >>> ((1 : Int32) &&& 31).toUInt32).toInt32)), (.int ((((1 : Int32) + (16 : Int32)) + (8 : Int32)) + (4 : Int32)))]))
            refine Owes.go ?_ fun t₀ k₀ => XS.iadd X0.here hx rfl (hb hby d9_78) rfl k₀
            show Owes _ _ _ _ (s₁.setTop (mkF m 79 #[.val (.int ((((((((p0 ^^^ (-1 : Int32)) &&& (p0 - (1 : Int32))).toUInt32 >>> ((16 : Int32) &&& 31).toUInt32).toInt32).toUInt32 >>> ((8 : Int32) &&& 31).toUInt32).toInt32).toUInt32 >>> ((4 : Int32) &&& 31).toUInt32).toInt32)), .val (.int ((((1 : Int32) + (16 : Int32)) + (8 : Int32)) + (4 : Int32)))] [(.int (((((1 : Int32) + (16 : Int32)) + (8 : Int32)) + (4 : Int32)) + ((((((((((p0 ^^^ (-1 : Int32)) &&& (p0 - (1 : Int32))).toUInt32 >>> ((16 : Int32) &&& 31).toUInt32).toInt32).toUInt32 >>> ((8 : Int32) &&& 31).toUInt32).toInt32).toUInt32 >>> ((4 : Int32) &&& 31).toUInt32).toInt32).toUInt32 >>> ((1 : Int32) &&& 31).toUInt32).toInt32)))]))
            exact Owes.retI X0 hx hlk hret (hb hby d9_79) (by decide) (by decide) ⟨congrArg (fun z => some (Value.int z)) (by unfold f_ntzI; rw [if_pos hc1, if_pos hc2, if_pos hc3, if_pos hc4, if_neg hc5]; first | done | rfl), rfl, e0⟩
        · skip
          refine Owes.go ?_ fun t₀ k₀ => XS.icmpYes X0.here hx rfl (pc0 := 52) (pc' := 62) rfl (hb hby d9_52) rfl (flt hc4).2.2.2 (by decide) (by decide) k₀
          show Owes _ _ _ _ (s₁.setTop (mkF m 62 #[.val (.int ((((((p0 ^^^ (-1 : Int32)) &&& (p0 - (1 : Int32))).toUInt32 >>> ((16 : Int32) &&& 31).toUInt32).toInt32).toUInt32 >>> ((8 : Int32) &&& 31).toUInt32).toInt32)), .val (.int (((1 : Int32) + (16 : Int32)) + (8 : Int32)))] []))
          refine Owes.go ?_ fun t₀ k₀ => XS.iloadN X0.here hx rfl (hb hby d9_62) rfl k₀
          show Owes _ _ _ _ (s₁.setTop (mkF m 63 #[.val (.int ((((((p0 ^^^ (-1 : Int32)) &&& (p0 - (1 : Int32))).toUInt32 >>> ((16 : Int32) &&& 31).toUInt32).toInt32).toUInt32 >>> ((8 : Int32) &&& 31).toUInt32).toInt32)), .val (.int (((1 : Int32) + (16 : Int32)) + (8 : Int32)))] [(.int ((((((p0 ^^^ (-1 : Int32)) &&& (p0 - (1 : Int32))).toUInt32 >>> ((16 : Int32) &&& 31).toUInt32).toInt32).toUInt32 >>> ((8 : Int32) &&& 31).toUInt32).toInt32))]))
          refine Owes.go ?_ fun t₀ k₀ => XS.iconst X0.here hx rfl (hb hby d9_63) k₀
          show Owes _ _ _ _ (s₁.setTop (mkF m 64 #[.val (.int ((((((p0 ^^^ (-1 : Int32)) &&& (p0 - (1 : Int32))).toUInt32 >>> ((16 : Int32) &&& 31).toUInt32).toInt32).toUInt32 >>> ((8 : Int32) &&& 31).toUInt32).toInt32)), .val (.int (((1 : Int32) + (16 : Int32)) + (8 : Int32)))] [(.int (4 : Int32)), (.int ((((((p0 ^^^ (-1 : Int32)) &&& (p0 - (1 : Int32))).toUInt32 >>> ((16 : Int32) &&& 31).toUInt32).toInt32).toUInt32 >>> ((8 : Int32) &&& 31).toUInt32).toInt32))]))
          by_cases hc6 : (4 : Int32) < ((((((p0 ^^^ (-1 : Int32)) &&& (p0 - (1 : Int32))).toUInt32 >>> ((16 : Int32) &&& 31).toUInt32).toInt32).toUInt32 >>> ((8 : Int32) &&& 31).toUInt32).toInt32)
          · skip
            refine Owes.go ?_ fun t₀ k₀ => XS.icmpNo X0.here hx rfl (hb hby d9_64) rfl (tlt hc6).2.2.2 k₀
            show Owes _ _ _ _ (s₁.setTop (mkF m 67 #[.val (.int ((((((p0 ^^^ (-1 : Int32)) &&& (p0 - (1 : Int32))).toUInt32 >>> ((16 : Int32) &&& 31).toUInt32).toInt32).toUInt32 >>> ((8 : Int32) &&& 31).toUInt32).toInt32)), .val (.int (((1 : Int32) + (16 : Int32)) + (8 : Int32)))] []))
            refine Owes.go ?_ fun t₀ k₀ => XS.iinc X0.here hx rfl (hb hby d9_67) rfl (l' := #[.val (.int ((((((p0 ^^^ (-1 : Int32)) &&& (p0 - (1 : Int32))).toUInt32 >>> ((16 : Int32) &&& 31).toUInt32).toInt32).toUInt32 >>> ((8 : Int32) &&& 31).toUInt32).toInt32)), .val (.int ((((1 : Int32) + (16 : Int32)) + (8 : Int32)) + (2 : Int32)))]) rfl k₀
            show Owes _ _ _ _ (s₁.setTop (mkF m 70 #[.val (.int ((((((p0 ^^^ (-1 : Int32)) &&& (p0 - (1 : Int32))).toUInt32 >>> ((16 : Int32) &&& 31).toUInt32).toInt32).toUInt32 >>> ((8 : Int32) &&& 31).toUInt32).toInt32)), .val (.int ((((1 : Int32) + (16 : Int32)) + (8 : Int32)) + (2 : Int32)))] []))
            refine Owes.go ?_ fun t₀ k₀ => XS.iloadN X0.here hx rfl (hb hby d9_70) rfl k₀
            show Owes _ _ _ _ (s₁.setTop (mkF m 71 #[.val (.int ((((((p0 ^^^ (-1 : Int32)) &&& (p0 - (1 : Int32))).toUInt32 >>> ((16 : Int32) &&& 31).toUInt32).toInt32).toUInt32 >>> ((8 : Int32) &&& 31).toUInt32).toInt32)), .val (.int ((((1 : Int32) + (16 : Int32)) + (8 : Int32)) + (2 : Int32)))] [(.int ((((((p0 ^^^ (-1 : Int32)) &&& (p0 - (1 : Int32))).toUInt32 >>> ((16 : Int32) &&& 31).toUInt32).toInt32).toUInt32 >>> ((8 : Int32) &&& 31).toUInt32).toInt32))]))
            refine Owes.go ?_ fun t₀ k₀ => XS.iconst X0.here hx rfl (hb hby d9_71) k₀
            show Owes _ _ _ _ (s₁.setTop (mkF m 72 #[.val (.int ((((((p0 ^^^ (-1 : Int32)) &&& (p0 - (1 : Int32))).toUInt32 >>> ((16 : Int32) &&& 31).toUInt32).toInt32).toUInt32 >>> ((8 : Int32) &&& 31).toUInt32).toInt32)), .val (.int ((((1 : Int32) + (16 : Int32)) + (8 : Int32)) + (2 : Int32)))] [(.int (2 : Int32)), (.int ((((((p0 ^^^ (-1 : Int32)) &&& (p0 - (1 : Int32))).toUInt32 >>> ((16 : Int32) &&& 31).toUInt32).toInt32).toUInt32 >>> ((8 : Int32) &&& 31).toUInt32).toInt32))]))
            refine Owes.go ?_ fun t₀ k₀ => XS.iushr X0.here hx rfl (hb hby d9_72) rfl k₀
            show Owes _ _ _ _ (s₁.setTop (mkF m 73 #[.val (.int ((((((p0 ^^^ (-1 : Int32)) &&& (p0 - (1 : Int32))).toUInt32 >>> ((16 : Int32) &&& 31).toUInt32).toInt32).toUInt32 >>> ((8 : Int32) &&& 31).toUInt32).toInt32)), .val (.int ((((1 : Int32) + (16 : Int32)) + (8 : Int32)) + (2 : Int32)))] [(.int ((((((((p0 ^^^ (-1 : Int32)) &&& (p0 - (1 : Int32))).toUInt32 >>> ((16 : Int32) &&& 31).toUInt32).toInt32).toUInt32 >>> ((8 : Int32) &&& 31).toUInt32).toInt32).toUInt32 >>> ((2 : Int32) &&& 31).toUInt32).toInt32))]))
            refine Owes.go ?_ fun t₀ k₀ => XS.istoreN X0.here hx rfl (hb hby d9_73) rfl (l' := #[.val (.int ((((((((p0 ^^^ (-1 : Int32)) &&& (p0 - (1 : Int32))).toUInt32 >>> ((16 : Int32) &&& 31).toUInt32).toInt32).toUInt32 >>> ((8 : Int32) &&& 31).toUInt32).toInt32).toUInt32 >>> ((2 : Int32) &&& 31).toUInt32).toInt32)), .val (.int ((((1 : Int32) + (16 : Int32)) + (8 : Int32)) + (2 : Int32)))]) rfl k₀
            show Owes _ _ _ _ (s₁.setTop (mkF m 74 #[.val (.int ((((((((p0 ^^^ (-1 : Int32)) &&& (p0 - (1 : Int32))).toUInt32 >>> ((16 : Int32) &&& 31).toUInt32).toInt32).toUInt32 >>> ((8 : Int32) &&& 31).toUInt32).toInt32).toUInt32 >>> ((2 : Int32) &&& 31).toUInt32).toInt32)), .val (.int ((((1 : Int32) + (16 : Int32)) + (8 : Int32)) + (2 : Int32)))] []))
            refine Owes.go ?_ fun t₀ k₀ => XS.iloadN X0.here hx rfl (hb hby d9_74) rfl k₀
            show Owes _ _ _ _ (s₁.setTop (mkF m 75 #[.val (.int ((((((((p0 ^^^ (-1 : Int32)) &&& (p0 - (1 : Int32))).toUInt32 >>> ((16 : Int32) &&& 31).toUInt32).toInt32).toUInt32 >>> ((8 : Int32) &&& 31).toUInt32).toInt32).toUInt32 >>> ((2 : Int32) &&& 31).toUInt32).toInt32)), .val (.int ((((1 : Int32) + (16 : Int32)) + (8 : Int32)) + (2 : Int32)))] [(.int ((((1 : Int32) + (16 : Int32)) + (8 : Int32)) + (2 : Int32)))]))
            refine Owes.go ?_ fun t₀ k₀ => XS.iloadN X0.here hx rfl (hb hby d9_75) rfl k₀
            show Owes _ _ _ _ (s₁.setTop (mkF m 76 #[.val (.int ((((((((p0 ^^^ (-1 : Int32)) &&& (p0 - (1 : Int32))).toUInt32 >>> ((16 : Int32) &&& 31).toUInt32).toInt32).toUInt32 >>> ((8 : Int32) &&& 31).toUInt32).toInt32).toUInt32 >>> ((2 : Int32) &&& 31).toUInt32).toInt32)), .val (.int ((((1 : Int32) + (16 : Int32)) + (8 : Int32)) + (2 : Int32)))] [(.int ((((((((p0 ^^^ (-1 : Int32)) &&& (p0 - (1 : Int32))).toUInt32 >>> ((16 : Int32) &&& 31).toUInt32).toInt32).toUInt32 >>> ((8 : Int32) &&& 31).toUInt32).toInt32).toUInt32 >>> ((2 : Int32) &&& 31).toUInt32).toInt32)), (.int ((((1 : Int32) + (16 : Int32)) + (8 : Int32)) + (2 : Int32)))]))
            refine Owes.go ?_ fun t₀ k₀ => XS.iconst X0.here hx rfl (hb hby d9_76) k₀
            show Owes _ _ _ _ (s₁.setTop (mkF m 77 #[.val (.int ((((((((p0 ^^^ (-1 : Int32)) &&& (p0 - (1 : Int32))).toUInt32 >>> ((16 : Int32) &&& 31).toUInt32).toInt32).toUInt32 >>> ((8 : Int32) &&& 31).toUInt32).toInt32).toUInt32 >>> ((2 : Int32) &&& 31).toUInt32).toInt32)), .val (.int ((((1 : Int32) + (16 : Int32)) + (8 : Int32)) + (2 : Int32)))] [(.int (1 : Int32)), (.int ((((((((p0 ^^^ (-1 : Int32)) &&& (p0 - (1 : Int32))).toUInt32 >>> ((16 : Int32) &&& 31).toUInt32).toInt32).toUInt32 >>> ((8 : Int32) &&& 31).toUInt32).toInt32).toUInt32 >>> ((2 : Int32) &&& 31).toUInt32).toInt32)), (.int ((((1 : Int32) + (16 : Int32)) + (8 : Int32)) + (2 : Int32)))]))
            refine Owes.go ?_ fun t₀ k₀ => XS.iushr X0.here hx rfl (hb hby d9_77) rfl k₀
            show Owes _ _ _ _ (s₁.setTop (mkF m 78 #[.val (.int ((((((((p0 ^^^ (-1 : Int32)) &&& (p0 - (1 : Int32))).toUInt32 >>> ((16 : Int32) &&& 31).toUInt32).toInt32).toUInt32 >>> ((8 : Int32) &&& 31).toUInt32).toInt32).toUInt32 >>> ((2 : Int32) &&& 31).toUInt32).toInt32)), .val (.int ((((1 : Int32) + (16 : Int32)) + (8 : Int32)) + (2 : Int32)))] [(.int ((((((((((p0 ^^^ (-1 : Int32)) &&& (p0 - (1 : Int32))).toUInt32 >>> ((16 : Int32) &&& 31).toUInt32).toInt32).toUInt32 >>> ((8 : Int32) &&& 31).toUInt32).toInt32).toUInt32 >>> ((2 : Int32) &&& 31).toUInt32).toInt32).toUInt32 >>> ((1 : Int32) &&& 31).toUInt32).toInt32)), (.int ((((1 : Int32) + (16 : Int32)) + (8 : Int32)) + (2 : Int32)))]))
            refine Owes.go ?_ fun t₀ k₀ => XS.iadd X0.here hx rfl (hb hby d9_78) rfl k₀
            show Owes _ _ _ _ (s₁.setTop (mkF m 79 #[.val (.int ((((((((p0 ^^^ (-1 : Int32)) &&& (p0 - (1 : Int32))).toUInt32 >>> ((16 : Int32) &&& 31).toUInt32).toInt32).toUInt32 >>> ((8 : Int32) &&& 31).toUInt32).toInt32).toUInt32 >>> ((2 : Int32) &&& 31).toUInt32).toInt32)), .val (.int ((((1 : Int32) + (16 : Int32)) + (8 : Int32)) + (2 : Int32)))] [(.int (((((1 : Int32) + (16 : Int32)) + (8 : Int32)) + (2 : Int32)) + ((((((((((p0 ^^^ (-1 : Int32)) &&& (p0 - (1 : Int32))).toUInt32 >>> ((16 : Int32) &&& 31).toUInt32).toInt32).toUInt32 >>> ((8 : Int32) &&& 31).toUInt32).toInt32).toUInt32 >>> ((2 : Int32) &&& 31).toUInt32).toInt32).toUInt32 >>> ((1 : Int32) &&& 31).toUInt32).toInt32)))]))
            exact Owes.retI X0 hx hlk hret (hb hby d9_79) (by decide) (by decide) ⟨congrArg (fun z => some (Value.int z)) (by unfold f_ntzI; rw [if_pos hc1, if_pos hc2, if_pos hc3, if_neg hc4, if_pos hc6]; first | done | rfl), rfl, e0⟩
          · skip
            refine Owes.go ?_ fun t₀ k₀ => XS.icmpYes X0.here hx rfl (pc0 := 64) (pc' := 74) rfl (hb hby d9_64) rfl (flt hc6).2.2.2 (by decide) (by decide) k₀
            show Owes _ _ _ _ (s₁.setTop (mkF m 74 #[.val (.int ((((((p0 ^^^ (-1 : Int32)) &&& (p0 - (1 : Int32))).toUInt32 >>> ((16 : Int32) &&& 31).toUInt32).toInt32).toUInt32 >>> ((8 : Int32) &&& 31).toUInt32).toInt32)), .val (.int (((1 : Int32) + (16 : Int32)) + (8 : Int32)))] []))
            refine Owes.go ?_ fun t₀ k₀ => XS.iloadN X0.here hx rfl (hb hby d9_74) rfl k₀
            show Owes _ _ _ _ (s₁.setTop (mkF m 75 #[.val (.int ((((((p0 ^^^ (-1 : Int32)) &&& (p0 - (1 : Int32))).toUInt32 >>> ((16 : Int32) &&& 31).toUInt32).toInt32).toUInt32 >>> ((8 : Int32) &&& 31).toUInt32).toInt32)), .val (.int (((1 : Int32) + (16 : Int32)) + (8 : Int32)))] [(.int (((1 : Int32) + (16 : Int32)) + (8 : Int32)))]))
            refine Owes.go ?_ fun t₀ k₀ => XS.iloadN X0.here hx rfl (hb hby d9_75) rfl k₀
            show Owes _ _ _ _ (s₁.setTop (mkF m 76 #[.val (.int ((((((p0 ^^^ (-1 : Int32)) &&& (p0 - (1 : Int32))).toUInt32 >>> ((16 : Int32) &&& 31).toUInt32).toInt32).toUInt32 >>> ((8 : Int32) &&& 31).toUInt32).toInt32)), .val (.int (((1 : Int32) + (16 : Int32)) + (8 : Int32)))] [(.int ((((((p0 ^^^ (-1 : Int32)) &&& (p0 - (1 : Int32))).toUInt32 >>> ((16 : Int32) &&& 31).toUInt32).toInt32).toUInt32 >>> ((8 : Int32) &&& 31).toUInt32).toInt32)), (.int (((1 : Int32) + (16 : Int32)) + (8 : Int32)))]))
            refine Owes.go ?_ fun t₀ k₀ => XS.iconst X0.here hx rfl (hb hby d9_76) k₀
            show Owes _ _ _ _ (s₁.setTop (mkF m 77 #[.val (.int ((((((p0 ^^^ (-1 : Int32)) &&& (p0 - (1 : Int32))).toUInt32 >>> ((16 : Int32) &&& 31).toUInt32).toInt32).toUInt32 >>> ((8 : Int32) &&& 31).toUInt32).toInt32)), .val (.int (((1 : Int32) + (16 : Int32)) + (8 : Int32)))] [(.int (1 : Int32)), (.int ((((((p0 ^^^ (-1 : Int32)) &&& (p0 - (1 : Int32))).toUInt32 >>> ((16 : Int32) &&& 31).toUInt32).toInt32).toUInt32 >>> ((8 : Int32) &&& 31).toUInt32).toInt32)), (.int (((1 : Int32) + (16 : Int32)) + (8 : Int32)))]))
            refine Owes.go ?_ fun t₀ k₀ => XS.iushr X0.here hx rfl (hb hby d9_77) rfl k₀
            show Owes _ _ _ _ (s₁.setTop (mkF m 78 #[.val (.int ((((((p0 ^^^ (-1 : Int32)) &&& (p0 - (1 : Int32))).toUInt32 >>> ((16 : Int32) &&& 31).toUInt32).toInt32).toUInt32 >>> ((8 : Int32) &&& 31).toUInt32).toInt32)), .val (.int (((1 : Int32) + (16 : Int32)) + (8 : Int32)))] [(.int ((((((((p0 ^^^ (-1 : Int32)) &&& (p0 - (1 : Int32))).toUInt32 >>> ((16 : Int32) &&& 31).toUInt32).toInt32).toUInt32 >>> ((8 : Int32) &&& 31).toUInt32).toInt32).toUInt32 >>> ((1 : Int32) &&& 31).toUInt32).toInt32)), (.int (((1 : Int32) + (16 : Int32)) + (8 : Int32)))]))
            refine Owes.go ?_ fun t₀ k₀ => XS.iadd X0.here hx rfl (hb hby d9_78) rfl k₀
            show Owes _ _ _ _ (s₁.setTop (mkF m 79 #[.val (.int ((((((p0 ^^^ (-1 : Int32)) &&& (p0 - (1 : Int32))).toUInt32 >>> ((16 : Int32) &&& 31).toUInt32).toInt32).toUInt32 >>> ((8 : Int32) &&& 31).toUInt32).toInt32)), .val (.int (((1 : Int32) + (16 : Int32)) + (8 : Int32)))] [(.int ((((1 : Int32) + (16 : Int32)) + (8 : Int32)) + ((((((((p0 ^^^ (-1 : Int32)) &&& (p0 - (1 : Int32))).toUInt32 >>> ((16 : Int32) &&& 31).toUInt32).toInt32).toUInt32 >>> ((8 : Int32) &&& 31).toUInt32).toInt32).toUInt32 >>> ((1 : Int32) &&& 31).toUInt32).toInt32)))]))
            exact Owes.retI X0 hx hlk hret (hb hby d9_79) (by decide) (by decide) ⟨congrArg (fun z => some (Value.int z)) (by unfold f_ntzI; rw [if_pos hc1, if_pos hc2, if_pos hc3, if_neg hc4, if_neg hc6]; first | done | rfl), rfl, e0⟩
      · skip
        refine Owes.go ?_ fun t₀ k₀ => XS.icmpYes X0.here hx rfl (pc0 := 38) (pc' := 49) rfl (hb hby d9_38) rfl (flt hc3).2.2.2 (by decide) (by decide) k₀
        show Owes _ _ _ _ (s₁.setTop (mkF m 49 #[.val (.int ((((p0 ^^^ (-1 : Int32)) &&& (p0 - (1 : Int32))).toUInt32 >>> ((16 : Int32) &&& 31).toUInt32).toInt32)), .val (.int ((1 : Int32) + (16 : Int32)))] []))
        refine Owes.go ?_ fun t₀ k₀ => XS.iloadN X0.here hx rfl (hb hby d9_49) rfl k₀
        show Owes _ _ _ _ (s₁.setTop (mkF m 50 #[.val (.int ((((p0 ^^^ (-1 : Int32)) &&& (p0 - (1 : Int32))).toUInt32 >>> ((16 : Int32) &&& 31).toUInt32).toInt32)), .val (.int ((1 : Int32) + (16 : Int32)))] [(.int ((((p0 ^^^ (-1 : Int32)) &&& (p0 - (1 : Int32))).toUInt32 >>> ((16 : Int32) &&& 31).toUInt32).toInt32))]))
        refine Owes.go ?_ fun t₀ k₀ => XS.bipush X0.here hx rfl (hb hby d9_50) k₀
        show Owes _ _ _ _ (s₁.setTop (mkF m 52 #[.val (.int ((((p0 ^^^ (-1 : Int32)) &&& (p0 - (1 : Int32))).toUInt32 >>> ((16 : Int32) &&& 31).toUInt32).toInt32)), .val (.int ((1 : Int32) + (16 : Int32)))] [(.int (16 : Int32)), (.int ((((p0 ^^^ (-1 : Int32)) &&& (p0 - (1 : Int32))).toUInt32 >>> ((16 : Int32) &&& 31).toUInt32).toInt32))]))
        by_cases hc7 : (16 : Int32) < ((((p0 ^^^ (-1 : Int32)) &&& (p0 - (1 : Int32))).toUInt32 >>> ((16 : Int32) &&& 31).toUInt32).toInt32)
        · skip
          refine Owes.go ?_ fun t₀ k₀ => XS.icmpNo X0.here hx rfl (hb hby d9_52) rfl (tlt hc7).2.2.2 k₀
          show Owes _ _ _ _ (s₁.setTop (mkF m 55 #[.val (.int ((((p0 ^^^ (-1 : Int32)) &&& (p0 - (1 : Int32))).toUInt32 >>> ((16 : Int32) &&& 31).toUInt32).toInt32)), .val (.int ((1 : Int32) + (16 : Int32)))] []))
          refine Owes.go ?_ fun t₀ k₀ => XS.iinc X0.here hx rfl (hb hby d9_55) rfl (l' := #[.val (.int ((((p0 ^^^ (-1 : Int32)) &&& (p0 - (1 : Int32))).toUInt32 >>> ((16 : Int32) &&& 31).toUInt32).toInt32)), .val (.int (((1 : Int32) + (16 : Int32)) + (4 : Int32)))]) rfl k₀
          show Owes _ _ _ _ (s₁.setTop (mkF m 58 #[.val (.int ((((p0 ^^^ (-1 : Int32)) &&& (p0 - (1 : Int32))).toUInt32 >>> ((16 : Int32) &&& 31).toUInt32).toInt32)), .val (.int (((1 : Int32) + (16 : Int32)) + (4 : Int32)))] []))
          refine Owes.go ?_ fun t₀ k₀ => XS.iloadN X0.here hx rfl (hb hby d9_58) rfl k₀
          show Owes _ _ _ _ (s₁.setTop (mkF m 59 #[.val (.int ((((p0 ^^^ (-1 : Int32)) &&& (p0 - (1 : Int32))).toUInt32 >>> ((16 : Int32) &&& 31).toUInt32).toInt32)), .val (.int (((1 : Int32) + (16 : Int32)) + (4 : Int32)))] [(.int ((((p0 ^^^ (-1 : Int32)) &&& (p0 - (1 : Int32))).toUInt32 >>> ((16 : Int32) &&& 31).toUInt32).toInt32))]))
          refine Owes.go ?_ fun t₀ k₀ => XS.iconst X0.here hx rfl (hb hby d9_59) k₀
          show Owes _ _ _ _ (s₁.setTop (mkF m 60 #[.val (.int ((((p0 ^^^ (-1 : Int32)) &&& (p0 - (1 : Int32))).toUInt32 >>> ((16 : Int32) &&& 31).toUInt32).toInt32)), .val (.int (((1 : Int32) + (16 : Int32)) + (4 : Int32)))] [(.int (4 : Int32)), (.int ((((p0 ^^^ (-1 : Int32)) &&& (p0 - (1 : Int32))).toUInt32 >>> ((16 : Int32) &&& 31).toUInt32).toInt32))]))
          refine Owes.go ?_ fun t₀ k₀ => XS.iushr X0.here hx rfl (hb hby d9_60) rfl k₀
          show Owes _ _ _ _ (s₁.setTop (mkF m 61 #[.val (.int ((((p0 ^^^ (-1 : Int32)) &&& (p0 - (1 : Int32))).toUInt32 >>> ((16 : Int32) &&& 31).toUInt32).toInt32)), .val (.int (((1 : Int32) + (16 : Int32)) + (4 : Int32)))] [(.int ((((((p0 ^^^ (-1 : Int32)) &&& (p0 - (1 : Int32))).toUInt32 >>> ((16 : Int32) &&& 31).toUInt32).toInt32).toUInt32 >>> ((4 : Int32) &&& 31).toUInt32).toInt32))]))
          refine Owes.go ?_ fun t₀ k₀ => XS.istoreN X0.here hx rfl (hb hby d9_61) rfl (l' := #[.val (.int ((((((p0 ^^^ (-1 : Int32)) &&& (p0 - (1 : Int32))).toUInt32 >>> ((16 : Int32) &&& 31).toUInt32).toInt32).toUInt32 >>> ((4 : Int32) &&& 31).toUInt32).toInt32)), .val (.int (((1 : Int32) + (16 : Int32)) + (4 : Int32)))]) rfl k₀
          show Owes _ _ _ _ (s₁.setTop (mkF m 62 #[.val (.int ((((((p0 ^^^ (-1 : Int32)) &&& (p0 - (1 : Int32))).toUInt32 >>> ((16 : Int32) &&& 31).toUInt32).toInt32).toUInt32 >>> ((4 : Int32) &&& 31).toUInt32).toInt32)), .val (.int (((1 : Int32) + (16 : Int32)) + (4 : Int32)))] []))
          refine Owes.go ?_ fun t₀ k₀ => XS.iloadN X0.here hx rfl (hb hby d9_62) rfl k₀
          show Owes _ _ _ _ (s₁.setTop (mkF m 63 #[.val (.int ((((((p0 ^^^ (-1 : Int32)) &&& (p0 - (1 : Int32))).toUInt32 >>> ((16 : Int32) &&& 31).toUInt32).toInt32).toUInt32 >>> ((4 : Int32) &&& 31).toUInt32).toInt32)), .val (.int (((1 : Int32) + (16 : Int32)) + (4 : Int32)))] [(.int ((((((p0 ^^^ (-1 : Int32)) &&& (p0 - (1 : Int32))).toUInt32 >>> ((16 : Int32) &&& 31).toUInt32).toInt32).toUInt32 >>> ((4 : Int32) &&& 31).toUInt32).toInt32))]))
          refine Owes.go ?_ fun t₀ k₀ => XS.iconst X0.here hx rfl (hb hby d9_63) k₀
          show Owes _ _ _ _ (s₁.setTop (mkF m 64 #[.val (.int ((((((p0 ^^^ (-1 : Int32)) &&& (p0 - (1 : Int32))).toUInt32 >>> ((16 : Int32) &&& 31).toUInt32).toInt32).toUInt32 >>> ((4 : Int32) &&& 31).toUInt32).toInt32)), .val (.int (((1 : Int32) + (16 : Int32)) + (4 : Int32)))] [(.int (4 : Int32)), (.int ((((((p0 ^^^ (-1 : Int32)) &&& (p0 - (1 : Int32))).toUInt32 >>> ((16 : Int32) &&& 31).toUInt32).toInt32).toUInt32 >>> ((4 : Int32) &&& 31).toUInt32).toInt32))]))
          by_cases hc8 : (4 : Int32) < ((((((p0 ^^^ (-1 : Int32)) &&& (p0 - (1 : Int32))).toUInt32 >>> ((16 : Int32) &&& 31).toUInt32).toInt32).toUInt32 >>> ((4 : Int32) &&& 31).toUInt32).toInt32)
          · skip
            refine Owes.go ?_ fun t₀ k₀ => XS.icmpNo X0.here hx rfl (hb hby d9_64) rfl (tlt hc8).2.2.2 k₀
            show Owes _ _ _ _ (s₁.setTop (mkF m 67 #[.val (.int ((((((p0 ^^^ (-1 : Int32)) &&& (p0 - (1 : Int32))).toUInt32 >>> ((16 : Int32) &&& 31).toUInt32).toInt32).toUInt32 >>> ((4 : Int32) &&& 31).toUInt32).toInt32)), .val (.int (((1 : Int32) + (16 : Int32)) + (4 : Int32)))] []))
            refine Owes.go ?_ fun t₀ k₀ => XS.iinc X0.here hx rfl (hb hby d9_67) rfl (l' := #[.val (.int ((((((p0 ^^^ (-1 : Int32)) &&& (p0 - (1 : Int32))).toUInt32 >>> ((16 : Int32) &&& 31).toUInt32).toInt32).toUInt32 >>> ((4 : Int32) &&& 31).toUInt32).toInt32)), .val (.int ((((1 : Int32) + (16 : Int32)) + (4 : Int32)) + (2 : Int32)))]) rfl k₀
            show Owes _ _ _ _ (s₁.setTop (mkF m 70 #[.val (.int ((((((p0 ^^^ (-1 : Int32)) &&& (p0 - (1 : Int32))).toUInt32 >>> ((16 : Int32) &&& 31).toUInt32).toInt32).toUInt32 >>> ((4 : Int32) &&& 31).toUInt32).toInt32)), .val (.int ((((1 : Int32) + (16 : Int32)) + (4 : Int32)) + (2 : Int32)))] []))
            refine Owes.go ?_ fun t₀ k₀ => XS.iloadN X0.here hx rfl (hb hby d9_70) rfl k₀
            show Owes _ _ _ _ (s₁.setTop (mkF m 71 #[.val (.int ((((((p0 ^^^ (-1 : Int32)) &&& (p0 - (1 : Int32))).toUInt32 >>> ((16 : Int32) &&& 31).toUInt32).toInt32).toUInt32 >>> ((4 : Int32) &&& 31).toUInt32).toInt32)), .val (.int ((((1 : Int32) + (16 : Int32)) + (4 : Int32)) + (2 : Int32)))] [(.int ((((((p0 ^^^ (-1 : Int32)) &&& (p0 - (1 : Int32))).toUInt32 >>> ((16 : Int32) &&& 31).toUInt32).toInt32).toUInt32 >>> ((4 : Int32) &&& 31).toUInt32).toInt32))]))
            refine Owes.go ?_ fun t₀ k₀ => XS.iconst X0.here hx rfl (hb hby d9_71) k₀
            show Owes _ _ _ _ (s₁.setTop (mkF m 72 #[.val (.int ((((((p0 ^^^ (-1 : Int32)) &&& (p0 - (1 : Int32))).toUInt32 >>> ((16 : Int32) &&& 31).toUInt32).toInt32).toUInt32 >>> ((4 : Int32) &&& 31).toUInt32).toInt32)), .val (.int ((((1 : Int32) + (16 : Int32)) + (4 : Int32)) + (2 : Int32)))] [(.int (2 : Int32)), (.int ((((((p0 ^^^ (-1 : Int32)) &&& (p0 - (1 : Int32))).toUInt32 >>> ((16 : Int32) &&& 31).toUInt32).toInt32).toUInt32 >>> ((4 : Int32) &&& 31).toUInt32).toInt32))]))
            refine Owes.go ?_ fun t₀ k₀ => XS.iushr X0.here hx rfl (hb hby d9_72) rfl k₀
            show Owes _ _ _ _ (s₁.setTop (mkF m 73 #[.val (.int ((((((p0 ^^^ (-1 : Int32)) &&& (p0 - (1 : Int32))).toUInt32 >>> ((16 : Int32) &&& 31).toUInt32).toInt32).toUInt32 >>> ((4 : Int32) &&& 31).toUInt32).toInt32)), .val (.int ((((1 : Int32) + (16 : Int32)) + (4 : Int32)) + (2 : Int32)))] [(.int ((((((((p0 ^^^ (-1 : Int32)) &&& (p0 - (1 : Int32))).toUInt32 >>> ((16 : Int32) &&& 31).toUInt32).toInt32).toUInt32 >>> ((4 : Int32) &&& 31).toUInt32).toInt32).toUInt32 >>> ((2 : Int32) &&& 31).toUInt32).toInt32))]))
            refine Owes.go ?_ fun t₀ k₀ => XS.istoreN X0.here hx rfl (hb hby d9_73) rfl (l' := #[.val (.int ((((((((p0 ^^^ (-1 : Int32)) &&& (p0 - (1 : Int32))).toUInt32 >>> ((16 : Int32) &&& 31).toUInt32).toInt32).toUInt32 >>> ((4 : Int32) &&& 31).toUInt32).toInt32).toUInt32 >>> ((2 : Int32) &&& 31).toUInt32).toInt32)), .val (.int ((((1 : Int32) + (16 : Int32)) + (4 : Int32)) + (2 : Int32)))]) rfl k₀
            show Owes _ _ _ _ (s₁.setTop (mkF m 74 #[.val (.int ((((((((p0 ^^^ (-1 : Int32)) &&& (p0 - (1 : Int32))).toUInt32 >>> ((16 : Int32) &&& 31).toUInt32).toInt32).toUInt32 >>> ((4 : Int32) &&& 31).toUInt32).toInt32).toUInt32 >>> ((2 : Int32) &&& 31).toUInt32).toInt32)), .val (.int ((((1 : Int32) + (16 : Int32)) + (4 : Int32)) + (2 : Int32)))] []))
            refine Owes.go ?_ fun t₀ k₀ => XS.iloadN X0.here hx rfl (hb hby d9_74) rfl k₀
            show Owes _ _ _ _ (s₁.setTop (mkF m 75 #[.val (.int ((((((((p0 ^^^ (-1 : Int32)) &&& (p0 - (1 : Int32))).toUInt32 >>> ((16 : Int32) &&& 31).toUInt32).toInt32).toUInt32 >>> ((4 : Int32) &&& 31).toUInt32).toInt32).toUInt32 >>> ((2 : Int32) &&& 31).toUInt32).toInt32)), .val (.int ((((1 : Int32) + (16 : Int32)) + (4 : Int32)) + (2 : Int32)))] [(.int ((((1 : Int32) + (16 : Int32)) + (4 : Int32)) + (2 : Int32)))]))
            refine Owes.go ?_ fun t₀ k₀ => XS.iloadN X0.here hx rfl (hb hby d9_75) rfl k₀
            show Owes _ _ _ _ (s₁.setTop (mkF m 76 #[.val (.int ((((((((p0 ^^^ (-1 : Int32)) &&& (p0 - (1 : Int32))).toUInt32 >>> ((16 : Int32) &&& 31).toUInt32).toInt32).toUInt32 >>> ((4 : Int32) &&& 31).toUInt32).toInt32).toUInt32 >>> ((2 : Int32) &&& 31).toUInt32).toInt32)), .val (.int ((((1 : Int32) + (16 : Int32)) + (4 : Int32)) + (2 : Int32)))] [(.int ((((((((p0 ^^^ (-1 : Int32)) &&& (p0 - (1 : Int32))).toUInt32 >>> ((16 : Int32) &&& 31).toUInt32).toInt32).toUInt32 >>> ((4 : Int32) &&& 31).toUInt32).toInt32).toUInt32 >>> ((2 : Int32) &&& 31).toUInt32).toInt32)), (.int ((((1 : Int32) + (16 : Int32)) + (4 : Int32)) + (2 : Int32)))]))
            refine Owes.go ?_ fun t₀ k₀ => XS.iconst X0.here hx rfl (hb hby d9_76) k₀
            show Owes _ _ _ _ (s₁.setTop (mkF m 77 #[.val (.int ((((((((p0 ^^^ (-1 : Int32)) &&& (p0 - (1 : Int32))).toUInt32 >>> ((16 : Int32) &&& 31).toUInt32).toInt32).toUInt32 >>> ((4 : Int32) &&& 31).toUInt32).toInt32).toUInt32 >>> ((2 : Int32) &&& 31).toUInt32).toInt32)), .val (.int ((((1 : Int32) + (16 : Int32)) + (4 : Int32)) + (2 : Int32)))] [(.int (1 : Int32)), (.int ((((((((p0 ^^^ (-1 : Int32)) &&& (p0 - (1 : Int32))).toUInt32 >>> ((16 : Int32) &&& 31).toUInt32).toInt32).toUInt32 >>> ((4 : Int32) &&& 31).toUInt32).toInt32).toUInt32 >>> ((2 : Int32) &&& 31).toUInt32).toInt32)), (.int ((((1 : Int32) + (16 : Int32)) + (4 : Int32)) + (2 : Int32)))]))
            refine Owes.go ?_ fun t₀ k₀ => XS.iushr X0.here hx rfl (hb hby d9_77) rfl k₀
            show Owes _ _ _ _ (s₁.setTop (mkF m 78 #[.val (.int ((((((((p0 ^^^ (-1 : Int32)) &&& (p0 - (1 : Int32))).toUInt32 >>> ((16 : Int32) &&& 31).toUInt32).toInt32).toUInt32 >>> ((4 : Int32) &&& 31).toUInt32).toInt32).toUInt32 >>> ((2 : Int32) &&& 31).toUInt32).toInt32)), .val (.int ((((1 : Int32) + (16 : Int32)) + (4 : Int32)) + (2 : Int32)))] [(.int ((((((((((p0 ^^^ (-1 : Int32)) &&& (p0 - (1 : Int32))).toUInt32 >>> ((16 : Int32) &&& 31).toUInt32).toInt32).toUInt32 >>> ((4 : Int32) &&& 31).toUInt32).toInt32).toUInt32 >>> ((2 : Int32) &&& 31).toUInt32).toInt32).toUInt32 >>> ((1 : Int32) &&& 31).toUInt32).toInt32)), (.int ((((1 : Int32) + (16 : Int32)) + (4 : Int32)) + (2 : Int32)))]))
            refine Owes.go ?_ fun t₀ k₀ => XS.iadd X0.here hx rfl (hb hby d9_78) rfl k₀
            show Owes _ _ _ _ (s₁.setTop (mkF m 79 #[.val (.int ((((((((p0 ^^^ (-1 : Int32)) &&& (p0 - (1 : Int32))).toUInt32 >>> ((16 : Int32) &&& 31).toUInt32).toInt32).toUInt32 >>> ((4 : Int32) &&& 31).toUInt32).toInt32).toUInt32 >>> ((2 : Int32) &&& 31).toUInt32).toInt32)), .val (.int ((((1 : Int32) + (16 : Int32)) + (4 : Int32)) + (2 : Int32)))] [(.int (((((1 : Int32) + (16 : Int32)) + (4 : Int32)) + (2 : Int32)) + ((((((((((p0 ^^^ (-1 : Int32)) &&& (p0 - (1 : Int32))).toUInt32 >>> ((16 : Int32) &&& 31).toUInt32).toInt32).toUInt32 >>> ((4 : Int32) &&& 31).toUInt32).toInt32).toUInt32 >>> ((2 : Int32) &&& 31).toUInt32).toInt32).toUInt32 >>> ((1 : Int32) &&& 31).toUInt32).toInt32)))]))
            exact Owes.retI X0 hx hlk hret (hb hby d9_79) (by decide) (by decide) ⟨congrArg (fun z => some (Value.int z)) (by unfold f_ntzI; rw [if_pos hc1, if_pos hc2, if_neg hc3, if_pos hc7, if_pos hc8]; first | done | rfl), rfl, e0⟩
          · skip
            refine Owes.go ?_ fun t₀ k₀ => XS.icmpYes X0.here hx rfl (pc0 := 64) (pc' := 74) rfl (hb hby d9_64) rfl (flt hc8).2.2.2 (by decide) (by decide) k₀
            show Owes _ _ _ _ (s₁.setTop (mkF m 74 #[.val (.int ((((((p0 ^^^ (-1 : Int32)) &&& (p0 - (1 : Int32))).toUInt32 >>> ((16 : Int32) &&& 31).toUInt32).toInt32).toUInt32 >>> ((4 : Int32) &&& 31).toUInt32).toInt32)), .val (.int (((1 : Int32) + (16 : Int32)) + (4 : Int32)))] []))
            refine Owes.go ?_ fun t₀ k₀ => XS.iloadN X0.here hx rfl (hb hby d9_74) rfl k₀
            show Owes _ _ _ _ (s₁.setTop (mkF m 75 #[.val (.int ((((((p0 ^^^ (-1 : Int32)) &&& (p0 - (1 : Int32))).toUInt32 >>> ((16 : Int32) &&& 31).toUInt32).toInt32).toUInt32 >>> ((4 : Int32) &&& 31).toUInt32).toInt32)), .val (.int (((1 : Int32) + (16 : Int32)) + (4 : Int32)))] [(.int (((1 : Int32) + (16 : Int32)) + (4 : Int32)))]))
            refine Owes.go ?_ fun t₀ k₀ => XS.iloadN X0.here hx rfl (hb hby d9_75) rfl k₀
            show Owes _ _ _ _ (s₁.setTop (mkF m 76 #[.val (.int ((((((p0 ^^^ (-1 : Int32)) &&& (p0 - (1 : Int32))).toUInt32 >>> ((16 : Int32) &&& 31).toUInt32).toInt32).toUInt32 >>> ((4 : Int32) &&& 31).toUInt32).toInt32)), .val (.int (((1 : Int32) + (16 : Int32)) + (4 : Int32)))] [(.int ((((((p0 ^^^ (-1 : Int32)) &&& (p0 - (1 : Int32))).toUInt32 >>> ((16 : Int32) &&& 31).toUInt32).toInt32).toUInt32 >>> ((4 : Int32) &&& 31).toUInt32).toInt32)), (.int (((1 : Int32) + (16 : Int32)) + (4 : Int32)))]))
            refine Owes.go ?_ fun t₀ k₀ => XS.iconst X0.here hx rfl (hb hby d9_76) k₀
            show Owes _ _ _ _ (s₁.setTop (mkF m 77 #[.val (.int ((((((p0 ^^^ (-1 : Int32)) &&& (p0 - (1 : Int32))).toUInt32 >>> ((16 : Int32) &&& 31).toUInt32).toInt32).toUInt32 >>> ((4 : Int32) &&& 31).toUInt32).toInt32)), .val (.int (((1 : Int32) + (16 : Int32)) + (4 : Int32)))] [(.int (1 : Int32)), (.int ((((((p0 ^^^ (-1 : Int32)) &&& (p0 - (1 : Int32))).toUInt32 >>> ((16 : Int32) &&& 31).toUInt32).toInt32).toUInt32 >>> ((4 : Int32) &&& 31).toUInt32).toInt32)), (.int (((1 : Int32) + (16 : Int32)) + (4 : Int32)))]))
            refine Owes.go ?_ fun t₀ k₀ => XS.iushr X0.here hx rfl (hb hby d9_77) rfl k₀
            show Owes _ _ _ _ (s₁.setTop (mkF m 78 #[.val (.int ((((((p0 ^^^ (-1 : Int32)) &&& (p0 - (1 : Int32))).toUInt32 >>> ((16 : Int32) &&& 31).toUInt32).toInt32).toUInt32 >>> ((4 : Int32) &&& 31).toUInt32).toInt32)), .val (.int (((1 : Int32) + (16 : Int32)) + (4 : Int32)))] [(.int ((((((((p0 ^^^ (-1 : Int32)) &&& (p0 - (1 : Int32))).toUInt32 >>> ((16 : Int32) &&& 31).toUInt32).toInt32).toUInt32 >>> ((4 : Int32) &&& 31).toUInt32).toInt32).toUInt32 >>> ((1 : Int32) &&& 31).toUInt32).toInt32)), (.int (((1 : Int32) + (16 : Int32)) + (4 : Int32)))]))
            refine Owes.go ?_ fun t₀ k₀ => XS.iadd X0.here hx rfl (hb hby d9_78) rfl k₀
            show Owes _ _ _ _ (s₁.setTop (mkF m 79 #[.val (.int ((((((p0 ^^^ (-1 : Int32)) &&& (p0 - (1 : Int32))).toUInt32 >>> ((16 : Int32) &&& 31).toUInt32).toInt32).toUInt32 >>> ((4 : Int32) &&& 31).toUInt32).toInt32)), .val (.int (((1 : Int32) + (16 : Int32)) + (4 : Int32)))] [(.int ((((1 : Int32) + (16 : Int32)) + (4 : Int32)) + ((((((((p0 ^^^ (-1 : Int32)) &&& (p0 - (1 : Int32))).toUInt32 >>> ((16 : Int32) &&& 31).toUInt32).toInt32).toUInt32 >>> ((4 : Int32) &&& 31).toUInt32).toInt32).toUInt32 >>> ((1 : Int32) &&& 31).toUInt32).toInt32)))]))
            exact Owes.retI X0 hx hlk hret (hb hby d9_79) (by decide) (by decide) ⟨congrArg (fun z => some (Value.int z)) (by unfold f_ntzI; rw [if_pos hc1, if_pos hc2, if_neg hc3, if_pos hc7, if_neg hc8]; first | done | rfl), rfl, e0⟩
        · skip
          refine Owes.go ?_ fun t₀ k₀ => XS.icmpYes X0.here hx rfl (pc0 := 52) (pc' := 62) rfl (hb hby d9_52) rfl (flt hc7).2.2.2 (by decide) (by decide) k₀
          show Owes _ _ _ _ (s₁.setTop (mkF m 62 #[.val (.int ((((p0 ^^^ (-1 : Int32)) &&& (p0 - (1 : Int32))).toUInt32 >>> ((16 : Int32) &&& 31).toUInt32).toInt32)), .val (.int ((1 : Int32) + (16 : Int32)))] []))
          refine Owes.go ?_ fun t₀ k₀ => XS.iloadN X0.here hx rfl (hb hby d9_62) rfl k₀
          show Owes _ _ _ _ (s₁.setTop (mkF m 63 #[.val (.int ((((p0 ^^^ (-1 : Int32)) &&& (p0 - (1 : Int32))).toUInt32 >>> ((16 : Int32) &&& 31).toUInt32).toInt32)), .val (.int ((1 : Int32) + (16 : Int32)))] [(.int ((((p0 ^^^ (-1 : Int32)) &&& (p0 - (1 : Int32))).toUInt32 >>> ((16 : Int32) &&& 31).toUInt32).toInt32))]))
          refine Owes.go ?_ fun t₀ k₀ => XS.iconst X0.here hx rfl (hb hby d9_63) k₀
          show Owes _ _ _ _ (s₁.setTop (mkF m 64 #[.val (.int ((((p0 ^^^ (-1 : Int32)) &&& (p0 - (1 : Int32))).toUInt32 >>> ((16 : Int32) &&& 31).toUInt32).toInt32)), .val (.int ((1 : Int32) + (16 : Int32)))] [(.int (4 : Int32)), (.int ((((p0 ^^^ (-1 : Int32)) &&& (p0 - (1 : Int32))).toUInt32 >>> ((16 : Int32) &&& 31).toUInt32).toInt32))]))
          by_cases hc9 : (4 : Int32) < ((((p0 ^^^ (-1 : Int32)) &&& (p0 - (1 : Int32))).toUInt32 >>> ((16 : Int32) &&& 31).toUInt32).toInt32)
          · skip
            refine Owes.go ?_ fun t₀ k₀ => XS.icmpNo X0.here hx rfl (hb hby d9_64) rfl (tlt hc9).2.2.2 k₀
            show Owes _ _ _ _ (s₁.setTop (mkF m 67 #[.val (.int ((((p0 ^^^ (-1 : Int32)) &&& (p0 - (1 : Int32))).toUInt32 >>> ((16 : Int32) &&& 31).toUInt32).toInt32)), .val (.int ((1 : Int32) + (16 : Int32)))] []))
            refine Owes.go ?_ fun t₀ k₀ => XS.iinc X0.here hx rfl (hb hby d9_67) rfl (l' := #[.val (.int ((((p0 ^^^ (-1 : Int32)) &&& (p0 - (1 : Int32))).toUInt32 >>> ((16 : Int32) &&& 31).toUInt32).toInt32)), .val (.int (((1 : Int32) + (16 : Int32)) + (2 : Int32)))]) rfl k₀
            show Owes _ _ _ _ (s₁.setTop (mkF m 70 #[.val (.int ((((p0 ^^^ (-1 : Int32)) &&& (p0 - (1 : Int32))).toUInt32 >>> ((16 : Int32) &&& 31).toUInt32).toInt32)), .val (.int (((1 : Int32) + (16 : Int32)) + (2 : Int32)))] []))
            refine Owes.go ?_ fun t₀ k₀ => XS.iloadN X0.here hx rfl (hb hby d9_70) rfl k₀
            show Owes _ _ _ _ (s₁.setTop (mkF m 71 #[.val (.int ((((p0 ^^^ (-1 : Int32)) &&& (p0 - (1 : Int32))).toUInt32 >>> ((16 : Int32) &&& 31).toUInt32).toInt32)), .val (.int (((1 : Int32) + (16 : Int32)) + (2 : Int32)))] [(.int ((((p0 ^^^ (-1 : Int32)) &&& (p0 - (1 : Int32))).toUInt32 >>> ((16 : Int32) &&& 31).toUInt32).toInt32))]))
            refine Owes.go ?_ fun t₀ k₀ => XS.iconst X0.here hx rfl (hb hby d9_71) k₀
            show Owes _ _ _ _ (s₁.setTop (mkF m 72 #[.val (.int ((((p0 ^^^ (-1 : Int32)) &&& (p0 - (1 : Int32))).toUInt32 >>> ((16 : Int32) &&& 31).toUInt32).toInt32)), .val (.int (((1 : Int32) + (16 : Int32)) + (2 : Int32)))] [(.int (2 : Int32)), (.int ((((p0 ^^^ (-1 : Int32)) &&& (p0 - (1 : Int32))).toUInt32 >>> ((16 : Int32) &&& 31).toUInt32).toInt32))]))
            refine Owes.go ?_ fun t₀ k₀ => XS.iushr X0.here hx rfl (hb hby d9_72) rfl k₀
            show Owes _ _ _ _ (s₁.setTop (mkF m 73 #[.val (.int ((((p0 ^^^ (-1 : Int32)) &&& (p0 - (1 : Int32))).toUInt32 >>> ((16 : Int32) &&& 31).toUInt32).toInt32)), .val (.int (((1 : Int32) + (16 : Int32)) + (2 : Int32)))] [(.int ((((((p0 ^^^ (-1 : Int32)) &&& (p0 - (1 : Int32))).toUInt32 >>> ((16 : Int32) &&& 31).toUInt32).toInt32).toUInt32 >>> ((2 : Int32) &&& 31).toUInt32).toInt32))]))
            refine Owes.go ?_ fun t₀ k₀ => XS.istoreN X0.here hx rfl (hb hby d9_73) rfl (l' := #[.val (.int ((((((p0 ^^^ (-1 : Int32)) &&& (p0 - (1 : Int32))).toUInt32 >>> ((16 : Int32) &&& 31).toUInt32).toInt32).toUInt32 >>> ((2 : Int32) &&& 31).toUInt32).toInt32)), .val (.int (((1 : Int32) + (16 : Int32)) + (2 : Int32)))]) rfl k₀
            show Owes _ _ _ _ (s₁.setTop (mkF m 74 #[.val (.int ((((((p0 ^^^ (-1 : Int32)) &&& (p0 - (1 : Int32))).toUInt32 >>> ((16 : Int32) &&& 31).toUInt32).toInt32).toUInt32 >>> ((2 : Int32) &&& 31).toUInt32).toInt32)), .val (.int (((1 : Int32) + (16 : Int32)) + (2 : Int32)))] []))
            refine Owes.go ?_ fun t₀ k₀ => XS.iloadN X0.here hx rfl (hb hby d9_74) rfl k₀
            show Owes _ _ _ _ (s₁.setTop (mkF m 75 #[.val (.int ((((((p0 ^^^ (-1 : Int32)) &&& (p0 - (1 : Int32))).toUInt32 >>> ((16 : Int32) &&& 31).toUInt32).toInt32).toUInt32 >>> ((2 : Int32) &&& 31).toUInt32).toInt32)), .val (.int (((1 : Int32) + (16 : Int32)) + (2 : Int32)))] [(.int (((1 : Int32) + (16 : Int32)) + (2 : Int32)))]))
            refine Owes.go ?_ fun t₀ k₀ => XS.iloadN X0.here hx rfl (hb hby d9_75) rfl k₀
            show Owes _ _ _ _ (s₁.setTop (mkF m 76 #[.val (.int ((((((p0 ^^^ (-1 : Int32)) &&& (p0 - (1 : Int32))).toUInt32 >>> ((16 : Int32) &&& 31).toUInt32).toInt32).toUInt32 >>> ((2 : Int32) &&& 31).toUInt32).toInt32)), .val (.int (((1 : Int32) + (16 : Int32)) + (2 : Int32)))] [(.int ((((((p0 ^^^ (-1 : Int32)) &&& (p0 - (1 : Int32))).toUInt32 >>> ((16 : Int32) &&& 31).toUInt32).toInt32).toUInt32 >>> ((2 : Int32) &&& 31).toUInt32).toInt32)), (.int (((1 : Int32) + (16 : Int32)) + (2 : Int32)))]))
            refine Owes.go ?_ fun t₀ k₀ => XS.iconst X0.here hx rfl (hb hby d9_76) k₀
            show Owes _ _ _ _ (s₁.setTop (mkF m 77 #[.val (.int ((((((p0 ^^^ (-1 : Int32)) &&& (p0 - (1 : Int32))).toUInt32 >>> ((16 : Int32) &&& 31).toUInt32).toInt32).toUInt32 >>> ((2 : Int32) &&& 31).toUInt32).toInt32)), .val (.int (((1 : Int32) + (16 : Int32)) + (2 : Int32)))] [(.int (1 : Int32)), (.int ((((((p0 ^^^ (-1 : Int32)) &&& (p0 - (1 : Int32))).toUInt32 >>> ((16 : Int32) &&& 31).toUInt32).toInt32).toUInt32 >>> ((2 : Int32) &&& 31).toUInt32).toInt32)), (.int (((1 : Int32) + (16 : Int32)) + (2 : Int32)))]))
            refine Owes.go ?_ fun t₀ k₀ => XS.iushr X0.here hx rfl (hb hby d9_77) rfl k₀
            show Owes _ _ _ _ (s₁.setTop (mkF m 78 #[.val (.int ((((((p0 ^^^ (-1 : Int32)) &&& (p0 - (1 : Int32))).toUInt32 >>> ((16 : Int32) &&& 31).toUInt32).toInt32).toUInt32 >>> ((2 : Int32) &&& 31).toUInt32).toInt32)), .val (.int (((1 : Int32) + (16 : Int32)) + (2 : Int32)))] [(.int ((((((((p0 ^^^ (-1 : Int32)) &&& (p0 - (1 : Int32))).toUInt32 >>> ((16 : Int32) &&& 31).toUInt32).toInt32).toUInt32 >>> ((2 : Int32) &&& 31).toUInt32).toInt32).toUInt32 >>> ((1 : Int32) &&& 31).toUInt32).toInt32)), (.int (((1 : Int32) + (16 : Int32)) + (2 : Int32)))]))
            refine Owes.go ?_ fun t₀ k₀ => XS.iadd X0.here hx rfl (hb hby d9_78) rfl k₀
            show Owes _ _ _ _ (s₁.setTop (mkF m 79 #[.val (.int ((((((p0 ^^^ (-1 : Int32)) &&& (p0 - (1 : Int32))).toUInt32 >>> ((16 : Int32) &&& 31).toUInt32).toInt32).toUInt32 >>> ((2 : Int32) &&& 31).toUInt32).toInt32)), .val (.int (((1 : Int32) + (16 : Int32)) + (2 : Int32)))] [(.int ((((1 : Int32) + (16 : Int32)) + (2 : Int32)) + ((((((((p0 ^^^ (-1 : Int32)) &&& (p0 - (1 : Int32))).toUInt32 >>> ((16 : Int32) &&& 31).toUInt32).toInt32).toUInt32 >>> ((2 : Int32) &&& 31).toUInt32).toInt32).toUInt32 >>> ((1 : Int32) &&& 31).toUInt32).toInt32)))]))
            exact Owes.retI X0 hx hlk hret (hb hby d9_79) (by decide) (by decide) ⟨congrArg (fun z => some (Value.int z)) (by unfold f_ntzI; rw [if_pos hc1, if_pos hc2, if_neg hc3, if_neg hc7, if_pos hc9]; first | done | rfl), rfl, e0⟩
          · skip
            refine Owes.go ?_ fun t₀ k₀ => XS.icmpYes X0.here hx rfl (pc0 := 64) (pc' := 74) rfl (hb hby d9_64) rfl (flt hc9).2.2.2 (by decide) (by decide) k₀
            show Owes _ _ _ _ (s₁.setTop (mkF m 74 #[.val (.int ((((p0 ^^^ (-1 : Int32)) &&& (p0 - (1 : Int32))).toUInt32 >>> ((16 : Int32) &&& 31).toUInt32).toInt32)), .val (.int ((1 : Int32) + (16 : Int32)))] []))
            refine Owes.go ?_ fun t₀ k₀ => XS.iloadN X0.here hx rfl (hb hby d9_74) rfl k₀
            show Owes _ _ _ _ (s₁.setTop (mkF m 75 #[.val (.int ((((p0 ^^^ (-1 : Int32)) &&& (p0 - (1 : Int32))).toUInt32 >>> ((16 : Int32) &&& 31).toUInt32).toInt32)), .val (.int ((1 : Int32) + (16 : Int32)))] [(.int ((1 : Int32) + (16 : Int32)))]))
            refine Owes.go ?_ fun t₀ k₀ => XS.iloadN X0.here hx rfl (hb hby d9_75) rfl k₀
            show Owes _ _ _ _ (s₁.setTop (mkF m 76 #[.val (.int ((((p0 ^^^ (-1 : Int32)) &&& (p0 - (1 : Int32))).toUInt32 >>> ((16 : Int32) &&& 31).toUInt32).toInt32)), .val (.int ((1 : Int32) + (16 : Int32)))] [(.int ((((p0 ^^^ (-1 : Int32)) &&& (p0 - (1 : Int32))).toUInt32 >>> ((16 : Int32) &&& 31).toUInt32).toInt32)), (.int ((1 : Int32) + (16 : Int32)))]))
            refine Owes.go ?_ fun t₀ k₀ => XS.iconst X0.here hx rfl (hb hby d9_76) k₀
            show Owes _ _ _ _ (s₁.setTop (mkF m 77 #[.val (.int ((((p0 ^^^ (-1 : Int32)) &&& (p0 - (1 : Int32))).toUInt32 >>> ((16 : Int32) &&& 31).toUInt32).toInt32)), .val (.int ((1 : Int32) + (16 : Int32)))] [(.int (1 : Int32)), (.int ((((p0 ^^^ (-1 : Int32)) &&& (p0 - (1 : Int32))).toUInt32 >>> ((16 : Int32) &&& 31).toUInt32).toInt32)), (.int ((1 : Int32) + (16 : Int32)))]))
            refine Owes.go ?_ fun t₀ k₀ => XS.iushr X0.here hx rfl (hb hby d9_77) rfl k₀
            show Owes _ _ _ _ (s₁.setTop (mkF m 78 #[.val (.int ((((p0 ^^^ (-1 : Int32)) &&& (p0 - (1 : Int32))).toUInt32 >>> ((16 : Int32) &&& 31).toUInt32).toInt32)), .val (.int ((1 : Int32) + (16 : Int32)))] [(.int ((((((p0 ^^^ (-1 : Int32)) &&& (p0 - (1 : Int32))).toUInt32 >>> ((16 : Int32) &&& 31).toUInt32).toInt32).toUInt32 >>> ((1 : Int32) &&& 31).toUInt32).toInt32)), (.int ((1 : Int32) + (16 : Int32)))]))
            refine Owes.go ?_ fun t₀ k₀ => XS.iadd X0.here hx rfl (hb hby d9_78) rfl k₀
            show Owes _ _ _ _ (s₁.setTop (mkF m 79 #[.val (.int ((((p0 ^^^ (-1 : Int32)) &&& (p0 - (1 : Int32))).toUInt32 >>> ((16 : Int32) &&& 31).toUInt32).toInt32)), .val (.int ((1 : Int32) + (16 : Int32)))] [(.int (((1 : Int32) + (16 : Int32)) + ((((((p0 ^^^ (-1 : Int32)) &&& (p0 - (1 : Int32))).toUInt32 >>> ((16 : Int32) &&& 31).toUInt32).toInt32).toUInt32 >>> ((1 : Int32) &&& 31).toUInt32).toInt32)))]))
            exact Owes.retI X0 hx hlk hret (hb hby d9_79) (by decide) (by decide) ⟨congrArg (fun z => some (Value.int z)) (by unfold f_ntzI; rw [if_pos hc1, if_pos hc2, if_neg hc3, if_neg hc7, if_neg hc9]; first | done | rfl), rfl, e0⟩
    · skip
      refine Owes.go ?_ fun t₀ k₀ => XS.icmpYes X0.here hx rfl (pc0 := 23) (pc' := 34) rfl (hb hby d9_23) rfl (flt hc2).2.2.2 (by decide) (by decide) k₀
      show Owes _ _ _ _ (s₁.setTop (mkF m 34 #[.val (.int ((p0 ^^^ (-1 : Int32)) &&& (p0 - (1 : Int32)))), .val (.int (1 : Int32))] []))
      refine Owes.go ?_ fun t₀ k₀ => XS.iloadN X0.here hx rfl (hb hby d9_34) rfl k₀
      show Owes _ _ _ _ (s₁.setTop (mkF m 35 #[.val (.int ((p0 ^^^ (-1 : Int32)) &&& (p0 - (1 : Int32)))), .val (.int (1 : Int32))] [(.int ((p0 ^^^ (-1 : Int32)) &&& (p0 - (1 : Int32))))]))
      refine Owes.go ?_ fun t₀ k₀ => XS.sipush X0.here hx rfl (hb hby d9_35) k₀
      show Owes _ _ _ _ (s₁.setTop (mkF m 38 #[.val (.int ((p0 ^^^ (-1 : Int32)) &&& (p0 - (1 : Int32)))), .val (.int (1 : Int32))] [(.int (256 : Int32)), (.int ((p0 ^^^ (-1 : Int32)) &&& (p0 - (1 : Int32))))]))
      by_cases hc10 : (256 : Int32) < ((p0 ^^^ (-1 : Int32)) &&& (p0 - (1 : Int32)))
      · skip
        refine Owes.go ?_ fun t₀ k₀ => XS.icmpNo X0.here hx rfl (hb hby d9_38) rfl (tlt hc10).2.2.2 k₀
        show Owes _ _ _ _ (s₁.setTop (mkF m 41 #[.val (.int ((p0 ^^^ (-1 : Int32)) &&& (p0 - (1 : Int32)))), .val (.int (1 : Int32))] []))
        refine Owes.go ?_ fun t₀ k₀ => XS.iinc X0.here hx rfl (hb hby d9_41) rfl (l' := #[.val (.int ((p0 ^^^ (-1 : Int32)) &&& (p0 - (1 : Int32)))), .val (.int ((1 : Int32) + (8 : Int32)))]) rfl k₀
        show Owes _ _ _ _ (s₁.setTop (mkF m 44 #[.val (.int ((p0 ^^^ (-1 : Int32)) &&& (p0 - (1 : Int32)))), .val (.int ((1 : Int32) + (8 : Int32)))] []))
        refine Owes.go ?_ fun t₀ k₀ => XS.iloadN X0.here hx rfl (hb hby d9_44) rfl k₀
        show Owes _ _ _ _ (s₁.setTop (mkF m 45 #[.val (.int ((p0 ^^^ (-1 : Int32)) &&& (p0 - (1 : Int32)))), .val (.int ((1 : Int32) + (8 : Int32)))] [(.int ((p0 ^^^ (-1 : Int32)) &&& (p0 - (1 : Int32))))]))
        refine Owes.go ?_ fun t₀ k₀ => XS.bipush X0.here hx rfl (hb hby d9_45) k₀
        show Owes _ _ _ _ (s₁.setTop (mkF m 47 #[.val (.int ((p0 ^^^ (-1 : Int32)) &&& (p0 - (1 : Int32)))), .val (.int ((1 : Int32) + (8 : Int32)))] [(.int (8 : Int32)), (.int ((p0 ^^^ (-1 : Int32)) &&& (p0 - (1 : Int32))))]))
        refine Owes.go ?_ fun t₀ k₀ => XS.iushr X0.here hx rfl (hb hby d9_47) rfl k₀
        show Owes _ _ _ _ (s₁.setTop (mkF m 48 #[.val (.int ((p0 ^^^ (-1 : Int32)) &&& (p0 - (1 : Int32)))), .val (.int ((1 : Int32) + (8 : Int32)))] [(.int ((((p0 ^^^ (-1 : Int32)) &&& (p0 - (1 : Int32))).toUInt32 >>> ((8 : Int32) &&& 31).toUInt32).toInt32))]))
        refine Owes.go ?_ fun t₀ k₀ => XS.istoreN X0.here hx rfl (hb hby d9_48) rfl (l' := #[.val (.int ((((p0 ^^^ (-1 : Int32)) &&& (p0 - (1 : Int32))).toUInt32 >>> ((8 : Int32) &&& 31).toUInt32).toInt32)), .val (.int ((1 : Int32) + (8 : Int32)))]) rfl k₀
        show Owes _ _ _ _ (s₁.setTop (mkF m 49 #[.val (.int ((((p0 ^^^ (-1 : Int32)) &&& (p0 - (1 : Int32))).toUInt32 >>> ((8 : Int32) &&& 31).toUInt32).toInt32)), .val (.int ((1 : Int32) + (8 : Int32)))] []))
        refine Owes.go ?_ fun t₀ k₀ => XS.iloadN X0.here hx rfl (hb hby d9_49) rfl k₀
        show Owes _ _ _ _ (s₁.setTop (mkF m 50 #[.val (.int ((((p0 ^^^ (-1 : Int32)) &&& (p0 - (1 : Int32))).toUInt32 >>> ((8 : Int32) &&& 31).toUInt32).toInt32)), .val (.int ((1 : Int32) + (8 : Int32)))] [(.int ((((p0 ^^^ (-1 : Int32)) &&& (p0 - (1 : Int32))).toUInt32 >>> ((8 : Int32) &&& 31).toUInt32).toInt32))]))
        refine Owes.go ?_ fun t₀ k₀ => XS.bipush X0.here hx rfl (hb hby d9_50) k₀
        show Owes _ _ _ _ (s₁.setTop (mkF m 52 #[.val (.int ((((p0 ^^^ (-1 : Int32)) &&& (p0 - (1 : Int32))).toUInt32 >>> ((8 : Int32) &&& 31).toUInt32).toInt32)), .val (.int ((1 : Int32) + (8 : Int32)))] [(.int (16 : Int32)), (.int ((((p0 ^^^ (-1 : Int32)) &&& (p0 - (1 : Int32))).toUInt32 >>> ((8 : Int32) &&& 31).toUInt32).toInt32))]))
        by_cases hc11 : (16 : Int32) < ((((p0 ^^^ (-1 : Int32)) &&& (p0 - (1 : Int32))).toUInt32 >>> ((8 : Int32) &&& 31).toUInt32).toInt32)
        · skip
          refine Owes.go ?_ fun t₀ k₀ => XS.icmpNo X0.here hx rfl (hb hby d9_52) rfl (tlt hc11).2.2.2 k₀
          show Owes _ _ _ _ (s₁.setTop (mkF m 55 #[.val (.int ((((p0 ^^^ (-1 : Int32)) &&& (p0 - (1 : Int32))).toUInt32 >>> ((8 : Int32) &&& 31).toUInt32).toInt32)), .val (.int ((1 : Int32) + (8 : Int32)))] []))
          refine Owes.go ?_ fun t₀ k₀ => XS.iinc X0.here hx rfl (hb hby d9_55) rfl (l' := #[.val (.int ((((p0 ^^^ (-1 : Int32)) &&& (p0 - (1 : Int32))).toUInt32 >>> ((8 : Int32) &&& 31).toUInt32).toInt32)), .val (.int (((1 : Int32) + (8 : Int32)) + (4 : Int32)))]) rfl k₀
          show Owes _ _ _ _ (s₁.setTop (mkF m 58 #[.val (.int ((((p0 ^^^ (-1 : Int32)) &&& (p0 - (1 : Int32))).toUInt32 >>> ((8 : Int32) &&& 31).toUInt32).toInt32)), .val (.int (((1 : Int32) + (8 : Int32)) + (4 : Int32)))] []))
          refine Owes.go ?_ fun t₀ k₀ => XS.iloadN X0.here hx rfl (hb hby d9_58) rfl k₀
          show Owes _ _ _ _ (s₁.setTop (mkF m 59 #[.val (.int ((((p0 ^^^ (-1 : Int32)) &&& (p0 - (1 : Int32))).toUInt32 >>> ((8 : Int32) &&& 31).toUInt32).toInt32)), .val (.int (((1 : Int32) + (8 : Int32)) + (4 : Int32)))] [(.int ((((p0 ^^^ (-1 : Int32)) &&& (p0 - (1 : Int32))).toUInt32 >>> ((8 : Int32) &&& 31).toUInt32).toInt32))]))
          refine Owes.go ?_ fun t₀ k₀ => XS.iconst X0.here hx rfl (hb hby d9_59) k₀
          show Owes _ _ _ _ (s₁.setTop (mkF m 60 #[.val (.int ((((p0 ^^^ (-1 : Int32)) &&& (p0 - (1 : Int32))).toUInt32 >>> ((8 : Int32) &&& 31).toUInt32).toInt32)), .val (.int (((1 : Int32) + (8 : Int32)) + (4 : Int32)))] [(.int (4 : Int32)), (.int ((((p0 ^^^ (-1 : Int32)) &&& (p0 - (1 : Int32))).toUInt32 >>> ((8 : Int32) &&& 31).toUInt32).toInt32))]))
          refine Owes.go ?_ fun t₀ k₀ => XS.iushr X0.here hx rfl (hb hby d9_60) rfl k₀
          show Owes _ _ _ _ (s₁.setTop (mkF m 61 #[.val (.int ((((p0 ^^^ (-1 : Int32)) &&& (p0 - (1 : Int32))).toUInt32 >>> ((8 : Int32) &&& 31).toUInt32).toInt32)), .val (.int (((1 : Int32) + (8 : Int32)) + (4 : Int32)))] [(.int ((((((p0 ^^^ (-1 : Int32)) &&& (p0 - (1 : Int32))).toUInt32 >>> ((8 : Int32) &&& 31).toUInt32).toInt32).toUInt32 >>> ((4 : Int32) &&& 31).toUInt32).toInt32))]))
          refine Owes.go ?_ fun t₀ k₀ => XS.istoreN X0.here hx rfl (hb hby d9_61) rfl (l' := #[.val (.int ((((((p0 ^^^ (-1 : Int32)) &&& (p0 - (1 : Int32))).toUInt32 >>> ((8 : Int32) &&& 31).toUInt32).toInt32).toUInt32 >>> ((4 : Int32) &&& 31).toUInt32).toInt32)), .val (.int (((1 : Int32) + (8 : Int32)) + (4 : Int32)))]) rfl k₀
          show Owes _ _ _ _ (s₁.setTop (mkF m 62 #[.val (.int ((((((p0 ^^^ (-1 : Int32)) &&& (p0 - (1 : Int32))).toUInt32 >>> ((8 : Int32) &&& 31).toUInt32).toInt32).toUInt32 >>> ((4 : Int32) &&& 31).toUInt32).toInt32)), .val (.int (((1 : Int32) + (8 : Int32)) + (4 : Int32)))] []))
          refine Owes.go ?_ fun t₀ k₀ => XS.iloadN X0.here hx rfl (hb hby d9_62) rfl k₀
          show Owes _ _ _ _ (s₁.setTop (mkF m 63 #[.val (.int ((((((p0 ^^^ (-1 : Int32)) &&& (p0 - (1 : Int32))).toUInt32 >>> ((8 : Int32) &&& 31).toUInt32).toInt32).toUInt32 >>> ((4 : Int32) &&& 31).toUInt32).toInt32)), .val (.int (((1 : Int32) + (8 : Int32)) + (4 : Int32)))] [(.int ((((((p0 ^^^ (-1 : Int32)) &&& (p0 - (1 : Int32))).toUInt32 >>> ((8 : Int32) &&& 31).toUInt32).toInt32).toUInt32 >>> ((4 : Int32) &&& 31).toUInt32).toInt32))]))
          refine Owes.go ?_ fun t₀ k₀ => XS.iconst X0.here hx rfl (hb hby d9_63) k₀
          show Owes _ _ _ _ (s₁.setTop (mkF m 64 #[.val (.int ((((((p0 ^^^ (-1 : Int32)) &&& (p0 - (1 : Int32))).toUInt32 >>> ((8 : Int32) &&& 31).toUInt32).toInt32).toUInt32 >>> ((4 : Int32) &&& 31).toUInt32).toInt32)), .val (.int (((1 : Int32) + (8 : Int32)) + (4 : Int32)))] [(.int (4 : Int32)), (.int ((((((p0 ^^^ (-1 : Int32)) &&& (p0 - (1 : Int32))).toUInt32 >>> ((8 : Int32) &&& 31).toUInt32).toInt32).toUInt32 >>> ((4 : Int32) &&& 31).toUInt32).toInt32))]))
          by_cases hc12 : (4 : Int32) < ((((((p0 ^^^ (-1 : Int32)) &&& (p0 - (1 : Int32))).toUInt32 >>> ((8 : Int32) &&& 31).toUInt32).toInt32).toUInt32 >>> ((4 : Int32) &&& 31).toUInt32).toInt32)
          · skip
            refine Owes.go ?_ fun t₀ k₀ => XS.icmpNo X0.here hx rfl (hb hby d9_64) rfl (tlt hc12).2.2.2 k₀
            show Owes _ _ _ _ (s₁.setTop (mkF m 67 #[.val (.int ((((((p0 ^^^ (-1 : Int32)) &&& (p0 - (1 : Int32))).toUInt32 >>> ((8 : Int32) &&& 31).toUInt32).toInt32).toUInt32 >>> ((4 : Int32) &&& 31).toUInt32).toInt32)), .val (.int (((1 : Int32) + (8 : Int32)) + (4 : Int32)))] []))
            refine Owes.go ?_ fun t₀ k₀ => XS.iinc X0.here hx rfl (hb hby d9_67) rfl (l' := #[.val (.int ((((((p0 ^^^ (-1 : Int32)) &&& (p0 - (1 : Int32))).toUInt32 >>> ((8 : Int32) &&& 31).toUInt32).toInt32).toUInt32 >>> ((4 : Int32) &&& 31).toUInt32).toInt32)), .val (.int ((((1 : Int32) + (8 : Int32)) + (4 : Int32)) + (2 : Int32)))]) rfl k₀
            show Owes _ _ _ _ (s₁.setTop (mkF m 70 #[.val (.int ((((((p0 ^^^ (-1 : Int32)) &&& (p0 - (1 : Int32))).toUInt32 >>> ((8 : Int32) &&& 31).toUInt32).toInt32).toUInt32 >>> ((4 : Int32) &&& 31).toUInt32).toInt32)), .val (.int ((((1 : Int32) + (8 : Int32)) + (4 : Int32)) + (2 : Int32)))] []))
            refine Owes.go ?_ fun t₀ k₀ => XS.iloadN X0.here hx rfl (hb hby d9_70) rfl k₀
            show Owes _ _ _ _ (s₁.setTop (mkF m 71 #[.val (.int ((((((p0 ^^^ (-1 : Int32)) &&& (p0 - (1 : Int32))).toUInt32 >>> ((8 : Int32) &&& 31).toUInt32).toInt32).toUInt32 >>> ((4 : Int32) &&& 31).toUInt32).toInt32)), .val (.int ((((1 : Int32) + (8 : Int32)) + (4 : Int32)) + (2 : Int32)))] [(.int ((((((p0 ^^^ (-1 : Int32)) &&& (p0 - (1 : Int32))).toUInt32 >>> ((8 : Int32) &&& 31).toUInt32).toInt32).toUInt32 >>> ((4 : Int32) &&& 31).toUInt32).toInt32))]))
            refine Owes.go ?_ fun t₀ k₀ => XS.iconst X0.here hx rfl (hb hby d9_71) k₀
            show Owes _ _ _ _ (s₁.setTop (mkF m 72 #[.val (.int ((((((p0 ^^^ (-1 : Int32)) &&& (p0 - (1 : Int32))).toUInt32 >>> ((8 : Int32) &&& 31).toUInt32).toInt32).toUInt32 >>> ((4 : Int32) &&& 31).toUInt32).toInt32)), .val (.int ((((1 : Int32) + (8 : Int32)) + (4 : Int32)) + (2 : Int32)))] [(.int (2 : Int32)), (.int ((((((p0 ^^^ (-1 : Int32)) &&& (p0 - (1 : Int32))).toUInt32 >>> ((8 : Int32) &&& 31).toUInt32).toInt32).toUInt32 >>> ((4 : Int32) &&& 31).toUInt32).toInt32))]))
            refine Owes.go ?_ fun t₀ k₀ => XS.iushr X0.here hx rfl (hb hby d9_72) rfl k₀
            show Owes _ _ _ _ (s₁.setTop (mkF m 73 #[.val (.int ((((((p0 ^^^ (-1 : Int32)) &&& (p0 - (1 : Int32))).toUInt32 >>> ((8 : Int32) &&& 31).toUInt32).toInt32).toUInt32 >>> ((4 : Int32) &&& 31).toUInt32).toInt32)), .val (.int ((((1 : Int32) + (8 : Int32)) + (4 : Int32)) + (2 : Int32)))] [(.int ((((((((p0 ^^^ (-1 : Int32)) &&& (p0 - (1 : Int32))).toUInt32 >>> ((8 : Int32) &&& 31).toUInt32).toInt32).toUInt32 >>> ((4 : Int32) &&& 31).toUInt32).toInt32).toUInt32 >>> ((2 : Int32) &&& 31).toUInt32).toInt32))]))
            refine Owes.go ?_ fun t₀ k₀ => XS.istoreN X0.here hx rfl (hb hby d9_73) rfl (l' := #[.val (.int ((((((((p0 ^^^ (-1 : Int32)) &&& (p0 - (1 : Int32))).toUInt32 >>> ((8 : Int32) &&& 31).toUInt32).toInt32).toUInt32 >>> ((4 : Int32) &&& 31).toUInt32).toInt32).toUInt32 >>> ((2 : Int32) &&& 31).toUInt32).toInt32)), .val (.int ((((1 : Int32) + (8 : Int32)) + (4 : Int32)) + (2 : Int32)))]) rfl k₀
            show Owes _ _ _ _ (s₁.setTop (mkF m 74 #[.val (.int ((((((((p0 ^^^ (-1 : Int32)) &&& (p0 - (1 : Int32))).toUInt32 >>> ((8 : Int32) &&& 31).toUInt32).toInt32).toUInt32 >>> ((4 : Int32) &&& 31).toUInt32).toInt32).toUInt32 >>> ((2 : Int32) &&& 31).toUInt32).toInt32)), .val (.int ((((1 : Int32) + (8 : Int32)) + (4 : Int32)) + (2 : Int32)))] []))
            refine Owes.go ?_ fun t₀ k₀ => XS.iloadN X0.here hx rfl (hb hby d9_74) rfl k₀
            show Owes _ _ _ _ (s₁.setTop (mkF m 75 #[.val (.int ((((((((p0 ^^^ (-1 : Int32)) &&& (p0 - (1 : Int32))).toUInt32 >>> ((8 : Int32) &&& 31).toUInt32).toInt32).toUInt32 >>> ((4 : Int32) &&& 31).toUInt32).toInt32).toUInt32 >>> ((2 : Int32) &&& 31).toUInt32).toInt32)), .val (.int ((((1 : Int32) + (8 : Int32)) + (4 : Int32)) + (2 : Int32)))] [(.int ((((1 : Int32) + (8 : Int32)) + (4 : Int32)) + (2 : Int32)))]))
            refine Owes.go ?_ fun t₀ k₀ => XS.iloadN X0.here hx rfl (hb hby d9_75) rfl k₀
            show Owes _ _ _ _ (s₁.setTop (mkF m 76 #[.val (.int ((((((((p0 ^^^ (-1 : Int32)) &&& (p0 - (1 : Int32))).toUInt32 >>> ((8 : Int32) &&& 31).toUInt32).toInt32).toUInt32 >>> ((4 : Int32) &&& 31).toUInt32).toInt32).toUInt32 >>> ((2 : Int32) &&& 31).toUInt32).toInt32)), .val (.int ((((1 : Int32) + (8 : Int32)) + (4 : Int32)) + (2 : Int32)))] [(.int ((((((((p0 ^^^ (-1 : Int32)) &&& (p0 - (1 : Int32))).toUInt32 >>> ((8 : Int32) &&& 31).toUInt32).toInt32).toUInt32 >>> ((4 : Int32) &&& 31).toUInt32).toInt32).toUInt32 >>> ((2 : Int32) &&& 31).toUInt32).toInt32)), (.int ((((1 : Int32) + (8 : Int32)) + (4 : Int32)) + (2 : Int32)))]))
            refine Owes.go ?_ fun t₀ k₀ => XS.iconst X0.here hx rfl (hb hby d9_76) k₀
            show Owes _ _ _ _ (s₁.setTop (mkF m 77 #[.val (.int ((((((((p0 ^^^ (-1 : Int32)) &&& (p0 - (1 : Int32))).toUInt32 >>> ((8 : Int32) &&& 31).toUInt32).toInt32).toUInt32 >>> ((4 : Int32) &&& 31).toUInt32).toInt32).toUInt32 >>> ((2 : Int32) &&& 31).toUInt32).toInt32)), .val (.int ((((1 : Int32) + (8 : Int32)) + (4 : Int32)) + (2 : Int32)))] [(.int (1 : Int32)), (.int ((((((((p0 ^^^ (-1 : Int32)) &&& (p0 - (1 : Int32))).toUInt32 >>> ((8 : Int32) &&& 31).toUInt32).toInt32).toUInt32 >>> ((4 : Int32) &&& 31).toUInt32).toInt32).toUInt32 >>> ((2 : Int32) &&& 31).toUInt32).toInt32)), (.int ((((1 : Int32) + (8 : Int32)) + (4 : Int32)) + (2 : Int32)))]))
            refine Owes.go ?_ fun t₀ k₀ => XS.iushr X0.here hx rfl (hb hby d9_77) rfl k₀
            show Owes _ _ _ _ (s₁.setTop (mkF m 78 #[.val (.int ((((((((p0 ^^^ (-1 : Int32)) &&& (p0 - (1 : Int32))).toUInt32 >>> ((8 : Int32) &&& 31).toUInt32).toInt32).toUInt32 >>> ((4 : Int32) &&& 31).toUInt32).toInt32).toUInt32 >>> ((2 : Int32) &&& 31).toUInt32).toInt32)), .val (.int ((((1 : Int32) + (8 : Int32)) + (4 : Int32)) + (2 : Int32)))] [(.int ((((((((((p0 ^^^ (-1 : Int32)) &&& (p0 - (1 : Int32))).toUInt32 >>> ((8 : Int32) &&& 31).toUInt32).toInt32).toUInt32 >>> ((4 : Int32) &&& 31).toUInt32).toInt32).toUInt32 >>> ((2 : Int32) &&& 31).toUInt32).toInt32).toUInt32 >>> ((1 : Int32) &&& 31).toUInt32).toInt32)), (.int ((((1 : Int32) + (8 : Int32)) + (4 : Int32)) + (2 : Int32)))]))
            refine Owes.go ?_ fun t₀ k₀ => XS.iadd X0.here hx rfl (hb hby d9_78) rfl k₀
            show Owes _ _ _ _ (s₁.setTop (mkF m 79 #[.val (.int ((((((((p0 ^^^ (-1 : Int32)) &&& (p0 - (1 : Int32))).toUInt32 >>> ((8 : Int32) &&& 31).toUInt32).toInt32).toUInt32 >>> ((4 : Int32) &&& 31).toUInt32).toInt32).toUInt32 >>> ((2 : Int32) &&& 31).toUInt32).toInt32)), .val (.int ((((1 : Int32) + (8 : Int32)) + (4 : Int32)) + (2 : Int32)))] [(.int (((((1 : Int32) + (8 : Int32)) + (4 : Int32)) + (2 : Int32)) + ((((((((((p0 ^^^ (-1 : Int32)) &&& (p0 - (1 : Int32))).toUInt32 >>> ((8 : Int32) &&& 31).toUInt32).toInt32).toUInt32 >>> ((4 : Int32) &&& 31).toUInt32).toInt32).toUInt32 >>> ((2 : Int32) &&& 31).toUInt32).toInt32).toUInt32 >>> ((1 : Int32) &&& 31).toUInt32).toInt32)))]))
            exact Owes.retI X0 hx hlk hret (hb hby d9_79) (by decide) (by decide) ⟨congrArg (fun z => some (Value.int z)) (by unfold f_ntzI; rw [if_pos hc1, if_neg hc2, if_pos hc10, if_pos hc11, if_pos hc12]; first | done | rfl), rfl, e0⟩
          · skip
            refine Owes.go ?_ fun t₀ k₀ => XS.icmpYes X0.here hx rfl (pc0 := 64) (pc' := 74) rfl (hb hby d9_64) rfl (flt hc12).2.2.2 (by decide) (by decide) k₀
            show Owes _ _ _ _ (s₁.setTop (mkF m 74 #[.val (.int ((((((p0 ^^^ (-1 : Int32)) &&& (p0 - (1 : Int32))).toUInt32 >>> ((8 : Int32) &&& 31).toUInt32).toInt32).toUInt32 >>> ((4 : Int32) &&& 31).toUInt32).toInt32)), .val (.int (((1 : Int32) + (8 : Int32)) + (4 : Int32)))] []))
            refine Owes.go ?_ fun t₀ k₀ => XS.iloadN X0.here hx rfl (hb hby d9_74) rfl k₀
            show Owes _ _ _ _ (s₁.setTop (mkF m 75 #[.val (.int ((((((p0 ^^^ (-1 : Int32)) &&& (p0 - (1 : Int32))).toUInt32 >>> ((8 : Int32) &&& 31).toUInt32).toInt32).toUInt32 >>> ((4 : Int32) &&& 31).toUInt32).toInt32)), .val (.int (((1 : Int32) + (8 : Int32)) + (4 : Int32)))] [(.int (((1 : Int32) + (8 : Int32)) + (4 : Int32)))]))
            refine Owes.go ?_ fun t₀ k₀ => XS.iloadN X0.here hx rfl (hb hby d9_75) rfl k₀
            show Owes _ _ _ _ (s₁.setTop (mkF m 76 #[.val (.int ((((((p0 ^^^ (-1 : Int32)) &&& (p0 - (1 : Int32))).toUInt32 >>> ((8 : Int32) &&& 31).toUInt32).toInt32).toUInt32 >>> ((4 : Int32) &&& 31).toUInt32).toInt32)), .val (.int (((1 : Int32) + (8 : Int32)) + (4 : Int32)))] [(.int ((((((p0 ^^^ (-1 : Int32)) &&& (p0 - (1 : Int32))).toUInt32 >>> ((8 : Int32) &&& 31).toUInt32).toInt32).toUInt32 >>> ((4 : Int32) &&& 31).toUInt32).toInt32)), (.int (((1 : Int32) + (8 : Int32)) + (4 : Int32)))]))
            refine Owes.go ?_ fun t₀ k₀ => XS.iconst X0.here hx rfl (hb hby d9_76) k₀
            show Owes _ _ _ _ (s₁.setTop (mkF m 77 #[.val (.int ((((((p0 ^^^ (-1 : Int32)) &&& (p0 - (1 : Int32))).toUInt32 >>> ((8 : Int32) &&& 31).toUInt32).toInt32).toUInt32 >>> ((4 : Int32) &&& 31).toUInt32).toInt32)), .val (.int (((1 : Int32) + (8 : Int32)) + (4 : Int32)))] [(.int (1 : Int32)), (.int ((((((p0 ^^^ (-1 : Int32)) &&& (p0 - (1 : Int32))).toUInt32 >>> ((8 : Int32) &&& 31).toUInt32).toInt32).toUInt32 >>> ((4 : Int32) &&& 31).toUInt32).toInt32)), (.int (((1 : Int32) + (8 : Int32)) + (4 : Int32)))]))
            refine Owes.go ?_ fun t₀ k₀ => XS.iushr X0.here hx rfl (hb hby d9_77) rfl k₀
            show Owes _ _ _ _ (s₁.setTop (mkF m 78 #[.val (.int ((((((p0 ^^^ (-1 : Int32)) &&& (p0 - (1 : Int32))).toUInt32 >>> ((8 : Int32) &&& 31).toUInt32).toInt32).toUInt32 >>> ((4 : Int32) &&& 31).toUInt32).toInt32)), .val (.int (((1 : Int32) + (8 : Int32)) + (4 : Int32)))] [(.int ((((((((p0 ^^^ (-1 : Int32)) &&& (p0 - (1 : Int32))).toUInt32 >>> ((8 : Int32) &&& 31).toUInt32).toInt32).toUInt32 >>> ((4 : Int32) &&& 31).toUInt32).toInt32).toUInt32 >>> ((1 : Int32) &&& 31).toUInt32).toInt32)), (.int (((1 : Int32) + (8 : Int32)) + (4 : Int32)))]))
            refine Owes.go ?_ fun t₀ k₀ => XS.iadd X0.here hx rfl (hb hby d9_78) rfl k₀
            show Owes _ _ _ _ (s₁.setTop (mkF m 79 #[.val (.int ((((((p0 ^^^ (-1 : Int32)) &&& (p0 - (1 : Int32))).toUInt32 >>> ((8 : Int32) &&& 31).toUInt32).toInt32).toUInt32 >>> ((4 : Int32) &&& 31).toUInt32).toInt32)), .val (.int (((1 : Int32) + (8 : Int32)) + (4 : Int32)))] [(.int ((((1 : Int32) + (8 : Int32)) + (4 : Int32)) + ((((((((p0 ^^^ (-1 : Int32)) &&& (p0 - (1 : Int32))).toUInt32 >>> ((8 : Int32) &&& 31).toUInt32).toInt32).toUInt32 >>> ((4 : Int32) &&& 31).toUInt32).toInt32).toUInt32 >>> ((1 : Int32) &&& 31).toUInt32).toInt32)))]))
            exact Owes.retI X0 hx hlk hret (hb hby d9_79) (by decide) (by decide) ⟨congrArg (fun z => some (Value.int z)) (by unfold f_ntzI; rw [if_pos hc1, if_neg hc2, if_pos hc10, if_pos hc11, if_neg hc12]; first | done | rfl), rfl, e0⟩
        · skip
          refine Owes.go ?_ fun t₀ k₀ => XS.icmpYes X0.here hx rfl (pc0 := 52) (pc' := 62) rfl (hb hby d9_52) rfl (flt hc11).2.2.2 (by decide) (by decide) k₀
          show Owes _ _ _ _ (s₁.setTop (mkF m 62 #[.val (.int ((((p0 ^^^ (-1 : Int32)) &&& (p0 - (1 : Int32))).toUInt32 >>> ((8 : Int32) &&& 31).toUInt32).toInt32)), .val (.int ((1 : Int32) + (8 : Int32)))] []))
          refine Owes.go ?_ fun t₀ k₀ => XS.iloadN X0.here hx rfl (hb hby d9_62) rfl k₀
          show Owes _ _ _ _ (s₁.setTop (mkF m 63 #[.val (.int ((((p0 ^^^ (-1 : Int32)) &&& (p0 - (1 : Int32))).toUInt32 >>> ((8 : Int32) &&& 31).toUInt32).toInt32)), .val (.int ((1 : Int32) + (8 : Int32)))] [(.int ((((p0 ^^^ (-1 : Int32)) &&& (p0 - (1 : Int32))).toUInt32 >>> ((8 : Int32) &&& 31).toUInt32).toInt32))]))
          refine Owes.go ?_ fun t₀ k₀ => XS.iconst X0.here hx rfl (hb hby d9_63) k₀
          show Owes _ _ _ _ (s₁.setTop (mkF m 64 #[.val (.int ((((p0 ^^^ (-1 : Int32)) &&& (p0 - (1 : Int32))).toUInt32 >>> ((8 : Int32) &&& 31).toUInt32).toInt32)), .val (.int ((1 : Int32) + (8 : Int32)))] [(.int (4 : Int32)), (.int ((((p0 ^^^ (-1 : Int32)) &&& (p0 - (1 : Int32))).toUInt32 >>> ((8 : Int32) &&& 31).toUInt32).toInt32))]))
          by_cases hc13 : (4 : Int32) < ((((p0 ^^^ (-1 : Int32)) &&& (p0 - (1 : Int32))).toUInt32 >>> ((8 : Int32) &&& 31).toUInt32).toInt32)
          · skip
            refine Owes.go ?_ fun t₀ k₀ => XS.icmpNo X0.here hx rfl (hb hby d9_64) rfl (tlt hc13).2.2.2 k₀
            show Owes _ _ _ _ (s₁.setTop (mkF m 67 #[.val (.int ((((p0 ^^^ (-1 : Int32)) &&& (p0 - (1 : Int32))).toUInt32 >>> ((8 : Int32) &&& 31).toUInt32).toInt32)), .val (.int ((1 : Int32) + (8 : Int32)))] []))
            refine Owes.go ?_ fun t₀ k₀ => XS.iinc X0.here hx rfl (hb hby d9_67) rfl (l' := #[.val (.int ((((p0 ^^^ (-1 : Int32)) &&& (p0 - (1 : Int32))).toUInt32 >>> ((8 : Int32) &&& 31).toUInt32).toInt32)), .val (.int (((1 : Int32) + (8 : Int32)) + (2 : Int32)))]) rfl k₀
            show Owes _ _ _ _ (s₁.setTop (mkF m 70 #[.val (.int ((((p0 ^^^ (-1 : Int32)) &&& (p0 - (1 : Int32))).toUInt32 >>> ((8 : Int32) &&& 31).toUInt32).toInt32)), .val (.int (((1 : Int32) + (8 : Int32)) + (2 : Int32)))] []))
            refine Owes.go ?_ fun t₀ k₀ => XS.iloadN X0.here hx rfl (hb hby d9_70) rfl k₀
            show Owes _ _ _ _ (s₁.setTop (mkF m 71 #[.val (.int ((((p0 ^^^ (-1 : Int32)) &&& (p0 - (1 : Int32))).toUInt32 >>> ((8 : Int32) &&& 31).toUInt32).toInt32)), .val (.int (((1 : Int32) + (8 : Int32)) + (2 : Int32)))] [(.int ((((p0 ^^^ (-1 : Int32)) &&& (p0 - (1 : Int32))).toUInt32 >>> ((8 : Int32) &&& 31).toUInt32).toInt32))]))
            refine Owes.go ?_ fun t₀ k₀ => XS.iconst X0.here hx rfl (hb hby d9_71) k₀
            show Owes _ _ _ _ (s₁.setTop (mkF m 72 #[.val (.int ((((p0 ^^^ (-1 : Int32)) &&& (p0 - (1 : Int32))).toUInt32 >>> ((8 : Int32) &&& 31).toUInt32).toInt32)), .val (.int (((1 : Int32) + (8 : Int32)) + (2 : Int32)))] [(.int (2 : Int32)), (.int ((((p0 ^^^ (-1 : Int32)) &&& (p0 - (1 : Int32))).toUInt32 >>> ((8 : Int32) &&& 31).toUInt32).toInt32))]))
            refine Owes.go ?_ fun t₀ k₀ => XS.iushr X0.here hx rfl (hb hby d9_72) rfl k₀
            show Owes _ _ _ _ (s₁.setTop (mkF m 73 #[.val (.int ((((p0 ^^^ (-1 : Int32)) &&& (p0 - (1 : Int32))).toUInt32 >>> ((8 : Int32) &&& 31).toUInt32).toInt32)), .val (.int (((1 : Int32) + (8 : Int32)) + (2 : Int32)))] [(.int ((((((p0 ^^^ (-1 : Int32)) &&& (p0 - (1 : Int32))).toUInt32 >>> ((8 : Int32) &&& 31).toUInt32).toInt32).toUInt32 >>> ((2 : Int32) &&& 31).toUInt32).toInt32))]))
            refine Owes.go ?_ fun t₀ k₀ => XS.istoreN X0.here hx rfl (hb hby d9_73) rfl (l' := #[.val (.int ((((((p0 ^^^ (-1 : Int32)) &&& (p0 - (1 : Int32))).toUInt32 >>> ((8 : Int32) &&& 31).toUInt32).toInt32).toUInt32 >>> ((2 : Int32) &&& 31).toUInt32).toInt32)), .val (.int (((1 : Int32) + (8 : Int32)) + (2 : Int32)))]) rfl k₀
            show Owes _ _ _ _ (s₁.setTop (mkF m 74 #[.val (.int ((((((p0 ^^^ (-1 : Int32)) &&& (p0 - (1 : Int32))).toUInt32 >>> ((8 : Int32) &&& 31).toUInt32).toInt32).toUInt32 >>> ((2 : Int32) &&& 31).toUInt32).toInt32)), .val (.int (((1 : Int32) + (8 : Int32)) + (2 : Int32)))] []))
            refine Owes.go ?_ fun t₀ k₀ => XS.iloadN X0.here hx rfl (hb hby d9_74) rfl k₀
            show Owes _ _ _ _ (s₁.setTop (mkF m 75 #[.val (.int ((((((p0 ^^^ (-1 : Int32)) &&& (p0 - (1 : Int32))).toUInt32 >>> ((8 : Int32) &&& 31).toUInt32).toInt32).toUInt32 >>> ((2 : Int32) &&& 31).toUInt32).toInt32)), .val (.int (((1 : Int32) + (8 : Int32)) + (2 : Int32)))] [(.int (((1 : Int32) + (8 : Int32)) + (2 : Int32)))]))
            refine Owes.go ?_ fun t₀ k₀ => XS.iloadN X0.here hx rfl (hb hby d9_75) rfl k₀
            show Owes _ _ _ _ (s₁.setTop (mkF m 76 #[.val (.int ((((((p0 ^^^ (-1 : Int32)) &&& (p0 - (1 : Int32))).toUInt32 >>> ((8 : Int32) &&& 31).toUInt32).toInt32).toUInt32 >>> ((2 : Int32) &&& 31).toUInt32).toInt32)), .val (.int (((1 : Int32) + (8 : Int32)) + (2 : Int32)))] [(.int ((((((p0 ^^^ (-1 : Int32)) &&& (p0 - (1 : Int32))).toUInt32 >>> ((8 : Int32) &&& 31).toUInt32).toInt32).toUInt32 >>> ((2 : Int32) &&& 31).toUInt32).toInt32)), (.int (((1 : Int32) + (8 : Int32)) + (2 : Int32)))]))
            refine Owes.go ?_ fun t₀ k₀ => XS.iconst X0.here hx rfl (hb hby d9_76) k₀
            show Owes _ _ _ _ (s₁.setTop (mkF m 77 #[.val (.int ((((((p0 ^^^ (-1 : Int32)) &&& (p0 - (1 : Int32))).toUInt32 >>> ((8 : Int32) &&& 31).toUInt32).toInt32).toUInt32 >>> ((2 : Int32) &&& 31).toUInt32).toInt32)), .val (.int (((1 : Int32) + (8 : Int32)) + (2 : Int32)))] [(.int (1 : Int32)), (.int ((((((p0 ^^^ (-1 : Int32)) &&& (p0 - (1 : Int32))).toUInt32 >>> ((8 : Int32) &&& 31).toUInt32).toInt32).toUInt32 >>> ((2 : Int32) &&& 31).toUInt32).toInt32)), (.int (((1 : Int32) + (8 : Int32)) + (2 : Int32)))]))
            refine Owes.go ?_ fun t₀ k₀ => XS.iushr X0.here hx rfl (hb hby d9_77) rfl k₀
            show Owes _ _ _ _ (s₁.setTop (mkF m 78 #[.val (.int ((((((p0 ^^^ (-1 : Int32)) &&& (p0 - (1 : Int32))).toUInt32 >>> ((8 : Int32) &&& 31).toUInt32).toInt32).toUInt32 >>> ((2 : Int32) &&& 31).toUInt32).toInt32)), .val (.int (((1 : Int32) + (8 : Int32)) + (2 : Int32)))] [(.int ((((((((p0 ^^^ (-1 : Int32)) &&& (p0 - (1 : Int32))).toUInt32 >>> ((8 : Int32) &&& 31).toUInt32).toInt32).toUInt32 >>> ((2 : Int32) &&& 31).toUInt32).toInt32).toUInt32 >>> ((1 : Int32) &&& 31).toUInt32).toInt32)), (.int (((1 : Int32) + (8 : Int32)) + (2 : Int32)))]))
            refine Owes.go ?_ fun t₀ k₀ => XS.iadd X0.here hx rfl (hb hby d9_78) rfl k₀
            show Owes _ _ _ _ (s₁.setTop (mkF m 79 #[.val (.int ((((((p0 ^^^ (-1 : Int32)) &&& (p0 - (1 : Int32))).toUInt32 >>> ((8 : Int32) &&& 31).toUInt32).toInt32).toUInt32 >>> ((2 : Int32) &&& 31).toUInt32).toInt32)), .val (.int (((1 : Int32) + (8 : Int32)) + (2 : Int32)))] [(.int ((((1 : Int32) + (8 : Int32)) + (2 : Int32)) + ((((((((p0 ^^^ (-1 : Int32)) &&& (p0 - (1 : Int32))).toUInt32 >>> ((8 : Int32) &&& 31).toUInt32).toInt32).toUInt32 >>> ((2 : Int32) &&& 31).toUInt32).toInt32).toUInt32 >>> ((1 : Int32) &&& 31).toUInt32).toInt32)))]))
            exact Owes.retI X0 hx hlk hret (hb hby d9_79) (by decide) (by decide) ⟨congrArg (fun z => some (Value.int z)) (by unfold f_ntzI; rw [if_pos hc1, if_neg hc2, if_pos hc10, if_neg hc11, if_pos hc13]; first | done | rfl), rfl, e0⟩
          · skip
            refine Owes.go ?_ fun t₀ k₀ => XS.icmpYes X0.here hx rfl (pc0 := 64) (pc' := 74) rfl (hb hby d9_64) rfl (flt hc13).2.2.2 (by decide) (by decide) k₀
            show Owes _ _ _ _ (s₁.setTop (mkF m 74 #[.val (.int ((((p0 ^^^ (-1 : Int32)) &&& (p0 - (1 : Int32))).toUInt32 >>> ((8 : Int32) &&& 31).toUInt32).toInt32)), .val (.int ((1 : Int32) + (8 : Int32)))] []))
            refine Owes.go ?_ fun t₀ k₀ => XS.iloadN X0.here hx rfl (hb hby d9_74) rfl k₀
            show Owes _ _ _ _ (s₁.setTop (mkF m 75 #[.val (.int ((((p0 ^^^ (-1 : Int32)) &&& (p0 - (1 : Int32))).toUInt32 >>> ((8 : Int32) &&& 31).toUInt32).toInt32)), .val (.int ((1 : Int32) + (8 : Int32)))] [(.int ((1 : Int32) + (8 : Int32)))]))
            refine Owes.go ?_ fun t₀ k₀ => XS.iloadN X0.here hx rfl (hb hby d9_75) rfl k₀
            show Owes _ _ _ _ (s₁.setTop (mkF m 76 #[.val (.int ((((p0 ^^^ (-1 : Int32)) &&& (p0 - (1 : Int32))).toUInt32 >>> ((8 : Int32) &&& 31).toUInt32).toInt32)), .val (.int ((1 : Int32) + (8 : Int32)))] [(.int ((((p0 ^^^ (-1 : Int32)) &&& (p0 - (1 : Int32))).toUInt32 >>> ((8 : Int32) &&& 31).toUInt32).toInt32)), (.int ((1 : Int32) + (8 : Int32)))]))
            refine Owes.go ?_ fun t₀ k₀ => XS.iconst X0.here hx rfl (hb hby d9_76) k₀
            show Owes _ _ _ _ (s₁.setTop (mkF m 77 #[.val (.int ((((p0 ^^^ (-1 : Int32)) &&& (p0 - (1 : Int32))).toUInt32 >>> ((8 : Int32) &&& 31).toUInt32).toInt32)), .val (.int ((1 : Int32) + (8 : Int32)))] [(.int (1 : Int32)), (.int ((((p0 ^^^ (-1 : Int32)) &&& (p0 - (1 : Int32))).toUInt32 >>> ((8 : Int32) &&& 31).toUInt32).toInt32)), (.int ((1 : Int32) + (8 : Int32)))]))
            refine Owes.go ?_ fun t₀ k₀ => XS.iushr X0.here hx rfl (hb hby d9_77) rfl k₀
            show Owes _ _ _ _ (s₁.setTop (mkF m 78 #[.val (.int ((((p0 ^^^ (-1 : Int32)) &&& (p0 - (1 : Int32))).toUInt32 >>> ((8 : Int32) &&& 31).toUInt32).toInt32)), .val (.int ((1 : Int32) + (8 : Int32)))] [(.int ((((((p0 ^^^ (-1 : Int32)) &&& (p0 - (1 : Int32))).toUInt32 >>> ((8 : Int32) &&& 31).toUInt32).toInt32).toUInt32 >>> ((1 : Int32) &&& 31).toUInt32).toInt32)), (.int ((1 : Int32) + (8 : Int32)))]))
            refine Owes.go ?_ fun t₀ k₀ => XS.iadd X0.here hx rfl (hb hby d9_78) rfl k₀
            show Owes _ _ _ _ (s₁.setTop (mkF m 79 #[.val (.int ((((p0 ^^^ (-1 : Int32)) &&& (p0 - (1 : Int32))).toUInt32 >>> ((8 : Int32) &&& 31).toUInt32).toInt32)), .val (.int ((1 : Int32) + (8 : Int32)))] [(.int (((1 : Int32) + (8 : Int32)) + ((((((p0 ^^^ (-1 : Int32)) &&& (p0 - (1 : Int32))).toUInt32 >>> ((8 : Int32) &&& 31).toUInt32).toInt32).toUInt32 >>> ((1 : Int32) &&& 31).toUInt32).toInt32)))]))
            exact Owes.retI X0 hx hlk hret (hb hby d9_79) (by decide) (by decide) ⟨congrArg (fun z => some (Value.int z)) (by unfold f_ntzI; rw [if_pos hc1, if_neg hc2, if_pos hc10, if_neg hc11, if_neg hc13]; first | done | rfl), rfl, e0⟩
      · skip
        refine Owes.go ?_ fun t₀ k₀ => XS.icmpYes X0.here hx rfl (pc0 := 38) (pc' := 49) rfl (hb hby d9_38) rfl (flt hc10).2.2.2 (by decide) (by decide) k₀
        show Owes _ _ _ _ (s₁.setTop (mkF m 49 #[.val (.int ((p0 ^^^ (-1 : Int32)) &&& (p0 - (1 : Int32)))), .val (.int (1 : Int32))] []))
        refine Owes.go ?_ fun t₀ k₀ => XS.iloadN X0.here hx rfl (hb hby d9_49) rfl k₀
        show Owes _ _ _ _ (s₁.setTop (mkF m 50 #[.val (.int ((p0 ^^^ (-1 : Int32)) &&& (p0 - (1 : Int32)))), .val (.int (1 : Int32))] [(.int ((p0 ^^^ (-1 : Int32)) &&& (p0 - (1 : Int32))))]))
        refine Owes.go ?_ fun t₀ k₀ => XS.bipush X0.here hx rfl (hb hby d9_50) k₀
        show Owes _ _ _ _ (s₁.setTop (mkF m 52 #[.val (.int ((p0 ^^^ (-1 : Int32)) &&& (p0 - (1 : Int32)))), .val (.int (1 : Int32))] [(.int (16 : Int32)), (.int ((p0 ^^^ (-1 : Int32)) &&& (p0 - (1 : Int32))))]))
        by_cases hc14 : (16 : Int32) < ((p0 ^^^ (-1 : Int32)) &&& (p0 - (1 : Int32)))
        · skip
          refine Owes.go ?_ fun t₀ k₀ => XS.icmpNo X0.here hx rfl (hb hby d9_52) rfl (tlt hc14).2.2.2 k₀
          show Owes _ _ _ _ (s₁.setTop (mkF m 55 #[.val (.int ((p0 ^^^ (-1 : Int32)) &&& (p0 - (1 : Int32)))), .val (.int (1 : Int32))] []))
          refine Owes.go ?_ fun t₀ k₀ => XS.iinc X0.here hx rfl (hb hby d9_55) rfl (l' := #[.val (.int ((p0 ^^^ (-1 : Int32)) &&& (p0 - (1 : Int32)))), .val (.int ((1 : Int32) + (4 : Int32)))]) rfl k₀
          show Owes _ _ _ _ (s₁.setTop (mkF m 58 #[.val (.int ((p0 ^^^ (-1 : Int32)) &&& (p0 - (1 : Int32)))), .val (.int ((1 : Int32) + (4 : Int32)))] []))
          refine Owes.go ?_ fun t₀ k₀ => XS.iloadN X0.here hx rfl (hb hby d9_58) rfl k₀
          show Owes _ _ _ _ (s₁.setTop (mkF m 59 #[.val (.int ((p0 ^^^ (-1 : Int32)) &&& (p0 - (1 : Int32)))), .val (.int ((1 : Int32) + (4 : Int32)))] [(.int ((p0 ^^^ (-1 : Int32)) &&& (p0 - (1 : Int32))))]))
          refine Owes.go ?_ fun t₀ k₀ => XS.iconst X0.here hx rfl (hb hby d9_59) k₀
          show Owes _ _ _ _ (s₁.setTop (mkF m 60 #[.val (.int ((p0 ^^^ (-1 : Int32)) &&& (p0 - (1 : Int32)))), .val (.int ((1 : Int32) + (4 : Int32)))] [(.int (4 : Int32)), (.int ((p0 ^^^ (-1 : Int32)) &&& (p0 - (1 : Int32))))]))
          refine Owes.go ?_ fun t₀ k₀ => XS.iushr X0.here hx rfl (hb hby d9_60) rfl k₀
          show Owes _ _ _ _ (s₁.setTop (mkF m 61 #[.val (.int ((p0 ^^^ (-1 : Int32)) &&& (p0 - (1 : Int32)))), .val (.int ((1 : Int32) + (4 : Int32)))] [(.int ((((p0 ^^^ (-1 : Int32)) &&& (p0 - (1 : Int32))).toUInt32 >>> ((4 : Int32) &&& 31).toUInt32).toInt32))]))
          refine Owes.go ?_ fun t₀ k₀ => XS.istoreN X0.here hx rfl (hb hby d9_61) rfl (l' := #[.val (.int ((((p0 ^^^ (-1 : Int32)) &&& (p0 - (1 : Int32))).toUInt32 >>> ((4 : Int32) &&& 31).toUInt32).toInt32)), .val (.int ((1 : Int32) + (4 : Int32)))]) rfl k₀
          show Owes _ _ _ _ (s₁.setTop (mkF m 62 #[.val (.int ((((p0 ^^^ (-1 : Int32)) &&& (p0 - (1 : Int32))).toUInt32 >>> ((4 : Int32) &&& 31).toUInt32).toInt32)), .val (.int ((1 : Int32) + (4 : Int32)))] []))
          refine Owes.go ?_ fun t₀ k₀ => XS.iloadN X0.here hx rfl (hb hby d9_62) rfl k₀
          show Owes _ _ _ _ (s₁.setTop (mkF m 63 #[.val (.int ((((p0 ^^^ (-1 : Int32)) &&& (p0 - (1 : Int32))).toUInt32 >>> ((4 : Int32) &&& 31).toUInt32).toInt32)), .val (.int ((1 : Int32) + (4 : Int32)))] [(.int ((((p0 ^^^ (-1 : Int32)) &&& (p0 - (1 : Int32))).toUInt32 >>> ((4 : Int32) &&& 31).toUInt32).toInt32))]))
          refine Owes.go ?_ fun t₀ k₀ => XS.iconst X0.here hx rfl (hb hby d9_63) k₀
          show Owes _ _ _ _ (s₁.setTop (mkF m 64 #[.val (.int ((((p0 ^^^ (-1 : Int32)) &&& (p0 - (1 : Int32))).toUInt32 >>> ((4 : Int32) &&& 31).toUInt32).toInt32)), .val (.int ((1 : Int32) + (4 : Int32)))] [(.int (4 : Int32)), (.int ((((p0 ^^^ (-1 : Int32)) &&& (p0 - (1 : Int32))).toUInt32 >>> ((4 : Int32) &&& 31).toUInt32).toInt32))]))
          by_cases hc15 : (4 : Int32) < ((((p0 ^^^ (-1 : Int32)) &&& (p0 - (1 : Int32))).toUInt32 >>> ((4 : Int32) &&& 31).toUInt32).toInt32)
          · skip
            refine Owes.go ?_ fun t₀ k₀ => XS.icmpNo X0.here hx rfl (hb hby d9_64) rfl (tlt hc15).2.2.2 k₀
            show Owes _ _ _ _ (s₁.setTop (mkF m 67 #[.val (.int ((((p0 ^^^ (-1 : Int32)) &&& (p0 - (1 : Int32))).toUInt32 >>> ((4 : Int32) &&& 31).toUInt32).toInt32)), .val (.int ((1 : Int32) + (4 : Int32)))] []))
            refine Owes.go ?_ fun t₀ k₀ => XS.iinc X0.here hx rfl (hb hby d9_67) rfl (l' := #[.val (.int ((((p0 ^^^ (-1 : Int32)) &&& (p0 - (1 : Int32))).toUInt32 >>> ((4 : Int32) &&& 31).toUInt32).toInt32)), .val (.int (((1 : Int32) + (4 : Int32)) + (2 : Int32)))]) rfl k₀
            show Owes _ _ _ _ (s₁.setTop (mkF m 70 #[.val (.int ((((p0 ^^^ (-1 : Int32)) &&& (p0 - (1 : Int32))).toUInt32 >>> ((4 : Int32) &&& 31).toUInt32).toInt32)), .val (.int (((1 : Int32) + (4 : Int32)) + (2 : Int32)))] []))
            refine Owes.go ?_ fun t₀ k₀ => XS.iloadN X0.here hx rfl (hb hby d9_70) rfl k₀
            show Owes _ _ _ _ (s₁.setTop (mkF m 71 #[.val (.int ((((p0 ^^^ (-1 : Int32)) &&& (p0 - (1 : Int32))).toUInt32 >>> ((4 : Int32) &&& 31).toUInt32).toInt32)), .val (.int (((1 : Int32) + (4 : Int32)) + (2 : Int32)))] [(.int ((((p0 ^^^ (-1 : Int32)) &&& (p0 - (1 : Int32))).toUInt32 >>> ((4 : Int32) &&& 31).toUInt32).toInt32))]))
            refine Owes.go ?_ fun t₀ k₀ => XS.iconst X0.here hx rfl (hb hby d9_71) k₀
            show Owes _ _ _ _ (s₁.setTop (mkF m 72 #[.val (.int ((((p0 ^^^ (-1 : Int32)) &&& (p0 - (1 : Int32))).toUInt32 >>> ((4 : Int32) &&& 31).toUInt32).toInt32)), .val (.int (((1 : Int32) + (4 : Int32)) + (2 : Int32)))] [(.int (2 : Int32)), (.int ((((p0 ^^^ (-1 : Int32)) &&& (p0 - (1 : Int32))).toUInt32 >>> ((4 : Int32) &&& 31).toUInt32).toInt32))]))
            refine Owes.go ?_ fun t₀ k₀ => XS.iushr X0.here hx rfl (hb hby d9_72) rfl k₀
            show Owes _ _ _ _ (s₁.setTop (mkF m 73 #[.val (.int ((((p0 ^^^ (-1 : Int32)) &&& (p0 - (1 : Int32))).toUInt32 >>> ((4 : Int32) &&& 31).toUInt32).toInt32)), .val (.int (((1 : Int32) + (4 : Int32)) + (2 : Int32)))] [(.int ((((((p0 ^^^ (-1 : Int32)) &&& (p0 - (1 : Int32))).toUInt32 >>> ((4 : Int32) &&& 31).toUInt32).toInt32).toUInt32 >>> ((2 : Int32) &&& 31).toUInt32).toInt32))]))
            refine Owes.go ?_ fun t₀ k₀ => XS.istoreN X0.here hx rfl (hb hby d9_73) rfl (l' := #[.val (.int ((((((p0 ^^^ (-1 : Int32)) &&& (p0 - (1 : Int32))).toUInt32 >>> ((4 : Int32) &&& 31).toUInt32).toInt32).toUInt32 >>> ((2 : Int32) &&& 31).toUInt32).toInt32)), .val (.int (((1 : Int32) + (4 : Int32)) + (2 : Int32)))]) rfl k₀
            show Owes _ _ _ _ (s₁.setTop (mkF m 74 #[.val (.int ((((((p0 ^^^ (-1 : Int32)) &&& (p0 - (1 : Int32))).toUInt32 >>> ((4 : Int32) &&& 31).toUInt32).toInt32).toUInt32 >>> ((2 : Int32) &&& 31).toUInt32).toInt32)), .val (.int (((1 : Int32) + (4 : Int32)) + (2 : Int32)))] []))
            refine Owes.go ?_ fun t₀ k₀ => XS.iloadN X0.here hx rfl (hb hby d9_74) rfl k₀
            show Owes _ _ _ _ (s₁.setTop (mkF m 75 #[.val (.int ((((((p0 ^^^ (-1 : Int32)) &&& (p0 - (1 : Int32))).toUInt32 >>> ((4 : Int32) &&& 31).toUInt32).toInt32).toUInt32 >>> ((2 : Int32) &&& 31).toUInt32).toInt32)), .val (.int (((1 : Int32) + (4 : Int32)) + (2 : Int32)))] [(.int (((1 : Int32) + (4 : Int32)) + (2 : Int32)))]))
            refine Owes.go ?_ fun t₀ k₀ => XS.iloadN X0.here hx rfl (hb hby d9_75) rfl k₀
            show Owes _ _ _ _ (s₁.setTop (mkF m 76 #[.val (.int ((((((p0 ^^^ (-1 : Int32)) &&& (p0 - (1 : Int32))).toUInt32 >>> ((4 : Int32) &&& 31).toUInt32).toInt32).toUInt32 >>> ((2 : Int32) &&& 31).toUInt32).toInt32)), .val (.int (((1 : Int32) + (4 : Int32)) + (2 : Int32)))] [(.int ((((((p0 ^^^ (-1 : Int32)) &&& (p0 - (1 : Int32))).toUInt32 >>> ((4 : Int32) &&& 31).toUInt32).toInt32).toUInt32 >>> ((2 : Int32) &&& 31).toUInt32).toInt32)), (.int (((1 : Int32) + (4 : Int32)) + (2 : Int32)))]))
            refine Owes.go ?_ fun t₀ k₀ => XS.iconst X0.here hx rfl (hb hby d9_76) k₀
            show Owes _ _ _ _ (s₁.setTop (mkF m 77 #[.val (.int ((((((p0 ^^^ (-1 : Int32)) &&& (p0 - (1 : Int32))).toUInt32 >>> ((4 : Int32) &&& 31).toUInt32).toInt32).toUInt32 >>> ((2 : Int32) &&& 31).toUInt32).toInt32)), .val (.int (((1 : Int32) + (4 : Int32)) + (2 : Int32)))] [(.int (1 : Int32)), (.int ((((((p0 ^^^ (-1 : Int32)) &&& (p0 - (1 : Int32))).toUInt32 >>> ((4 : Int32) &&& 31).toUInt32).toInt32).toUInt32 >>> ((2 : Int32) &&& 31).toUInt32).toInt32)), (.int (((1 : Int32) + (4 : Int32)) + (2 : Int32)))]))
            refine Owes.go ?_ fun t₀ k₀ => XS.iushr X0.here hx rfl (hb hby d9_77) rfl k₀
            show Owes _ _ _ _ (s₁.setTop (mkF m 78 #[.val (.int ((((((p0 ^^^ (-1 : Int32)) &&& (p0 - (1 : Int32))).toUInt32 >>> ((4 : Int32) &&& 31).toUInt32).toInt32).toUInt32 >>> ((2 : Int32) &&& 31).toUInt32).toInt32)), .val (.int (((1 : Int32) + (4 : Int32)) + (2 : Int32)))] [(.int ((((((((p0 ^^^ (-1 : Int32)) &&& (p0 - (1 : Int32))).toUInt32 >>> ((4 : Int32) &&& 31).toUInt32).toInt32).toUInt32 >>> ((2 : Int32) &&& 31).toUInt32).toInt32).toUInt32 >>> ((1 : Int32) &&& 31).toUInt32).toInt32)), (.int (((1 : Int32) + (4 : Int32)) + (2 : Int32)))]))
            refine Owes.go ?_ fun t₀ k₀ => XS.iadd X0.here hx rfl (hb hby d9_78) rfl k₀
            show Owes _ _ _ _ (s₁.setTop (mkF m 79 #[.val (.int ((((((p0 ^^^ (-1 : Int32)) &&& (p0 - (1 : Int32))).toUInt32 >>> ((4 : Int32) &&& 31).toUInt32).toInt32).toUInt32 >>> ((2 : Int32) &&& 31).toUInt32).toInt32)), .val (.int (((1 : Int32) + (4 : Int32)) + (2 : Int32)))] [(.int ((((1 : Int32) + (4 : Int32)) + (2 : Int32)) + ((((((((p0 ^^^ (-1 : Int32)) &&& (p0 - (1 : Int32))).toUInt32 >>> ((4 : Int32) &&& 31).toUInt32).toInt32).toUInt32 >>> ((2 : Int32) &&& 31).toUInt32).toInt32).toUInt32 >>> ((1 : Int32) &&& 31).toUInt32).toInt32)))]))
            exact Owes.retI X0 hx hlk hret (hb hby d9_79) (by decide) (by decide) ⟨congrArg (fun z => some (Value.int z)) (by unfold f_ntzI; rw [if_pos hc1, if_neg hc2, if_neg hc10, if_pos hc14, if_pos hc15]; first | done | rfl), rfl, e0⟩
          · skip
            refine Owes.go ?_ fun t₀ k₀ => XS.icmpYes X0.here hx rfl (pc0 := 64) (pc' := 74) rfl (hb hby d9_64) rfl (flt hc15).2.2.2 (by decide) (by decide) k₀
            show Owes _ _ _ _ (s₁.setTop (mkF m 74 #[.val (.int ((((p0 ^^^ (-1 : Int32)) &&& (p0 - (1 : Int32))).toUInt32 >>> ((4 : Int32) &&& 31).toUInt32).toInt32)), .val (.int ((1 : Int32) + (4 : Int32)))] []))
            refine Owes.go ?_ fun t₀ k₀ => XS.iloadN X0.here hx rfl (hb hby d9_74) rfl k₀
            show Owes _ _ _ _ (s₁.setTop (mkF m 75 #[.val (.int ((((p0 ^^^ (-1 : Int32)) &&& (p0 - (1 : Int32))).toUInt32 >>> ((4 : Int32) &&& 31).toUInt32).toInt32)), .val (.int ((1 : Int32) + (4 : Int32)))] [(.int ((1 : Int32) + (4 : Int32)))]))
            refine Owes.go ?_ fun t₀ k₀ => XS.iloadN X0.here hx rfl (hb hby d9_75) rfl k₀
            show Owes _ _ _ _ (s₁.setTop (mkF m 76 #[.val (.int ((((p0 ^^^ (-1 : Int32)) &&& (p0 - (1 : Int32))).toUInt32 >>> ((4 : Int32) &&& 31).toUInt32).toInt32)), .val (.int ((1 : Int32) + (4 : Int32)))] [(.int ((((p0 ^^^ (-1 : Int32)) &&& (p0 - (1 : Int32))).toUInt32 >>> ((4 : Int32) &&& 31).toUInt32).toInt32)), (.int ((1 : Int32) + (4 : Int32)))]))
            refine Owes.go ?_ fun t₀ k₀ => XS.iconst X0.here hx rfl (hb hby d9_76) k₀
            show Owes _ _ _ _ (s₁.setTop (mkF m 77 #[.val (.int ((((p0 ^^^ (-1 : Int32)) &&& (p0 - (1 : Int32))).toUInt32 >>> ((4 : Int32) &&& 31).toUInt32).toInt32)), .val (.int ((1 : Int32) + (4 : Int32)))] [(.int (1 : Int32)), (.int ((((p0 ^^^ (-1 : Int32)) &&& (p0 - (1 : Int32))).toUInt32 >>> ((4 : Int32) &&& 31).toUInt32).toInt32)), (.int ((1 : Int32) + (4 : Int32)))]))
            refine Owes.go ?_ fun t₀ k₀ => XS.iushr X0.here hx rfl (hb hby d9_77) rfl k₀
            show Owes _ _ _ _ (s₁.setTop (mkF m 78 #[.val (.int ((((p0 ^^^ (-1 : Int32)) &&& (p0 - (1 : Int32))).toUInt32 >>> ((4 : Int32) &&& 31).toUInt32).toInt32)), .val (.int ((1 : Int32) + (4 : Int32)))] [(.int ((((((p0 ^^^ (-1 : Int32)) &&& (p0 - (1 : Int32))).toUInt32 >>> ((4 : Int32) &&& 31).toUInt32).toInt32).toUInt32 >>> ((1 : Int32) &&& 31).toUInt32).toInt32)), (.int ((1 : Int32) + (4 : Int32)))]))
            refine Owes.go ?_ fun t₀ k₀ => XS.iadd X0.here hx rfl (hb hby d9_78) rfl k₀
            show Owes _ _ _ _ (s₁.setTop (mkF m 79 #[.val (.int ((((p0 ^^^ (-1 : Int32)) &&& (p0 - (1 : Int32))).toUInt32 >>> ((4 : Int32) &&& 31).toUInt32).toInt32)), .val (.int ((1 : Int32) + (4 : Int32)))] [(.int (((1 : Int32) + (4 : Int32)) + ((((((p0 ^^^ (-1 : Int32)) &&& (p0 - (1 : Int32))).toUInt32 >>> ((4 : Int32) &&& 31).toUInt32).toInt32).toUInt32 >>> ((1 : Int32) &&& 31).toUInt32).toInt32)))]))
            exact Owes.retI X0 hx hlk hret (hb hby d9_79) (by decide) (by decide) ⟨congrArg (fun z => some (Value.int z)) (by unfold f_ntzI; rw [if_pos hc1, if_neg hc2, if_neg hc10, if_pos hc14, if_neg hc15]; first | done | rfl), rfl, e0⟩
        · skip
          refine Owes.go ?_ fun t₀ k₀ => XS.icmpYes X0.here hx rfl (pc0 := 52) (pc' := 62) rfl (hb hby d9_52) rfl (flt hc14).2.2.2 (by decide) (by decide) k₀
          show Owes _ _ _ _ (s₁.setTop (mkF m 62 #[.val (.int ((p0 ^^^ (-1 : Int32)) &&& (p0 - (1 : Int32)))), .val (.int (1 : Int32))] []))
          refine Owes.go ?_ fun t₀ k₀ => XS.iloadN X0.here hx rfl (hb hby d9_62) rfl k₀
          show Owes _ _ _ _ (s₁.setTop (mkF m 63 #[.val (.int ((p0 ^^^ (-1 : Int32)) &&& (p0 - (1 : Int32)))), .val (.int (1 : Int32))] [(.int ((p0 ^^^ (-1 : Int32)) &&& (p0 - (1 : Int32))))]))
          refine Owes.go ?_ fun t₀ k₀ => XS.iconst X0.here hx rfl (hb hby d9_63) k₀
          show Owes _ _ _ _ (s₁.setTop (mkF m 64 #[.val (.int ((p0 ^^^ (-1 : Int32)) &&& (p0 - (1 : Int32)))), .val (.int (1 : Int32))] [(.int (4 : Int32)), (.int ((p0 ^^^ (-1 : Int32)) &&& (p0 - (1 : Int32))))]))
          by_cases hc16 : (4 : Int32) < ((p0 ^^^ (-1 : Int32)) &&& (p0 - (1 : Int32)))
          · skip
            refine Owes.go ?_ fun t₀ k₀ => XS.icmpNo X0.here hx rfl (hb hby d9_64) rfl (tlt hc16).2.2.2 k₀
            show Owes _ _ _ _ (s₁.setTop (mkF m 67 #[.val (.int ((p0 ^^^ (-1 : Int32)) &&& (p0 - (1 : Int32)))), .val (.int (1 : Int32))] []))
            refine Owes.go ?_ fun t₀ k₀ => XS.iinc X0.here hx rfl (hb hby d9_67) rfl (l' := #[.val (.int ((p0 ^^^ (-1 : Int32)) &&& (p0 - (1 : Int32)))), .val (.int ((1 : Int32) + (2 : Int32)))]) rfl k₀
            show Owes _ _ _ _ (s₁.setTop (mkF m 70 #[.val (.int ((p0 ^^^ (-1 : Int32)) &&& (p0 - (1 : Int32)))), .val (.int ((1 : Int32) + (2 : Int32)))] []))
            refine Owes.go ?_ fun t₀ k₀ => XS.iloadN X0.here hx rfl (hb hby d9_70) rfl k₀
            show Owes _ _ _ _ (s₁.setTop (mkF m 71 #[.val (.int ((p0 ^^^ (-1 : Int32)) &&& (p0 - (1 : Int32)))), .val (.int ((1 : Int32) + (2 : Int32)))] [(.int ((p0 ^^^ (-1 : Int32)) &&& (p0 - (1 : Int32))))]))
            refine Owes.go ?_ fun t₀ k₀ => XS.iconst X0.here hx rfl (hb hby d9_71) k₀
            show Owes _ _ _ _ (s₁.setTop (mkF m 72 #[.val (.int ((p0 ^^^ (-1 : Int32)) &&& (p0 - (1 : Int32)))), .val (.int ((1 : Int32) + (2 : Int32)))] [(.int (2 : Int32)), (.int ((p0 ^^^ (-1 : Int32)) &&& (p0 - (1 : Int32))))]))
            refine Owes.go ?_ fun t₀ k₀ => XS.iushr X0.here hx rfl (hb hby d9_72) rfl k₀
            show Owes _ _ _ _ (s₁.setTop (mkF m 73 #[.val (.int ((p0 ^^^ (-1 : Int32)) &&& (p0 - (1 : Int32)))), .val (.int ((1 : Int32) + (2 : Int32)))] [(.int ((((p0 ^^^ (-1 : Int32)) &&& (p0 - (1 : Int32))).toUInt32 >>> ((2 : Int32) &&& 31).toUInt32).toInt32))]))
            refine Owes.go ?_ fun t₀ k₀ => XS.istoreN X0.here hx rfl (hb hby d9_73) rfl (l' := #[.val (.int ((((p0 ^^^ (-1 : Int32)) &&& (p0 - (1 : Int32))).toUInt32 >>> ((2 : Int32) &&& 31).toUInt32).toInt32)), .val (.int ((1 : Int32) + (2 : Int32)))]) rfl k₀
            show Owes _ _ _ _ (s₁.setTop (mkF m 74 #[.val (.int ((((p0 ^^^ (-1 : Int32)) &&& (p0 - (1 : Int32))).toUInt32 >>> ((2 : Int32) &&& 31).toUInt32).toInt32)), .val (.int ((1 : Int32) + (2 : Int32)))] []))
            refine Owes.go ?_ fun t₀ k₀ => XS.iloadN X0.here hx rfl (hb hby d9_74) rfl k₀
            show Owes _ _ _ _ (s₁.setTop (mkF m 75 #[.val (.int ((((p0 ^^^ (-1 : Int32)) &&& (p0 - (1 : Int32))).toUInt32 >>> ((2 : Int32) &&& 31).toUInt32).toInt32)), .val (.int ((1 : Int32) + (2 : Int32)))] [(.int ((1 : Int32) + (2 : Int32)))]))
            refine Owes.go ?_ fun t₀ k₀ => XS.iloadN X0.here hx rfl (hb hby d9_75) rfl k₀
            show Owes _ _ _ _ (s₁.setTop (mkF m 76 #[.val (.int ((((p0 ^^^ (-1 : Int32)) &&& (p0 - (1 : Int32))).toUInt32 >>> ((2 : Int32) &&& 31).toUInt32).toInt32)), .val (.int ((1 : Int32) + (2 : Int32)))] [(.int ((((p0 ^^^ (-1 : Int32)) &&& (p0 - (1 : Int32))).toUInt32 >>> ((2 : Int32) &&& 31).toUInt32).toInt32)), (.int ((1 : Int32) + (2 : Int32)))]))
            refine Owes.go ?_ fun t₀ k₀ => XS.iconst X0.here hx rfl (hb hby d9_76) k₀
            show Owes _ _ _ _ (s₁.setTop (mkF m 77 #[.val (.int ((((p0 ^^^ (-1 : Int32)) &&& (p0 - (1 : Int32))).toUInt32 >>> ((2 : Int32) &&& 31).toUInt32).toInt32)), .val (.int ((1 : Int32) + (2 : Int32)))] [(.int (1 : Int32)), (.int ((((p0 ^^^ (-1 : Int32)) &&& (p0 - (1 : Int32))).toUInt32 >>> ((2 : Int32) &&& 31).toUInt32).toInt32)), (.int ((1 : Int32) + (2 : Int32)))]))
            refine Owes.go ?_ fun t₀ k₀ => XS.iushr X0.here hx rfl (hb hby d9_77) rfl k₀
            show Owes _ _ _ _ (s₁.setTop (mkF m 78 #[.val (.int ((((p0 ^^^ (-1 : Int32)) &&& (p0 - (1 : Int32))).toUInt32 >>> ((2 : Int32) &&& 31).toUInt32).toInt32)), .val (.int ((1 : Int32) + (2 : Int32)))] [(.int ((((((p0 ^^^ (-1 : Int32)) &&& (p0 - (1 : Int32))).toUInt32 >>> ((2 : Int32) &&& 31).toUInt32).toInt32).toUInt32 >>> ((1 : Int32) &&& 31).toUInt32).toInt32)), (.int ((1 : Int32) + (2 : Int32)))]))
            refine Owes.go ?_ fun t₀ k₀ => XS.iadd X0.here hx rfl (hb hby d9_78) rfl k₀
            show Owes _ _ _ _ (s₁.setTop (mkF m 79 #[.val (.int ((((p0 ^^^ (-1 : Int32)) &&& (p0 - (1 : Int32))).toUInt32 >>> ((2 : Int32) &&& 31).toUInt32).toInt32)), .val (.int ((1 : Int32) + (2 : Int32)))] [(.int (((1 : Int32) + (2 : Int32)) + ((((((p0 ^^^ (-1 : Int32)) &&& (p0 - (1 : Int32))).toUInt32 >>> ((2 : Int32) &&& 31).toUInt32).toInt32).toUInt32 >>> ((1 : Int32) &&& 31).toUInt32).toInt32)))]))
            exact Owes.retI X0 hx hlk hret (hb hby d9_79) (by decide) (by decide) ⟨congrArg (fun z => some (Value.int z)) (by unfold f_ntzI; rw [if_pos hc1, if_neg hc2, if_neg hc10, if_neg hc14, if_pos hc16]; first | done | rfl), rfl, e0⟩
          · skip
            refine Owes.go ?_ fun t₀ k₀ => XS.icmpYes X0.here hx rfl (pc0 := 64) (pc' := 74) rfl (hb hby d9_64) rfl (flt hc16).2.2.2 (by decide) (by decide) k₀
            show Owes _ _ _ _ (s₁.setTop (mkF m 74 #[.val (.int ((p0 ^^^ (-1 : Int32)) &&& (p0 - (1 : Int32)))), .val (.int (1 : Int32))] []))
            refine Owes.go ?_ fun t₀ k₀ => XS.iloadN X0.here hx rfl (hb hby d9_74) rfl k₀
            show Owes _ _ _ _ (s₁.setTop (mkF m 75 #[.val (.int ((p0 ^^^ (-1 : Int32)) &&& (p0 - (1 : Int32)))), .val (.int (1 : Int32))] [(.int (1 : Int32))]))
            refine Owes.go ?_ fun t₀ k₀ => XS.iloadN X0.here hx rfl (hb hby d9_75) rfl k₀
            show Owes _ _ _ _ (s₁.setTop (mkF m 76 #[.val (.int ((p0 ^^^ (-1 : Int32)) &&& (p0 - (1 : Int32)))), .val (.int (1 : Int32))] [(.int ((p0 ^^^ (-1 : Int32)) &&& (p0 - (1 : Int32)))), (.int (1 : Int32))]))
            refine Owes.go ?_ fun t₀ k₀ => XS.iconst X0.here hx rfl (hb hby d9_76) k₀
            show Owes _ _ _ _ (s₁.setTop (mkF m 77 #[.val (.int ((p0 ^^^ (-1 : Int32)) &&& (p0 - (1 : Int32)))), .val (.int (1 : Int32))] [(.int (1 : Int32)), (.int ((p0 ^^^ (-1 : Int32)) &&& (p0 - (1 : Int32)))), (.int (1 : Int32))]))
            refine Owes.go ?_ fun t₀ k₀ => XS.iushr X0.here hx rfl (hb hby d9_77) rfl k₀
            show Owes _ _ _ _ (s₁.setTop (mkF m 78 #[.val (.int ((p0 ^^^ (-1 : Int32)) &&& (p0 - (1 : Int32)))), .val (.int (1 : Int32))] [(.int ((((p0 ^^^ (-1 : Int32)) &&& (p0 - (1 : Int32))).toUInt32 >>> ((1 : Int32) &&& 31).toUInt32).toInt32)), (.int (1 : Int32))]))
            refine Owes.go ?_ fun t₀ k₀ => XS.iadd X0.here hx rfl (hb hby d9_78) rfl k₀
            show Owes _ _ _ _ (s₁.setTop (mkF m 79 #[.val (.int ((p0 ^^^ (-1 : Int32)) &&& (p0 - (1 : Int32)))), .val (.int (1 : Int32))] [(.int ((1 : Int32) + ((((p0 ^^^ (-1 : Int32)) &&& (p0 - (1 : Int32))).toUInt32 >>> ((1 : Int32) &&& 31).toUInt32).toInt32)))]))
            exact Owes.retI X0 hx hlk hret (hb hby d9_79) (by decide) (by decide) ⟨congrArg (fun z => some (Value.int z)) (by unfold f_ntzI; rw [if_pos hc1, if_neg hc2, if_neg hc10, if_neg hc14, if_neg hc16]; first | done | rfl), rfl, e0⟩
  · skip
    refine Owes.go ?_ fun t₀ k₀ => XS.ifNo X0.here hx rfl (hb hby d9_9) rfl ((if0 _ _).trans (flt hc1).2.2.1) k₀
    show Owes _ _ _ _ (s₁.setTop (mkF m 12 #[.val (.int ((p0 ^^^ (-1 : Int32)) &&& (p0 - (1 : Int32)))), .unset] []))
    refine Owes.go ?_ fun t₀ k₀ => XS.iloadN X0.here hx rfl (hb hby d9_12) rfl k₀
    show Owes _ _ _ _ (s₁.setTop (mkF m 13 #[.val (.int ((p0 ^^^ (-1 : Int32)) &&& (p0 - (1 : Int32)))), .unset] [(.int ((p0 ^^^ (-1 : Int32)) &&& (p0 - (1 : Int32))))]))
    refine Owes.go ?_ fun t₀ k₀ => XS.bipush X0.here hx rfl (hb hby d9_13) k₀
    show Owes _ _ _ _ (s₁.setTop (mkF m 15 #[.val (.int ((p0 ^^^ (-1 : Int32)) &&& (p0 - (1 : Int32)))), .unset] [(.int (32 : Int32)), (.int ((p0 ^^^ (-1 : Int32)) &&& (p0 - (1 : Int32))))]))
    refine Owes.go ?_ fun t₀ k₀ => XS.iand X0.here hx rfl (hb hby d9_15) rfl k₀
    show Owes _ _ _ _ (s₁.setTop (mkF m 16 #[.val (.int ((p0 ^^^ (-1 : Int32)) &&& (p0 - (1 : Int32)))), .unset] [(.int (((p0 ^^^ (-1 : Int32)) &&& (p0 - (1 : Int32))) &&& (32 : Int32)))]))
    exact Owes.retI X0 hx hlk hret (hb hby d9_16) (by decide) (by decide) ⟨congrArg (fun z => some (Value.int z)) (by unfold f_ntzI; rw [if_neg hc1]; first | done | rfl), rfl, e0⟩
theorem d8_0 : decode jdk_35_method_49_code 0 = .ok (.lload_n 0, 1) := by decide +kernel
theorem d8_1 : decode jdk_35_method_49_code 1 = .ok (.l2i, 1) := by decide +kernel
theorem d8_2 : decode jdk_35_method_49_code 2 = .ok (.istore_n 2, 1) := by decide +kernel
theorem d8_3 : decode jdk_35_method_49_code 3 = .ok (.iload_n 2, 1) := by decide +kernel
theorem d8_4 : decode jdk_35_method_49_code 4 = .ok (.ifCond .ne 17, 3) := by decide +kernel
theorem d8_7 : decode jdk_35_method_49_code 7 = .ok (.bipush 32, 2) := by decide +kernel
theorem d8_9 : decode jdk_35_method_49_code 9 = .ok (.lload_n 0, 1) := by decide +kernel
theorem d8_10 : decode jdk_35_method_49_code 10 = .ok (.bipush 32, 2) := by decide +kernel
theorem d8_12 : decode jdk_35_method_49_code 12 = .ok (.lushr, 1) := by decide +kernel
theorem d8_13 : decode jdk_35_method_49_code 13 = .ok (.l2i, 1) := by decide +kernel
theorem d8_14 : decode jdk_35_method_49_code 14 = .ok (.invokestatic 311, 3) := by decide +kernel
theorem pd_0 : parseMethodDescriptor "(I)I" = some ⟨[.int], some .int⟩ := by decide +kernel
theorem d8_17 : decode jdk_35_method_49_code 17 = .ok (.iadd, 1) := by decide +kernel
theorem d8_18 : decode jdk_35_method_49_code 18 = .ok (.goto 7, 3) := by decide +kernel
theorem d8_25 : decode jdk_35_method_49_code 25 = .ok (.ireturn, 1) := by decide +kernel
theorem d8_21 : decode jdk_35_method_49_code 21 = .ok (.iload_n 2, 1) := by decide +kernel
theorem d8_22 : decode jdk_35_method_49_code 22 = .ok (.invokestatic 311, 3) := by decide +kernel
def f_ntzJ (q0 : Int64)  : Int32 := (if (q0.toInt32) = (0 : Int32) then ((32 : Int32) + (f_ntzI (((q0.toUInt64 >>> ((32 : Int32) &&& 0x3f).toInt64.toUInt64).toInt64).toInt32))) else (f_ntzI (q0.toInt32)))
theorem ef_8_f_ntzJ (m : MethodId) (q0 : Int64) : entryFrame m #[(.long q0)] 3 = mkF m 0 #[.val (.long q0), .second, .unset] [] := by first | (simp [entryFrame, mkF, argsToLocals, Value.category]; done) | rfl
theorem pn_8 : plainFor (⟨"java/lang/Long", "numberOfTrailingZeros", "(J)I"⟩ : MethodName) = true := plainFor_of_name (by first | (simp [plainName, overriddenIn]; done) | decide +kernel)
set_option maxRecDepth 65536 in
set_option maxHeartbeats 40000000 in
theorem rm_f_ntzJ (l : Launch) (Z : State) (a0 : Array Value) (hw : ∀ d ∈ tables_1, d.before a0 Z = true) (ws : List Jvm.Cond) (q0 : Int64) (h0 : Heap)  :
    OMet l (⟨"java/lang/Long", "numberOfTrailingZeros", "(J)I"⟩ : MethodName) jdk_35_method_49_code 3 (some .int) ws ({ frames := 1, cells := 0, slots := 0, locals := 14 } : Room) #[(.long q0)] Z h0 (fun v h L => v = some (Value.int (f_ntzJ q0)) ∧ L = [] ∧ h = h0) := by
  refine OMet.of pn_8 (fun m => ef_8_f_ntzJ m q0) ?_
  intro p e s m below meth c s₁ hx hby hml hown hnm hret hlk hZ X0 e0
  refine Owes.go ?_ fun t₀ k₀ => XS.lloadN X0.here hx rfl (hb hby d8_0) rfl k₀
  show Owes _ _ _ _ (s₁.setTop (mkF m 1 #[.val (.long q0), .second, .unset] [(.long q0)]))
  refine Owes.go ?_ fun t₀ k₀ => XS.l2i X0.here hx rfl (hb hby d8_1) rfl k₀
  show Owes _ _ _ _ (s₁.setTop (mkF m 2 #[.val (.long q0), .second, .unset] [(.int (q0.toInt32))]))
  refine Owes.go ?_ fun t₀ k₀ => XS.istoreN X0.here hx rfl (hb hby d8_2) rfl (l' := #[.val (.long q0), .second, .val (.int (q0.toInt32))]) rfl k₀
  show Owes _ _ _ _ (s₁.setTop (mkF m 3 #[.val (.long q0), .second, .val (.int (q0.toInt32))] []))
  refine Owes.go ?_ fun t₀ k₀ => XS.iloadN X0.here hx rfl (hb hby d8_3) rfl k₀
  show Owes _ _ _ _ (s₁.setTop (mkF m 4 #[.val (.long q0), .second, .val (.int (q0.toInt32))] [(.int (q0.toInt32))]))
  by_cases hc1 : (q0.toInt32) = (0 : Int32)
  · skip
    refine Owes.go ?_ fun t₀ k₀ => XS.ifNo X0.here hx rfl (hb hby d8_4) rfl ((if0 _ _).trans (teq hc1).2) k₀
    show Owes _ _ _ _ (s₁.setTop (mkF m 7 #[.val (.long q0), .second, .val (.int (q0.toInt32))] []))
    refine Owes.go ?_ fun t₀ k₀ => XS.bipush X0.here hx rfl (hb hby d8_7) k₀
    show Owes _ _ _ _ (s₁.setTop (mkF m 9 #[.val (.long q0), .second, .val (.int (q0.toInt32))] [(.int (32 : Int32))]))
    refine Owes.go ?_ fun t₀ k₀ => XS.lloadN X0.here hx rfl (hb hby d8_9) rfl k₀
    show Owes _ _ _ _ (s₁.setTop (mkF m 10 #[.val (.long q0), .second, .val (.int (q0.toInt32))] [(.long q0), (.int (32 : Int32))]))
    refine Owes.go ?_ fun t₀ k₀ => XS.bipush X0.here hx rfl (hb hby d8_10) k₀
    show Owes _ _ _ _ (s₁.setTop (mkF m 12 #[.val (.long q0), .second, .val (.int (q0.toInt32))] [(.int (32 : Int32)), (.long q0), (.int (32 : Int32))]))
    refine Owes.go ?_ fun t₀ k₀ => XS.lushr X0.here hx rfl (hb hby d8_12) rfl k₀
    show Owes _ _ _ _ (s₁.setTop (mkF m 13 #[.val (.long q0), .second, .val (.int (q0.toInt32))] [(.long ((q0.toUInt64 >>> ((32 : Int32) &&& 0x3f).toInt64.toUInt64).toInt64)), (.int (32 : Int32))]))
    refine Owes.go ?_ fun t₀ k₀ => XS.l2i X0.here hx rfl (hb hby d8_13) rfl k₀
    show Owes _ _ _ _ (s₁.setTop (mkF m 14 #[.val (.long q0), .second, .val (.int (q0.toInt32))] [(.int (((q0.toUInt64 >>> ((32 : Int32) &&& 0x3f).toInt64.toUInt64).toInt64).toInt32)), (.int (32 : Int32))]))
    refine Owes.callS X0 hx hZ hown (hw _ (List.mem_of_getElem? (i := 61) rfl)) (hw _ (List.mem_of_getElem? (i := 62) rfl)) (hw _ (List.mem_of_getElem? (i := 63) rfl)) (hw _ (List.mem_of_getElem? (i := 64) rfl)) (by decide) (argsL := [(.int (((q0.toUInt64 >>> ((32 : Int32) &&& 0x3f).toInt64.toUInt64).toInt64).toInt32))]) (rest := [(.int (32 : Int32))]) (rm_f_ntzI l Z a0 hw [] (((q0.toUInt64 >>> ((32 : Int32) &&& 0x3f).toInt64.toUInt64).toInt64).toInt32) h0 ) e0 (by rw [hml]; rfl) pd_0 rfl rfl (hb hby d8_14) (by decide) (Nat.le_of_ble_eq_true rfl) (by decide) (by decide) ?_
    rintro T1 _ _ X1 ⟨rfl, rfl, e1⟩
    rw [List.append_nil] at X1
    show Owes _ _ _ _ (T1.setTop (mkF m 17 #[.val (.long q0), .second, .val (.int (q0.toInt32))] [(.int (f_ntzI (((q0.toUInt64 >>> ((32 : Int32) &&& 0x3f).toInt64.toUInt64).toInt64).toInt32))), (.int (32 : Int32))]))
    refine Owes.go ?_ fun t₀ k₀ => XS.iadd X1.here hx rfl (hb hby d8_17) rfl k₀
    show Owes _ _ _ _ (T1.setTop (mkF m 18 #[.val (.long q0), .second, .val (.int (q0.toInt32))] [(.int ((32 : Int32) + (f_ntzI (((q0.toUInt64 >>> ((32 : Int32) &&& 0x3f).toInt64.toUInt64).toInt64).toInt32))))]))
    refine Owes.go ?_ fun t₀ k₀ => XS.goto X1.here hx rfl (pc0 := 18) (pc' := 25) rfl (hb hby d8_18) (by decide) (by decide) k₀
    show Owes _ _ _ _ (T1.setTop (mkF m 25 #[.val (.long q0), .second, .val (.int (q0.toInt32))] [(.int ((32 : Int32) + (f_ntzI (((q0.toUInt64 >>> ((32 : Int32) &&& 0x3f).toInt64.toUInt64).toInt64).toInt32))))]))
    exact Owes.retI X1 hx hlk hret (hb hby d8_25) (by decide) (by decide) ⟨congrArg (fun z => some (Value.int z)) (by unfold f_ntzJ; rw [if_pos hc1]; first | done | rfl), rfl, e1⟩
  · skip
    refine Owes.go ?_ fun t₀ k₀ => XS.ifYes X0.here hx rfl (pc0 := 4) (pc' := 21) rfl (hb hby d8_4) rfl ((if0 _ _).trans (feq hc1).2) (by decide) (by decide) k₀
    show Owes _ _ _ _ (s₁.setTop (mkF m 21 #[.val (.long q0), .second, .val (.int (q0.toInt32))] []))
    refine Owes.go ?_ fun t₀ k₀ => XS.iloadN X0.here hx rfl (hb hby d8_21) rfl k₀
    show Owes _ _ _ _ (s₁.setTop (mkF m 22 #[.val (.long q0), .second, .val (.int (q0.toInt32))] [(.int (q0.toInt32))]))
    refine Owes.callS X0 hx hZ hown (hw _ (List.mem_of_getElem? (i := 61) rfl)) (hw _ (List.mem_of_getElem? (i := 62) rfl)) (hw _ (List.mem_of_getElem? (i := 63) rfl)) (hw _ (List.mem_of_getElem? (i := 64) rfl)) (by decide) (argsL := [(.int (q0.toInt32))]) (rest := []) (rm_f_ntzI l Z a0 hw [] (q0.toInt32) h0 ) e0 (by rw [hml]; rfl) pd_0 rfl rfl (hb hby d8_22) (by decide) (Nat.le_of_ble_eq_true rfl) (by decide) (by decide) ?_
    rintro T2 _ _ X2 ⟨rfl, rfl, e2⟩
    rw [List.append_nil] at X2
    show Owes _ _ _ _ (T2.setTop (mkF m 25 #[.val (.long q0), .second, .val (.int (q0.toInt32))] [(.int (f_ntzI (q0.toInt32)))]))
    exact Owes.retI X2 hx hlk hret (hb hby d8_25) (by decide) (by decide) ⟨congrArg (fun z => some (Value.int z)) (by unfold f_ntzJ; rw [if_neg hc1]; first | done | rfl), rfl, e2⟩
def f_ntzV (v : Int32) : Int32 := (if (0 : Int32) < v then (if (65536 : Int32) < v then (if (256 : Int32) < ((v.toUInt32 >>> ((16 : Int32) &&& 31).toUInt32).toInt32) then (if (16 : Int32) < ((((v.toUInt32 >>> ((16 : Int32) &&& 31).toUInt32).toInt32).toUInt32 >>> ((8 : Int32) &&& 31).toUInt32).toInt32) then (if (4 : Int32) < ((((((v.toUInt32 >>> ((16 : Int32) &&& 31).toUInt32).toInt32).toUInt32 >>> ((8 : Int32) &&& 31).toUInt32).toInt32).toUInt32 >>> ((4 : Int32) &&& 31).toUInt32).toInt32) then ((((((1 : Int32) + (16 : Int32)) + (8 : Int32)) + (4 : Int32)) + (2 : Int32)) + ((((((((((v.toUInt32 >>> ((16 : Int32) &&& 31).toUInt32).toInt32).toUInt32 >>> ((8 : Int32) &&& 31).toUInt32).toInt32).toUInt32 >>> ((4 : Int32) &&& 31).toUInt32).toInt32).toUInt32 >>> ((2 : Int32) &&& 31).toUInt32).toInt32).toUInt32 >>> ((1 : Int32) &&& 31).toUInt32).toInt32)) else (((((1 : Int32) + (16 : Int32)) + (8 : Int32)) + (4 : Int32)) + ((((((((v.toUInt32 >>> ((16 : Int32) &&& 31).toUInt32).toInt32).toUInt32 >>> ((8 : Int32) &&& 31).toUInt32).toInt32).toUInt32 >>> ((4 : Int32) &&& 31).toUInt32).toInt32).toUInt32 >>> ((1 : Int32) &&& 31).toUInt32).toInt32))) else (if (4 : Int32) < ((((v.toUInt32 >>> ((16 : Int32) &&& 31).toUInt32).toInt32).toUInt32 >>> ((8 : Int32) &&& 31).toUInt32).toInt32) then (((((1 : Int32) + (16 : Int32)) + (8 : Int32)) + (2 : Int32)) + ((((((((v.toUInt32 >>> ((16 : Int32) &&& 31).toUInt32).toInt32).toUInt32 >>> ((8 : Int32) &&& 31).toUInt32).toInt32).toUInt32 >>> ((2 : Int32) &&& 31).toUInt32).toInt32).toUInt32 >>> ((1 : Int32) &&& 31).toUInt32).toInt32)) else ((((1 : Int32) + (16 : Int32)) + (8 : Int32)) + ((((((v.toUInt32 >>> ((16 : Int32) &&& 31).toUInt32).toInt32).toUInt32 >>> ((8 : Int32) &&& 31).toUInt32).toInt32).toUInt32 >>> ((1 : Int32) &&& 31).toUInt32).toInt32)))) else (if (16 : Int32) < ((v.toUInt32 >>> ((16 : Int32) &&& 31).toUInt32).toInt32) then (if (4 : Int32) < ((((v.toUInt32 >>> ((16 : Int32) &&& 31).toUInt32).toInt32).toUInt32 >>> ((4 : Int32) &&& 31).toUInt32).toInt32) then (((((1 : Int32) + (16 : Int32)) + (4 : Int32)) + (2 : Int32)) + ((((((((v.toUInt32 >>> ((16 : Int32) &&& 31).toUInt32).toInt32).toUInt32 >>> ((4 : Int32) &&& 31).toUInt32).toInt32).toUInt32 >>> ((2 : Int32) &&& 31).toUInt32).toInt32).toUInt32 >>> ((1 : Int32) &&& 31).toUInt32).toInt32)) else ((((1 : Int32) + (16 : Int32)) + (4 : Int32)) + ((((((v.toUInt32 >>> ((16 : Int32) &&& 31).toUInt32).toInt32).toUInt32 >>> ((4 : Int32) &&& 31).toUInt32).toInt32).toUInt32 >>> ((1 : Int32) &&& 31).toUInt32).toInt32))) else (if (4 : Int32) < ((v.toUInt32 >>> ((16 : Int32) &&& 31).toUInt32).toInt32) then ((((1 : Int32) + (16 : Int32)) + (2 : Int32)) + ((((((v.toUInt32 >>> ((16 : Int32) &&& 31).toUInt32).toInt32).toUInt32 >>> ((2 : Int32) &&& 31).toUInt32).toInt32).toUInt32 >>> ((1 : Int32) &&& 31).toUInt32).toInt32)) else (((1 : Int32) + (16 : Int32)) + ((((v.toUInt32 >>> ((16 : Int32) &&& 31).toUInt32).toInt32).toUInt32 >>> ((1 : Int32) &&& 31).toUInt32).toInt32))))) else (if (256 : Int32) < v then (if (16 : Int32) < ((v.toUInt32 >>> ((8 : Int32) &&& 31).toUInt32).toInt32) then (if (4 : Int32) < ((((v.toUInt32 >>> ((8 : Int32) &&& 31).toUInt32).toInt32).toUInt32 >>> ((4 : Int32) &&& 31).toUInt32).toInt32) then (((((1 : Int32) + (8 : Int32)) + (4 : Int32)) + (2 : Int32)) + ((((((((v.toUInt32 >>> ((8 : Int32) &&& 31).toUInt32).toInt32).toUInt32 >>> ((4 : Int32) &&& 31).toUInt32).toInt32).toUInt32 >>> ((2 : Int32) &&& 31).toUInt32).toInt32).toUInt32 >>> ((1 : Int32) &&& 31).toUInt32).toInt32)) else ((((1 : Int32) + (8 : Int32)) + (4 : Int32)) + ((((((v.toUInt32 >>> ((8 : Int32) &&& 31).toUInt32).toInt32).toUInt32 >>> ((4 : Int32) &&& 31).toUInt32).toInt32).toUInt32 >>> ((1 : Int32) &&& 31).toUInt32).toInt32))) else (if (4 : Int32) < ((v.toUInt32 >>> ((8 : Int32) &&& 31).toUInt32).toInt32) then ((((1 : Int32) + (8 : Int32)) + (2 : Int32)) + ((((((v.toUInt32 >>> ((8 : Int32) &&& 31).toUInt32).toInt32).toUInt32 >>> ((2 : Int32) &&& 31).toUInt32).toInt32).toUInt32 >>> ((1 : Int32) &&& 31).toUInt32).toInt32)) else (((1 : Int32) + (8 : Int32)) + ((((v.toUInt32 >>> ((8 : Int32) &&& 31).toUInt32).toInt32).toUInt32 >>> ((1 : Int32) &&& 31).toUInt32).toInt32)))) else (if (16 : Int32) < v then (if (4 : Int32) < ((v.toUInt32 >>> ((4 : Int32) &&& 31).toUInt32).toInt32) then ((((1 : Int32) + (4 : Int32)) + (2 : Int32)) + ((((((v.toUInt32 >>> ((4 : Int32) &&& 31).toUInt32).toInt32).toUInt32 >>> ((2 : Int32) &&& 31).toUInt32).toInt32).toUInt32 >>> ((1 : Int32) &&& 31).toUInt32).toInt32)) else (((1 : Int32) + (4 : Int32)) + ((((v.toUInt32 >>> ((4 : Int32) &&& 31).toUInt32).toInt32).toUInt32 >>> ((1 : Int32) &&& 31).toUInt32).toInt32))) else (if (4 : Int32) < v then (((1 : Int32) + (2 : Int32)) + ((((v.toUInt32 >>> ((2 : Int32) &&& 31).toUInt32).toInt32).toUInt32 >>> ((1 : Int32) &&& 31).toUInt32).toInt32)) else ((1 : Int32) + ((v.toUInt32 >>> ((1 : Int32) &&& 31).toUInt32).toInt32)))))) else (v &&& (32 : Int32)))
theorem own_ntzV : ∀ t : Fin 32, (f_ntzV (Int32.ofNat (2 ^ t.1 - 1))).toInt = (t.1 : Int) := by decide +kernel
theorem own_ntzI (x : Int32) (t : Nat) (ht : t < 32) (h1 : x.toBitVec.getLsbD t = true) (h2 : ∀ b, b < t → x.toBitVec.getLsbD b = false) : (f_ntzI x).toInt = (t : Int) := by
  have h := own_low x t ht h1 h2
  show (f_ntzV ((x ^^^ (-1 : Int32)) &&& (x - (1 : Int32)))).toInt = _
  rw [h]; exact own_ntzV ⟨t, ht⟩
theorem lo32 (w : Int64) (b : Nat) (hb : b < 32) : w.toInt32.toBitVec.getLsbD b = bt w b := by
  rw [Int64.toBitVec_toInt32, BitVec.getLsbD_signExtend]; simp [hb, bt, show b < 64 by omega]
theorem hi32 (w : Int64) (b : Nat) (hb : b < 32) : (((w.toUInt64 >>> ((32 : Int32) &&& 0x3f).toInt64.toUInt64).toInt64).toInt32).toBitVec.getLsbD b = bt w (32 + b) := by
  rw [lo32 _ _ hb, bt_ushr w 32 32 (by decide)]
theorem ext32 {x y : Int32} (h : ∀ b, b < 32 → x.toBitVec.getLsbD b = y.toBitVec.getLsbD b) : x = y := Int32.toBitVec_inj.mp (BitVec.eq_of_getLsbD_eq h)
theorem own_ntzJ (w : Int64) (t : Nat) (h : Low w t) : (f_ntzJ w).toInt = (t : Int) := by
  obtain ⟨h0, h1, h2⟩ := h
  unfold f_ntzJ
  by_cases c : t < 32
  · have hne : ¬ (w.toInt32 = 0) := fun q => by
      have := lo32 w t c
      rw [q, h1] at this
      simp at this
    rw [if_neg hne]
    exact own_ntzI _ t c (by rw [lo32 w t c]; exact h1) (fun b hb => by rw [lo32 w b (by omega)]; exact h2 b hb)
  · have hz : w.toInt32 = 0 := ext32 fun b hb => by rw [lo32 w b hb, h2 b (by omega)]; simp
    rw [if_pos hz]
    have e := own_ntzI (((w.toUInt64 >>> ((32 : Int32) &&& 0x3f).toInt64.toUInt64).toInt64).toInt32) (t - 32) (by omega) (by rw [hi32 _ _ (by omega), show 32 + (t - 32) = t by omega]; exact h1) (fun b hb => by rw [hi32 _ _ (by omega)]; exact h2 _ (by omega))
    have h3 := c_iadd 32 (f_ntzI (((w.toUInt64 >>> ((32 : Int32) &&& 0x3f).toInt64.toUInt64).toInt64).toInt32))
    have r := rng32 ((32 : Int32) + (f_ntzI (((w.toUInt64 >>> ((32 : Int32) &&& 0x3f).toInt64.toUInt64).toInt64).toInt32)))
    rw [show (32 : Int32).toInt = 32 from rfl, e] at h3
    omega
def TSo (Z : State) (h : Heap) (r0 tr jf jo lf le : Addr) (n gj gl : Nat) (T : Nat → Int64) (JF G LF H : Nat → Int32) (rc : Int32) : Prop :=
  Exa Z h r0 "com/example/slotwright/slotwright/core/TriedSlots" ∧ Fld Z h r0 "com/example/slotwright/slotwright/core/TriedSlots" "size" "I" (.int (65 : Int32)) ∧ Fld Z h r0 "com/example/slotwright/slotwright/core/TriedSlots" "tried" "[J" (.ref tr) ∧ Fld Z h r0 "com/example/slotwright/slotwright/core/TriedSlots" "joiningFrom" "[I" (.ref jf) ∧ Fld Z h r0 "com/example/slotwright/slotwright/core/TriedSlots" "joining" "[I" (.ref jo) ∧ Fld Z h r0 "com/example/slotwright/slotwright/core/TriedSlots" "leavingFrom" "[I" (.ref lf) ∧ Fld Z h r0 "com/example/slotwright/slotwright/core/TriedSlots" "leaving" "[I" (.ref le) ∧ Fld Z h r0 "com/example/slotwright/slotwright/core/TriedSlots" "reached" "I" (.int rc) ∧
  GA Z h tr .long 2 (fun i => .long (T i)) ∧ GA Z h jf .int (n + 1) (fun i => .int (JF i)) ∧ GA Z h jo .int gj (fun i => .int (G i)) ∧ GA Z h lf .int (n + 1) (fun i => .int (LF i)) ∧ GA Z h le .int gl (fun i => .int (H i))
theorem TSo.keepT {Z : State} {a0 : Array Value} {h h' : Heap} {r0 tr jf jo lf le : Addr} {n gj gl : Nat} {T T' : Nat → Int64} {JF G LF H : Nat → Int32} {rc : Int32} (F : TSo Z h r0 tr jf jo lf le n gj gl T JF G LF H rc) (wi : (Jvm.Cond.instantiable "com/example/slotwright/slotwright/core/TriedSlots" 7).before a0 Z = true) (K : Keep h h' [tr]) (A : GA Z h' tr .long 2 (fun i => .long (T' i))) : TSo Z h' r0 tr jf jo lf le n gj gl T' JF G LF H rc := by
  obtain ⟨e, f1, f2, f3, f4, f5, f6, f7, a1, a2, a3, a4, a5⟩ := F
  have nr : r0 ∉ [tr] := own_ni1 (GA.ne_obj e wi a1)
  exact ⟨e.keep K, f1.keep K nr, f2.keep K nr, f3.keep K nr, f4.keep K nr, f5.keep K nr, f6.keep K nr, f7.keep K nr, A, a2.keep K (own_ni1 (GA.ne a2 a1 (by decide))), a3.keep K (own_ni1 (GA.ne a3 a1 (by decide))), a4.keep K (own_ni1 (GA.ne a4 a1 (by decide))), a5.keep K (own_ni1 (GA.ne a5 a1 (by decide)))⟩
theorem own_nx0 {T : Nat → Int64} {q : Int32} {a : Nat} (ha : q.toInt = (a : Int)) (h : (T (a / 64) &&& ((-1 : Int64) <<< (q &&& 0x3f).toInt64)) = 0) : bitOf T a = false := by
  have h1 := bt_eq0 h (a % 64)
  rw [bt_and, bt_m1_shl q a ha _ (by omega)] at h1
  simpa [bitOf] using h1
theorem own_nx1 {T : Nat → Int64} {q w z : Int32} {a t : Nat} (ha : q.toInt = (a : Int)) (hw : w.toInt = ((a / 64 : Nat) : Int)) (h5 : a < 65) (L : Low (T (a / 64) &&& ((-1 : Int64) <<< (q &&& 0x3f).toInt64)) t) (hz : z.toInt = (t : Int)) : (w * (64 : Int32) + z).toInt = (a : Int) ↔ bitOf T a = true := by
  obtain ⟨l1, l2, l3⟩ := L
  have h1 := c_imul w 64
  have h2 := c_iadd (w * 64) z
  have r1 := rng32 (w * 64)
  have r2 := rng32 (w * 64 + z)
  rw [show (64 : Int32).toInt = 64 from rfl, hw] at h1
  rw [hz] at h2
  have e1 : (w * 64).toInt = 64 * ((a / 64 : Nat) : Int) := by
    generalize (w * 64).toInt = v at *
    clear h2 r2
    omega
  have e2 : (w * 64 + z).toInt = 64 * ((a / 64 : Nat) : Int) + (t : Int) := by
    rw [e1] at h2
    generalize (w * 64 + z).toInt = v at *
    omega
  rw [e2]
  rw [bt_and, bt_m1_shl q a ha _ l1] at l2
  have l2' : a % 64 ≤ t := by
    have := (Bool.and_eq_true _ _ ▸ l2).2
    exact of_decide_eq_true this
  unfold bitOf
  constructor
  · intro h
    have : t = a % 64 := by omega
    rw [← this]
    exact (Bool.and_eq_true _ _ ▸ l2).1
  · intro h
    by_cases q2 : a % 64 < t
    · have h4 := l3 _ q2
      rw [bt_and, bt_m1_shl q a ha _ (by omega), h] at h4
      simp at h4
    · omega
theorem own_nx2 {T : Nat → Int64} {w z : Int32} {a t : Nat} (hw : w.toInt = ((1 : Nat) : Int)) (h5 : a < 64) (ht : t < 64) (hz : z.toInt = (t : Int)) (h0 : bitOf T a = false) : (w * (64 : Int32) + z).toInt = (a : Int) ↔ bitOf T a = true := by
  have h1 := c_imul w 64
  have h2 := c_iadd (w * 64) z
  have r1 := rng32 (w * 64)
  have r2 := rng32 (w * 64 + z)
  rw [show (64 : Int32).toInt = 64 from rfl, hw] at h1
  rw [hz] at h2
  have e1 : (w * 64).toInt = 64 := by
    generalize (w * 64).toInt = v at *
    clear h2 r2
    omega
  rw [e1] at h2
  rw [h0]
  generalize (w * 64 + z).toInt = v at *
  constructor
  · intro h; omega
  · intro h; cases h
theorem d7_0 : decode prog_143_method_3_code 0 = .ok (.iload_n 1, 1) := by decide +kernel
theorem d7_1 : decode prog_143_method_3_code 1 = .ok (.bipush 6, 2) := by decide +kernel
theorem d7_3 : decode prog_143_method_3_code 3 = .ok (.iushr, 1) := by decide +kernel
theorem d7_4 : decode prog_143_method_3_code 4 = .ok (.istore_n 2, 1) := by decide +kernel
theorem d7_5 : decode prog_143_method_3_code 5 = .ok (.iload_n 2, 1) := by decide +kernel
theorem d7_6 : decode prog_143_method_3_code 6 = .ok (.aload_n 0, 1) := by decide +kernel
theorem d7_7 : decode prog_143_method_3_code 7 = .ok (.getfield 18, 3) := by decide +kernel
theorem d7_10 : decode prog_143_method_3_code 10 = .ok (.arraylength, 1) := by decide +kernel
theorem d7_11 : decode prog_143_method_3_code 11 = .ok (.if_icmp .lt 8, 3) := by decide +kernel
theorem d7_19 : decode prog_143_method_3_code 19 = .ok (.aload_n 0, 1) := by decide +kernel
theorem d7_20 : decode prog_143_method_3_code 20 = .ok (.getfield 18, 3) := by decide +kernel
theorem d7_23 : decode prog_143_method_3_code 23 = .ok (.iload_n 2, 1) := by decide +kernel
theorem d7_24 : decode prog_143_method_3_code 24 = .ok (.laload, 1) := by decide +kernel
theorem d7_25 : decode prog_143_method_3_code 25 = .ok (.ldc2_w 40, 3) := by decide +kernel
theorem d7_28 : decode prog_143_method_3_code 28 = .ok (.iload_n 1, 1) := by decide +kernel
theorem d7_29 : decode prog_143_method_3_code 29 = .ok (.lshl, 1) := by decide +kernel
theorem d7_30 : decode prog_143_method_3_code 30 = .ok (.land, 1) := by decide +kernel
theorem d7_31 : decode prog_143_method_3_code 31 = .ok (.lstore_n 3, 1) := by decide +kernel
theorem d7_32 : decode prog_143_method_3_code 32 = .ok (.lload_n 3, 1) := by decide +kernel
theorem d7_33 : decode prog_143_method_3_code 33 = .ok (.lconst 0, 1) := by decide +kernel
theorem d7_34 : decode prog_143_method_3_code 34 = .ok (.lcmp, 1) := by decide +kernel
theorem d7_35 : decode prog_143_method_3_code 35 = .ok (.ifCond .ne 30, 3) := by decide +kernel
theorem d7_38 : decode prog_143_method_3_code 38 = .ok (.iinc 2 1, 3) := by decide +kernel
theorem d7_41 : decode prog_143_method_3_code 41 = .ok (.iload_n 2, 1) := by decide +kernel
theorem d7_42 : decode prog_143_method_3_code 42 = .ok (.aload_n 0, 1) := by decide +kernel
theorem d7_43 : decode prog_143_method_3_code 43 = .ok (.getfield 18, 3) := by decide +kernel
theorem d7_46 : decode prog_143_method_3_code 46 = .ok (.arraylength, 1) := by decide +kernel
theorem d7_47 : decode prog_143_method_3_code 47 = .ok (.if_icmp .ne 8, 3) := by decide +kernel
theorem d7_55 : decode prog_143_method_3_code 55 = .ok (.aload_n 0, 1) := by decide +kernel
theorem d7_56 : decode prog_143_method_3_code 56 = .ok (.getfield 18, 3) := by decide +kernel
theorem d7_59 : decode prog_143_method_3_code 59 = .ok (.iload_n 2, 1) := by decide +kernel
theorem d7_60 : decode prog_143_method_3_code 60 = .ok (.laload, 1) := by decide +kernel
theorem d7_61 : decode prog_143_method_3_code 61 = .ok (.lstore_n 3, 1) := by decide +kernel
theorem d7_62 : decode prog_143_method_3_code 62 = .ok (.goto (-30), 3) := by decide +kernel
theorem d7_50 : decode prog_143_method_3_code 50 = .ok (.aload_n 0, 1) := by decide +kernel
theorem d7_51 : decode prog_143_method_3_code 51 = .ok (.getfield 13, 3) := by decide +kernel
theorem d7_54 : decode prog_143_method_3_code 54 = .ok (.ireturn, 1) := by decide +kernel
theorem d7_65 : decode prog_143_method_3_code 65 = .ok (.iload_n 2, 1) := by decide +kernel
theorem d7_66 : decode prog_143_method_3_code 66 = .ok (.bipush 64, 2) := by decide +kernel
theorem d7_68 : decode prog_143_method_3_code 68 = .ok (.imul, 1) := by decide +kernel
theorem d7_69 : decode prog_143_method_3_code 69 = .ok (.lload_n 3, 1) := by decide +kernel
theorem d7_70 : decode prog_143_method_3_code 70 = .ok (.invokestatic 42, 3) := by decide +kernel
theorem pd_1 : parseMethodDescriptor "(J)I" = some ⟨[.long], some .int⟩ := by decide +kernel
theorem d7_73 : decode prog_143_method_3_code 73 = .ok (.iadd, 1) := by decide +kernel
theorem d7_74 : decode prog_143_method_3_code 74 = .ok (.ireturn, 1) := by decide +kernel
theorem ef_7 (m : MethodId) (r0 : Addr) (p1 : Int32) : entryFrame m #[(.ref r0), (.int p1)] 5 = mkF m 0 #[.val (.ref r0), .val (.int p1), .unset, .unset, .unset] [] := by first | (simp [entryFrame, mkF, argsToLocals, Value.category]; done) | rfl
theorem pn_7 : plainFor (⟨"com/example/slotwright/slotwright/core/TriedSlots", "next", "(I)I"⟩ : MethodName) = true := plainFor_of_name (by first | (simp [plainName, overriddenIn]; done) | decide +kernel)
set_option maxRecDepth 65536 in
set_option maxHeartbeats 40000000 in
theorem rm_next (l : Launch) (Z : State) (a0 : Array Value) (hw : ∀ d ∈ tables_1, d.before a0 Z = true) (ws : List Jvm.Cond) (r0 : Addr) (p1 : Int32) (h0 : Heap) (tr jf jo lf le : Addr) (n gj gl : Nat) (T : Nat → Int64) (JF G LF H : Nat → Int32) (rc : Int32) (F0 : TSo Z h0 r0 tr jf jo lf le n gj gl T JF G LF H rc) (a : Nat) (ha : p1.toInt = (a : Int)) (ha5 : a < 65) :
    OMet l (⟨"com/example/slotwright/slotwright/core/TriedSlots", "next", "(I)I"⟩ : MethodName) prog_143_method_3_code 5 (some .int) ws ({ frames := 2, cells := 0, slots := 0, locals := 31 } : Room) #[(.ref r0), (.int p1)] Z h0 (fun v h L => ∃ r : Int32, v = some (.int r) ∧ L = [] ∧ h = h0 ∧ (r.toInt = (a : Int) ↔ bitOf T a = true)) := by
  refine OMet.of pn_7 (fun m => ef_7 m r0 p1) ?_
  intro p e s m below meth c s₁ hx hby hml hown hnm hret hlk hZ X0 e0
  by_cases ca : a < 64
  · skip
    refine Owes.go ?_ fun t₀ k₀ => XS.iloadN X0.here hx rfl (hb hby d7_0) rfl k₀
    show Owes _ _ _ _ (s₁.setTop (mkF m 1 #[.val (.ref r0), .val (.int p1), .unset, .unset, .unset] [(.int p1)]))
    refine Owes.go ?_ fun t₀ k₀ => XS.bipush X0.here hx rfl (hb hby d7_1) k₀
    show Owes _ _ _ _ (s₁.setTop (mkF m 3 #[.val (.ref r0), .val (.int p1), .unset, .unset, .unset] [(.int (6 : Int32)), (.int p1)]))
    refine Owes.go ?_ fun t₀ k₀ => XS.iushr X0.here hx rfl (hb hby d7_3) rfl k₀
    show Owes _ _ _ _ (s₁.setTop (mkF m 4 #[.val (.ref r0), .val (.int p1), .unset, .unset, .unset] [(.int ((p1.toUInt32 >>> ((6 : Int32) &&& 31).toUInt32).toInt32))]))
    refine Owes.go ?_ fun t₀ k₀ => XS.istoreN X0.here hx rfl (hb hby d7_4) rfl (l' := #[.val (.ref r0), .val (.int p1), .val (.int ((p1.toUInt32 >>> ((6 : Int32) &&& 31).toUInt32).toInt32)), .unset, .unset]) rfl k₀
    show Owes _ _ _ _ (s₁.setTop (mkF m 5 #[.val (.ref r0), .val (.int p1), .val (.int ((p1.toUInt32 >>> ((6 : Int32) &&& 31).toUInt32).toInt32)), .unset, .unset] []))
    refine Owes.go ?_ fun t₀ k₀ => XS.iloadN X0.here hx rfl (hb hby d7_5) rfl k₀
    show Owes _ _ _ _ (s₁.setTop (mkF m 6 #[.val (.ref r0), .val (.int p1), .val (.int ((p1.toUInt32 >>> ((6 : Int32) &&& 31).toUInt32).toInt32)), .unset, .unset] [(.int ((p1.toUInt32 >>> ((6 : Int32) &&& 31).toUInt32).toInt32))]))
    refine Owes.go ?_ fun t₀ k₀ => XS.aloadN X0.here hx rfl (hb hby d7_6) rfl rfl k₀
    show Owes _ _ _ _ (s₁.setTop (mkF m 7 #[.val (.ref r0), .val (.int p1), .val (.int ((p1.toUInt32 >>> ((6 : Int32) &&& 31).toUInt32).toInt32)), .unset, .unset] [(.ref r0), (.int ((p1.toUInt32 >>> ((6 : Int32) &&& 31).toUInt32).toInt32))]))
    obtain ⟨T3, X3, e3, st3⟩ := getF X0 hx hZ hown (host := "") (Or.inl (hw _ (List.mem_of_getElem? (i := 19) rfl))) Via.refl e0 F0.2.2.1 (g := (mkF m 7 #[.val (.ref r0), .val (.int p1), .val (.int ((p1.toUInt32 >>> ((6 : Int32) &&& 31).toUInt32).toInt32)), .unset, .unset] [(.ref r0), (.int ((p1.toUInt32 >>> ((6 : Int32) &&& 31).toUInt32).toInt32))])) rfl rfl (hb hby d7_7)
    refine Owes.go ?_ st3
    show Owes _ _ _ _ (T3.setTop (mkF m 10 #[.val (.ref r0), .val (.int p1), .val (.int ((p1.toUInt32 >>> ((6 : Int32) &&& 31).toUInt32).toInt32)), .unset, .unset] [(.ref tr), (.int ((p1.toUInt32 >>> ((6 : Int32) &&& 31).toUInt32).toInt32))]))
    refine Owes.glen X3 hx hZ e3 F0.2.2.2.2.2.2.2.2.1 (z := (2 : Int32)) rfl (hb hby d7_10) ?_
    show Owes _ _ _ _ (T3.setTop (mkF m 11 #[.val (.ref r0), .val (.int p1), .val (.int ((p1.toUInt32 >>> ((6 : Int32) &&& 31).toUInt32).toInt32)), .unset, .unset] [(.int (2 : Int32)), (.int ((p1.toUInt32 >>> ((6 : Int32) &&& 31).toUInt32).toInt32))]))
    refine Owes.go ?_ fun t₀ k₀ => XS.icmpYes X3.here hx rfl (pc0 := 11) (pc' := 19) rfl (hb hby d7_11) rfl (tlt (own_lti (own_sh6 ha) (b := 2) rfl (by omega))).1 (by decide) (by decide) k₀
    show Owes _ _ _ _ (T3.setTop (mkF m 19 #[.val (.ref r0), .val (.int p1), .val (.int ((p1.toUInt32 >>> ((6 : Int32) &&& 31).toUInt32).toInt32)), .unset, .unset] []))
    refine Owes.go ?_ fun t₀ k₀ => XS.aloadN X3.here hx rfl (hb hby d7_19) rfl rfl k₀
    show Owes _ _ _ _ (T3.setTop (mkF m 20 #[.val (.ref r0), .val (.int p1), .val (.int ((p1.toUInt32 >>> ((6 : Int32) &&& 31).toUInt32).toInt32)), .unset, .unset] [(.ref r0)]))
    obtain ⟨T4, X4, e4, st4⟩ := getF X3 hx hZ hown (host := "") (Or.inl (hw _ (List.mem_of_getElem? (i := 19) rfl))) Via.refl e3 F0.2.2.1 (g := (mkF m 20 #[.val (.ref r0), .val (.int p1), .val (.int ((p1.toUInt32 >>> ((6 : Int32) &&& 31).toUInt32).toInt32)), .unset, .unset] [(.ref r0)])) rfl rfl (hb hby d7_20)
    refine Owes.go ?_ st4
    show Owes _ _ _ _ (T4.setTop (mkF m 23 #[.val (.ref r0), .val (.int p1), .val (.int ((p1.toUInt32 >>> ((6 : Int32) &&& 31).toUInt32).toInt32)), .unset, .unset] [(.ref tr)]))
    refine Owes.go ?_ fun t₀ k₀ => XS.iloadN X4.here hx rfl (hb hby d7_23) rfl k₀
    show Owes _ _ _ _ (T4.setTop (mkF m 24 #[.val (.ref r0), .val (.int p1), .val (.int ((p1.toUInt32 >>> ((6 : Int32) &&& 31).toUInt32).toInt32)), .unset, .unset] [(.int ((p1.toUInt32 >>> ((6 : Int32) &&& 31).toUInt32).toInt32)), (.ref tr)]))
    refine Owes.gJ X4 hx hZ e4 F0.2.2.2.2.2.2.2.2.1 (own_sh6 ha) (show (a / 64) < 2 by omega) (v := .long (T (a / 64))) rfl (hb hby d7_24) ?_
    show Owes _ _ _ _ (T4.setTop (mkF m 25 #[.val (.ref r0), .val (.int p1), .val (.int ((p1.toUInt32 >>> ((6 : Int32) &&& 31).toUInt32).toInt32)), .unset, .unset] [(.long (T (a / 64)))]))
    refine Owes.go ?_ fun t₀ k₀ => X4.ldc2Long hx hown (mvT hZ (hw _ (List.mem_of_getElem? (i := 56) rfl))) (g := (mkF m 25 #[.val (.ref r0), .val (.int p1), .val (.int ((p1.toUInt32 >>> ((6 : Int32) &&& 31).toUInt32).toInt32)), .unset, .unset] [(.long (T (a / 64)))])) rfl (hb hby d7_25) _ k₀
    show Owes _ _ _ _ (T4.setTop (mkF m 28 #[.val (.ref r0), .val (.int p1), .val (.int ((p1.toUInt32 >>> ((6 : Int32) &&& 31).toUInt32).toInt32)), .unset, .unset] [(.long (-1 : Int64)), (.long (T (a / 64)))]))
    refine Owes.go ?_ fun t₀ k₀ => XS.iloadN X4.here hx rfl (hb hby d7_28) rfl k₀
    show Owes _ _ _ _ (T4.setTop (mkF m 29 #[.val (.ref r0), .val (.int p1), .val (.int ((p1.toUInt32 >>> ((6 : Int32) &&& 31).toUInt32).toInt32)), .unset, .unset] [(.int p1), (.long (-1 : Int64)), (.long (T (a / 64)))]))
    refine Owes.go ?_ fun t₀ k₀ => XS.lshl X4.here hx rfl (hb hby d7_29) rfl k₀
    show Owes _ _ _ _ (T4.setTop (mkF m 30 #[.val (.ref r0), .val (.int p1), .val (.int ((p1.toUInt32 >>> ((6 : Int32) &&& 31).toUInt32).toInt32)), .unset, .unset] [(.long ((-1 : Int64) <<< (p1 &&& 0x3f).toInt64)), (.long (T (a / 64)))]))
    refine Owes.go ?_ fun t₀ k₀ => XS.land X4.here hx rfl (hb hby d7_30) rfl k₀
    show Owes _ _ _ _ (T4.setTop (mkF m 31 #[.val (.ref r0), .val (.int p1), .val (.int ((p1.toUInt32 >>> ((6 : Int32) &&& 31).toUInt32).toInt32)), .unset, .unset] [(.long ((T (a / 64)) &&& ((-1 : Int64) <<< (p1 &&& 0x3f).toInt64)))]))
    refine Owes.go ?_ fun t₀ k₀ => XS.lstoreN X4.here hx rfl (hb hby d7_31) rfl (l' := #[.val (.ref r0), .val (.int p1), .val (.int ((p1.toUInt32 >>> ((6 : Int32) &&& 31).toUInt32).toInt32)), .val (.long ((T (a / 64)) &&& ((-1 : Int64) <<< (p1 &&& 0x3f).toInt64))), .second]) rfl k₀
    show Owes _ _ _ _ (T4.setTop (mkF m 32 #[.val (.ref r0), .val (.int p1), .val (.int ((p1.toUInt32 >>> ((6 : Int32) &&& 31).toUInt32).toInt32)), .val (.long ((T (a / 64)) &&& ((-1 : Int64) <<< (p1 &&& 0x3f).toInt64))), .second] []))
    refine Owes.go ?_ fun t₀ k₀ => XS.lloadN X4.here hx rfl (hb hby d7_32) rfl k₀
    show Owes _ _ _ _ (T4.setTop (mkF m 33 #[.val (.ref r0), .val (.int p1), .val (.int ((p1.toUInt32 >>> ((6 : Int32) &&& 31).toUInt32).toInt32)), .val (.long ((T (a / 64)) &&& ((-1 : Int64) <<< (p1 &&& 0x3f).toInt64))), .second] [(.long ((T (a / 64)) &&& ((-1 : Int64) <<< (p1 &&& 0x3f).toInt64)))]))
    refine Owes.go ?_ fun t₀ k₀ => XS.lconst X4.here hx rfl (hb hby d7_33) k₀
    show Owes _ _ _ _ (T4.setTop (mkF m 34 #[.val (.ref r0), .val (.int p1), .val (.int ((p1.toUInt32 >>> ((6 : Int32) &&& 31).toUInt32).toInt32)), .val (.long ((T (a / 64)) &&& ((-1 : Int64) <<< (p1 &&& 0x3f).toInt64))), .second] [(.long (0 : Int64)), (.long ((T (a / 64)) &&& ((-1 : Int64) <<< (p1 &&& 0x3f).toInt64)))]))
    refine Owes.go ?_ fun t₀ k₀ => XS.lcmp X4.here hx rfl (hb hby d7_34) rfl k₀
    show Owes _ _ _ _ (T4.setTop (mkF m 35 #[.val (.ref r0), .val (.int p1), .val (.int ((p1.toUInt32 >>> ((6 : Int32) &&& 31).toUInt32).toInt32)), .val (.long ((T (a / 64)) &&& ((-1 : Int64) <<< (p1 &&& 0x3f).toInt64))), .second] [(.int (lcmpW ((T (a / 64)) &&& ((-1 : Int64) <<< (p1 &&& 0x3f).toInt64)) (0 : Int64)))]))
    by_cases hc1 : ((T (a / 64)) &&& ((-1 : Int64) <<< (p1 &&& 0x3f).toInt64)) = (0 : Int64)
    · skip
      refine Owes.go ?_ fun t₀ k₀ => XS.ifNo X4.here hx rfl (hb hby d7_35) rfl ((if0 _ _).trans (teq ((lw_eq _ _).mpr hc1)).2) k₀
      show Owes _ _ _ _ (T4.setTop (mkF m 38 #[.val (.ref r0), .val (.int p1), .val (.int ((p1.toUInt32 >>> ((6 : Int32) &&& 31).toUInt32).toInt32)), .val (.long ((T (a / 64)) &&& ((-1 : Int64) <<< (p1 &&& 0x3f).toInt64))), .second] []))
      refine Owes.go ?_ fun t₀ k₀ => XS.iinc X4.here hx rfl (hb hby d7_38) rfl (l' := #[.val (.ref r0), .val (.int p1), .val (.int (((p1.toUInt32 >>> ((6 : Int32) &&& 31).toUInt32).toInt32) + (1 : Int32))), .val (.long ((T (a / 64)) &&& ((-1 : Int64) <<< (p1 &&& 0x3f).toInt64))), .second]) rfl k₀
      show Owes _ _ _ _ (T4.setTop (mkF m 41 #[.val (.ref r0), .val (.int p1), .val (.int (((p1.toUInt32 >>> ((6 : Int32) &&& 31).toUInt32).toInt32) + (1 : Int32))), .val (.long ((T (a / 64)) &&& ((-1 : Int64) <<< (p1 &&& 0x3f).toInt64))), .second] []))
      refine Owes.go ?_ fun t₀ k₀ => XS.iloadN X4.here hx rfl (hb hby d7_41) rfl k₀
      show Owes _ _ _ _ (T4.setTop (mkF m 42 #[.val (.ref r0), .val (.int p1), .val (.int (((p1.toUInt32 >>> ((6 : Int32) &&& 31).toUInt32).toInt32) + (1 : Int32))), .val (.long ((T (a / 64)) &&& ((-1 : Int64) <<< (p1 &&& 0x3f).toInt64))), .second] [(.int (((p1.toUInt32 >>> ((6 : Int32) &&& 31).toUInt32).toInt32) + (1 : Int32)))]))
      refine Owes.go ?_ fun t₀ k₀ => XS.aloadN X4.here hx rfl (hb hby d7_42) rfl rfl k₀
      show Owes _ _ _ _ (T4.setTop (mkF m 43 #[.val (.ref r0), .val (.int p1), .val (.int (((p1.toUInt32 >>> ((6 : Int32) &&& 31).toUInt32).toInt32) + (1 : Int32))), .val (.long ((T (a / 64)) &&& ((-1 : Int64) <<< (p1 &&& 0x3f).toInt64))), .second] [(.ref r0), (.int (((p1.toUInt32 >>> ((6 : Int32) &&& 31).toUInt32).toInt32) + (1 : Int32)))]))
      obtain ⟨T5, X5, e5, st5⟩ := getF X4 hx hZ hown (host := "") (Or.inl (hw _ (List.mem_of_getElem? (i := 19) rfl))) Via.refl e4 F0.2.2.1 (g := (mkF m 43 #[.val (.ref r0), .val (.int p1), .val (.int (((p1.toUInt32 >>> ((6 : Int32) &&& 31).toUInt32).toInt32) + (1 : Int32))), .val (.long ((T (a / 64)) &&& ((-1 : Int64) <<< (p1 &&& 0x3f).toInt64))), .second] [(.ref r0), (.int (((p1.toUInt32 >>> ((6 : Int32) &&& 31).toUInt32).toInt32) + (1 : Int32)))])) rfl rfl (hb hby d7_43)
      refine Owes.go ?_ st5
      show Owes _ _ _ _ (T5.setTop (mkF m 46 #[.val (.ref r0), .val (.int p1), .val (.int (((p1.toUInt32 >>> ((6 : Int32) &&& 31).toUInt32).toInt32) + (1 : Int32))), .val (.long ((T (a / 64)) &&& ((-1 : Int64) <<< (p1 &&& 0x3f).toInt64))), .second] [(.ref tr), (.int (((p1.toUInt32 >>> ((6 : Int32) &&& 31).toUInt32).toInt32) + (1 : Int32)))]))
      refine Owes.glen X5 hx hZ e5 F0.2.2.2.2.2.2.2.2.1 (z := (2 : Int32)) rfl (hb hby d7_46) ?_
      show Owes _ _ _ _ (T5.setTop (mkF m 47 #[.val (.ref r0), .val (.int p1), .val (.int (((p1.toUInt32 >>> ((6 : Int32) &&& 31).toUInt32).toInt32) + (1 : Int32))), .val (.long ((T (a / 64)) &&& ((-1 : Int64) <<< (p1 &&& 0x3f).toInt64))), .second] [(.int (2 : Int32)), (.int (((p1.toUInt32 >>> ((6 : Int32) &&& 31).toUInt32).toInt32) + (1 : Int32)))]))
      refine Owes.go ?_ fun t₀ k₀ => XS.icmpYes X5.here hx rfl (pc0 := 47) (pc' := 55) rfl (hb hby d7_47) rfl (feq (own_nei (own_inc (own_sh6 ha) (by omega)) (b := 2) rfl (by omega))).2 (by decide) (by decide) k₀
      show Owes _ _ _ _ (T5.setTop (mkF m 55 #[.val (.ref r0), .val (.int p1), .val (.int (((p1.toUInt32 >>> ((6 : Int32) &&& 31).toUInt32).toInt32) + (1 : Int32))), .val (.long ((T (a / 64)) &&& ((-1 : Int64) <<< (p1 &&& 0x3f).toInt64))), .second] []))
      refine Owes.go ?_ fun t₀ k₀ => XS.aloadN X5.here hx rfl (hb hby d7_55) rfl rfl k₀
      show Owes _ _ _ _ (T5.setTop (mkF m 56 #[.val (.ref r0), .val (.int p1), .val (.int (((p1.toUInt32 >>> ((6 : Int32) &&& 31).toUInt32).toInt32) + (1 : Int32))), .val (.long ((T (a / 64)) &&& ((-1 : Int64) <<< (p1 &&& 0x3f).toInt64))), .second] [(.ref r0)]))
      obtain ⟨T6, X6, e6, st6⟩ := getF X5 hx hZ hown (host := "") (Or.inl (hw _ (List.mem_of_getElem? (i := 19) rfl))) Via.refl e5 F0.2.2.1 (g := (mkF m 56 #[.val (.ref r0), .val (.int p1), .val (.int (((p1.toUInt32 >>> ((6 : Int32) &&& 31).toUInt32).toInt32) + (1 : Int32))), .val (.long ((T (a / 64)) &&& ((-1 : Int64) <<< (p1 &&& 0x3f).toInt64))), .second] [(.ref r0)])) rfl rfl (hb hby d7_56)
      refine Owes.go ?_ st6
      show Owes _ _ _ _ (T6.setTop (mkF m 59 #[.val (.ref r0), .val (.int p1), .val (.int (((p1.toUInt32 >>> ((6 : Int32) &&& 31).toUInt32).toInt32) + (1 : Int32))), .val (.long ((T (a / 64)) &&& ((-1 : Int64) <<< (p1 &&& 0x3f).toInt64))), .second] [(.ref tr)]))
      refine Owes.go ?_ fun t₀ k₀ => XS.iloadN X6.here hx rfl (hb hby d7_59) rfl k₀
      show Owes _ _ _ _ (T6.setTop (mkF m 60 #[.val (.ref r0), .val (.int p1), .val (.int (((p1.toUInt32 >>> ((6 : Int32) &&& 31).toUInt32).toInt32) + (1 : Int32))), .val (.long ((T (a / 64)) &&& ((-1 : Int64) <<< (p1 &&& 0x3f).toInt64))), .second] [(.int (((p1.toUInt32 >>> ((6 : Int32) &&& 31).toUInt32).toInt32) + (1 : Int32))), (.ref tr)]))
      refine Owes.gJ X6 hx hZ e6 F0.2.2.2.2.2.2.2.2.1 (own_inc (own_sh6 ha) (by omega)) (show (a / 64 + 1) < 2 by omega) (v := .long (T (a / 64 + 1))) rfl (hb hby d7_60) ?_
      show Owes _ _ _ _ (T6.setTop (mkF m 61 #[.val (.ref r0), .val (.int p1), .val (.int (((p1.toUInt32 >>> ((6 : Int32) &&& 31).toUInt32).toInt32) + (1 : Int32))), .val (.long ((T (a / 64)) &&& ((-1 : Int64) <<< (p1 &&& 0x3f).toInt64))), .second] [(.long (T (a / 64 + 1)))]))
      refine Owes.go ?_ fun t₀ k₀ => XS.lstoreN X6.here hx rfl (hb hby d7_61) rfl (l' := #[.val (.ref r0), .val (.int p1), .val (.int (((p1.toUInt32 >>> ((6 : Int32) &&& 31).toUInt32).toInt32) + (1 : Int32))), .val (.long (T (a / 64 + 1))), .second]) rfl k₀
      show Owes _ _ _ _ (T6.setTop (mkF m 62 #[.val (.ref r0), .val (.int p1), .val (.int (((p1.toUInt32 >>> ((6 : Int32) &&& 31).toUInt32).toInt32) + (1 : Int32))), .val (.long (T (a / 64 + 1))), .second] []))
      refine Owes.go ?_ fun t₀ k₀ => XS.goto X6.here hx rfl (pc0 := 62) (pc' := 32) rfl (hb hby d7_62) (by decide) (by decide) k₀
      show Owes _ _ _ _ (T6.setTop (mkF m 32 #[.val (.ref r0), .val (.int p1), .val (.int (((p1.toUInt32 >>> ((6 : Int32) &&& 31).toUInt32).toInt32) + (1 : Int32))), .val (.long (T (a / 64 + 1))), .second] []))
      refine Owes.go ?_ fun t₀ k₀ => XS.lloadN X6.here hx rfl (hb hby d7_32) rfl k₀
      show Owes _ _ _ _ (T6.setTop (mkF m 33 #[.val (.ref r0), .val (.int p1), .val (.int (((p1.toUInt32 >>> ((6 : Int32) &&& 31).toUInt32).toInt32) + (1 : Int32))), .val (.long (T (a / 64 + 1))), .second] [(.long (T (a / 64 + 1)))]))
      refine Owes.go ?_ fun t₀ k₀ => XS.lconst X6.here hx rfl (hb hby d7_33) k₀
      show Owes _ _ _ _ (T6.setTop (mkF m 34 #[.val (.ref r0), .val (.int p1), .val (.int (((p1.toUInt32 >>> ((6 : Int32) &&& 31).toUInt32).toInt32) + (1 : Int32))), .val (.long (T (a / 64 + 1))), .second] [(.long (0 : Int64)), (.long (T (a / 64 + 1)))]))
      refine Owes.go ?_ fun t₀ k₀ => XS.lcmp X6.here hx rfl (hb hby d7_34) rfl k₀
      show Owes _ _ _ _ (T6.setTop (mkF m 35 #[.val (.ref r0), .val (.int p1), .val (.int (((p1.toUInt32 >>> ((6 : Int32) &&& 31).toUInt32).toInt32) + (1 : Int32))), .val (.long (T (a / 64 + 1))), .second] [(.int (lcmpW (T (a / 64 + 1)) (0 : Int64)))]))
      by_cases hc2 : (T (a / 64 + 1)) = (0 : Int64)
      · skip
        refine Owes.go ?_ fun t₀ k₀ => XS.ifNo X6.here hx rfl (hb hby d7_35) rfl ((if0 _ _).trans (teq ((lw_eq _ _).mpr hc2)).2) k₀
        show Owes _ _ _ _ (T6.setTop (mkF m 38 #[.val (.ref r0), .val (.int p1), .val (.int (((p1.toUInt32 >>> ((6 : Int32) &&& 31).toUInt32).toInt32) + (1 : Int32))), .val (.long (T (a / 64 + 1))), .second] []))
        refine Owes.go ?_ fun t₀ k₀ => XS.iinc X6.here hx rfl (hb hby d7_38) rfl (l' := #[.val (.ref r0), .val (.int p1), .val (.int ((((p1.toUInt32 >>> ((6 : Int32) &&& 31).toUInt32).toInt32) + (1 : Int32)) + (1 : Int32))), .val (.long (T (a / 64 + 1))), .second]) rfl k₀
        show Owes _ _ _ _ (T6.setTop (mkF m 41 #[.val (.ref r0), .val (.int p1), .val (.int ((((p1.toUInt32 >>> ((6 : Int32) &&& 31).toUInt32).toInt32) + (1 : Int32)) + (1 : Int32))), .val (.long (T (a / 64 + 1))), .second] []))
        refine Owes.go ?_ fun t₀ k₀ => XS.iloadN X6.here hx rfl (hb hby d7_41) rfl k₀
        show Owes _ _ _ _ (T6.setTop (mkF m 42 #[.val (.ref r0), .val (.int p1), .val (.int ((((p1.toUInt32 >>> ((6 : Int32) &&& 31).toUInt32).toInt32) + (1 : Int32)) + (1 : Int32))), .val (.long (T (a / 64 + 1))), .second] [(.int ((((p1.toUInt32 >>> ((6 : Int32) &&& 31).toUInt32).toInt32) + (1 : Int32)) + (1 : Int32)))]))
        refine Owes.go ?_ fun t₀ k₀ => XS.aloadN X6.here hx rfl (hb hby d7_42) rfl rfl k₀
        show Owes _ _ _ _ (T6.setTop (mkF m 43 #[.val (.ref r0), .val (.int p1), .val (.int ((((p1.toUInt32 >>> ((6 : Int32) &&& 31).toUInt32).toInt32) + (1 : Int32)) + (1 : Int32))), .val (.long (T (a / 64 + 1))), .second] [(.ref r0), (.int ((((p1.toUInt32 >>> ((6 : Int32) &&& 31).toUInt32).toInt32) + (1 : Int32)) + (1 : Int32)))]))
        obtain ⟨T7, X7, e7, st7⟩ := getF X6 hx hZ hown (host := "") (Or.inl (hw _ (List.mem_of_getElem? (i := 19) rfl))) Via.refl e6 F0.2.2.1 (g := (mkF m 43 #[.val (.ref r0), .val (.int p1), .val (.int ((((p1.toUInt32 >>> ((6 : Int32) &&& 31).toUInt32).toInt32) + (1 : Int32)) + (1 : Int32))), .val (.long (T (a / 64 + 1))), .second] [(.ref r0), (.int ((((p1.toUInt32 >>> ((6 : Int32) &&& 31).toUInt32).toInt32) + (1 : Int32)) + (1 : Int32)))])) rfl rfl (hb hby d7_43)
        refine Owes.go ?_ st7
        show Owes _ _ _ _ (T7.setTop (mkF m 46 #[.val (.ref r0), .val (.int p1), .val (.int ((((p1.toUInt32 >>> ((6 : Int32) &&& 31).toUInt32).toInt32) + (1 : Int32)) + (1 : Int32))), .val (.long (T (a / 64 + 1))), .second] [(.ref tr), (.int ((((p1.toUInt32 >>> ((6 : Int32) &&& 31).toUInt32).toInt32) + (1 : Int32)) + (1 : Int32)))]))
        refine Owes.glen X7 hx hZ e7 F0.2.2.2.2.2.2.2.2.1 (z := (2 : Int32)) rfl (hb hby d7_46) ?_
        show Owes _ _ _ _ (T7.setTop (mkF m 47 #[.val (.ref r0), .val (.int p1), .val (.int ((((p1.toUInt32 >>> ((6 : Int32) &&& 31).toUInt32).toInt32) + (1 : Int32)) + (1 : Int32))), .val (.long (T (a / 64 + 1))), .second] [(.int (2 : Int32)), (.int ((((p1.toUInt32 >>> ((6 : Int32) &&& 31).toUInt32).toInt32) + (1 : Int32)) + (1 : Int32)))]))
        refine Owes.go ?_ fun t₀ k₀ => XS.icmpNo X7.here hx rfl (hb hby d7_47) rfl (teq (own_eqi (own_inc (own_inc (own_sh6 ha) (by omega)) (by omega)) (b := 2) rfl (by omega))).2 k₀
        show Owes _ _ _ _ (T7.setTop (mkF m 50 #[.val (.ref r0), .val (.int p1), .val (.int ((((p1.toUInt32 >>> ((6 : Int32) &&& 31).toUInt32).toInt32) + (1 : Int32)) + (1 : Int32))), .val (.long (T (a / 64 + 1))), .second] []))
        refine Owes.go ?_ fun t₀ k₀ => XS.aloadN X7.here hx rfl (hb hby d7_50) rfl rfl k₀
        show Owes _ _ _ _ (T7.setTop (mkF m 51 #[.val (.ref r0), .val (.int p1), .val (.int ((((p1.toUInt32 >>> ((6 : Int32) &&& 31).toUInt32).toInt32) + (1 : Int32)) + (1 : Int32))), .val (.long (T (a / 64 + 1))), .second] [(.ref r0)]))
        obtain ⟨T8, X8, e8, st8⟩ := getF X7 hx hZ hown (host := "") (Or.inl (hw _ (List.mem_of_getElem? (i := 16) rfl))) Via.refl e7 F0.2.1 (g := (mkF m 51 #[.val (.ref r0), .val (.int p1), .val (.int ((((p1.toUInt32 >>> ((6 : Int32) &&& 31).toUInt32).toInt32) + (1 : Int32)) + (1 : Int32))), .val (.long (T (a / 64 + 1))), .second] [(.ref r0)])) rfl rfl (hb hby d7_51)
        refine Owes.go ?_ st8
        show Owes _ _ _ _ (T8.setTop (mkF m 54 #[.val (.ref r0), .val (.int p1), .val (.int ((((p1.toUInt32 >>> ((6 : Int32) &&& 31).toUInt32).toInt32) + (1 : Int32)) + (1 : Int32))), .val (.long (T (a / 64 + 1))), .second] [(.int (65 : Int32))]))
        exact Owes.retI X8 hx hlk hret (hb hby d7_54) (by decide) (by decide) ⟨_, rfl, rfl, e8, (by rw [own_nx0 ha hc1]; constructor; (intro q; rw [show (65 : Int32).toInt = 65 from rfl] at q; omega); (intro q; cases q))⟩
      · skip
        refine Owes.go ?_ fun t₀ k₀ => XS.ifYes X6.here hx rfl (pc0 := 35) (pc' := 65) rfl (hb hby d7_35) rfl ((if0 _ _).trans (feq (fun q => hc2 ((lw_eq _ _).mp q))).2) (by decide) (by decide) k₀
        show Owes _ _ _ _ (T6.setTop (mkF m 65 #[.val (.ref r0), .val (.int p1), .val (.int (((p1.toUInt32 >>> ((6 : Int32) &&& 31).toUInt32).toInt32) + (1 : Int32))), .val (.long (T (a / 64 + 1))), .second] []))
        refine Owes.go ?_ fun t₀ k₀ => XS.iloadN X6.here hx rfl (hb hby d7_65) rfl k₀
        show Owes _ _ _ _ (T6.setTop (mkF m 66 #[.val (.ref r0), .val (.int p1), .val (.int (((p1.toUInt32 >>> ((6 : Int32) &&& 31).toUInt32).toInt32) + (1 : Int32))), .val (.long (T (a / 64 + 1))), .second] [(.int (((p1.toUInt32 >>> ((6 : Int32) &&& 31).toUInt32).toInt32) + (1 : Int32)))]))
        refine Owes.go ?_ fun t₀ k₀ => XS.bipush X6.here hx rfl (hb hby d7_66) k₀
        show Owes _ _ _ _ (T6.setTop (mkF m 68 #[.val (.ref r0), .val (.int p1), .val (.int (((p1.toUInt32 >>> ((6 : Int32) &&& 31).toUInt32).toInt32) + (1 : Int32))), .val (.long (T (a / 64 + 1))), .second] [(.int (64 : Int32)), (.int (((p1.toUInt32 >>> ((6 : Int32) &&& 31).toUInt32).toInt32) + (1 : Int32)))]))
        refine Owes.go ?_ fun t₀ k₀ => XS.imul X6.here hx rfl (hb hby d7_68) rfl k₀
        show Owes _ _ _ _ (T6.setTop (mkF m 69 #[.val (.ref r0), .val (.int p1), .val (.int (((p1.toUInt32 >>> ((6 : Int32) &&& 31).toUInt32).toInt32) + (1 : Int32))), .val (.long (T (a / 64 + 1))), .second] [(.int ((((p1.toUInt32 >>> ((6 : Int32) &&& 31).toUInt32).toInt32) + (1 : Int32)) * (64 : Int32)))]))
        refine Owes.go ?_ fun t₀ k₀ => XS.lloadN X6.here hx rfl (hb hby d7_69) rfl k₀
        show Owes _ _ _ _ (T6.setTop (mkF m 70 #[.val (.ref r0), .val (.int p1), .val (.int (((p1.toUInt32 >>> ((6 : Int32) &&& 31).toUInt32).toInt32) + (1 : Int32))), .val (.long (T (a / 64 + 1))), .second] [(.long (T (a / 64 + 1))), (.int ((((p1.toUInt32 >>> ((6 : Int32) &&& 31).toUInt32).toInt32) + (1 : Int32)) * (64 : Int32)))]))
        obtain ⟨t, hL⟩ := Low.ex hc2
        have hz := own_ntzJ _ t hL
        refine Owes.callS X6 hx hZ hown (hw _ (List.mem_of_getElem? (i := 57) rfl)) (hw _ (List.mem_of_getElem? (i := 58) rfl)) (hw _ (List.mem_of_getElem? (i := 59) rfl)) (hw _ (List.mem_of_getElem? (i := 60) rfl)) (by decide) (argsL := [(.long (T (a / 64 + 1)))]) (rest := [(.int ((((p1.toUInt32 >>> ((6 : Int32) &&& 31).toUInt32).toInt32) + (1 : Int32)) * (64 : Int32)))]) (rm_f_ntzJ l Z a0 hw [] (T (a / 64 + 1)) h0 ) e6 (by rw [hml]; rfl) pd_1 rfl rfl (hb hby d7_70) (by decide) (Nat.le_of_ble_eq_true rfl) (by decide) (by decide) ?_
        rintro T9 _ _ X9 ⟨rfl, rfl, e9⟩
        rw [List.append_nil] at X9
        show Owes _ _ _ _ (T9.setTop (mkF m 73 #[.val (.ref r0), .val (.int p1), .val (.int (((p1.toUInt32 >>> ((6 : Int32) &&& 31).toUInt32).toInt32) + (1 : Int32))), .val (.long (T (a / 64 + 1))), .second] [(.int (f_ntzJ (T (a / 64 + 1)))), (.int ((((p1.toUInt32 >>> ((6 : Int32) &&& 31).toUInt32).toInt32) + (1 : Int32)) * (64 : Int32)))]))
        refine Owes.go ?_ fun t₀ k₀ => XS.iadd X9.here hx rfl (hb hby d7_73) rfl k₀
        show Owes _ _ _ _ (T9.setTop (mkF m 74 #[.val (.ref r0), .val (.int p1), .val (.int (((p1.toUInt32 >>> ((6 : Int32) &&& 31).toUInt32).toInt32) + (1 : Int32))), .val (.long (T (a / 64 + 1))), .second] [(.int (((((p1.toUInt32 >>> ((6 : Int32) &&& 31).toUInt32).toInt32) + (1 : Int32)) * (64 : Int32)) + (f_ntzJ (T (a / 64 + 1)))))]))
        exact Owes.retI X9 hx hlk hret (hb hby d7_74) (by decide) (by decide) ⟨_, rfl, rfl, e9, own_nx2 (by rw [own_inc (own_sh6 ha) (by omega), show a / 64 + 1 = 1 by omega]) ca hL.1 hz (own_nx0 ha hc1)⟩
    · skip
      refine Owes.go ?_ fun t₀ k₀ => XS.ifYes X4.here hx rfl (pc0 := 35) (pc' := 65) rfl (hb hby d7_35) rfl ((if0 _ _).trans (feq (fun q => hc1 ((lw_eq _ _).mp q))).2) (by decide) (by decide) k₀
      show Owes _ _ _ _ (T4.setTop (mkF m 65 #[.val (.ref r0), .val (.int p1), .val (.int ((p1.toUInt32 >>> ((6 : Int32) &&& 31).toUInt32).toInt32)), .val (.long ((T (a / 64)) &&& ((-1 : Int64) <<< (p1 &&& 0x3f).toInt64))), .second] []))
      refine Owes.go ?_ fun t₀ k₀ => XS.iloadN X4.here hx rfl (hb hby d7_65) rfl k₀
      show Owes _ _ _ _ (T4.setTop (mkF m 66 #[.val (.ref r0), .val (.int p1), .val (.int ((p1.toUInt32 >>> ((6 : Int32) &&& 31).toUInt32).toInt32)), .val (.long ((T (a / 64)) &&& ((-1 : Int64) <<< (p1 &&& 0x3f).toInt64))), .second] [(.int ((p1.toUInt32 >>> ((6 : Int32) &&& 31).toUInt32).toInt32))]))
      refine Owes.go ?_ fun t₀ k₀ => XS.bipush X4.here hx rfl (hb hby d7_66) k₀
      show Owes _ _ _ _ (T4.setTop (mkF m 68 #[.val (.ref r0), .val (.int p1), .val (.int ((p1.toUInt32 >>> ((6 : Int32) &&& 31).toUInt32).toInt32)), .val (.long ((T (a / 64)) &&& ((-1 : Int64) <<< (p1 &&& 0x3f).toInt64))), .second] [(.int (64 : Int32)), (.int ((p1.toUInt32 >>> ((6 : Int32) &&& 31).toUInt32).toInt32))]))
      refine Owes.go ?_ fun t₀ k₀ => XS.imul X4.here hx rfl (hb hby d7_68) rfl k₀
      show Owes _ _ _ _ (T4.setTop (mkF m 69 #[.val (.ref r0), .val (.int p1), .val (.int ((p1.toUInt32 >>> ((6 : Int32) &&& 31).toUInt32).toInt32)), .val (.long ((T (a / 64)) &&& ((-1 : Int64) <<< (p1 &&& 0x3f).toInt64))), .second] [(.int (((p1.toUInt32 >>> ((6 : Int32) &&& 31).toUInt32).toInt32) * (64 : Int32)))]))
      refine Owes.go ?_ fun t₀ k₀ => XS.lloadN X4.here hx rfl (hb hby d7_69) rfl k₀
      show Owes _ _ _ _ (T4.setTop (mkF m 70 #[.val (.ref r0), .val (.int p1), .val (.int ((p1.toUInt32 >>> ((6 : Int32) &&& 31).toUInt32).toInt32)), .val (.long ((T (a / 64)) &&& ((-1 : Int64) <<< (p1 &&& 0x3f).toInt64))), .second] [(.long ((T (a / 64)) &&& ((-1 : Int64) <<< (p1 &&& 0x3f).toInt64))), (.int (((p1.toUInt32 >>> ((6 : Int32) &&& 31).toUInt32).toInt32) * (64 : Int32)))]))
      obtain ⟨t, hL⟩ := Low.ex hc1
      have hz := own_ntzJ _ t hL
      refine Owes.callS X4 hx hZ hown (hw _ (List.mem_of_getElem? (i := 57) rfl)) (hw _ (List.mem_of_getElem? (i := 58) rfl)) (hw _ (List.mem_of_getElem? (i := 59) rfl)) (hw _ (List.mem_of_getElem? (i := 60) rfl)) (by decide) (argsL := [(.long ((T (a / 64)) &&& ((-1 : Int64) <<< (p1 &&& 0x3f).toInt64)))]) (rest := [(.int (((p1.toUInt32 >>> ((6 : Int32) &&& 31).toUInt32).toInt32) * (64 : Int32)))]) (rm_f_ntzJ l Z a0 hw [] ((T (a / 64)) &&& ((-1 : Int64) <<< (p1 &&& 0x3f).toInt64)) h0 ) e4 (by rw [hml]; rfl) pd_1 rfl rfl (hb hby d7_70) (by decide) (Nat.le_of_ble_eq_true rfl) (by decide) (by decide) ?_
      rintro T10 _ _ X10 ⟨rfl, rfl, e10⟩
      rw [List.append_nil] at X10
      show Owes _ _ _ _ (T10.setTop (mkF m 73 #[.val (.ref r0), .val (.int p1), .val (.int ((p1.toUInt32 >>> ((6 : Int32) &&& 31).toUInt32).toInt32)), .val (.long ((T (a / 64)) &&& ((-1 : Int64) <<< (p1 &&& 0x3f).toInt64))), .second] [(.int (f_ntzJ ((T (a / 64)) &&& ((-1 : Int64) <<< (p1 &&& 0x3f).toInt64)))), (.int (((p1.toUInt32 >>> ((6 : Int32) &&& 31).toUInt32).toInt32) * (64 : Int32)))]))
      refine Owes.go ?_ fun t₀ k₀ => XS.iadd X10.here hx rfl (hb hby d7_73) rfl k₀
      show Owes _ _ _ _ (T10.setTop (mkF m 74 #[.val (.ref r0), .val (.int p1), .val (.int ((p1.toUInt32 >>> ((6 : Int32) &&& 31).toUInt32).toInt32)), .val (.long ((T (a / 64)) &&& ((-1 : Int64) <<< (p1 &&& 0x3f).toInt64))), .second] [(.int ((((p1.toUInt32 >>> ((6 : Int32) &&& 31).toUInt32).toInt32) * (64 : Int32)) + (f_ntzJ ((T (a / 64)) &&& ((-1 : Int64) <<< (p1 &&& 0x3f).toInt64)))))]))
      exact Owes.retI X10 hx hlk hret (hb hby d7_74) (by decide) (by decide) ⟨_, rfl, rfl, e10, own_nx1 ha (own_sh6 ha) ha5 hL hz⟩
  · skip
    refine Owes.go ?_ fun t₀ k₀ => XS.iloadN X0.here hx rfl (hb hby d7_0) rfl k₀
    show Owes _ _ _ _ (s₁.setTop (mkF m 1 #[.val (.ref r0), .val (.int p1), .unset, .unset, .unset] [(.int p1)]))
    refine Owes.go ?_ fun t₀ k₀ => XS.bipush X0.here hx rfl (hb hby d7_1) k₀
    show Owes _ _ _ _ (s₁.setTop (mkF m 3 #[.val (.ref r0), .val (.int p1), .unset, .unset, .unset] [(.int (6 : Int32)), (.int p1)]))
    refine Owes.go ?_ fun t₀ k₀ => XS.iushr X0.here hx rfl (hb hby d7_3) rfl k₀
    show Owes _ _ _ _ (s₁.setTop (mkF m 4 #[.val (.ref r0), .val (.int p1), .unset, .unset, .unset] [(.int ((p1.toUInt32 >>> ((6 : Int32) &&& 31).toUInt32).toInt32))]))
    refine Owes.go ?_ fun t₀ k₀ => XS.istoreN X0.here hx rfl (hb hby d7_4) rfl (l' := #[.val (.ref r0), .val (.int p1), .val (.int ((p1.toUInt32 >>> ((6 : Int32) &&& 31).toUInt32).toInt32)), .unset, .unset]) rfl k₀
    show Owes _ _ _ _ (s₁.setTop (mkF m 5 #[.val (.ref r0), .val (.int p1), .val (.int ((p1.toUInt32 >>> ((6 : Int32) &&& 31).toUInt32).toInt32)), .unset, .unset] []))
    refine Owes.go ?_ fun t₀ k₀ => XS.iloadN X0.here hx rfl (hb hby d7_5) rfl k₀
    show Owes _ _ _ _ (s₁.setTop (mkF m 6 #[.val (.ref r0), .val (.int p1), .val (.int ((p1.toUInt32 >>> ((6 : Int32) &&& 31).toUInt32).toInt32)), .unset, .unset] [(.int ((p1.toUInt32 >>> ((6 : Int32) &&& 31).toUInt32).toInt32))]))
    refine Owes.go ?_ fun t₀ k₀ => XS.aloadN X0.here hx rfl (hb hby d7_6) rfl rfl k₀
    show Owes _ _ _ _ (s₁.setTop (mkF m 7 #[.val (.ref r0), .val (.int p1), .val (.int ((p1.toUInt32 >>> ((6 : Int32) &&& 31).toUInt32).toInt32)), .unset, .unset] [(.ref r0), (.int ((p1.toUInt32 >>> ((6 : Int32) &&& 31).toUInt32).toInt32))]))
    obtain ⟨T11, X11, e11, st11⟩ := getF X0 hx hZ hown (host := "") (Or.inl (hw _ (List.mem_of_getElem? (i := 19) rfl))) Via.refl e0 F0.2.2.1 (g := (mkF m 7 #[.val (.ref r0), .val (.int p1), .val (.int ((p1.toUInt32 >>> ((6 : Int32) &&& 31).toUInt32).toInt32)), .unset, .unset] [(.ref r0), (.int ((p1.toUInt32 >>> ((6 : Int32) &&& 31).toUInt32).toInt32))])) rfl rfl (hb hby d7_7)
    refine Owes.go ?_ st11
    show Owes _ _ _ _ (T11.setTop (mkF m 10 #[.val (.ref r0), .val (.int p1), .val (.int ((p1.toUInt32 >>> ((6 : Int32) &&& 31).toUInt32).toInt32)), .unset, .unset] [(.ref tr), (.int ((p1.toUInt32 >>> ((6 : Int32) &&& 31).toUInt32).toInt32))]))
    refine Owes.glen X11 hx hZ e11 F0.2.2.2.2.2.2.2.2.1 (z := (2 : Int32)) rfl (hb hby d7_10) ?_
    show Owes _ _ _ _ (T11.setTop (mkF m 11 #[.val (.ref r0), .val (.int p1), .val (.int ((p1.toUInt32 >>> ((6 : Int32) &&& 31).toUInt32).toInt32)), .unset, .unset] [(.int (2 : Int32)), (.int ((p1.toUInt32 >>> ((6 : Int32) &&& 31).toUInt32).toInt32))]))
    refine Owes.go ?_ fun t₀ k₀ => XS.icmpYes X11.here hx rfl (pc0 := 11) (pc' := 19) rfl (hb hby d7_11) rfl (tlt (own_lti (own_sh6 ha) (b := 2) rfl (by omega))).1 (by decide) (by decide) k₀
    show Owes _ _ _ _ (T11.setTop (mkF m 19 #[.val (.ref r0), .val (.int p1), .val (.int ((p1.toUInt32 >>> ((6 : Int32) &&& 31).toUInt32).toInt32)), .unset, .unset] []))
    refine Owes.go ?_ fun t₀ k₀ => XS.aloadN X11.here hx rfl (hb hby d7_19) rfl rfl k₀
    show Owes _ _ _ _ (T11.setTop (mkF m 20 #[.val (.ref r0), .val (.int p1), .val (.int ((p1.toUInt32 >>> ((6 : Int32) &&& 31).toUInt32).toInt32)), .unset, .unset] [(.ref r0)]))
    obtain ⟨T12, X12, e12, st12⟩ := getF X11 hx hZ hown (host := "") (Or.inl (hw _ (List.mem_of_getElem? (i := 19) rfl))) Via.refl e11 F0.2.2.1 (g := (mkF m 20 #[.val (.ref r0), .val (.int p1), .val (.int ((p1.toUInt32 >>> ((6 : Int32) &&& 31).toUInt32).toInt32)), .unset, .unset] [(.ref r0)])) rfl rfl (hb hby d7_20)
    refine Owes.go ?_ st12
    show Owes _ _ _ _ (T12.setTop (mkF m 23 #[.val (.ref r0), .val (.int p1), .val (.int ((p1.toUInt32 >>> ((6 : Int32) &&& 31).toUInt32).toInt32)), .unset, .unset] [(.ref tr)]))
    refine Owes.go ?_ fun t₀ k₀ => XS.iloadN X12.here hx rfl (hb hby d7_23) rfl k₀
    show Owes _ _ _ _ (T12.setTop (mkF m 24 #[.val (.ref r0), .val (.int p1), .val (.int ((p1.toUInt32 >>> ((6 : Int32) &&& 31).toUInt32).toInt32)), .unset, .unset] [(.int ((p1.toUInt32 >>> ((6 : Int32) &&& 31).toUInt32).toInt32)), (.ref tr)]))
    refine Owes.gJ X12 hx hZ e12 F0.2.2.2.2.2.2.2.2.1 (own_sh6 ha) (show (a / 64) < 2 by omega) (v := .long (T (a / 64))) rfl (hb hby d7_24) ?_
    show Owes _ _ _ _ (T12.setTop (mkF m 25 #[.val (.ref r0), .val (.int p1), .val (.int ((p1.toUInt32 >>> ((6 : Int32) &&& 31).toUInt32).toInt32)), .unset, .unset] [(.long (T (a / 64)))]))
    refine Owes.go ?_ fun t₀ k₀ => X12.ldc2Long hx hown (mvT hZ (hw _ (List.mem_of_getElem? (i := 56) rfl))) (g := (mkF m 25 #[.val (.ref r0), .val (.int p1), .val (.int ((p1.toUInt32 >>> ((6 : Int32) &&& 31).toUInt32).toInt32)), .unset, .unset] [(.long (T (a / 64)))])) rfl (hb hby d7_25) _ k₀
    show Owes _ _ _ _ (T12.setTop (mkF m 28 #[.val (.ref r0), .val (.int p1), .val (.int ((p1.toUInt32 >>> ((6 : Int32) &&& 31).toUInt32).toInt32)), .unset, .unset] [(.long (-1 : Int64)), (.long (T (a / 64)))]))
    refine Owes.go ?_ fun t₀ k₀ => XS.iloadN X12.here hx rfl (hb hby d7_28) rfl k₀
    show Owes _ _ _ _ (T12.setTop (mkF m 29 #[.val (.ref r0), .val (.int p1), .val (.int ((p1.toUInt32 >>> ((6 : Int32) &&& 31).toUInt32).toInt32)), .unset, .unset] [(.int p1), (.long (-1 : Int64)), (.long (T (a / 64)))]))
    refine Owes.go ?_ fun t₀ k₀ => XS.lshl X12.here hx rfl (hb hby d7_29) rfl k₀
    show Owes _ _ _ _ (T12.setTop (mkF m 30 #[.val (.ref r0), .val (.int p1), .val (.int ((p1.toUInt32 >>> ((6 : Int32) &&& 31).toUInt32).toInt32)), .unset, .unset] [(.long ((-1 : Int64) <<< (p1 &&& 0x3f).toInt64)), (.long (T (a / 64)))]))
    refine Owes.go ?_ fun t₀ k₀ => XS.land X12.here hx rfl (hb hby d7_30) rfl k₀
    show Owes _ _ _ _ (T12.setTop (mkF m 31 #[.val (.ref r0), .val (.int p1), .val (.int ((p1.toUInt32 >>> ((6 : Int32) &&& 31).toUInt32).toInt32)), .unset, .unset] [(.long ((T (a / 64)) &&& ((-1 : Int64) <<< (p1 &&& 0x3f).toInt64)))]))
    refine Owes.go ?_ fun t₀ k₀ => XS.lstoreN X12.here hx rfl (hb hby d7_31) rfl (l' := #[.val (.ref r0), .val (.int p1), .val (.int ((p1.toUInt32 >>> ((6 : Int32) &&& 31).toUInt32).toInt32)), .val (.long ((T (a / 64)) &&& ((-1 : Int64) <<< (p1 &&& 0x3f).toInt64))), .second]) rfl k₀
    show Owes _ _ _ _ (T12.setTop (mkF m 32 #[.val (.ref r0), .val (.int p1), .val (.int ((p1.toUInt32 >>> ((6 : Int32) &&& 31).toUInt32).toInt32)), .val (.long ((T (a / 64)) &&& ((-1 : Int64) <<< (p1 &&& 0x3f).toInt64))), .second] []))
    refine Owes.go ?_ fun t₀ k₀ => XS.lloadN X12.here hx rfl (hb hby d7_32) rfl k₀
    show Owes _ _ _ _ (T12.setTop (mkF m 33 #[.val (.ref r0), .val (.int p1), .val (.int ((p1.toUInt32 >>> ((6 : Int32) &&& 31).toUInt32).toInt32)), .val (.long ((T (a / 64)) &&& ((-1 : Int64) <<< (p1 &&& 0x3f).toInt64))), .second] [(.long ((T (a / 64)) &&& ((-1 : Int64) <<< (p1 &&& 0x3f).toInt64)))]))
    refine Owes.go ?_ fun t₀ k₀ => XS.lconst X12.here hx rfl (hb hby d7_33) k₀
    show Owes _ _ _ _ (T12.setTop (mkF m 34 #[.val (.ref r0), .val (.int p1), .val (.int ((p1.toUInt32 >>> ((6 : Int32) &&& 31).toUInt32).toInt32)), .val (.long ((T (a / 64)) &&& ((-1 : Int64) <<< (p1 &&& 0x3f).toInt64))), .second] [(.long (0 : Int64)), (.long ((T (a / 64)) &&& ((-1 : Int64) <<< (p1 &&& 0x3f).toInt64)))]))
    refine Owes.go ?_ fun t₀ k₀ => XS.lcmp X12.here hx rfl (hb hby d7_34) rfl k₀
    show Owes _ _ _ _ (T12.setTop (mkF m 35 #[.val (.ref r0), .val (.int p1), .val (.int ((p1.toUInt32 >>> ((6 : Int32) &&& 31).toUInt32).toInt32)), .val (.long ((T (a / 64)) &&& ((-1 : Int64) <<< (p1 &&& 0x3f).toInt64))), .second] [(.int (lcmpW ((T (a / 64)) &&& ((-1 : Int64) <<< (p1 &&& 0x3f).toInt64)) (0 : Int64)))]))
    by_cases hc3 : ((T (a / 64)) &&& ((-1 : Int64) <<< (p1 &&& 0x3f).toInt64)) = (0 : Int64)
    · skip
      refine Owes.go ?_ fun t₀ k₀ => XS.ifNo X12.here hx rfl (hb hby d7_35) rfl ((if0 _ _).trans (teq ((lw_eq _ _).mpr hc3)).2) k₀
      show Owes _ _ _ _ (T12.setTop (mkF m 38 #[.val (.ref r0), .val (.int p1), .val (.int ((p1.toUInt32 >>> ((6 : Int32) &&& 31).toUInt32).toInt32)), .val (.long ((T (a / 64)) &&& ((-1 : Int64) <<< (p1 &&& 0x3f).toInt64))), .second] []))
      refine Owes.go ?_ fun t₀ k₀ => XS.iinc X12.here hx rfl (hb hby d7_38) rfl (l' := #[.val (.ref r0), .val (.int p1), .val (.int (((p1.toUInt32 >>> ((6 : Int32) &&& 31).toUInt32).toInt32) + (1 : Int32))), .val (.long ((T (a / 64)) &&& ((-1 : Int64) <<< (p1 &&& 0x3f).toInt64))), .second]) rfl k₀
      show Owes _ _ _ _ (T12.setTop (mkF m 41 #[.val (.ref r0), .val (.int p1), .val (.int (((p1.toUInt32 >>> ((6 : Int32) &&& 31).toUInt32).toInt32) + (1 : Int32))), .val (.long ((T (a / 64)) &&& ((-1 : Int64) <<< (p1 &&& 0x3f).toInt64))), .second] []))
      refine Owes.go ?_ fun t₀ k₀ => XS.iloadN X12.here hx rfl (hb hby d7_41) rfl k₀
      show Owes _ _ _ _ (T12.setTop (mkF m 42 #[.val (.ref r0), .val (.int p1), .val (.int (((p1.toUInt32 >>> ((6 : Int32) &&& 31).toUInt32).toInt32) + (1 : Int32))), .val (.long ((T (a / 64)) &&& ((-1 : Int64) <<< (p1 &&& 0x3f).toInt64))), .second] [(.int (((p1.toUInt32 >>> ((6 : Int32) &&& 31).toUInt32).toInt32) + (1 : Int32)))]))
      refine Owes.go ?_ fun t₀ k₀ => XS.aloadN X12.here hx rfl (hb hby d7_42) rfl rfl k₀
      show Owes _ _ _ _ (T12.setTop (mkF m 43 #[.val (.ref r0), .val (.int p1), .val (.int (((p1.toUInt32 >>> ((6 : Int32) &&& 31).toUInt32).toInt32) + (1 : Int32))), .val (.long ((T (a / 64)) &&& ((-1 : Int64) <<< (p1 &&& 0x3f).toInt64))), .second] [(.ref r0), (.int (((p1.toUInt32 >>> ((6 : Int32) &&& 31).toUInt32).toInt32) + (1 : Int32)))]))
      obtain ⟨T13, X13, e13, st13⟩ := getF X12 hx hZ hown (host := "") (Or.inl (hw _ (List.mem_of_getElem? (i := 19) rfl))) Via.refl e12 F0.2.2.1 (g := (mkF m 43 #[.val (.ref r0), .val (.int p1), .val (.int (((p1.toUInt32 >>> ((6 : Int32) &&& 31).toUInt32).toInt32) + (1 : Int32))), .val (.long ((T (a / 64)) &&& ((-1 : Int64) <<< (p1 &&& 0x3f).toInt64))), .second] [(.ref r0), (.int (((p1.toUInt32 >>> ((6 : Int32) &&& 31).toUInt32).toInt32) + (1 : Int32)))])) rfl rfl (hb hby d7_43)
      refine Owes.go ?_ st13
      show Owes _ _ _ _ (T13.setTop (mkF m 46 #[.val (.ref r0), .val (.int p1), .val (.int (((p1.toUInt32 >>> ((6 : Int32) &&& 31).toUInt32).toInt32) + (1 : Int32))), .val (.long ((T (a / 64)) &&& ((-1 : Int64) <<< (p1 &&& 0x3f).toInt64))), .second] [(.ref tr), (.int (((p1.toUInt32 >>> ((6 : Int32) &&& 31).toUInt32).toInt32) + (1 : Int32)))]))
      refine Owes.glen X13 hx hZ e13 F0.2.2.2.2.2.2.2.2.1 (z := (2 : Int32)) rfl (hb hby d7_46) ?_
      show Owes _ _ _ _ (T13.setTop (mkF m 47 #[.val (.ref r0), .val (.int p1), .val (.int (((p1.toUInt32 >>> ((6 : Int32) &&& 31).toUInt32).toInt32) + (1 : Int32))), .val (.long ((T (a / 64)) &&& ((-1 : Int64) <<< (p1 &&& 0x3f).toInt64))), .second] [(.int (2 : Int32)), (.int (((p1.toUInt32 >>> ((6 : Int32) &&& 31).toUInt32).toInt32) + (1 : Int32)))]))
      refine Owes.go ?_ fun t₀ k₀ => XS.icmpNo X13.here hx rfl (hb hby d7_47) rfl (teq (own_eqi (own_inc (own_sh6 ha) (by omega)) (b := 2) rfl (by omega))).2 k₀
      show Owes _ _ _ _ (T13.setTop (mkF m 50 #[.val (.ref r0), .val (.int p1), .val (.int (((p1.toUInt32 >>> ((6 : Int32) &&& 31).toUInt32).toInt32) + (1 : Int32))), .val (.long ((T (a / 64)) &&& ((-1 : Int64) <<< (p1 &&& 0x3f).toInt64))), .second] []))
      refine Owes.go ?_ fun t₀ k₀ => XS.aloadN X13.here hx rfl (hb hby d7_50) rfl rfl k₀
      show Owes _ _ _ _ (T13.setTop (mkF m 51 #[.val (.ref r0), .val (.int p1), .val (.int (((p1.toUInt32 >>> ((6 : Int32) &&& 31).toUInt32).toInt32) + (1 : Int32))), .val (.long ((T (a / 64)) &&& ((-1 : Int64) <<< (p1 &&& 0x3f).toInt64))), .second] [(.ref r0)]))
      obtain ⟨T14, X14, e14, st14⟩ := getF X13 hx hZ hown (host := "") (Or.inl (hw _ (List.mem_of_getElem? (i := 16) rfl))) Via.refl e13 F0.2.1 (g := (mkF m 51 #[.val (.ref r0), .val (.int p1), .val (.int (((p1.toUInt32 >>> ((6 : Int32) &&& 31).toUInt32).toInt32) + (1 : Int32))), .val (.long ((T (a / 64)) &&& ((-1 : Int64) <<< (p1 &&& 0x3f).toInt64))), .second] [(.ref r0)])) rfl rfl (hb hby d7_51)
      refine Owes.go ?_ st14
      show Owes _ _ _ _ (T14.setTop (mkF m 54 #[.val (.ref r0), .val (.int p1), .val (.int (((p1.toUInt32 >>> ((6 : Int32) &&& 31).toUInt32).toInt32) + (1 : Int32))), .val (.long ((T (a / 64)) &&& ((-1 : Int64) <<< (p1 &&& 0x3f).toInt64))), .second] [(.int (65 : Int32))]))
      exact Owes.retI X14 hx hlk hret (hb hby d7_54) (by decide) (by decide) ⟨_, rfl, rfl, e14, (by rw [own_nx0 ha hc3]; constructor; (intro q; rw [show (65 : Int32).toInt = 65 from rfl] at q; omega); (intro q; cases q))⟩
    · skip
      refine Owes.go ?_ fun t₀ k₀ => XS.ifYes X12.here hx rfl (pc0 := 35) (pc' := 65) rfl (hb hby d7_35) rfl ((if0 _ _).trans (feq (fun q => hc3 ((lw_eq _ _).mp q))).2) (by decide) (by decide) k₀
      show Owes _ _ _ _ (T12.setTop (mkF m 65 #[.val (.ref r0), .val (.int p1), .val (.int ((p1.toUInt32 >>> ((6 : Int32) &&& 31).toUInt32).toInt32)), .val (.long ((T (a / 64)) &&& ((-1 : Int64) <<< (p1 &&& 0x3f).toInt64))), .second] []))
      refine Owes.go ?_ fun t₀ k₀ => XS.iloadN X12.here hx rfl (hb hby d7_65) rfl k₀
      show Owes _ _ _ _ (T12.setTop (mkF m 66 #[.val (.ref r0), .val (.int p1), .val (.int ((p1.toUInt32 >>> ((6 : Int32) &&& 31).toUInt32).toInt32)), .val (.long ((T (a / 64)) &&& ((-1 : Int64) <<< (p1 &&& 0x3f).toInt64))), .second] [(.int ((p1.toUInt32 >>> ((6 : Int32) &&& 31).toUInt32).toInt32))]))
      refine Owes.go ?_ fun t₀ k₀ => XS.bipush X12.here hx rfl (hb hby d7_66) k₀
      show Owes _ _ _ _ (T12.setTop (mkF m 68 #[.val (.ref r0), .val (.int p1), .val (.int ((p1.toUInt32 >>> ((6 : Int32) &&& 31).toUInt32).toInt32)), .val (.long ((T (a / 64)) &&& ((-1 : Int64) <<< (p1 &&& 0x3f).toInt64))), .second] [(.int (64 : Int32)), (.int ((p1.toUInt32 >>> ((6 : Int32) &&& 31).toUInt32).toInt32))]))
      refine Owes.go ?_ fun t₀ k₀ => XS.imul X12.here hx rfl (hb hby d7_68) rfl k₀
      show Owes _ _ _ _ (T12.setTop (mkF m 69 #[.val (.ref r0), .val (.int p1), .val (.int ((p1.toUInt32 >>> ((6 : Int32) &&& 31).toUInt32).toInt32)), .val (.long ((T (a / 64)) &&& ((-1 : Int64) <<< (p1 &&& 0x3f).toInt64))), .second] [(.int (((p1.toUInt32 >>> ((6 : Int32) &&& 31).toUInt32).toInt32) * (64 : Int32)))]))
      refine Owes.go ?_ fun t₀ k₀ => XS.lloadN X12.here hx rfl (hb hby d7_69) rfl k₀
      show Owes _ _ _ _ (T12.setTop (mkF m 70 #[.val (.ref r0), .val (.int p1), .val (.int ((p1.toUInt32 >>> ((6 : Int32) &&& 31).toUInt32).toInt32)), .val (.long ((T (a / 64)) &&& ((-1 : Int64) <<< (p1 &&& 0x3f).toInt64))), .second] [(.long ((T (a / 64)) &&& ((-1 : Int64) <<< (p1 &&& 0x3f).toInt64))), (.int (((p1.toUInt32 >>> ((6 : Int32) &&& 31).toUInt32).toInt32) * (64 : Int32)))]))
      obtain ⟨t, hL⟩ := Low.ex hc3
      have hz := own_ntzJ _ t hL
      refine Owes.callS X12 hx hZ hown (hw _ (List.mem_of_getElem? (i := 57) rfl)) (hw _ (List.mem_of_getElem? (i := 58) rfl)) (hw _ (List.mem_of_getElem? (i := 59) rfl)) (hw _ (List.mem_of_getElem? (i := 60) rfl)) (by decide) (argsL := [(.long ((T (a / 64)) &&& ((-1 : Int64) <<< (p1 &&& 0x3f).toInt64)))]) (rest := [(.int (((p1.toUInt32 >>> ((6 : Int32) &&& 31).toUInt32).toInt32) * (64 : Int32)))]) (rm_f_ntzJ l Z a0 hw [] ((T (a / 64)) &&& ((-1 : Int64) <<< (p1 &&& 0x3f).toInt64)) h0 ) e12 (by rw [hml]; rfl) pd_1 rfl rfl (hb hby d7_70) (by decide) (Nat.le_of_ble_eq_true rfl) (by decide) (by decide) ?_
      rintro T15 _ _ X15 ⟨rfl, rfl, e15⟩
      rw [List.append_nil] at X15
      show Owes _ _ _ _ (T15.setTop (mkF m 73 #[.val (.ref r0), .val (.int p1), .val (.int ((p1.toUInt32 >>> ((6 : Int32) &&& 31).toUInt32).toInt32)), .val (.long ((T (a / 64)) &&& ((-1 : Int64) <<< (p1 &&& 0x3f).toInt64))), .second] [(.int (f_ntzJ ((T (a / 64)) &&& ((-1 : Int64) <<< (p1 &&& 0x3f).toInt64)))), (.int (((p1.toUInt32 >>> ((6 : Int32) &&& 31).toUInt32).toInt32) * (64 : Int32)))]))
      refine Owes.go ?_ fun t₀ k₀ => XS.iadd X15.here hx rfl (hb hby d7_73) rfl k₀
      show Owes _ _ _ _ (T15.setTop (mkF m 74 #[.val (.ref r0), .val (.int p1), .val (.int ((p1.toUInt32 >>> ((6 : Int32) &&& 31).toUInt32).toInt32)), .val (.long ((T (a / 64)) &&& ((-1 : Int64) <<< (p1 &&& 0x3f).toInt64))), .second] [(.int ((((p1.toUInt32 >>> ((6 : Int32) &&& 31).toUInt32).toInt32) * (64 : Int32)) + (f_ntzJ ((T (a / 64)) &&& ((-1 : Int64) <<< (p1 &&& 0x3f).toInt64)))))]))
      exact Owes.retI X15 hx hlk hret (hb hby d7_74) (by decide) (by decide) ⟨_, rfl, rfl, e15, own_nx1 ha (own_sh6 ha) ha5 hL hz⟩
theorem d10_0 : decode method_3_code 0 = .ok (.aload_n 0, 1) := by decide +kernel
theorem d10_1 : decode method_3_code 1 = .ok (.iload_n 2, 1) := by decide +kernel
theorem d10_2 : decode method_3_code 2 = .ok (.iaload, 1) := by decide +kernel
theorem d10_3 : decode method_3_code 3 = .ok (.iload_n 3, 1) := by decide +kernel
theorem d10_4 : decode method_3_code 4 = .ok (.if_icmp .gt 14, 3) := by decide +kernel
theorem d10_18 : decode method_3_code 18 = .ok (.iconst 0, 1) := by decide +kernel
theorem d10_19 : decode method_3_code 19 = .ok (.ireturn, 1) := by decide +kernel
theorem d10_7 : decode method_3_code 7 = .ok (.iload_n 3, 1) := by decide +kernel
theorem d10_8 : decode method_3_code 8 = .ok (.aload_n 1, 1) := by decide +kernel
theorem d10_9 : decode method_3_code 9 = .ok (.iload_n 2, 1) := by decide +kernel
theorem d10_10 : decode method_3_code 10 = .ok (.iaload, 1) := by decide +kernel
theorem d10_11 : decode method_3_code 11 = .ok (.if_icmp .gt 7, 3) := by decide +kernel
theorem d10_14 : decode method_3_code 14 = .ok (.iconst 1, 1) := by decide +kernel
theorem d10_15 : decode method_3_code 15 = .ok (.goto 4, 3) := by decide +kernel
def f_gv (p2 : Int32) (p3 : Int32) (x y : Int32) : Int32 := (if p3 < x then nar .boolean (0 : Int32) else (if y < p3 then nar .boolean (0 : Int32) else nar .boolean (1 : Int32)))
theorem ef_10_f_gv (m : MethodId) (r0 : Addr) (r1 : Addr) (p2 : Int32) (p3 : Int32) : entryFrame m #[(.ref r0), (.ref r1), (.int p2), (.int p3)] 4 = mkF m 0 #[.val (.ref r0), .val (.ref r1), .val (.int p2), .val (.int p3)] [] := by first | (simp [entryFrame, mkF, argsToLocals, Value.category]; done) | rfl
theorem pn_10 : plainFor (⟨"com/example/slotwright/slotwright/core/TriedSlotsReachPinLaw", "gives", "([I[III)Z"⟩ : MethodName) = true := plainFor_of_name (by first | (simp [plainName, overriddenIn]; done) | decide +kernel)
set_option maxRecDepth 65536 in
set_option maxHeartbeats 40000000 in
theorem rm_f_gv (l : Launch) (Z : State) (a0 : Array Value) (hw : ∀ d ∈ tables_1, d.before a0 Z = true) (ws : List Jvm.Cond) (r0 : Addr) (r1 : Addr) (p2 : Int32) (p3 : Int32) (h0 : Heap) (Fa Sl : Nat → Int32) (GF : GA Z h0 r0 .int 65 (fun i => .int (Fa i))) (GS : GA Z h0 r1 .int 65 (fun i => .int (Sl i))) (q : Nat) (hq : p2.toInt = (q : Int)) (hq5 : q < 65) (x y : Int32) (hxx : Fa q = x) (hyy : Sl q = y) :
    OMet l (⟨"com/example/slotwright/slotwright/core/TriedSlotsReachPinLaw", "gives", "([I[III)Z"⟩ : MethodName) method_3_code 4 (some .boolean) ws ({ frames := 0, cells := 0, slots := 0, locals := 0 } : Room) #[(.ref r0), (.ref r1), (.int p2), (.int p3)] Z h0 (fun v h L => v = some (Value.int (f_gv p2 p3 x y)) ∧ L = [] ∧ h = h0) := by
  refine OMet.of pn_10 (fun m => ef_10_f_gv m r0 r1 p2 p3) ?_
  intro p e s m below meth c s₁ hx hby hml hown hnm hret hlk hZ X0 e0
  refine Owes.go ?_ fun t₀ k₀ => XS.aloadN X0.here hx rfl (hb hby d10_0) rfl rfl k₀
  show Owes _ _ _ _ (s₁.setTop (mkF m 1 #[.val (.ref r0), .val (.ref r1), .val (.int p2), .val (.int p3)] [(.ref r0)]))
  refine Owes.go ?_ fun t₀ k₀ => XS.iloadN X0.here hx rfl (hb hby d10_1) rfl k₀
  show Owes _ _ _ _ (s₁.setTop (mkF m 2 #[.val (.ref r0), .val (.ref r1), .val (.int p2), .val (.int p3)] [(.int p2), (.ref r0)]))
  refine Owes.gI X0 hx hZ e0 GF hq hq5 (v := .int x) (congrArg Value.int hxx) (hb hby d10_2) ?_
  show Owes _ _ _ _ (s₁.setTop (mkF m 3 #[.val (.ref r0), .val (.ref r1), .val (.int p2), .val (.int p3)] [(.int x)]))
  refine Owes.go ?_ fun t₀ k₀ => XS.iloadN X0.here hx rfl (hb hby d10_3) rfl k₀
  show Owes _ _ _ _ (s₁.setTop (mkF m 4 #[.val (.ref r0), .val (.ref r1), .val (.int p2), .val (.int p3)] [(.int p3), (.int x)]))
  by_cases hc1 : p3 < x
  · skip
    refine Owes.go ?_ fun t₀ k₀ => XS.icmpYes X0.here hx rfl (pc0 := 4) (pc' := 18) rfl (hb hby d10_4) rfl (tlt hc1).2.2.1 (by decide) (by decide) k₀
    show Owes _ _ _ _ (s₁.setTop (mkF m 18 #[.val (.ref r0), .val (.ref r1), .val (.int p2), .val (.int p3)] []))
    refine Owes.go ?_ fun t₀ k₀ => XS.iconst X0.here hx rfl (hb hby d10_18) k₀
    show Owes _ _ _ _ (s₁.setTop (mkF m 19 #[.val (.ref r0), .val (.ref r1), .val (.int p2), .val (.int p3)] [(.int (0 : Int32))]))
    exact Owes.retN X0 hx hlk hret (by simp) (hb hby d10_19) (by decide) (by decide) ⟨congrArg (fun z => some (Value.int z)) (by unfold f_gv; rw [if_pos hc1]; first | done | rfl), rfl, e0⟩
  · skip
    refine Owes.go ?_ fun t₀ k₀ => XS.icmpNo X0.here hx rfl (hb hby d10_4) rfl (flt hc1).2.2.1 k₀
    show Owes _ _ _ _ (s₁.setTop (mkF m 7 #[.val (.ref r0), .val (.ref r1), .val (.int p2), .val (.int p3)] []))
    refine Owes.go ?_ fun t₀ k₀ => XS.iloadN X0.here hx rfl (hb hby d10_7) rfl k₀
    show Owes _ _ _ _ (s₁.setTop (mkF m 8 #[.val (.ref r0), .val (.ref r1), .val (.int p2), .val (.int p3)] [(.int p3)]))
    refine Owes.go ?_ fun t₀ k₀ => XS.aloadN X0.here hx rfl (hb hby d10_8) rfl rfl k₀
    show Owes _ _ _ _ (s₁.setTop (mkF m 9 #[.val (.ref r0), .val (.ref r1), .val (.int p2), .val (.int p3)] [(.ref r1), (.int p3)]))
    refine Owes.go ?_ fun t₀ k₀ => XS.iloadN X0.here hx rfl (hb hby d10_9) rfl k₀
    show Owes _ _ _ _ (s₁.setTop (mkF m 10 #[.val (.ref r0), .val (.ref r1), .val (.int p2), .val (.int p3)] [(.int p2), (.ref r1), (.int p3)]))
    refine Owes.gI X0 hx hZ e0 GS hq hq5 (v := .int y) (congrArg Value.int hyy) (hb hby d10_10) ?_
    show Owes _ _ _ _ (s₁.setTop (mkF m 11 #[.val (.ref r0), .val (.ref r1), .val (.int p2), .val (.int p3)] [(.int y), (.int p3)]))
    by_cases hc2 : y < p3
    · skip
      refine Owes.go ?_ fun t₀ k₀ => XS.icmpYes X0.here hx rfl (pc0 := 11) (pc' := 18) rfl (hb hby d10_11) rfl (tlt hc2).2.2.1 (by decide) (by decide) k₀
      show Owes _ _ _ _ (s₁.setTop (mkF m 18 #[.val (.ref r0), .val (.ref r1), .val (.int p2), .val (.int p3)] []))
      refine Owes.go ?_ fun t₀ k₀ => XS.iconst X0.here hx rfl (hb hby d10_18) k₀
      show Owes _ _ _ _ (s₁.setTop (mkF m 19 #[.val (.ref r0), .val (.ref r1), .val (.int p2), .val (.int p3)] [(.int (0 : Int32))]))
      exact Owes.retN X0 hx hlk hret (by simp) (hb hby d10_19) (by decide) (by decide) ⟨congrArg (fun z => some (Value.int z)) (by unfold f_gv; rw [if_neg hc1, if_pos hc2]; first | done | rfl), rfl, e0⟩
    · skip
      refine Owes.go ?_ fun t₀ k₀ => XS.icmpNo X0.here hx rfl (hb hby d10_11) rfl (flt hc2).2.2.1 k₀
      show Owes _ _ _ _ (s₁.setTop (mkF m 14 #[.val (.ref r0), .val (.ref r1), .val (.int p2), .val (.int p3)] []))
      refine Owes.go ?_ fun t₀ k₀ => XS.iconst X0.here hx rfl (hb hby d10_14) k₀
      show Owes _ _ _ _ (s₁.setTop (mkF m 15 #[.val (.ref r0), .val (.ref r1), .val (.int p2), .val (.int p3)] [(.int (1 : Int32))]))
      refine Owes.go ?_ fun t₀ k₀ => XS.goto X0.here hx rfl (pc0 := 15) (pc' := 19) rfl (hb hby d10_15) (by decide) (by decide) k₀
      show Owes _ _ _ _ (s₁.setTop (mkF m 19 #[.val (.ref r0), .val (.ref r1), .val (.int p2), .val (.int p3)] [(.int (1 : Int32))]))
      exact Owes.retN X0 hx hlk hret (by simp) (hb hby d10_19) (by decide) (by decide) ⟨congrArg (fun z => some (Value.int z)) (by unfold f_gv; rw [if_neg hc1, if_neg hc2]; first | done | rfl), rfl, e0⟩
theorem d6_0 : decode method_4_code 0 = .ok (.aload_n 0, 1) := by decide +kernel
theorem d6_1 : decode method_4_code 1 = .ok (.iconst 0, 1) := by decide +kernel
theorem d6_2 : decode method_4_code 2 = .ok (.invokevirtual 33, 3) := by decide +kernel
theorem d6_5 : decode method_4_code 5 = .ok (.ifCond .ne 7, 3) := by decide +kernel
theorem d6_8 : decode method_4_code 8 = .ok (.iconst 1, 1) := by decide +kernel
theorem d6_9 : decode method_4_code 9 = .ok (.goto 4, 3) := by decide +kernel
theorem d6_13 : decode method_4_code 13 = .ok (.aload_n 2, 1) := by decide +kernel
theorem d6_14 : decode method_4_code 14 = .ok (.aload_n 3, 1) := by decide +kernel
theorem d6_15 : decode method_4_code 15 = .ok (.aload_n 1, 1) := by decide +kernel
theorem d6_16 : decode method_4_code 16 = .ok (.iconst 0, 1) := by decide +kernel
theorem d6_17 : decode method_4_code 17 = .ok (.iaload, 1) := by decide +kernel
theorem d6_18 : decode method_4_code 18 = .ok (.iload 4, 2) := by decide +kernel
theorem d6_20 : decode method_4_code 20 = .ok (.invokestatic 37, 3) := by decide +kernel
theorem pd_2 : parseMethodDescriptor "([I[III)Z" = some ⟨[(.array .int), (.array .int), .int, .int], some .boolean⟩ := by decide +kernel
theorem d6_23 : decode method_4_code 23 = .ok (.if_icmp .ne 7, 3) := by decide +kernel
theorem d6_26 : decode method_4_code 26 = .ok (.iconst 1, 1) := by decide +kernel
theorem d6_27 : decode method_4_code 27 = .ok (.goto 4, 3) := by decide +kernel
theorem d6_31 : decode method_4_code 31 = .ok (.istore 5, 2) := by decide +kernel
theorem d6_33 : decode method_4_code 33 = .ok (.aload_n 0, 1) := by decide +kernel
theorem d6_34 : decode method_4_code 34 = .ok (.bipush 63, 2) := by decide +kernel
theorem d6_36 : decode method_4_code 36 = .ok (.invokevirtual 33, 3) := by decide +kernel
theorem d6_39 : decode method_4_code 39 = .ok (.bipush 63, 2) := by decide +kernel
theorem d6_41 : decode method_4_code 41 = .ok (.if_icmp .ne 7, 3) := by decide +kernel
theorem d6_44 : decode method_4_code 44 = .ok (.iconst 1, 1) := by decide +kernel
theorem d6_45 : decode method_4_code 45 = .ok (.goto 4, 3) := by decide +kernel
theorem d6_49 : decode method_4_code 49 = .ok (.aload_n 2, 1) := by decide +kernel
theorem d6_50 : decode method_4_code 50 = .ok (.aload_n 3, 1) := by decide +kernel
theorem d6_51 : decode method_4_code 51 = .ok (.aload_n 1, 1) := by decide +kernel
theorem d6_52 : decode method_4_code 52 = .ok (.bipush 63, 2) := by decide +kernel
theorem d6_54 : decode method_4_code 54 = .ok (.iaload, 1) := by decide +kernel
theorem d6_55 : decode method_4_code 55 = .ok (.iload 4, 2) := by decide +kernel
theorem d6_57 : decode method_4_code 57 = .ok (.invokestatic 37, 3) := by decide +kernel
theorem d6_60 : decode method_4_code 60 = .ok (.if_icmp .ne 7, 3) := by decide +kernel
theorem d6_63 : decode method_4_code 63 = .ok (.iconst 1, 1) := by decide +kernel
theorem d6_64 : decode method_4_code 64 = .ok (.goto 4, 3) := by decide +kernel
theorem d6_68 : decode method_4_code 68 = .ok (.istore 6, 2) := by decide +kernel
theorem d6_70 : decode method_4_code 70 = .ok (.aload_n 0, 1) := by decide +kernel
theorem d6_71 : decode method_4_code 71 = .ok (.bipush 64, 2) := by decide +kernel
theorem d6_73 : decode method_4_code 73 = .ok (.invokevirtual 33, 3) := by decide +kernel
theorem d6_76 : decode method_4_code 76 = .ok (.bipush 64, 2) := by decide +kernel
theorem d6_78 : decode method_4_code 78 = .ok (.if_icmp .ne 7, 3) := by decide +kernel
theorem d6_81 : decode method_4_code 81 = .ok (.iconst 1, 1) := by decide +kernel
theorem d6_82 : decode method_4_code 82 = .ok (.goto 4, 3) := by decide +kernel
theorem d6_86 : decode method_4_code 86 = .ok (.aload_n 2, 1) := by decide +kernel
theorem d6_87 : decode method_4_code 87 = .ok (.aload_n 3, 1) := by decide +kernel
theorem d6_88 : decode method_4_code 88 = .ok (.aload_n 1, 1) := by decide +kernel
theorem d6_89 : decode method_4_code 89 = .ok (.bipush 64, 2) := by decide +kernel
theorem d6_91 : decode method_4_code 91 = .ok (.iaload, 1) := by decide +kernel
theorem d6_92 : decode method_4_code 92 = .ok (.iload 4, 2) := by decide +kernel
theorem d6_94 : decode method_4_code 94 = .ok (.invokestatic 37, 3) := by decide +kernel
theorem d6_97 : decode method_4_code 97 = .ok (.if_icmp .ne 7, 3) := by decide +kernel
theorem d6_100 : decode method_4_code 100 = .ok (.iconst 1, 1) := by decide +kernel
theorem d6_101 : decode method_4_code 101 = .ok (.goto 4, 3) := by decide +kernel
theorem d6_105 : decode method_4_code 105 = .ok (.istore 7, 2) := by decide +kernel
theorem d6_107 : decode method_4_code 107 = .ok (.iload 5, 2) := by decide +kernel
theorem d6_109 : decode method_4_code 109 = .ok (.ifCond .eq 17, 3) := by decide +kernel
theorem d6_112 : decode method_4_code 112 = .ok (.iload 6, 2) := by decide +kernel
theorem d6_114 : decode method_4_code 114 = .ok (.ifCond .eq 12, 3) := by decide +kernel
theorem d6_117 : decode method_4_code 117 = .ok (.iload 7, 2) := by decide +kernel
theorem d6_119 : decode method_4_code 119 = .ok (.ifCond .eq 7, 3) := by decide +kernel
theorem d6_122 : decode method_4_code 122 = .ok (.iconst 1, 1) := by decide +kernel
theorem d6_123 : decode method_4_code 123 = .ok (.goto 4, 3) := by decide +kernel
theorem d6_127 : decode method_4_code 127 = .ok (.ireturn, 1) := by decide +kernel
theorem d6_85 : decode method_4_code 85 = .ok (.iconst 0, 1) := by decide +kernel
theorem d6_48 : decode method_4_code 48 = .ok (.iconst 0, 1) := by decide +kernel
theorem d6_12 : decode method_4_code 12 = .ok (.iconst 0, 1) := by decide +kernel
theorem own_ag1 {T : Nat → Int64} {r k : Int32} {a pp : Nat} {x y z : Int32} (I : r.toInt = k.toInt ↔ bitOf T a = true) (HB : bitOf T a = true ↔ (x.toInt ≤ (pp : Int) ∧ (pp : Int) ≤ y.toInt)) (h : r = k) (p4 : Int32) (hp : p4.toInt = (pp : Int)) : (1 : Int32) = f_gv z p4 x y := by
  have := HB.mp (I.mp (by rw [h]))
  unfold f_gv
  rw [if_neg (fun q => by rw [Int32.lt_iff_toInt_lt, hp] at q; omega), if_neg (fun q => by rw [Int32.lt_iff_toInt_lt, hp] at q; omega)]; rfl
theorem own_ag0 {T : Nat → Int64} {r k : Int32} {a pp : Nat} {x y z : Int32} (I : r.toInt = k.toInt ↔ bitOf T a = true) (HB : bitOf T a = true ↔ (x.toInt ≤ (pp : Int) ∧ (pp : Int) ≤ y.toInt)) (h : ¬ r = k) (p4 : Int32) (hp : p4.toInt = (pp : Int)) : (0 : Int32) = f_gv z p4 x y := by
  have h2 : ¬ (x.toInt ≤ (pp : Int) ∧ (pp : Int) ≤ y.toInt) := fun q => h (Int32.toInt_inj.mp (I.mpr (HB.mpr q)))
  unfold f_gv
  simp only [Int32.lt_iff_toInt_lt, hp]
  by_cases c1 : (pp : Int) < x.toInt
  · rw [if_pos c1]; rfl
  · rw [if_neg c1]
    by_cases c2 : y.toInt < (pp : Int)
    · rw [if_pos c2]; rfl
    · exact absurd ⟨by omega, by omega⟩ h2
theorem ef_6 (m : MethodId) (r0 : Addr) (ro : Addr) (rf : Addr) (rs : Addr) (p4 : Int32) : entryFrame m #[(.ref r0), (.ref ro), (.ref rf), (.ref rs), (.int p4)] 8 = mkF m 0 #[.val (.ref r0), .val (.ref ro), .val (.ref rf), .val (.ref rs), .val (.int p4), .unset, .unset, .unset] [] := by first | (simp [entryFrame, mkF, argsToLocals, Value.category]; done) | rfl
theorem pn_6 : plainFor (⟨"com/example/slotwright/slotwright/core/TriedSlotsReachPinLaw", "agrees", "(Lcom/example/slotwright/slotwright/core/TriedSlots;[I[I[II)Z"⟩ : MethodName) = true := plainFor_of_name (by first | (simp [plainName, overriddenIn]; done) | decide +kernel)
set_option maxRecDepth 65536 in
set_option maxHeartbeats 40000000 in
theorem rm_agrees (l : Launch) (Z : State) (a0 : Array Value) (hw : ∀ d ∈ tables_1, d.before a0 Z = true) (ws : List Jvm.Cond) (r0 : Addr) (ro : Addr) (rf : Addr) (rs : Addr) (p4 : Int32) (h0 : Heap) (tr jf jo lf le : Addr) (n gj gl : Nat) (T : Nat → Int64) (JF G LF H : Nat → Int32) (rc : Int32) (F0 : TSo Z h0 r0 tr jf jo lf le n gj gl T JF G LF H rc) (O Fa Sl : Nat → Int32) (GO : GA Z h0 ro .int 65 (fun i => .int (O i))) (GF : GA Z h0 rf .int 65 (fun i => .int (Fa i))) (GS : GA Z h0 rs .int 65 (fun i => .int (Sl i))) (hO : ∀ i, i < 65 → 0 ≤ (O i).toInt ∧ (O i).toInt < 65) (pp : Nat) (hp : p4.toInt = (pp : Int)) (HB : ∀ i, i < 65 → (bitOf T i = true ↔ ((Fa (O i).toInt.toNat).toInt ≤ (pp : Int) ∧ (pp : Int) ≤ (Sl (O i).toInt.toNat).toInt))) :
    OMet l (⟨"com/example/slotwright/slotwright/core/TriedSlotsReachPinLaw", "agrees", "(Lcom/example/slotwright/slotwright/core/TriedSlots;[I[I[II)Z"⟩ : MethodName) method_4_code 8 (some .boolean) ws ({ frames := 3, cells := 0, slots := 0, locals := 60 } : Room) #[(.ref r0), (.ref ro), (.ref rf), (.ref rs), (.int p4)] Z h0 (fun v h L => v = some (.int 1) ∧ L = [] ∧ h = h0) := by
  refine OMet.of pn_6 (fun m => ef_6 m r0 ro rf rs p4) ?_
  intro p e s m below meth c s₁ hx hby hml hown hnm hret hlk hZ X0 e0
  refine Owes.go ?_ fun t₀ k₀ => XS.aloadN X0.here hx rfl (hb hby d6_0) rfl rfl k₀
  show Owes _ _ _ _ (s₁.setTop (mkF m 1 #[.val (.ref r0), .val (.ref ro), .val (.ref rf), .val (.ref rs), .val (.int p4), .unset, .unset, .unset] [(.ref r0)]))
  refine Owes.go ?_ fun t₀ k₀ => XS.iconst X0.here hx rfl (hb hby d6_1) k₀
  show Owes _ _ _ _ (s₁.setTop (mkF m 2 #[.val (.ref r0), .val (.ref ro), .val (.ref rf), .val (.ref rs), .val (.int p4), .unset, .unset, .unset] [(.int (0 : Int32)), (.ref r0)]))
  refine Owes.callV X0 hx hZ hown (hw _ (List.mem_of_getElem? (i := 51) rfl)) (hw _ (List.mem_of_getElem? (i := 52) rfl)) (notFace_of_selects (args := #[]) (mvT hZ (hw _ (List.mem_of_getElem? (i := 54) rfl)))) (hw _ (List.mem_of_getElem? (i := 54) rfl)) (hw _ (List.mem_of_getElem? (i := 53) rfl)) (hw _ (List.mem_of_getElem? (i := 7) rfl)) (hw _ (List.mem_of_getElem? (i := 55) rfl)) (by decide) (a := r0) (argsL := [(.int (0 : Int32))]) (rest := []) (rm_next l Z a0 hw [] r0 (0 : Int32) h0 tr jf jo lf le n gj gl T JF G LF H rc F0 0 rfl (by omega)) e0 F0.1 (by rw [hml]; rfl) pd_0 rfl rfl (hb hby d6_2) (by decide) (Nat.le_of_ble_eq_true rfl) (by decide) (by decide) ?_
  rintro T16 v16 L16 X16 ⟨r16, rfl, rfl, e16, I16⟩
  rw [List.append_nil] at X16
  show Owes _ _ _ _ (T16.setTop (mkF m 5 #[.val (.ref r0), .val (.ref ro), .val (.ref rf), .val (.ref rs), .val (.int p4), .unset, .unset, .unset] [(.int r16)]))
  by_cases hc1 : r16 = (0 : Int32)
  · skip
    refine Owes.go ?_ fun t₀ k₀ => XS.ifNo X16.here hx rfl (hb hby d6_5) rfl ((if0 _ _).trans (teq hc1).2) k₀
    show Owes _ _ _ _ (T16.setTop (mkF m 8 #[.val (.ref r0), .val (.ref ro), .val (.ref rf), .val (.ref rs), .val (.int p4), .unset, .unset, .unset] []))
    refine Owes.go ?_ fun t₀ k₀ => XS.iconst X16.here hx rfl (hb hby d6_8) k₀
    show Owes _ _ _ _ (T16.setTop (mkF m 9 #[.val (.ref r0), .val (.ref ro), .val (.ref rf), .val (.ref rs), .val (.int p4), .unset, .unset, .unset] [(.int (1 : Int32))]))
    refine Owes.go ?_ fun t₀ k₀ => XS.goto X16.here hx rfl (pc0 := 9) (pc' := 13) rfl (hb hby d6_9) (by decide) (by decide) k₀
    show Owes _ _ _ _ (T16.setTop (mkF m 13 #[.val (.ref r0), .val (.ref ro), .val (.ref rf), .val (.ref rs), .val (.int p4), .unset, .unset, .unset] [(.int (1 : Int32))]))
    refine Owes.go ?_ fun t₀ k₀ => XS.aloadN X16.here hx rfl (hb hby d6_13) rfl rfl k₀
    show Owes _ _ _ _ (T16.setTop (mkF m 14 #[.val (.ref r0), .val (.ref ro), .val (.ref rf), .val (.ref rs), .val (.int p4), .unset, .unset, .unset] [(.ref rf), (.int (1 : Int32))]))
    refine Owes.go ?_ fun t₀ k₀ => XS.aloadN X16.here hx rfl (hb hby d6_14) rfl rfl k₀
    show Owes _ _ _ _ (T16.setTop (mkF m 15 #[.val (.ref r0), .val (.ref ro), .val (.ref rf), .val (.ref rs), .val (.int p4), .unset, .unset, .unset] [(.ref rs), (.ref rf), (.int (1 : Int32))]))
    refine Owes.go ?_ fun t₀ k₀ => XS.aloadN X16.here hx rfl (hb hby d6_15) rfl rfl k₀
    show Owes _ _ _ _ (T16.setTop (mkF m 16 #[.val (.ref r0), .val (.ref ro), .val (.ref rf), .val (.ref rs), .val (.int p4), .unset, .unset, .unset] [(.ref ro), (.ref rs), (.ref rf), (.int (1 : Int32))]))
    refine Owes.go ?_ fun t₀ k₀ => XS.iconst X16.here hx rfl (hb hby d6_16) k₀
    show Owes _ _ _ _ (T16.setTop (mkF m 17 #[.val (.ref r0), .val (.ref ro), .val (.ref rf), .val (.ref rs), .val (.int p4), .unset, .unset, .unset] [(.int (0 : Int32)), (.ref ro), (.ref rs), (.ref rf), (.int (1 : Int32))]))
    refine Owes.gI X16 hx hZ e16 GO (i := 0) rfl (by omega) (v := .int (O 0)) rfl (hb hby d6_17) ?_
    show Owes _ _ _ _ (T16.setTop (mkF m 18 #[.val (.ref r0), .val (.ref ro), .val (.ref rf), .val (.ref rs), .val (.int p4), .unset, .unset, .unset] [(.int (O 0)), (.ref rs), (.ref rf), (.int (1 : Int32))]))
    refine Owes.go ?_ fun t₀ k₀ => XS.iload X16.here hx rfl (hb hby d6_18) rfl k₀
    show Owes _ _ _ _ (T16.setTop (mkF m 20 #[.val (.ref r0), .val (.ref ro), .val (.ref rf), .val (.ref rs), .val (.int p4), .unset, .unset, .unset] [(.int p4), (.int (O 0)), (.ref rs), (.ref rf), (.int (1 : Int32))]))
    refine Owes.callS X16 hx hZ hown (hw _ (List.mem_of_getElem? (i := 65) rfl)) (hw _ (List.mem_of_getElem? (i := 66) rfl)) (hw _ (List.mem_of_getElem? (i := 2) rfl)) (hw _ (List.mem_of_getElem? (i := 67) rfl)) (by decide) (argsL := [(.ref rf), (.ref rs), (.int (O 0)), (.int p4)]) (rest := [(.int (1 : Int32))]) (rm_f_gv l Z a0 hw [] rf rs (O 0) p4 h0 Fa Sl GF GS (O 0).toInt.toNat (by have := hO 0 (by omega); omega) (by have := hO 0 (by omega); omega) _ _ rfl rfl) e16 (by rw [hml]; rfl) pd_2 rfl rfl (hb hby d6_20) (by decide) (Nat.le_of_ble_eq_true rfl) (by decide) (by decide) ?_
    rintro T17 _ _ X17 ⟨rfl, rfl, e17⟩
    rw [List.append_nil] at X17
    show Owes _ _ _ _ (T17.setTop (mkF m 23 #[.val (.ref r0), .val (.ref ro), .val (.ref rf), .val (.ref rs), .val (.int p4), .unset, .unset, .unset] [(.int (f_gv (O 0) p4 (Fa (O 0).toInt.toNat) (Sl (O 0).toInt.toNat))), (.int (1 : Int32))]))
    refine Owes.go ?_ fun t₀ k₀ => XS.icmpNo X17.here hx rfl (hb hby d6_23) rfl (teq (own_ag1 I16 (HB 0 (by omega)) hc1 p4 hp)).2 k₀
    show Owes _ _ _ _ (T17.setTop (mkF m 26 #[.val (.ref r0), .val (.ref ro), .val (.ref rf), .val (.ref rs), .val (.int p4), .unset, .unset, .unset] []))
    refine Owes.go ?_ fun t₀ k₀ => XS.iconst X17.here hx rfl (hb hby d6_26) k₀
    show Owes _ _ _ _ (T17.setTop (mkF m 27 #[.val (.ref r0), .val (.ref ro), .val (.ref rf), .val (.ref rs), .val (.int p4), .unset, .unset, .unset] [(.int (1 : Int32))]))
    refine Owes.go ?_ fun t₀ k₀ => XS.goto X17.here hx rfl (pc0 := 27) (pc' := 31) rfl (hb hby d6_27) (by decide) (by decide) k₀
    show Owes _ _ _ _ (T17.setTop (mkF m 31 #[.val (.ref r0), .val (.ref ro), .val (.ref rf), .val (.ref rs), .val (.int p4), .unset, .unset, .unset] [(.int (1 : Int32))]))
    refine Owes.go ?_ fun t₀ k₀ => XS.istore X17.here hx rfl (hb hby d6_31) rfl (l' := #[.val (.ref r0), .val (.ref ro), .val (.ref rf), .val (.ref rs), .val (.int p4), .val (.int (1 : Int32)), .unset, .unset]) rfl k₀
    show Owes _ _ _ _ (T17.setTop (mkF m 33 #[.val (.ref r0), .val (.ref ro), .val (.ref rf), .val (.ref rs), .val (.int p4), .val (.int (1 : Int32)), .unset, .unset] []))
    refine Owes.go ?_ fun t₀ k₀ => XS.aloadN X17.here hx rfl (hb hby d6_33) rfl rfl k₀
    show Owes _ _ _ _ (T17.setTop (mkF m 34 #[.val (.ref r0), .val (.ref ro), .val (.ref rf), .val (.ref rs), .val (.int p4), .val (.int (1 : Int32)), .unset, .unset] [(.ref r0)]))
    refine Owes.go ?_ fun t₀ k₀ => XS.bipush X17.here hx rfl (hb hby d6_34) k₀
    show Owes _ _ _ _ (T17.setTop (mkF m 36 #[.val (.ref r0), .val (.ref ro), .val (.ref rf), .val (.ref rs), .val (.int p4), .val (.int (1 : Int32)), .unset, .unset] [(.int (63 : Int32)), (.ref r0)]))
    refine Owes.callV X17 hx hZ hown (hw _ (List.mem_of_getElem? (i := 51) rfl)) (hw _ (List.mem_of_getElem? (i := 52) rfl)) (notFace_of_selects (args := #[]) (mvT hZ (hw _ (List.mem_of_getElem? (i := 54) rfl)))) (hw _ (List.mem_of_getElem? (i := 54) rfl)) (hw _ (List.mem_of_getElem? (i := 53) rfl)) (hw _ (List.mem_of_getElem? (i := 7) rfl)) (hw _ (List.mem_of_getElem? (i := 55) rfl)) (by decide) (a := r0) (argsL := [(.int (63 : Int32))]) (rest := []) (rm_next l Z a0 hw [] r0 (63 : Int32) h0 tr jf jo lf le n gj gl T JF G LF H rc F0 63 rfl (by omega)) e17 F0.1 (by rw [hml]; rfl) pd_0 rfl rfl (hb hby d6_36) (by decide) (Nat.le_of_ble_eq_true rfl) (by decide) (by decide) ?_
    rintro T18 v18 L18 X18 ⟨r18, rfl, rfl, e18, I18⟩
    rw [List.append_nil] at X18
    show Owes _ _ _ _ (T18.setTop (mkF m 39 #[.val (.ref r0), .val (.ref ro), .val (.ref rf), .val (.ref rs), .val (.int p4), .val (.int (1 : Int32)), .unset, .unset] [(.int r18)]))
    refine Owes.go ?_ fun t₀ k₀ => XS.bipush X18.here hx rfl (hb hby d6_39) k₀
    show Owes _ _ _ _ (T18.setTop (mkF m 41 #[.val (.ref r0), .val (.ref ro), .val (.ref rf), .val (.ref rs), .val (.int p4), .val (.int (1 : Int32)), .unset, .unset] [(.int (63 : Int32)), (.int r18)]))
    by_cases hc2 : r18 = (63 : Int32)
    · skip
      refine Owes.go ?_ fun t₀ k₀ => XS.icmpNo X18.here hx rfl (hb hby d6_41) rfl (teq hc2).2 k₀
      show Owes _ _ _ _ (T18.setTop (mkF m 44 #[.val (.ref r0), .val (.ref ro), .val (.ref rf), .val (.ref rs), .val (.int p4), .val (.int (1 : Int32)), .unset, .unset] []))
      refine Owes.go ?_ fun t₀ k₀ => XS.iconst X18.here hx rfl (hb hby d6_44) k₀
      show Owes _ _ _ _ (T18.setTop (mkF m 45 #[.val (.ref r0), .val (.ref ro), .val (.ref rf), .val (.ref rs), .val (.int p4), .val (.int (1 : Int32)), .unset, .unset] [(.int (1 : Int32))]))
      refine Owes.go ?_ fun t₀ k₀ => XS.goto X18.here hx rfl (pc0 := 45) (pc' := 49) rfl (hb hby d6_45) (by decide) (by decide) k₀
      show Owes _ _ _ _ (T18.setTop (mkF m 49 #[.val (.ref r0), .val (.ref ro), .val (.ref rf), .val (.ref rs), .val (.int p4), .val (.int (1 : Int32)), .unset, .unset] [(.int (1 : Int32))]))
      refine Owes.go ?_ fun t₀ k₀ => XS.aloadN X18.here hx rfl (hb hby d6_49) rfl rfl k₀
      show Owes _ _ _ _ (T18.setTop (mkF m 50 #[.val (.ref r0), .val (.ref ro), .val (.ref rf), .val (.ref rs), .val (.int p4), .val (.int (1 : Int32)), .unset, .unset] [(.ref rf), (.int (1 : Int32))]))
      refine Owes.go ?_ fun t₀ k₀ => XS.aloadN X18.here hx rfl (hb hby d6_50) rfl rfl k₀
      show Owes _ _ _ _ (T18.setTop (mkF m 51 #[.val (.ref r0), .val (.ref ro), .val (.ref rf), .val (.ref rs), .val (.int p4), .val (.int (1 : Int32)), .unset, .unset] [(.ref rs), (.ref rf), (.int (1 : Int32))]))
      refine Owes.go ?_ fun t₀ k₀ => XS.aloadN X18.here hx rfl (hb hby d6_51) rfl rfl k₀
      show Owes _ _ _ _ (T18.setTop (mkF m 52 #[.val (.ref r0), .val (.ref ro), .val (.ref rf), .val (.ref rs), .val (.int p4), .val (.int (1 : Int32)), .unset, .unset] [(.ref ro), (.ref rs), (.ref rf), (.int (1 : Int32))]))
      refine Owes.go ?_ fun t₀ k₀ => XS.bipush X18.here hx rfl (hb hby d6_52) k₀
      show Owes _ _ _ _ (T18.setTop (mkF m 54 #[.val (.ref r0), .val (.ref ro), .val (.ref rf), .val (.ref rs), .val (.int p4), .val (.int (1 : Int32)), .unset, .unset] [(.int (63 : Int32)), (.ref ro), (.ref rs), (.ref rf), (.int (1 : Int32))]))
      refine Owes.gI X18 hx hZ e18 GO (i := 63) rfl (by omega) (v := .int (O 63)) rfl (hb hby d6_54) ?_
      show Owes _ _ _ _ (T18.setTop (mkF m 55 #[.val (.ref r0), .val (.ref ro), .val (.ref rf), .val (.ref rs), .val (.int p4), .val (.int (1 : Int32)), .unset, .unset] [(.int (O 63)), (.ref rs), (.ref rf), (.int (1 : Int32))]))
      refine Owes.go ?_ fun t₀ k₀ => XS.iload X18.here hx rfl (hb hby d6_55) rfl k₀
      show Owes _ _ _ _ (T18.setTop (mkF m 57 #[.val (.ref r0), .val (.ref ro), .val (.ref rf), .val (.ref rs), .val (.int p4), .val (.int (1 : Int32)), .unset, .unset] [(.int p4), (.int (O 63)), (.ref rs), (.ref rf), (.int (1 : Int32))]))
      refine Owes.callS X18 hx hZ hown (hw _ (List.mem_of_getElem? (i := 65) rfl)) (hw _ (List.mem_of_getElem? (i := 66) rfl)) (hw _ (List.mem_of_getElem? (i := 2) rfl)) (hw _ (List.mem_of_getElem? (i := 67) rfl)) (by decide) (argsL := [(.ref rf), (.ref rs), (.int (O 63)), (.int p4)]) (rest := [(.int (1 : Int32))]) (rm_f_gv l Z a0 hw [] rf rs (O 63) p4 h0 Fa Sl GF GS (O 63).toInt.toNat (by have := hO 63 (by omega); omega) (by have := hO 63 (by omega); omega) _ _ rfl rfl) e18 (by rw [hml]; rfl) pd_2 rfl rfl (hb hby d6_57) (by decide) (Nat.le_of_ble_eq_true rfl) (by decide) (by decide) ?_
      rintro T19 _ _ X19 ⟨rfl, rfl, e19⟩
      rw [List.append_nil] at X19
      show Owes _ _ _ _ (T19.setTop (mkF m 60 #[.val (.ref r0), .val (.ref ro), .val (.ref rf), .val (.ref rs), .val (.int p4), .val (.int (1 : Int32)), .unset, .unset] [(.int (f_gv (O 63) p4 (Fa (O 63).toInt.toNat) (Sl (O 63).toInt.toNat))), (.int (1 : Int32))]))
      refine Owes.go ?_ fun t₀ k₀ => XS.icmpNo X19.here hx rfl (hb hby d6_60) rfl (teq (own_ag1 I18 (HB 63 (by omega)) hc2 p4 hp)).2 k₀
      show Owes _ _ _ _ (T19.setTop (mkF m 63 #[.val (.ref r0), .val (.ref ro), .val (.ref rf), .val (.ref rs), .val (.int p4), .val (.int (1 : Int32)), .unset, .unset] []))
      refine Owes.go ?_ fun t₀ k₀ => XS.iconst X19.here hx rfl (hb hby d6_63) k₀
      show Owes _ _ _ _ (T19.setTop (mkF m 64 #[.val (.ref r0), .val (.ref ro), .val (.ref rf), .val (.ref rs), .val (.int p4), .val (.int (1 : Int32)), .unset, .unset] [(.int (1 : Int32))]))
      refine Owes.go ?_ fun t₀ k₀ => XS.goto X19.here hx rfl (pc0 := 64) (pc' := 68) rfl (hb hby d6_64) (by decide) (by decide) k₀
      show Owes _ _ _ _ (T19.setTop (mkF m 68 #[.val (.ref r0), .val (.ref ro), .val (.ref rf), .val (.ref rs), .val (.int p4), .val (.int (1 : Int32)), .unset, .unset] [(.int (1 : Int32))]))
      refine Owes.go ?_ fun t₀ k₀ => XS.istore X19.here hx rfl (hb hby d6_68) rfl (l' := #[.val (.ref r0), .val (.ref ro), .val (.ref rf), .val (.ref rs), .val (.int p4), .val (.int (1 : Int32)), .val (.int (1 : Int32)), .unset]) rfl k₀
      show Owes _ _ _ _ (T19.setTop (mkF m 70 #[.val (.ref r0), .val (.ref ro), .val (.ref rf), .val (.ref rs), .val (.int p4), .val (.int (1 : Int32)), .val (.int (1 : Int32)), .unset] []))
      refine Owes.go ?_ fun t₀ k₀ => XS.aloadN X19.here hx rfl (hb hby d6_70) rfl rfl k₀
      show Owes _ _ _ _ (T19.setTop (mkF m 71 #[.val (.ref r0), .val (.ref ro), .val (.ref rf), .val (.ref rs), .val (.int p4), .val (.int (1 : Int32)), .val (.int (1 : Int32)), .unset] [(.ref r0)]))
      refine Owes.go ?_ fun t₀ k₀ => XS.bipush X19.here hx rfl (hb hby d6_71) k₀
      show Owes _ _ _ _ (T19.setTop (mkF m 73 #[.val (.ref r0), .val (.ref ro), .val (.ref rf), .val (.ref rs), .val (.int p4), .val (.int (1 : Int32)), .val (.int (1 : Int32)), .unset] [(.int (64 : Int32)), (.ref r0)]))
      refine Owes.callV X19 hx hZ hown (hw _ (List.mem_of_getElem? (i := 51) rfl)) (hw _ (List.mem_of_getElem? (i := 52) rfl)) (notFace_of_selects (args := #[]) (mvT hZ (hw _ (List.mem_of_getElem? (i := 54) rfl)))) (hw _ (List.mem_of_getElem? (i := 54) rfl)) (hw _ (List.mem_of_getElem? (i := 53) rfl)) (hw _ (List.mem_of_getElem? (i := 7) rfl)) (hw _ (List.mem_of_getElem? (i := 55) rfl)) (by decide) (a := r0) (argsL := [(.int (64 : Int32))]) (rest := []) (rm_next l Z a0 hw [] r0 (64 : Int32) h0 tr jf jo lf le n gj gl T JF G LF H rc F0 64 rfl (by omega)) e19 F0.1 (by rw [hml]; rfl) pd_0 rfl rfl (hb hby d6_73) (by decide) (Nat.le_of_ble_eq_true rfl) (by decide) (by decide) ?_
      rintro T20 v20 L20 X20 ⟨r20, rfl, rfl, e20, I20⟩
      rw [List.append_nil] at X20
      show Owes _ _ _ _ (T20.setTop (mkF m 76 #[.val (.ref r0), .val (.ref ro), .val (.ref rf), .val (.ref rs), .val (.int p4), .val (.int (1 : Int32)), .val (.int (1 : Int32)), .unset] [(.int r20)]))
      refine Owes.go ?_ fun t₀ k₀ => XS.bipush X20.here hx rfl (hb hby d6_76) k₀
      show Owes _ _ _ _ (T20.setTop (mkF m 78 #[.val (.ref r0), .val (.ref ro), .val (.ref rf), .val (.ref rs), .val (.int p4), .val (.int (1 : Int32)), .val (.int (1 : Int32)), .unset] [(.int (64 : Int32)), (.int r20)]))
      by_cases hc3 : r20 = (64 : Int32)
      · skip
        refine Owes.go ?_ fun t₀ k₀ => XS.icmpNo X20.here hx rfl (hb hby d6_78) rfl (teq hc3).2 k₀
        show Owes _ _ _ _ (T20.setTop (mkF m 81 #[.val (.ref r0), .val (.ref ro), .val (.ref rf), .val (.ref rs), .val (.int p4), .val (.int (1 : Int32)), .val (.int (1 : Int32)), .unset] []))
        refine Owes.go ?_ fun t₀ k₀ => XS.iconst X20.here hx rfl (hb hby d6_81) k₀
        show Owes _ _ _ _ (T20.setTop (mkF m 82 #[.val (.ref r0), .val (.ref ro), .val (.ref rf), .val (.ref rs), .val (.int p4), .val (.int (1 : Int32)), .val (.int (1 : Int32)), .unset] [(.int (1 : Int32))]))
        refine Owes.go ?_ fun t₀ k₀ => XS.goto X20.here hx rfl (pc0 := 82) (pc' := 86) rfl (hb hby d6_82) (by decide) (by decide) k₀
        show Owes _ _ _ _ (T20.setTop (mkF m 86 #[.val (.ref r0), .val (.ref ro), .val (.ref rf), .val (.ref rs), .val (.int p4), .val (.int (1 : Int32)), .val (.int (1 : Int32)), .unset] [(.int (1 : Int32))]))
        refine Owes.go ?_ fun t₀ k₀ => XS.aloadN X20.here hx rfl (hb hby d6_86) rfl rfl k₀
        show Owes _ _ _ _ (T20.setTop (mkF m 87 #[.val (.ref r0), .val (.ref ro), .val (.ref rf), .val (.ref rs), .val (.int p4), .val (.int (1 : Int32)), .val (.int (1 : Int32)), .unset] [(.ref rf), (.int (1 : Int32))]))
        refine Owes.go ?_ fun t₀ k₀ => XS.aloadN X20.here hx rfl (hb hby d6_87) rfl rfl k₀
        show Owes _ _ _ _ (T20.setTop (mkF m 88 #[.val (.ref r0), .val (.ref ro), .val (.ref rf), .val (.ref rs), .val (.int p4), .val (.int (1 : Int32)), .val (.int (1 : Int32)), .unset] [(.ref rs), (.ref rf), (.int (1 : Int32))]))
        refine Owes.go ?_ fun t₀ k₀ => XS.aloadN X20.here hx rfl (hb hby d6_88) rfl rfl k₀
        show Owes _ _ _ _ (T20.setTop (mkF m 89 #[.val (.ref r0), .val (.ref ro), .val (.ref rf), .val (.ref rs), .val (.int p4), .val (.int (1 : Int32)), .val (.int (1 : Int32)), .unset] [(.ref ro), (.ref rs), (.ref rf), (.int (1 : Int32))]))
        refine Owes.go ?_ fun t₀ k₀ => XS.bipush X20.here hx rfl (hb hby d6_89) k₀
        show Owes _ _ _ _ (T20.setTop (mkF m 91 #[.val (.ref r0), .val (.ref ro), .val (.ref rf), .val (.ref rs), .val (.int p4), .val (.int (1 : Int32)), .val (.int (1 : Int32)), .unset] [(.int (64 : Int32)), (.ref ro), (.ref rs), (.ref rf), (.int (1 : Int32))]))
        refine Owes.gI X20 hx hZ e20 GO (i := 64) rfl (by omega) (v := .int (O 64)) rfl (hb hby d6_91) ?_
        show Owes _ _ _ _ (T20.setTop (mkF m 92 #[.val (.ref r0), .val (.ref ro), .val (.ref rf), .val (.ref rs), .val (.int p4), .val (.int (1 : Int32)), .val (.int (1 : Int32)), .unset] [(.int (O 64)), (.ref rs), (.ref rf), (.int (1 : Int32))]))
        refine Owes.go ?_ fun t₀ k₀ => XS.iload X20.here hx rfl (hb hby d6_92) rfl k₀
        show Owes _ _ _ _ (T20.setTop (mkF m 94 #[.val (.ref r0), .val (.ref ro), .val (.ref rf), .val (.ref rs), .val (.int p4), .val (.int (1 : Int32)), .val (.int (1 : Int32)), .unset] [(.int p4), (.int (O 64)), (.ref rs), (.ref rf), (.int (1 : Int32))]))
        refine Owes.callS X20 hx hZ hown (hw _ (List.mem_of_getElem? (i := 65) rfl)) (hw _ (List.mem_of_getElem? (i := 66) rfl)) (hw _ (List.mem_of_getElem? (i := 2) rfl)) (hw _ (List.mem_of_getElem? (i := 67) rfl)) (by decide) (argsL := [(.ref rf), (.ref rs), (.int (O 64)), (.int p4)]) (rest := [(.int (1 : Int32))]) (rm_f_gv l Z a0 hw [] rf rs (O 64) p4 h0 Fa Sl GF GS (O 64).toInt.toNat (by have := hO 64 (by omega); omega) (by have := hO 64 (by omega); omega) _ _ rfl rfl) e20 (by rw [hml]; rfl) pd_2 rfl rfl (hb hby d6_94) (by decide) (Nat.le_of_ble_eq_true rfl) (by decide) (by decide) ?_
        rintro T21 _ _ X21 ⟨rfl, rfl, e21⟩
        rw [List.append_nil] at X21
        show Owes _ _ _ _ (T21.setTop (mkF m 97 #[.val (.ref r0), .val (.ref ro), .val (.ref rf), .val (.ref rs), .val (.int p4), .val (.int (1 : Int32)), .val (.int (1 : Int32)), .unset] [(.int (f_gv (O 64) p4 (Fa (O 64).toInt.toNat) (Sl (O 64).toInt.toNat))), (.int (1 : Int32))]))
        refine Owes.go ?_ fun t₀ k₀ => XS.icmpNo X21.here hx rfl (hb hby d6_97) rfl (teq (own_ag1 I20 (HB 64 (by omega)) hc3 p4 hp)).2 k₀
        show Owes _ _ _ _ (T21.setTop (mkF m 100 #[.val (.ref r0), .val (.ref ro), .val (.ref rf), .val (.ref rs), .val (.int p4), .val (.int (1 : Int32)), .val (.int (1 : Int32)), .unset] []))
        refine Owes.go ?_ fun t₀ k₀ => XS.iconst X21.here hx rfl (hb hby d6_100) k₀
        show Owes _ _ _ _ (T21.setTop (mkF m 101 #[.val (.ref r0), .val (.ref ro), .val (.ref rf), .val (.ref rs), .val (.int p4), .val (.int (1 : Int32)), .val (.int (1 : Int32)), .unset] [(.int (1 : Int32))]))
        refine Owes.go ?_ fun t₀ k₀ => XS.goto X21.here hx rfl (pc0 := 101) (pc' := 105) rfl (hb hby d6_101) (by decide) (by decide) k₀
        show Owes _ _ _ _ (T21.setTop (mkF m 105 #[.val (.ref r0), .val (.ref ro), .val (.ref rf), .val (.ref rs), .val (.int p4), .val (.int (1 : Int32)), .val (.int (1 : Int32)), .unset] [(.int (1 : Int32))]))
        refine Owes.go ?_ fun t₀ k₀ => XS.istore X21.here hx rfl (hb hby d6_105) rfl (l' := #[.val (.ref r0), .val (.ref ro), .val (.ref rf), .val (.ref rs), .val (.int p4), .val (.int (1 : Int32)), .val (.int (1 : Int32)), .val (.int (1 : Int32))]) rfl k₀
        show Owes _ _ _ _ (T21.setTop (mkF m 107 #[.val (.ref r0), .val (.ref ro), .val (.ref rf), .val (.ref rs), .val (.int p4), .val (.int (1 : Int32)), .val (.int (1 : Int32)), .val (.int (1 : Int32))] []))
        refine Owes.go ?_ fun t₀ k₀ => XS.iload X21.here hx rfl (hb hby d6_107) rfl k₀
        show Owes _ _ _ _ (T21.setTop (mkF m 109 #[.val (.ref r0), .val (.ref ro), .val (.ref rf), .val (.ref rs), .val (.int p4), .val (.int (1 : Int32)), .val (.int (1 : Int32)), .val (.int (1 : Int32))] [(.int (1 : Int32))]))
        refine Owes.go ?_ fun t₀ k₀ => XS.ifNo X21.here hx rfl (hb hby d6_109) rfl ((if0 _ _).trans (feq (by decide : ¬ ((1 : Int32) = (0 : Int32)))).1) k₀
        show Owes _ _ _ _ (T21.setTop (mkF m 112 #[.val (.ref r0), .val (.ref ro), .val (.ref rf), .val (.ref rs), .val (.int p4), .val (.int (1 : Int32)), .val (.int (1 : Int32)), .val (.int (1 : Int32))] []))
        refine Owes.go ?_ fun t₀ k₀ => XS.iload X21.here hx rfl (hb hby d6_112) rfl k₀
        show Owes _ _ _ _ (T21.setTop (mkF m 114 #[.val (.ref r0), .val (.ref ro), .val (.ref rf), .val (.ref rs), .val (.int p4), .val (.int (1 : Int32)), .val (.int (1 : Int32)), .val (.int (1 : Int32))] [(.int (1 : Int32))]))
        refine Owes.go ?_ fun t₀ k₀ => XS.ifNo X21.here hx rfl (hb hby d6_114) rfl ((if0 _ _).trans (feq (by decide : ¬ ((1 : Int32) = (0 : Int32)))).1) k₀
        show Owes _ _ _ _ (T21.setTop (mkF m 117 #[.val (.ref r0), .val (.ref ro), .val (.ref rf), .val (.ref rs), .val (.int p4), .val (.int (1 : Int32)), .val (.int (1 : Int32)), .val (.int (1 : Int32))] []))
        refine Owes.go ?_ fun t₀ k₀ => XS.iload X21.here hx rfl (hb hby d6_117) rfl k₀
        show Owes _ _ _ _ (T21.setTop (mkF m 119 #[.val (.ref r0), .val (.ref ro), .val (.ref rf), .val (.ref rs), .val (.int p4), .val (.int (1 : Int32)), .val (.int (1 : Int32)), .val (.int (1 : Int32))] [(.int (1 : Int32))]))
        refine Owes.go ?_ fun t₀ k₀ => XS.ifNo X21.here hx rfl (hb hby d6_119) rfl ((if0 _ _).trans (feq (by decide : ¬ ((1 : Int32) = (0 : Int32)))).1) k₀
        show Owes _ _ _ _ (T21.setTop (mkF m 122 #[.val (.ref r0), .val (.ref ro), .val (.ref rf), .val (.ref rs), .val (.int p4), .val (.int (1 : Int32)), .val (.int (1 : Int32)), .val (.int (1 : Int32))] []))
        refine Owes.go ?_ fun t₀ k₀ => XS.iconst X21.here hx rfl (hb hby d6_122) k₀
        show Owes _ _ _ _ (T21.setTop (mkF m 123 #[.val (.ref r0), .val (.ref ro), .val (.ref rf), .val (.ref rs), .val (.int p4), .val (.int (1 : Int32)), .val (.int (1 : Int32)), .val (.int (1 : Int32))] [(.int (1 : Int32))]))
        refine Owes.go ?_ fun t₀ k₀ => XS.goto X21.here hx rfl (pc0 := 123) (pc' := 127) rfl (hb hby d6_123) (by decide) (by decide) k₀
        show Owes _ _ _ _ (T21.setTop (mkF m 127 #[.val (.ref r0), .val (.ref ro), .val (.ref rf), .val (.ref rs), .val (.int p4), .val (.int (1 : Int32)), .val (.int (1 : Int32)), .val (.int (1 : Int32))] [(.int (1 : Int32))]))
        exact Owes.retN X21 hx hlk hret (by simp) (hb hby d6_127) (by decide) (by decide) ⟨rfl, rfl, e21⟩
      · skip
        refine Owes.go ?_ fun t₀ k₀ => XS.icmpYes X20.here hx rfl (pc0 := 78) (pc' := 85) rfl (hb hby d6_78) rfl (feq hc3).2 (by decide) (by decide) k₀
        show Owes _ _ _ _ (T20.setTop (mkF m 85 #[.val (.ref r0), .val (.ref ro), .val (.ref rf), .val (.ref rs), .val (.int p4), .val (.int (1 : Int32)), .val (.int (1 : Int32)), .unset] []))
        refine Owes.go ?_ fun t₀ k₀ => XS.iconst X20.here hx rfl (hb hby d6_85) k₀
        show Owes _ _ _ _ (T20.setTop (mkF m 86 #[.val (.ref r0), .val (.ref ro), .val (.ref rf), .val (.ref rs), .val (.int p4), .val (.int (1 : Int32)), .val (.int (1 : Int32)), .unset] [(.int (0 : Int32))]))
        refine Owes.go ?_ fun t₀ k₀ => XS.aloadN X20.here hx rfl (hb hby d6_86) rfl rfl k₀
        show Owes _ _ _ _ (T20.setTop (mkF m 87 #[.val (.ref r0), .val (.ref ro), .val (.ref rf), .val (.ref rs), .val (.int p4), .val (.int (1 : Int32)), .val (.int (1 : Int32)), .unset] [(.ref rf), (.int (0 : Int32))]))
        refine Owes.go ?_ fun t₀ k₀ => XS.aloadN X20.here hx rfl (hb hby d6_87) rfl rfl k₀
        show Owes _ _ _ _ (T20.setTop (mkF m 88 #[.val (.ref r0), .val (.ref ro), .val (.ref rf), .val (.ref rs), .val (.int p4), .val (.int (1 : Int32)), .val (.int (1 : Int32)), .unset] [(.ref rs), (.ref rf), (.int (0 : Int32))]))
        refine Owes.go ?_ fun t₀ k₀ => XS.aloadN X20.here hx rfl (hb hby d6_88) rfl rfl k₀
        show Owes _ _ _ _ (T20.setTop (mkF m 89 #[.val (.ref r0), .val (.ref ro), .val (.ref rf), .val (.ref rs), .val (.int p4), .val (.int (1 : Int32)), .val (.int (1 : Int32)), .unset] [(.ref ro), (.ref rs), (.ref rf), (.int (0 : Int32))]))
        refine Owes.go ?_ fun t₀ k₀ => XS.bipush X20.here hx rfl (hb hby d6_89) k₀
        show Owes _ _ _ _ (T20.setTop (mkF m 91 #[.val (.ref r0), .val (.ref ro), .val (.ref rf), .val (.ref rs), .val (.int p4), .val (.int (1 : Int32)), .val (.int (1 : Int32)), .unset] [(.int (64 : Int32)), (.ref ro), (.ref rs), (.ref rf), (.int (0 : Int32))]))
        refine Owes.gI X20 hx hZ e20 GO (i := 64) rfl (by omega) (v := .int (O 64)) rfl (hb hby d6_91) ?_
        show Owes _ _ _ _ (T20.setTop (mkF m 92 #[.val (.ref r0), .val (.ref ro), .val (.ref rf), .val (.ref rs), .val (.int p4), .val (.int (1 : Int32)), .val (.int (1 : Int32)), .unset] [(.int (O 64)), (.ref rs), (.ref rf), (.int (0 : Int32))]))
        refine Owes.go ?_ fun t₀ k₀ => XS.iload X20.here hx rfl (hb hby d6_92) rfl k₀
        show Owes _ _ _ _ (T20.setTop (mkF m 94 #[.val (.ref r0), .val (.ref ro), .val (.ref rf), .val (.ref rs), .val (.int p4), .val (.int (1 : Int32)), .val (.int (1 : Int32)), .unset] [(.int p4), (.int (O 64)), (.ref rs), (.ref rf), (.int (0 : Int32))]))
        refine Owes.callS X20 hx hZ hown (hw _ (List.mem_of_getElem? (i := 65) rfl)) (hw _ (List.mem_of_getElem? (i := 66) rfl)) (hw _ (List.mem_of_getElem? (i := 2) rfl)) (hw _ (List.mem_of_getElem? (i := 67) rfl)) (by decide) (argsL := [(.ref rf), (.ref rs), (.int (O 64)), (.int p4)]) (rest := [(.int (0 : Int32))]) (rm_f_gv l Z a0 hw [] rf rs (O 64) p4 h0 Fa Sl GF GS (O 64).toInt.toNat (by have := hO 64 (by omega); omega) (by have := hO 64 (by omega); omega) _ _ rfl rfl) e20 (by rw [hml]; rfl) pd_2 rfl rfl (hb hby d6_94) (by decide) (Nat.le_of_ble_eq_true rfl) (by decide) (by decide) ?_
        rintro T22 _ _ X22 ⟨rfl, rfl, e22⟩
        rw [List.append_nil] at X22
        show Owes _ _ _ _ (T22.setTop (mkF m 97 #[.val (.ref r0), .val (.ref ro), .val (.ref rf), .val (.ref rs), .val (.int p4), .val (.int (1 : Int32)), .val (.int (1 : Int32)), .unset] [(.int (f_gv (O 64) p4 (Fa (O 64).toInt.toNat) (Sl (O 64).toInt.toNat))), (.int (0 : Int32))]))
        refine Owes.go ?_ fun t₀ k₀ => XS.icmpNo X22.here hx rfl (hb hby d6_97) rfl (teq (own_ag0 I20 (HB 64 (by omega)) hc3 p4 hp)).2 k₀
        show Owes _ _ _ _ (T22.setTop (mkF m 100 #[.val (.ref r0), .val (.ref ro), .val (.ref rf), .val (.ref rs), .val (.int p4), .val (.int (1 : Int32)), .val (.int (1 : Int32)), .unset] []))
        refine Owes.go ?_ fun t₀ k₀ => XS.iconst X22.here hx rfl (hb hby d6_100) k₀
        show Owes _ _ _ _ (T22.setTop (mkF m 101 #[.val (.ref r0), .val (.ref ro), .val (.ref rf), .val (.ref rs), .val (.int p4), .val (.int (1 : Int32)), .val (.int (1 : Int32)), .unset] [(.int (1 : Int32))]))
        refine Owes.go ?_ fun t₀ k₀ => XS.goto X22.here hx rfl (pc0 := 101) (pc' := 105) rfl (hb hby d6_101) (by decide) (by decide) k₀
        show Owes _ _ _ _ (T22.setTop (mkF m 105 #[.val (.ref r0), .val (.ref ro), .val (.ref rf), .val (.ref rs), .val (.int p4), .val (.int (1 : Int32)), .val (.int (1 : Int32)), .unset] [(.int (1 : Int32))]))
        refine Owes.go ?_ fun t₀ k₀ => XS.istore X22.here hx rfl (hb hby d6_105) rfl (l' := #[.val (.ref r0), .val (.ref ro), .val (.ref rf), .val (.ref rs), .val (.int p4), .val (.int (1 : Int32)), .val (.int (1 : Int32)), .val (.int (1 : Int32))]) rfl k₀
        show Owes _ _ _ _ (T22.setTop (mkF m 107 #[.val (.ref r0), .val (.ref ro), .val (.ref rf), .val (.ref rs), .val (.int p4), .val (.int (1 : Int32)), .val (.int (1 : Int32)), .val (.int (1 : Int32))] []))
        refine Owes.go ?_ fun t₀ k₀ => XS.iload X22.here hx rfl (hb hby d6_107) rfl k₀
        show Owes _ _ _ _ (T22.setTop (mkF m 109 #[.val (.ref r0), .val (.ref ro), .val (.ref rf), .val (.ref rs), .val (.int p4), .val (.int (1 : Int32)), .val (.int (1 : Int32)), .val (.int (1 : Int32))] [(.int (1 : Int32))]))
        refine Owes.go ?_ fun t₀ k₀ => XS.ifNo X22.here hx rfl (hb hby d6_109) rfl ((if0 _ _).trans (feq (by decide : ¬ ((1 : Int32) = (0 : Int32)))).1) k₀
        show Owes _ _ _ _ (T22.setTop (mkF m 112 #[.val (.ref r0), .val (.ref ro), .val (.ref rf), .val (.ref rs), .val (.int p4), .val (.int (1 : Int32)), .val (.int (1 : Int32)), .val (.int (1 : Int32))] []))
        refine Owes.go ?_ fun t₀ k₀ => XS.iload X22.here hx rfl (hb hby d6_112) rfl k₀
        show Owes _ _ _ _ (T22.setTop (mkF m 114 #[.val (.ref r0), .val (.ref ro), .val (.ref rf), .val (.ref rs), .val (.int p4), .val (.int (1 : Int32)), .val (.int (1 : Int32)), .val (.int (1 : Int32))] [(.int (1 : Int32))]))
        refine Owes.go ?_ fun t₀ k₀ => XS.ifNo X22.here hx rfl (hb hby d6_114) rfl ((if0 _ _).trans (feq (by decide : ¬ ((1 : Int32) = (0 : Int32)))).1) k₀
        show Owes _ _ _ _ (T22.setTop (mkF m 117 #[.val (.ref r0), .val (.ref ro), .val (.ref rf), .val (.ref rs), .val (.int p4), .val (.int (1 : Int32)), .val (.int (1 : Int32)), .val (.int (1 : Int32))] []))
        refine Owes.go ?_ fun t₀ k₀ => XS.iload X22.here hx rfl (hb hby d6_117) rfl k₀
        show Owes _ _ _ _ (T22.setTop (mkF m 119 #[.val (.ref r0), .val (.ref ro), .val (.ref rf), .val (.ref rs), .val (.int p4), .val (.int (1 : Int32)), .val (.int (1 : Int32)), .val (.int (1 : Int32))] [(.int (1 : Int32))]))
        refine Owes.go ?_ fun t₀ k₀ => XS.ifNo X22.here hx rfl (hb hby d6_119) rfl ((if0 _ _).trans (feq (by decide : ¬ ((1 : Int32) = (0 : Int32)))).1) k₀
        show Owes _ _ _ _ (T22.setTop (mkF m 122 #[.val (.ref r0), .val (.ref ro), .val (.ref rf), .val (.ref rs), .val (.int p4), .val (.int (1 : Int32)), .val (.int (1 : Int32)), .val (.int (1 : Int32))] []))
        refine Owes.go ?_ fun t₀ k₀ => XS.iconst X22.here hx rfl (hb hby d6_122) k₀
        show Owes _ _ _ _ (T22.setTop (mkF m 123 #[.val (.ref r0), .val (.ref ro), .val (.ref rf), .val (.ref rs), .val (.int p4), .val (.int (1 : Int32)), .val (.int (1 : Int32)), .val (.int (1 : Int32))] [(.int (1 : Int32))]))
        refine Owes.go ?_ fun t₀ k₀ => XS.goto X22.here hx rfl (pc0 := 123) (pc' := 127) rfl (hb hby d6_123) (by decide) (by decide) k₀
        show Owes _ _ _ _ (T22.setTop (mkF m 127 #[.val (.ref r0), .val (.ref ro), .val (.ref rf), .val (.ref rs), .val (.int p4), .val (.int (1 : Int32)), .val (.int (1 : Int32)), .val (.int (1 : Int32))] [(.int (1 : Int32))]))
        exact Owes.retN X22 hx hlk hret (by simp) (hb hby d6_127) (by decide) (by decide) ⟨rfl, rfl, e22⟩
    · skip
      refine Owes.go ?_ fun t₀ k₀ => XS.icmpYes X18.here hx rfl (pc0 := 41) (pc' := 48) rfl (hb hby d6_41) rfl (feq hc2).2 (by decide) (by decide) k₀
      show Owes _ _ _ _ (T18.setTop (mkF m 48 #[.val (.ref r0), .val (.ref ro), .val (.ref rf), .val (.ref rs), .val (.int p4), .val (.int (1 : Int32)), .unset, .unset] []))
      refine Owes.go ?_ fun t₀ k₀ => XS.iconst X18.here hx rfl (hb hby d6_48) k₀
      show Owes _ _ _ _ (T18.setTop (mkF m 49 #[.val (.ref r0), .val (.ref ro), .val (.ref rf), .val (.ref rs), .val (.int p4), .val (.int (1 : Int32)), .unset, .unset] [(.int (0 : Int32))]))
      refine Owes.go ?_ fun t₀ k₀ => XS.aloadN X18.here hx rfl (hb hby d6_49) rfl rfl k₀
      show Owes _ _ _ _ (T18.setTop (mkF m 50 #[.val (.ref r0), .val (.ref ro), .val (.ref rf), .val (.ref rs), .val (.int p4), .val (.int (1 : Int32)), .unset, .unset] [(.ref rf), (.int (0 : Int32))]))
      refine Owes.go ?_ fun t₀ k₀ => XS.aloadN X18.here hx rfl (hb hby d6_50) rfl rfl k₀
      show Owes _ _ _ _ (T18.setTop (mkF m 51 #[.val (.ref r0), .val (.ref ro), .val (.ref rf), .val (.ref rs), .val (.int p4), .val (.int (1 : Int32)), .unset, .unset] [(.ref rs), (.ref rf), (.int (0 : Int32))]))
      refine Owes.go ?_ fun t₀ k₀ => XS.aloadN X18.here hx rfl (hb hby d6_51) rfl rfl k₀
      show Owes _ _ _ _ (T18.setTop (mkF m 52 #[.val (.ref r0), .val (.ref ro), .val (.ref rf), .val (.ref rs), .val (.int p4), .val (.int (1 : Int32)), .unset, .unset] [(.ref ro), (.ref rs), (.ref rf), (.int (0 : Int32))]))
      refine Owes.go ?_ fun t₀ k₀ => XS.bipush X18.here hx rfl (hb hby d6_52) k₀
      show Owes _ _ _ _ (T18.setTop (mkF m 54 #[.val (.ref r0), .val (.ref ro), .val (.ref rf), .val (.ref rs), .val (.int p4), .val (.int (1 : Int32)), .unset, .unset] [(.int (63 : Int32)), (.ref ro), (.ref rs), (.ref rf), (.int (0 : Int32))]))
      refine Owes.gI X18 hx hZ e18 GO (i := 63) rfl (by omega) (v := .int (O 63)) rfl (hb hby d6_54) ?_
      show Owes _ _ _ _ (T18.setTop (mkF m 55 #[.val (.ref r0), .val (.ref ro), .val (.ref rf), .val (.ref rs), .val (.int p4), .val (.int (1 : Int32)), .unset, .unset] [(.int (O 63)), (.ref rs), (.ref rf), (.int (0 : Int32))]))
      refine Owes.go ?_ fun t₀ k₀ => XS.iload X18.here hx rfl (hb hby d6_55) rfl k₀
      show Owes _ _ _ _ (T18.setTop (mkF m 57 #[.val (.ref r0), .val (.ref ro), .val (.ref rf), .val (.ref rs), .val (.int p4), .val (.int (1 : Int32)), .unset, .unset] [(.int p4), (.int (O 63)), (.ref rs), (.ref rf), (.int (0 : Int32))]))
      refine Owes.callS X18 hx hZ hown (hw _ (List.mem_of_getElem? (i := 65) rfl)) (hw _ (List.mem_of_getElem? (i := 66) rfl)) (hw _ (List.mem_of_getElem? (i := 2) rfl)) (hw _ (List.mem_of_getElem? (i := 67) rfl)) (by decide) (argsL := [(.ref rf), (.ref rs), (.int (O 63)), (.int p4)]) (rest := [(.int (0 : Int32))]) (rm_f_gv l Z a0 hw [] rf rs (O 63) p4 h0 Fa Sl GF GS (O 63).toInt.toNat (by have := hO 63 (by omega); omega) (by have := hO 63 (by omega); omega) _ _ rfl rfl) e18 (by rw [hml]; rfl) pd_2 rfl rfl (hb hby d6_57) (by decide) (Nat.le_of_ble_eq_true rfl) (by decide) (by decide) ?_
      rintro T23 _ _ X23 ⟨rfl, rfl, e23⟩
      rw [List.append_nil] at X23
      show Owes _ _ _ _ (T23.setTop (mkF m 60 #[.val (.ref r0), .val (.ref ro), .val (.ref rf), .val (.ref rs), .val (.int p4), .val (.int (1 : Int32)), .unset, .unset] [(.int (f_gv (O 63) p4 (Fa (O 63).toInt.toNat) (Sl (O 63).toInt.toNat))), (.int (0 : Int32))]))
      refine Owes.go ?_ fun t₀ k₀ => XS.icmpNo X23.here hx rfl (hb hby d6_60) rfl (teq (own_ag0 I18 (HB 63 (by omega)) hc2 p4 hp)).2 k₀
      show Owes _ _ _ _ (T23.setTop (mkF m 63 #[.val (.ref r0), .val (.ref ro), .val (.ref rf), .val (.ref rs), .val (.int p4), .val (.int (1 : Int32)), .unset, .unset] []))
      refine Owes.go ?_ fun t₀ k₀ => XS.iconst X23.here hx rfl (hb hby d6_63) k₀
      show Owes _ _ _ _ (T23.setTop (mkF m 64 #[.val (.ref r0), .val (.ref ro), .val (.ref rf), .val (.ref rs), .val (.int p4), .val (.int (1 : Int32)), .unset, .unset] [(.int (1 : Int32))]))
      refine Owes.go ?_ fun t₀ k₀ => XS.goto X23.here hx rfl (pc0 := 64) (pc' := 68) rfl (hb hby d6_64) (by decide) (by decide) k₀
      show Owes _ _ _ _ (T23.setTop (mkF m 68 #[.val (.ref r0), .val (.ref ro), .val (.ref rf), .val (.ref rs), .val (.int p4), .val (.int (1 : Int32)), .unset, .unset] [(.int (1 : Int32))]))
      refine Owes.go ?_ fun t₀ k₀ => XS.istore X23.here hx rfl (hb hby d6_68) rfl (l' := #[.val (.ref r0), .val (.ref ro), .val (.ref rf), .val (.ref rs), .val (.int p4), .val (.int (1 : Int32)), .val (.int (1 : Int32)), .unset]) rfl k₀
      show Owes _ _ _ _ (T23.setTop (mkF m 70 #[.val (.ref r0), .val (.ref ro), .val (.ref rf), .val (.ref rs), .val (.int p4), .val (.int (1 : Int32)), .val (.int (1 : Int32)), .unset] []))
      refine Owes.go ?_ fun t₀ k₀ => XS.aloadN X23.here hx rfl (hb hby d6_70) rfl rfl k₀
      show Owes _ _ _ _ (T23.setTop (mkF m 71 #[.val (.ref r0), .val (.ref ro), .val (.ref rf), .val (.ref rs), .val (.int p4), .val (.int (1 : Int32)), .val (.int (1 : Int32)), .unset] [(.ref r0)]))
      refine Owes.go ?_ fun t₀ k₀ => XS.bipush X23.here hx rfl (hb hby d6_71) k₀
      show Owes _ _ _ _ (T23.setTop (mkF m 73 #[.val (.ref r0), .val (.ref ro), .val (.ref rf), .val (.ref rs), .val (.int p4), .val (.int (1 : Int32)), .val (.int (1 : Int32)), .unset] [(.int (64 : Int32)), (.ref r0)]))
      refine Owes.callV X23 hx hZ hown (hw _ (List.mem_of_getElem? (i := 51) rfl)) (hw _ (List.mem_of_getElem? (i := 52) rfl)) (notFace_of_selects (args := #[]) (mvT hZ (hw _ (List.mem_of_getElem? (i := 54) rfl)))) (hw _ (List.mem_of_getElem? (i := 54) rfl)) (hw _ (List.mem_of_getElem? (i := 53) rfl)) (hw _ (List.mem_of_getElem? (i := 7) rfl)) (hw _ (List.mem_of_getElem? (i := 55) rfl)) (by decide) (a := r0) (argsL := [(.int (64 : Int32))]) (rest := []) (rm_next l Z a0 hw [] r0 (64 : Int32) h0 tr jf jo lf le n gj gl T JF G LF H rc F0 64 rfl (by omega)) e23 F0.1 (by rw [hml]; rfl) pd_0 rfl rfl (hb hby d6_73) (by decide) (Nat.le_of_ble_eq_true rfl) (by decide) (by decide) ?_
      rintro T24 v24 L24 X24 ⟨r24, rfl, rfl, e24, I24⟩
      rw [List.append_nil] at X24
      show Owes _ _ _ _ (T24.setTop (mkF m 76 #[.val (.ref r0), .val (.ref ro), .val (.ref rf), .val (.ref rs), .val (.int p4), .val (.int (1 : Int32)), .val (.int (1 : Int32)), .unset] [(.int r24)]))
      refine Owes.go ?_ fun t₀ k₀ => XS.bipush X24.here hx rfl (hb hby d6_76) k₀
      show Owes _ _ _ _ (T24.setTop (mkF m 78 #[.val (.ref r0), .val (.ref ro), .val (.ref rf), .val (.ref rs), .val (.int p4), .val (.int (1 : Int32)), .val (.int (1 : Int32)), .unset] [(.int (64 : Int32)), (.int r24)]))
      by_cases hc4 : r24 = (64 : Int32)
      · skip
        refine Owes.go ?_ fun t₀ k₀ => XS.icmpNo X24.here hx rfl (hb hby d6_78) rfl (teq hc4).2 k₀
        show Owes _ _ _ _ (T24.setTop (mkF m 81 #[.val (.ref r0), .val (.ref ro), .val (.ref rf), .val (.ref rs), .val (.int p4), .val (.int (1 : Int32)), .val (.int (1 : Int32)), .unset] []))
        refine Owes.go ?_ fun t₀ k₀ => XS.iconst X24.here hx rfl (hb hby d6_81) k₀
        show Owes _ _ _ _ (T24.setTop (mkF m 82 #[.val (.ref r0), .val (.ref ro), .val (.ref rf), .val (.ref rs), .val (.int p4), .val (.int (1 : Int32)), .val (.int (1 : Int32)), .unset] [(.int (1 : Int32))]))
        refine Owes.go ?_ fun t₀ k₀ => XS.goto X24.here hx rfl (pc0 := 82) (pc' := 86) rfl (hb hby d6_82) (by decide) (by decide) k₀
        show Owes _ _ _ _ (T24.setTop (mkF m 86 #[.val (.ref r0), .val (.ref ro), .val (.ref rf), .val (.ref rs), .val (.int p4), .val (.int (1 : Int32)), .val (.int (1 : Int32)), .unset] [(.int (1 : Int32))]))
        refine Owes.go ?_ fun t₀ k₀ => XS.aloadN X24.here hx rfl (hb hby d6_86) rfl rfl k₀
        show Owes _ _ _ _ (T24.setTop (mkF m 87 #[.val (.ref r0), .val (.ref ro), .val (.ref rf), .val (.ref rs), .val (.int p4), .val (.int (1 : Int32)), .val (.int (1 : Int32)), .unset] [(.ref rf), (.int (1 : Int32))]))
        refine Owes.go ?_ fun t₀ k₀ => XS.aloadN X24.here hx rfl (hb hby d6_87) rfl rfl k₀
        show Owes _ _ _ _ (T24.setTop (mkF m 88 #[.val (.ref r0), .val (.ref ro), .val (.ref rf), .val (.ref rs), .val (.int p4), .val (.int (1 : Int32)), .val (.int (1 : Int32)), .unset] [(.ref rs), (.ref rf), (.int (1 : Int32))]))
        refine Owes.go ?_ fun t₀ k₀ => XS.aloadN X24.here hx rfl (hb hby d6_88) rfl rfl k₀
        show Owes _ _ _ _ (T24.setTop (mkF m 89 #[.val (.ref r0), .val (.ref ro), .val (.ref rf), .val (.ref rs), .val (.int p4), .val (.int (1 : Int32)), .val (.int (1 : Int32)), .unset] [(.ref ro), (.ref rs), (.ref rf), (.int (1 : Int32))]))
        refine Owes.go ?_ fun t₀ k₀ => XS.bipush X24.here hx rfl (hb hby d6_89) k₀
        show Owes _ _ _ _ (T24.setTop (mkF m 91 #[.val (.ref r0), .val (.ref ro), .val (.ref rf), .val (.ref rs), .val (.int p4), .val (.int (1 : Int32)), .val (.int (1 : Int32)), .unset] [(.int (64 : Int32)), (.ref ro), (.ref rs), (.ref rf), (.int (1 : Int32))]))
        refine Owes.gI X24 hx hZ e24 GO (i := 64) rfl (by omega) (v := .int (O 64)) rfl (hb hby d6_91) ?_
        show Owes _ _ _ _ (T24.setTop (mkF m 92 #[.val (.ref r0), .val (.ref ro), .val (.ref rf), .val (.ref rs), .val (.int p4), .val (.int (1 : Int32)), .val (.int (1 : Int32)), .unset] [(.int (O 64)), (.ref rs), (.ref rf), (.int (1 : Int32))]))
        refine Owes.go ?_ fun t₀ k₀ => XS.iload X24.here hx rfl (hb hby d6_92) rfl k₀
        show Owes _ _ _ _ (T24.setTop (mkF m 94 #[.val (.ref r0), .val (.ref ro), .val (.ref rf), .val (.ref rs), .val (.int p4), .val (.int (1 : Int32)), .val (.int (1 : Int32)), .unset] [(.int p4), (.int (O 64)), (.ref rs), (.ref rf), (.int (1 : Int32))]))
        refine Owes.callS X24 hx hZ hown (hw _ (List.mem_of_getElem? (i := 65) rfl)) (hw _ (List.mem_of_getElem? (i := 66) rfl)) (hw _ (List.mem_of_getElem? (i := 2) rfl)) (hw _ (List.mem_of_getElem? (i := 67) rfl)) (by decide) (argsL := [(.ref rf), (.ref rs), (.int (O 64)), (.int p4)]) (rest := [(.int (1 : Int32))]) (rm_f_gv l Z a0 hw [] rf rs (O 64) p4 h0 Fa Sl GF GS (O 64).toInt.toNat (by have := hO 64 (by omega); omega) (by have := hO 64 (by omega); omega) _ _ rfl rfl) e24 (by rw [hml]; rfl) pd_2 rfl rfl (hb hby d6_94) (by decide) (Nat.le_of_ble_eq_true rfl) (by decide) (by decide) ?_
        rintro T25 _ _ X25 ⟨rfl, rfl, e25⟩
        rw [List.append_nil] at X25
        show Owes _ _ _ _ (T25.setTop (mkF m 97 #[.val (.ref r0), .val (.ref ro), .val (.ref rf), .val (.ref rs), .val (.int p4), .val (.int (1 : Int32)), .val (.int (1 : Int32)), .unset] [(.int (f_gv (O 64) p4 (Fa (O 64).toInt.toNat) (Sl (O 64).toInt.toNat))), (.int (1 : Int32))]))
        refine Owes.go ?_ fun t₀ k₀ => XS.icmpNo X25.here hx rfl (hb hby d6_97) rfl (teq (own_ag1 I24 (HB 64 (by omega)) hc4 p4 hp)).2 k₀
        show Owes _ _ _ _ (T25.setTop (mkF m 100 #[.val (.ref r0), .val (.ref ro), .val (.ref rf), .val (.ref rs), .val (.int p4), .val (.int (1 : Int32)), .val (.int (1 : Int32)), .unset] []))
        refine Owes.go ?_ fun t₀ k₀ => XS.iconst X25.here hx rfl (hb hby d6_100) k₀
        show Owes _ _ _ _ (T25.setTop (mkF m 101 #[.val (.ref r0), .val (.ref ro), .val (.ref rf), .val (.ref rs), .val (.int p4), .val (.int (1 : Int32)), .val (.int (1 : Int32)), .unset] [(.int (1 : Int32))]))
        refine Owes.go ?_ fun t₀ k₀ => XS.goto X25.here hx rfl (pc0 := 101) (pc' := 105) rfl (hb hby d6_101) (by decide) (by decide) k₀
        show Owes _ _ _ _ (T25.setTop (mkF m 105 #[.val (.ref r0), .val (.ref ro), .val (.ref rf), .val (.ref rs), .val (.int p4), .val (.int (1 : Int32)), .val (.int (1 : Int32)), .unset] [(.int (1 : Int32))]))
        refine Owes.go ?_ fun t₀ k₀ => XS.istore X25.here hx rfl (hb hby d6_105) rfl (l' := #[.val (.ref r0), .val (.ref ro), .val (.ref rf), .val (.ref rs), .val (.int p4), .val (.int (1 : Int32)), .val (.int (1 : Int32)), .val (.int (1 : Int32))]) rfl k₀
        show Owes _ _ _ _ (T25.setTop (mkF m 107 #[.val (.ref r0), .val (.ref ro), .val (.ref rf), .val (.ref rs), .val (.int p4), .val (.int (1 : Int32)), .val (.int (1 : Int32)), .val (.int (1 : Int32))] []))
        refine Owes.go ?_ fun t₀ k₀ => XS.iload X25.here hx rfl (hb hby d6_107) rfl k₀
        show Owes _ _ _ _ (T25.setTop (mkF m 109 #[.val (.ref r0), .val (.ref ro), .val (.ref rf), .val (.ref rs), .val (.int p4), .val (.int (1 : Int32)), .val (.int (1 : Int32)), .val (.int (1 : Int32))] [(.int (1 : Int32))]))
        refine Owes.go ?_ fun t₀ k₀ => XS.ifNo X25.here hx rfl (hb hby d6_109) rfl ((if0 _ _).trans (feq (by decide : ¬ ((1 : Int32) = (0 : Int32)))).1) k₀
        show Owes _ _ _ _ (T25.setTop (mkF m 112 #[.val (.ref r0), .val (.ref ro), .val (.ref rf), .val (.ref rs), .val (.int p4), .val (.int (1 : Int32)), .val (.int (1 : Int32)), .val (.int (1 : Int32))] []))
        refine Owes.go ?_ fun t₀ k₀ => XS.iload X25.here hx rfl (hb hby d6_112) rfl k₀
        show Owes _ _ _ _ (T25.setTop (mkF m 114 #[.val (.ref r0), .val (.ref ro), .val (.ref rf), .val (.ref rs), .val (.int p4), .val (.int (1 : Int32)), .val (.int (1 : Int32)), .val (.int (1 : Int32))] [(.int (1 : Int32))]))
        refine Owes.go ?_ fun t₀ k₀ => XS.ifNo X25.here hx rfl (hb hby d6_114) rfl ((if0 _ _).trans (feq (by decide : ¬ ((1 : Int32) = (0 : Int32)))).1) k₀
        show Owes _ _ _ _ (T25.setTop (mkF m 117 #[.val (.ref r0), .val (.ref ro), .val (.ref rf), .val (.ref rs), .val (.int p4), .val (.int (1 : Int32)), .val (.int (1 : Int32)), .val (.int (1 : Int32))] []))
        refine Owes.go ?_ fun t₀ k₀ => XS.iload X25.here hx rfl (hb hby d6_117) rfl k₀
        show Owes _ _ _ _ (T25.setTop (mkF m 119 #[.val (.ref r0), .val (.ref ro), .val (.ref rf), .val (.ref rs), .val (.int p4), .val (.int (1 : Int32)), .val (.int (1 : Int32)), .val (.int (1 : Int32))] [(.int (1 : Int32))]))
        refine Owes.go ?_ fun t₀ k₀ => XS.ifNo X25.here hx rfl (hb hby d6_119) rfl ((if0 _ _).trans (feq (by decide : ¬ ((1 : Int32) = (0 : Int32)))).1) k₀
        show Owes _ _ _ _ (T25.setTop (mkF m 122 #[.val (.ref r0), .val (.ref ro), .val (.ref rf), .val (.ref rs), .val (.int p4), .val (.int (1 : Int32)), .val (.int (1 : Int32)), .val (.int (1 : Int32))] []))
        refine Owes.go ?_ fun t₀ k₀ => XS.iconst X25.here hx rfl (hb hby d6_122) k₀
        show Owes _ _ _ _ (T25.setTop (mkF m 123 #[.val (.ref r0), .val (.ref ro), .val (.ref rf), .val (.ref rs), .val (.int p4), .val (.int (1 : Int32)), .val (.int (1 : Int32)), .val (.int (1 : Int32))] [(.int (1 : Int32))]))
        refine Owes.go ?_ fun t₀ k₀ => XS.goto X25.here hx rfl (pc0 := 123) (pc' := 127) rfl (hb hby d6_123) (by decide) (by decide) k₀
        show Owes _ _ _ _ (T25.setTop (mkF m 127 #[.val (.ref r0), .val (.ref ro), .val (.ref rf), .val (.ref rs), .val (.int p4), .val (.int (1 : Int32)), .val (.int (1 : Int32)), .val (.int (1 : Int32))] [(.int (1 : Int32))]))
        exact Owes.retN X25 hx hlk hret (by simp) (hb hby d6_127) (by decide) (by decide) ⟨rfl, rfl, e25⟩
      · skip
        refine Owes.go ?_ fun t₀ k₀ => XS.icmpYes X24.here hx rfl (pc0 := 78) (pc' := 85) rfl (hb hby d6_78) rfl (feq hc4).2 (by decide) (by decide) k₀
        show Owes _ _ _ _ (T24.setTop (mkF m 85 #[.val (.ref r0), .val (.ref ro), .val (.ref rf), .val (.ref rs), .val (.int p4), .val (.int (1 : Int32)), .val (.int (1 : Int32)), .unset] []))
        refine Owes.go ?_ fun t₀ k₀ => XS.iconst X24.here hx rfl (hb hby d6_85) k₀
        show Owes _ _ _ _ (T24.setTop (mkF m 86 #[.val (.ref r0), .val (.ref ro), .val (.ref rf), .val (.ref rs), .val (.int p4), .val (.int (1 : Int32)), .val (.int (1 : Int32)), .unset] [(.int (0 : Int32))]))
        refine Owes.go ?_ fun t₀ k₀ => XS.aloadN X24.here hx rfl (hb hby d6_86) rfl rfl k₀
        show Owes _ _ _ _ (T24.setTop (mkF m 87 #[.val (.ref r0), .val (.ref ro), .val (.ref rf), .val (.ref rs), .val (.int p4), .val (.int (1 : Int32)), .val (.int (1 : Int32)), .unset] [(.ref rf), (.int (0 : Int32))]))
        refine Owes.go ?_ fun t₀ k₀ => XS.aloadN X24.here hx rfl (hb hby d6_87) rfl rfl k₀
        show Owes _ _ _ _ (T24.setTop (mkF m 88 #[.val (.ref r0), .val (.ref ro), .val (.ref rf), .val (.ref rs), .val (.int p4), .val (.int (1 : Int32)), .val (.int (1 : Int32)), .unset] [(.ref rs), (.ref rf), (.int (0 : Int32))]))
        refine Owes.go ?_ fun t₀ k₀ => XS.aloadN X24.here hx rfl (hb hby d6_88) rfl rfl k₀
        show Owes _ _ _ _ (T24.setTop (mkF m 89 #[.val (.ref r0), .val (.ref ro), .val (.ref rf), .val (.ref rs), .val (.int p4), .val (.int (1 : Int32)), .val (.int (1 : Int32)), .unset] [(.ref ro), (.ref rs), (.ref rf), (.int (0 : Int32))]))
        refine Owes.go ?_ fun t₀ k₀ => XS.bipush X24.here hx rfl (hb hby d6_89) k₀
        show Owes _ _ _ _ (T24.setTop (mkF m 91 #[.val (.ref r0), .val (.ref ro), .val (.ref rf), .val (.ref rs), .val (.int p4), .val (.int (1 : Int32)), .val (.int (1 : Int32)), .unset] [(.int (64 : Int32)), (.ref ro), (.ref rs), (.ref rf), (.int (0 : Int32))]))
        refine Owes.gI X24 hx hZ e24 GO (i := 64) rfl (by omega) (v := .int (O 64)) rfl (hb hby d6_91) ?_
        show Owes _ _ _ _ (T24.setTop (mkF m 92 #[.val (.ref r0), .val (.ref ro), .val (.ref rf), .val (.ref rs), .val (.int p4), .val (.int (1 : Int32)), .val (.int (1 : Int32)), .unset] [(.int (O 64)), (.ref rs), (.ref rf), (.int (0 : Int32))]))
        refine Owes.go ?_ fun t₀ k₀ => XS.iload X24.here hx rfl (hb hby d6_92) rfl k₀
        show Owes _ _ _ _ (T24.setTop (mkF m 94 #[.val (.ref r0), .val (.ref ro), .val (.ref rf), .val (.ref rs), .val (.int p4), .val (.int (1 : Int32)), .val (.int (1 : Int32)), .unset] [(.int p4), (.int (O 64)), (.ref rs), (.ref rf), (.int (0 : Int32))]))
        refine Owes.callS X24 hx hZ hown (hw _ (List.mem_of_getElem? (i := 65) rfl)) (hw _ (List.mem_of_getElem? (i := 66) rfl)) (hw _ (List.mem_of_getElem? (i := 2) rfl)) (hw _ (List.mem_of_getElem? (i := 67) rfl)) (by decide) (argsL := [(.ref rf), (.ref rs), (.int (O 64)), (.int p4)]) (rest := [(.int (0 : Int32))]) (rm_f_gv l Z a0 hw [] rf rs (O 64) p4 h0 Fa Sl GF GS (O 64).toInt.toNat (by have := hO 64 (by omega); omega) (by have := hO 64 (by omega); omega) _ _ rfl rfl) e24 (by rw [hml]; rfl) pd_2 rfl rfl (hb hby d6_94) (by decide) (Nat.le_of_ble_eq_true rfl) (by decide) (by decide) ?_
        rintro T26 _ _ X26 ⟨rfl, rfl, e26⟩
        rw [List.append_nil] at X26
        show Owes _ _ _ _ (T26.setTop (mkF m 97 #[.val (.ref r0), .val (.ref ro), .val (.ref rf), .val (.ref rs), .val (.int p4), .val (.int (1 : Int32)), .val (.int (1 : Int32)), .unset] [(.int (f_gv (O 64) p4 (Fa (O 64).toInt.toNat) (Sl (O 64).toInt.toNat))), (.int (0 : Int32))]))
        refine Owes.go ?_ fun t₀ k₀ => XS.icmpNo X26.here hx rfl (hb hby d6_97) rfl (teq (own_ag0 I24 (HB 64 (by omega)) hc4 p4 hp)).2 k₀
        show Owes _ _ _ _ (T26.setTop (mkF m 100 #[.val (.ref r0), .val (.ref ro), .val (.ref rf), .val (.ref rs), .val (.int p4), .val (.int (1 : Int32)), .val (.int (1 : Int32)), .unset] []))
        refine Owes.go ?_ fun t₀ k₀ => XS.iconst X26.here hx rfl (hb hby d6_100) k₀
        show Owes _ _ _ _ (T26.setTop (mkF m 101 #[.val (.ref r0), .val (.ref ro), .val (.ref rf), .val (.ref rs), .val (.int p4), .val (.int (1 : Int32)), .val (.int (1 : Int32)), .unset] [(.int (1 : Int32))]))
        refine Owes.go ?_ fun t₀ k₀ => XS.goto X26.here hx rfl (pc0 := 101) (pc' := 105) rfl (hb hby d6_101) (by decide) (by decide) k₀
        show Owes _ _ _ _ (T26.setTop (mkF m 105 #[.val (.ref r0), .val (.ref ro), .val (.ref rf), .val (.ref rs), .val (.int p4), .val (.int (1 : Int32)), .val (.int (1 : Int32)), .unset] [(.int (1 : Int32))]))
        refine Owes.go ?_ fun t₀ k₀ => XS.istore X26.here hx rfl (hb hby d6_105) rfl (l' := #[.val (.ref r0), .val (.ref ro), .val (.ref rf), .val (.ref rs), .val (.int p4), .val (.int (1 : Int32)), .val (.int (1 : Int32)), .val (.int (1 : Int32))]) rfl k₀
        show Owes _ _ _ _ (T26.setTop (mkF m 107 #[.val (.ref r0), .val (.ref ro), .val (.ref rf), .val (.ref rs), .val (.int p4), .val (.int (1 : Int32)), .val (.int (1 : Int32)), .val (.int (1 : Int32))] []))
        refine Owes.go ?_ fun t₀ k₀ => XS.iload X26.here hx rfl (hb hby d6_107) rfl k₀
        show Owes _ _ _ _ (T26.setTop (mkF m 109 #[.val (.ref r0), .val (.ref ro), .val (.ref rf), .val (.ref rs), .val (.int p4), .val (.int (1 : Int32)), .val (.int (1 : Int32)), .val (.int (1 : Int32))] [(.int (1 : Int32))]))
        refine Owes.go ?_ fun t₀ k₀ => XS.ifNo X26.here hx rfl (hb hby d6_109) rfl ((if0 _ _).trans (feq (by decide : ¬ ((1 : Int32) = (0 : Int32)))).1) k₀
        show Owes _ _ _ _ (T26.setTop (mkF m 112 #[.val (.ref r0), .val (.ref ro), .val (.ref rf), .val (.ref rs), .val (.int p4), .val (.int (1 : Int32)), .val (.int (1 : Int32)), .val (.int (1 : Int32))] []))
        refine Owes.go ?_ fun t₀ k₀ => XS.iload X26.here hx rfl (hb hby d6_112) rfl k₀
        show Owes _ _ _ _ (T26.setTop (mkF m 114 #[.val (.ref r0), .val (.ref ro), .val (.ref rf), .val (.ref rs), .val (.int p4), .val (.int (1 : Int32)), .val (.int (1 : Int32)), .val (.int (1 : Int32))] [(.int (1 : Int32))]))
        refine Owes.go ?_ fun t₀ k₀ => XS.ifNo X26.here hx rfl (hb hby d6_114) rfl ((if0 _ _).trans (feq (by decide : ¬ ((1 : Int32) = (0 : Int32)))).1) k₀
        show Owes _ _ _ _ (T26.setTop (mkF m 117 #[.val (.ref r0), .val (.ref ro), .val (.ref rf), .val (.ref rs), .val (.int p4), .val (.int (1 : Int32)), .val (.int (1 : Int32)), .val (.int (1 : Int32))] []))
        refine Owes.go ?_ fun t₀ k₀ => XS.iload X26.here hx rfl (hb hby d6_117) rfl k₀
        show Owes _ _ _ _ (T26.setTop (mkF m 119 #[.val (.ref r0), .val (.ref ro), .val (.ref rf), .val (.ref rs), .val (.int p4), .val (.int (1 : Int32)), .val (.int (1 : Int32)), .val (.int (1 : Int32))] [(.int (1 : Int32))]))
        refine Owes.go ?_ fun t₀ k₀ => XS.ifNo X26.here hx rfl (hb hby d6_119) rfl ((if0 _ _).trans (feq (by decide : ¬ ((1 : Int32) = (0 : Int32)))).1) k₀
        show Owes _ _ _ _ (T26.setTop (mkF m 122 #[.val (.ref r0), .val (.ref ro), .val (.ref rf), .val (.ref rs), .val (.int p4), .val (.int (1 : Int32)), .val (.int (1 : Int32)), .val (.int (1 : Int32))] []))
        refine Owes.go ?_ fun t₀ k₀ => XS.iconst X26.here hx rfl (hb hby d6_122) k₀
        show Owes _ _ _ _ (T26.setTop (mkF m 123 #[.val (.ref r0), .val (.ref ro), .val (.ref rf), .val (.ref rs), .val (.int p4), .val (.int (1 : Int32)), .val (.int (1 : Int32)), .val (.int (1 : Int32))] [(.int (1 : Int32))]))
        refine Owes.go ?_ fun t₀ k₀ => XS.goto X26.here hx rfl (pc0 := 123) (pc' := 127) rfl (hb hby d6_123) (by decide) (by decide) k₀
        show Owes _ _ _ _ (T26.setTop (mkF m 127 #[.val (.ref r0), .val (.ref ro), .val (.ref rf), .val (.ref rs), .val (.int p4), .val (.int (1 : Int32)), .val (.int (1 : Int32)), .val (.int (1 : Int32))] [(.int (1 : Int32))]))
        exact Owes.retN X26 hx hlk hret (by simp) (hb hby d6_127) (by decide) (by decide) ⟨rfl, rfl, e26⟩
  · skip
    refine Owes.go ?_ fun t₀ k₀ => XS.ifYes X16.here hx rfl (pc0 := 5) (pc' := 12) rfl (hb hby d6_5) rfl ((if0 _ _).trans (feq hc1).2) (by decide) (by decide) k₀
    show Owes _ _ _ _ (T16.setTop (mkF m 12 #[.val (.ref r0), .val (.ref ro), .val (.ref rf), .val (.ref rs), .val (.int p4), .unset, .unset, .unset] []))
    refine Owes.go ?_ fun t₀ k₀ => XS.iconst X16.here hx rfl (hb hby d6_12) k₀
    show Owes _ _ _ _ (T16.setTop (mkF m 13 #[.val (.ref r0), .val (.ref ro), .val (.ref rf), .val (.ref rs), .val (.int p4), .unset, .unset, .unset] [(.int (0 : Int32))]))
    refine Owes.go ?_ fun t₀ k₀ => XS.aloadN X16.here hx rfl (hb hby d6_13) rfl rfl k₀
    show Owes _ _ _ _ (T16.setTop (mkF m 14 #[.val (.ref r0), .val (.ref ro), .val (.ref rf), .val (.ref rs), .val (.int p4), .unset, .unset, .unset] [(.ref rf), (.int (0 : Int32))]))
    refine Owes.go ?_ fun t₀ k₀ => XS.aloadN X16.here hx rfl (hb hby d6_14) rfl rfl k₀
    show Owes _ _ _ _ (T16.setTop (mkF m 15 #[.val (.ref r0), .val (.ref ro), .val (.ref rf), .val (.ref rs), .val (.int p4), .unset, .unset, .unset] [(.ref rs), (.ref rf), (.int (0 : Int32))]))
    refine Owes.go ?_ fun t₀ k₀ => XS.aloadN X16.here hx rfl (hb hby d6_15) rfl rfl k₀
    show Owes _ _ _ _ (T16.setTop (mkF m 16 #[.val (.ref r0), .val (.ref ro), .val (.ref rf), .val (.ref rs), .val (.int p4), .unset, .unset, .unset] [(.ref ro), (.ref rs), (.ref rf), (.int (0 : Int32))]))
    refine Owes.go ?_ fun t₀ k₀ => XS.iconst X16.here hx rfl (hb hby d6_16) k₀
    show Owes _ _ _ _ (T16.setTop (mkF m 17 #[.val (.ref r0), .val (.ref ro), .val (.ref rf), .val (.ref rs), .val (.int p4), .unset, .unset, .unset] [(.int (0 : Int32)), (.ref ro), (.ref rs), (.ref rf), (.int (0 : Int32))]))
    refine Owes.gI X16 hx hZ e16 GO (i := 0) rfl (by omega) (v := .int (O 0)) rfl (hb hby d6_17) ?_
    show Owes _ _ _ _ (T16.setTop (mkF m 18 #[.val (.ref r0), .val (.ref ro), .val (.ref rf), .val (.ref rs), .val (.int p4), .unset, .unset, .unset] [(.int (O 0)), (.ref rs), (.ref rf), (.int (0 : Int32))]))
    refine Owes.go ?_ fun t₀ k₀ => XS.iload X16.here hx rfl (hb hby d6_18) rfl k₀
    show Owes _ _ _ _ (T16.setTop (mkF m 20 #[.val (.ref r0), .val (.ref ro), .val (.ref rf), .val (.ref rs), .val (.int p4), .unset, .unset, .unset] [(.int p4), (.int (O 0)), (.ref rs), (.ref rf), (.int (0 : Int32))]))
    refine Owes.callS X16 hx hZ hown (hw _ (List.mem_of_getElem? (i := 65) rfl)) (hw _ (List.mem_of_getElem? (i := 66) rfl)) (hw _ (List.mem_of_getElem? (i := 2) rfl)) (hw _ (List.mem_of_getElem? (i := 67) rfl)) (by decide) (argsL := [(.ref rf), (.ref rs), (.int (O 0)), (.int p4)]) (rest := [(.int (0 : Int32))]) (rm_f_gv l Z a0 hw [] rf rs (O 0) p4 h0 Fa Sl GF GS (O 0).toInt.toNat (by have := hO 0 (by omega); omega) (by have := hO 0 (by omega); omega) _ _ rfl rfl) e16 (by rw [hml]; rfl) pd_2 rfl rfl (hb hby d6_20) (by decide) (Nat.le_of_ble_eq_true rfl) (by decide) (by decide) ?_
    rintro T27 _ _ X27 ⟨rfl, rfl, e27⟩
    rw [List.append_nil] at X27
    show Owes _ _ _ _ (T27.setTop (mkF m 23 #[.val (.ref r0), .val (.ref ro), .val (.ref rf), .val (.ref rs), .val (.int p4), .unset, .unset, .unset] [(.int (f_gv (O 0) p4 (Fa (O 0).toInt.toNat) (Sl (O 0).toInt.toNat))), (.int (0 : Int32))]))
    refine Owes.go ?_ fun t₀ k₀ => XS.icmpNo X27.here hx rfl (hb hby d6_23) rfl (teq (own_ag0 I16 (HB 0 (by omega)) hc1 p4 hp)).2 k₀
    show Owes _ _ _ _ (T27.setTop (mkF m 26 #[.val (.ref r0), .val (.ref ro), .val (.ref rf), .val (.ref rs), .val (.int p4), .unset, .unset, .unset] []))
    refine Owes.go ?_ fun t₀ k₀ => XS.iconst X27.here hx rfl (hb hby d6_26) k₀
    show Owes _ _ _ _ (T27.setTop (mkF m 27 #[.val (.ref r0), .val (.ref ro), .val (.ref rf), .val (.ref rs), .val (.int p4), .unset, .unset, .unset] [(.int (1 : Int32))]))
    refine Owes.go ?_ fun t₀ k₀ => XS.goto X27.here hx rfl (pc0 := 27) (pc' := 31) rfl (hb hby d6_27) (by decide) (by decide) k₀
    show Owes _ _ _ _ (T27.setTop (mkF m 31 #[.val (.ref r0), .val (.ref ro), .val (.ref rf), .val (.ref rs), .val (.int p4), .unset, .unset, .unset] [(.int (1 : Int32))]))
    refine Owes.go ?_ fun t₀ k₀ => XS.istore X27.here hx rfl (hb hby d6_31) rfl (l' := #[.val (.ref r0), .val (.ref ro), .val (.ref rf), .val (.ref rs), .val (.int p4), .val (.int (1 : Int32)), .unset, .unset]) rfl k₀
    show Owes _ _ _ _ (T27.setTop (mkF m 33 #[.val (.ref r0), .val (.ref ro), .val (.ref rf), .val (.ref rs), .val (.int p4), .val (.int (1 : Int32)), .unset, .unset] []))
    refine Owes.go ?_ fun t₀ k₀ => XS.aloadN X27.here hx rfl (hb hby d6_33) rfl rfl k₀
    show Owes _ _ _ _ (T27.setTop (mkF m 34 #[.val (.ref r0), .val (.ref ro), .val (.ref rf), .val (.ref rs), .val (.int p4), .val (.int (1 : Int32)), .unset, .unset] [(.ref r0)]))
    refine Owes.go ?_ fun t₀ k₀ => XS.bipush X27.here hx rfl (hb hby d6_34) k₀
    show Owes _ _ _ _ (T27.setTop (mkF m 36 #[.val (.ref r0), .val (.ref ro), .val (.ref rf), .val (.ref rs), .val (.int p4), .val (.int (1 : Int32)), .unset, .unset] [(.int (63 : Int32)), (.ref r0)]))
    refine Owes.callV X27 hx hZ hown (hw _ (List.mem_of_getElem? (i := 51) rfl)) (hw _ (List.mem_of_getElem? (i := 52) rfl)) (notFace_of_selects (args := #[]) (mvT hZ (hw _ (List.mem_of_getElem? (i := 54) rfl)))) (hw _ (List.mem_of_getElem? (i := 54) rfl)) (hw _ (List.mem_of_getElem? (i := 53) rfl)) (hw _ (List.mem_of_getElem? (i := 7) rfl)) (hw _ (List.mem_of_getElem? (i := 55) rfl)) (by decide) (a := r0) (argsL := [(.int (63 : Int32))]) (rest := []) (rm_next l Z a0 hw [] r0 (63 : Int32) h0 tr jf jo lf le n gj gl T JF G LF H rc F0 63 rfl (by omega)) e27 F0.1 (by rw [hml]; rfl) pd_0 rfl rfl (hb hby d6_36) (by decide) (Nat.le_of_ble_eq_true rfl) (by decide) (by decide) ?_
    rintro T28 v28 L28 X28 ⟨r28, rfl, rfl, e28, I28⟩
    rw [List.append_nil] at X28
    show Owes _ _ _ _ (T28.setTop (mkF m 39 #[.val (.ref r0), .val (.ref ro), .val (.ref rf), .val (.ref rs), .val (.int p4), .val (.int (1 : Int32)), .unset, .unset] [(.int r28)]))
    refine Owes.go ?_ fun t₀ k₀ => XS.bipush X28.here hx rfl (hb hby d6_39) k₀
    show Owes _ _ _ _ (T28.setTop (mkF m 41 #[.val (.ref r0), .val (.ref ro), .val (.ref rf), .val (.ref rs), .val (.int p4), .val (.int (1 : Int32)), .unset, .unset] [(.int (63 : Int32)), (.int r28)]))
    by_cases hc5 : r28 = (63 : Int32)
    · skip
      refine Owes.go ?_ fun t₀ k₀ => XS.icmpNo X28.here hx rfl (hb hby d6_41) rfl (teq hc5).2 k₀
      show Owes _ _ _ _ (T28.setTop (mkF m 44 #[.val (.ref r0), .val (.ref ro), .val (.ref rf), .val (.ref rs), .val (.int p4), .val (.int (1 : Int32)), .unset, .unset] []))
      refine Owes.go ?_ fun t₀ k₀ => XS.iconst X28.here hx rfl (hb hby d6_44) k₀
      show Owes _ _ _ _ (T28.setTop (mkF m 45 #[.val (.ref r0), .val (.ref ro), .val (.ref rf), .val (.ref rs), .val (.int p4), .val (.int (1 : Int32)), .unset, .unset] [(.int (1 : Int32))]))
      refine Owes.go ?_ fun t₀ k₀ => XS.goto X28.here hx rfl (pc0 := 45) (pc' := 49) rfl (hb hby d6_45) (by decide) (by decide) k₀
      show Owes _ _ _ _ (T28.setTop (mkF m 49 #[.val (.ref r0), .val (.ref ro), .val (.ref rf), .val (.ref rs), .val (.int p4), .val (.int (1 : Int32)), .unset, .unset] [(.int (1 : Int32))]))
      refine Owes.go ?_ fun t₀ k₀ => XS.aloadN X28.here hx rfl (hb hby d6_49) rfl rfl k₀
      show Owes _ _ _ _ (T28.setTop (mkF m 50 #[.val (.ref r0), .val (.ref ro), .val (.ref rf), .val (.ref rs), .val (.int p4), .val (.int (1 : Int32)), .unset, .unset] [(.ref rf), (.int (1 : Int32))]))
      refine Owes.go ?_ fun t₀ k₀ => XS.aloadN X28.here hx rfl (hb hby d6_50) rfl rfl k₀
      show Owes _ _ _ _ (T28.setTop (mkF m 51 #[.val (.ref r0), .val (.ref ro), .val (.ref rf), .val (.ref rs), .val (.int p4), .val (.int (1 : Int32)), .unset, .unset] [(.ref rs), (.ref rf), (.int (1 : Int32))]))
      refine Owes.go ?_ fun t₀ k₀ => XS.aloadN X28.here hx rfl (hb hby d6_51) rfl rfl k₀
      show Owes _ _ _ _ (T28.setTop (mkF m 52 #[.val (.ref r0), .val (.ref ro), .val (.ref rf), .val (.ref rs), .val (.int p4), .val (.int (1 : Int32)), .unset, .unset] [(.ref ro), (.ref rs), (.ref rf), (.int (1 : Int32))]))
      refine Owes.go ?_ fun t₀ k₀ => XS.bipush X28.here hx rfl (hb hby d6_52) k₀
      show Owes _ _ _ _ (T28.setTop (mkF m 54 #[.val (.ref r0), .val (.ref ro), .val (.ref rf), .val (.ref rs), .val (.int p4), .val (.int (1 : Int32)), .unset, .unset] [(.int (63 : Int32)), (.ref ro), (.ref rs), (.ref rf), (.int (1 : Int32))]))
      refine Owes.gI X28 hx hZ e28 GO (i := 63) rfl (by omega) (v := .int (O 63)) rfl (hb hby d6_54) ?_
      show Owes _ _ _ _ (T28.setTop (mkF m 55 #[.val (.ref r0), .val (.ref ro), .val (.ref rf), .val (.ref rs), .val (.int p4), .val (.int (1 : Int32)), .unset, .unset] [(.int (O 63)), (.ref rs), (.ref rf), (.int (1 : Int32))]))
      refine Owes.go ?_ fun t₀ k₀ => XS.iload X28.here hx rfl (hb hby d6_55) rfl k₀
      show Owes _ _ _ _ (T28.setTop (mkF m 57 #[.val (.ref r0), .val (.ref ro), .val (.ref rf), .val (.ref rs), .val (.int p4), .val (.int (1 : Int32)), .unset, .unset] [(.int p4), (.int (O 63)), (.ref rs), (.ref rf), (.int (1 : Int32))]))
      refine Owes.callS X28 hx hZ hown (hw _ (List.mem_of_getElem? (i := 65) rfl)) (hw _ (List.mem_of_getElem? (i := 66) rfl)) (hw _ (List.mem_of_getElem? (i := 2) rfl)) (hw _ (List.mem_of_getElem? (i := 67) rfl)) (by decide) (argsL := [(.ref rf), (.ref rs), (.int (O 63)), (.int p4)]) (rest := [(.int (1 : Int32))]) (rm_f_gv l Z a0 hw [] rf rs (O 63) p4 h0 Fa Sl GF GS (O 63).toInt.toNat (by have := hO 63 (by omega); omega) (by have := hO 63 (by omega); omega) _ _ rfl rfl) e28 (by rw [hml]; rfl) pd_2 rfl rfl (hb hby d6_57) (by decide) (Nat.le_of_ble_eq_true rfl) (by decide) (by decide) ?_
      rintro T29 _ _ X29 ⟨rfl, rfl, e29⟩
      rw [List.append_nil] at X29
      show Owes _ _ _ _ (T29.setTop (mkF m 60 #[.val (.ref r0), .val (.ref ro), .val (.ref rf), .val (.ref rs), .val (.int p4), .val (.int (1 : Int32)), .unset, .unset] [(.int (f_gv (O 63) p4 (Fa (O 63).toInt.toNat) (Sl (O 63).toInt.toNat))), (.int (1 : Int32))]))
      refine Owes.go ?_ fun t₀ k₀ => XS.icmpNo X29.here hx rfl (hb hby d6_60) rfl (teq (own_ag1 I28 (HB 63 (by omega)) hc5 p4 hp)).2 k₀
      show Owes _ _ _ _ (T29.setTop (mkF m 63 #[.val (.ref r0), .val (.ref ro), .val (.ref rf), .val (.ref rs), .val (.int p4), .val (.int (1 : Int32)), .unset, .unset] []))
      refine Owes.go ?_ fun t₀ k₀ => XS.iconst X29.here hx rfl (hb hby d6_63) k₀
      show Owes _ _ _ _ (T29.setTop (mkF m 64 #[.val (.ref r0), .val (.ref ro), .val (.ref rf), .val (.ref rs), .val (.int p4), .val (.int (1 : Int32)), .unset, .unset] [(.int (1 : Int32))]))
      refine Owes.go ?_ fun t₀ k₀ => XS.goto X29.here hx rfl (pc0 := 64) (pc' := 68) rfl (hb hby d6_64) (by decide) (by decide) k₀
      show Owes _ _ _ _ (T29.setTop (mkF m 68 #[.val (.ref r0), .val (.ref ro), .val (.ref rf), .val (.ref rs), .val (.int p4), .val (.int (1 : Int32)), .unset, .unset] [(.int (1 : Int32))]))
      refine Owes.go ?_ fun t₀ k₀ => XS.istore X29.here hx rfl (hb hby d6_68) rfl (l' := #[.val (.ref r0), .val (.ref ro), .val (.ref rf), .val (.ref rs), .val (.int p4), .val (.int (1 : Int32)), .val (.int (1 : Int32)), .unset]) rfl k₀
      show Owes _ _ _ _ (T29.setTop (mkF m 70 #[.val (.ref r0), .val (.ref ro), .val (.ref rf), .val (.ref rs), .val (.int p4), .val (.int (1 : Int32)), .val (.int (1 : Int32)), .unset] []))
      refine Owes.go ?_ fun t₀ k₀ => XS.aloadN X29.here hx rfl (hb hby d6_70) rfl rfl k₀
      show Owes _ _ _ _ (T29.setTop (mkF m 71 #[.val (.ref r0), .val (.ref ro), .val (.ref rf), .val (.ref rs), .val (.int p4), .val (.int (1 : Int32)), .val (.int (1 : Int32)), .unset] [(.ref r0)]))
      refine Owes.go ?_ fun t₀ k₀ => XS.bipush X29.here hx rfl (hb hby d6_71) k₀
      show Owes _ _ _ _ (T29.setTop (mkF m 73 #[.val (.ref r0), .val (.ref ro), .val (.ref rf), .val (.ref rs), .val (.int p4), .val (.int (1 : Int32)), .val (.int (1 : Int32)), .unset] [(.int (64 : Int32)), (.ref r0)]))
      refine Owes.callV X29 hx hZ hown (hw _ (List.mem_of_getElem? (i := 51) rfl)) (hw _ (List.mem_of_getElem? (i := 52) rfl)) (notFace_of_selects (args := #[]) (mvT hZ (hw _ (List.mem_of_getElem? (i := 54) rfl)))) (hw _ (List.mem_of_getElem? (i := 54) rfl)) (hw _ (List.mem_of_getElem? (i := 53) rfl)) (hw _ (List.mem_of_getElem? (i := 7) rfl)) (hw _ (List.mem_of_getElem? (i := 55) rfl)) (by decide) (a := r0) (argsL := [(.int (64 : Int32))]) (rest := []) (rm_next l Z a0 hw [] r0 (64 : Int32) h0 tr jf jo lf le n gj gl T JF G LF H rc F0 64 rfl (by omega)) e29 F0.1 (by rw [hml]; rfl) pd_0 rfl rfl (hb hby d6_73) (by decide) (Nat.le_of_ble_eq_true rfl) (by decide) (by decide) ?_
      rintro T30 v30 L30 X30 ⟨r30, rfl, rfl, e30, I30⟩
      rw [List.append_nil] at X30
      show Owes _ _ _ _ (T30.setTop (mkF m 76 #[.val (.ref r0), .val (.ref ro), .val (.ref rf), .val (.ref rs), .val (.int p4), .val (.int (1 : Int32)), .val (.int (1 : Int32)), .unset] [(.int r30)]))
      refine Owes.go ?_ fun t₀ k₀ => XS.bipush X30.here hx rfl (hb hby d6_76) k₀
      show Owes _ _ _ _ (T30.setTop (mkF m 78 #[.val (.ref r0), .val (.ref ro), .val (.ref rf), .val (.ref rs), .val (.int p4), .val (.int (1 : Int32)), .val (.int (1 : Int32)), .unset] [(.int (64 : Int32)), (.int r30)]))
      by_cases hc6 : r30 = (64 : Int32)
      · skip
        refine Owes.go ?_ fun t₀ k₀ => XS.icmpNo X30.here hx rfl (hb hby d6_78) rfl (teq hc6).2 k₀
        show Owes _ _ _ _ (T30.setTop (mkF m 81 #[.val (.ref r0), .val (.ref ro), .val (.ref rf), .val (.ref rs), .val (.int p4), .val (.int (1 : Int32)), .val (.int (1 : Int32)), .unset] []))
        refine Owes.go ?_ fun t₀ k₀ => XS.iconst X30.here hx rfl (hb hby d6_81) k₀
        show Owes _ _ _ _ (T30.setTop (mkF m 82 #[.val (.ref r0), .val (.ref ro), .val (.ref rf), .val (.ref rs), .val (.int p4), .val (.int (1 : Int32)), .val (.int (1 : Int32)), .unset] [(.int (1 : Int32))]))
        refine Owes.go ?_ fun t₀ k₀ => XS.goto X30.here hx rfl (pc0 := 82) (pc' := 86) rfl (hb hby d6_82) (by decide) (by decide) k₀
        show Owes _ _ _ _ (T30.setTop (mkF m 86 #[.val (.ref r0), .val (.ref ro), .val (.ref rf), .val (.ref rs), .val (.int p4), .val (.int (1 : Int32)), .val (.int (1 : Int32)), .unset] [(.int (1 : Int32))]))
        refine Owes.go ?_ fun t₀ k₀ => XS.aloadN X30.here hx rfl (hb hby d6_86) rfl rfl k₀
        show Owes _ _ _ _ (T30.setTop (mkF m 87 #[.val (.ref r0), .val (.ref ro), .val (.ref rf), .val (.ref rs), .val (.int p4), .val (.int (1 : Int32)), .val (.int (1 : Int32)), .unset] [(.ref rf), (.int (1 : Int32))]))
        refine Owes.go ?_ fun t₀ k₀ => XS.aloadN X30.here hx rfl (hb hby d6_87) rfl rfl k₀
        show Owes _ _ _ _ (T30.setTop (mkF m 88 #[.val (.ref r0), .val (.ref ro), .val (.ref rf), .val (.ref rs), .val (.int p4), .val (.int (1 : Int32)), .val (.int (1 : Int32)), .unset] [(.ref rs), (.ref rf), (.int (1 : Int32))]))
        refine Owes.go ?_ fun t₀ k₀ => XS.aloadN X30.here hx rfl (hb hby d6_88) rfl rfl k₀
        show Owes _ _ _ _ (T30.setTop (mkF m 89 #[.val (.ref r0), .val (.ref ro), .val (.ref rf), .val (.ref rs), .val (.int p4), .val (.int (1 : Int32)), .val (.int (1 : Int32)), .unset] [(.ref ro), (.ref rs), (.ref rf), (.int (1 : Int32))]))
        refine Owes.go ?_ fun t₀ k₀ => XS.bipush X30.here hx rfl (hb hby d6_89) k₀
        show Owes _ _ _ _ (T30.setTop (mkF m 91 #[.val (.ref r0), .val (.ref ro), .val (.ref rf), .val (.ref rs), .val (.int p4), .val (.int (1 : Int32)), .val (.int (1 : Int32)), .unset] [(.int (64 : Int32)), (.ref ro), (.ref rs), (.ref rf), (.int (1 : Int32))]))
        refine Owes.gI X30 hx hZ e30 GO (i := 64) rfl (by omega) (v := .int (O 64)) rfl (hb hby d6_91) ?_
        show Owes _ _ _ _ (T30.setTop (mkF m 92 #[.val (.ref r0), .val (.ref ro), .val (.ref rf), .val (.ref rs), .val (.int p4), .val (.int (1 : Int32)), .val (.int (1 : Int32)), .unset] [(.int (O 64)), (.ref rs), (.ref rf), (.int (1 : Int32))]))
        refine Owes.go ?_ fun t₀ k₀ => XS.iload X30.here hx rfl (hb hby d6_92) rfl k₀
        show Owes _ _ _ _ (T30.setTop (mkF m 94 #[.val (.ref r0), .val (.ref ro), .val (.ref rf), .val (.ref rs), .val (.int p4), .val (.int (1 : Int32)), .val (.int (1 : Int32)), .unset] [(.int p4), (.int (O 64)), (.ref rs), (.ref rf), (.int (1 : Int32))]))
        refine Owes.callS X30 hx hZ hown (hw _ (List.mem_of_getElem? (i := 65) rfl)) (hw _ (List.mem_of_getElem? (i := 66) rfl)) (hw _ (List.mem_of_getElem? (i := 2) rfl)) (hw _ (List.mem_of_getElem? (i := 67) rfl)) (by decide) (argsL := [(.ref rf), (.ref rs), (.int (O 64)), (.int p4)]) (rest := [(.int (1 : Int32))]) (rm_f_gv l Z a0 hw [] rf rs (O 64) p4 h0 Fa Sl GF GS (O 64).toInt.toNat (by have := hO 64 (by omega); omega) (by have := hO 64 (by omega); omega) _ _ rfl rfl) e30 (by rw [hml]; rfl) pd_2 rfl rfl (hb hby d6_94) (by decide) (Nat.le_of_ble_eq_true rfl) (by decide) (by decide) ?_
        rintro T31 _ _ X31 ⟨rfl, rfl, e31⟩
        rw [List.append_nil] at X31
        show Owes _ _ _ _ (T31.setTop (mkF m 97 #[.val (.ref r0), .val (.ref ro), .val (.ref rf), .val (.ref rs), .val (.int p4), .val (.int (1 : Int32)), .val (.int (1 : Int32)), .unset] [(.int (f_gv (O 64) p4 (Fa (O 64).toInt.toNat) (Sl (O 64).toInt.toNat))), (.int (1 : Int32))]))
        refine Owes.go ?_ fun t₀ k₀ => XS.icmpNo X31.here hx rfl (hb hby d6_97) rfl (teq (own_ag1 I30 (HB 64 (by omega)) hc6 p4 hp)).2 k₀
        show Owes _ _ _ _ (T31.setTop (mkF m 100 #[.val (.ref r0), .val (.ref ro), .val (.ref rf), .val (.ref rs), .val (.int p4), .val (.int (1 : Int32)), .val (.int (1 : Int32)), .unset] []))
        refine Owes.go ?_ fun t₀ k₀ => XS.iconst X31.here hx rfl (hb hby d6_100) k₀
        show Owes _ _ _ _ (T31.setTop (mkF m 101 #[.val (.ref r0), .val (.ref ro), .val (.ref rf), .val (.ref rs), .val (.int p4), .val (.int (1 : Int32)), .val (.int (1 : Int32)), .unset] [(.int (1 : Int32))]))
        refine Owes.go ?_ fun t₀ k₀ => XS.goto X31.here hx rfl (pc0 := 101) (pc' := 105) rfl (hb hby d6_101) (by decide) (by decide) k₀
        show Owes _ _ _ _ (T31.setTop (mkF m 105 #[.val (.ref r0), .val (.ref ro), .val (.ref rf), .val (.ref rs), .val (.int p4), .val (.int (1 : Int32)), .val (.int (1 : Int32)), .unset] [(.int (1 : Int32))]))
        refine Owes.go ?_ fun t₀ k₀ => XS.istore X31.here hx rfl (hb hby d6_105) rfl (l' := #[.val (.ref r0), .val (.ref ro), .val (.ref rf), .val (.ref rs), .val (.int p4), .val (.int (1 : Int32)), .val (.int (1 : Int32)), .val (.int (1 : Int32))]) rfl k₀
        show Owes _ _ _ _ (T31.setTop (mkF m 107 #[.val (.ref r0), .val (.ref ro), .val (.ref rf), .val (.ref rs), .val (.int p4), .val (.int (1 : Int32)), .val (.int (1 : Int32)), .val (.int (1 : Int32))] []))
        refine Owes.go ?_ fun t₀ k₀ => XS.iload X31.here hx rfl (hb hby d6_107) rfl k₀
        show Owes _ _ _ _ (T31.setTop (mkF m 109 #[.val (.ref r0), .val (.ref ro), .val (.ref rf), .val (.ref rs), .val (.int p4), .val (.int (1 : Int32)), .val (.int (1 : Int32)), .val (.int (1 : Int32))] [(.int (1 : Int32))]))
        refine Owes.go ?_ fun t₀ k₀ => XS.ifNo X31.here hx rfl (hb hby d6_109) rfl ((if0 _ _).trans (feq (by decide : ¬ ((1 : Int32) = (0 : Int32)))).1) k₀
        show Owes _ _ _ _ (T31.setTop (mkF m 112 #[.val (.ref r0), .val (.ref ro), .val (.ref rf), .val (.ref rs), .val (.int p4), .val (.int (1 : Int32)), .val (.int (1 : Int32)), .val (.int (1 : Int32))] []))
        refine Owes.go ?_ fun t₀ k₀ => XS.iload X31.here hx rfl (hb hby d6_112) rfl k₀
        show Owes _ _ _ _ (T31.setTop (mkF m 114 #[.val (.ref r0), .val (.ref ro), .val (.ref rf), .val (.ref rs), .val (.int p4), .val (.int (1 : Int32)), .val (.int (1 : Int32)), .val (.int (1 : Int32))] [(.int (1 : Int32))]))
        refine Owes.go ?_ fun t₀ k₀ => XS.ifNo X31.here hx rfl (hb hby d6_114) rfl ((if0 _ _).trans (feq (by decide : ¬ ((1 : Int32) = (0 : Int32)))).1) k₀
        show Owes _ _ _ _ (T31.setTop (mkF m 117 #[.val (.ref r0), .val (.ref ro), .val (.ref rf), .val (.ref rs), .val (.int p4), .val (.int (1 : Int32)), .val (.int (1 : Int32)), .val (.int (1 : Int32))] []))
        refine Owes.go ?_ fun t₀ k₀ => XS.iload X31.here hx rfl (hb hby d6_117) rfl k₀
        show Owes _ _ _ _ (T31.setTop (mkF m 119 #[.val (.ref r0), .val (.ref ro), .val (.ref rf), .val (.ref rs), .val (.int p4), .val (.int (1 : Int32)), .val (.int (1 : Int32)), .val (.int (1 : Int32))] [(.int (1 : Int32))]))
        refine Owes.go ?_ fun t₀ k₀ => XS.ifNo X31.here hx rfl (hb hby d6_119) rfl ((if0 _ _).trans (feq (by decide : ¬ ((1 : Int32) = (0 : Int32)))).1) k₀
        show Owes _ _ _ _ (T31.setTop (mkF m 122 #[.val (.ref r0), .val (.ref ro), .val (.ref rf), .val (.ref rs), .val (.int p4), .val (.int (1 : Int32)), .val (.int (1 : Int32)), .val (.int (1 : Int32))] []))
        refine Owes.go ?_ fun t₀ k₀ => XS.iconst X31.here hx rfl (hb hby d6_122) k₀
        show Owes _ _ _ _ (T31.setTop (mkF m 123 #[.val (.ref r0), .val (.ref ro), .val (.ref rf), .val (.ref rs), .val (.int p4), .val (.int (1 : Int32)), .val (.int (1 : Int32)), .val (.int (1 : Int32))] [(.int (1 : Int32))]))
        refine Owes.go ?_ fun t₀ k₀ => XS.goto X31.here hx rfl (pc0 := 123) (pc' := 127) rfl (hb hby d6_123) (by decide) (by decide) k₀
        show Owes _ _ _ _ (T31.setTop (mkF m 127 #[.val (.ref r0), .val (.ref ro), .val (.ref rf), .val (.ref rs), .val (.int p4), .val (.int (1 : Int32)), .val (.int (1 : Int32)), .val (.int (1 : Int32))] [(.int (1 : Int32))]))
        exact Owes.retN X31 hx hlk hret (by simp) (hb hby d6_127) (by decide) (by decide) ⟨rfl, rfl, e31⟩
      · skip
        refine Owes.go ?_ fun t₀ k₀ => XS.icmpYes X30.here hx rfl (pc0 := 78) (pc' := 85) rfl (hb hby d6_78) rfl (feq hc6).2 (by decide) (by decide) k₀
        show Owes _ _ _ _ (T30.setTop (mkF m 85 #[.val (.ref r0), .val (.ref ro), .val (.ref rf), .val (.ref rs), .val (.int p4), .val (.int (1 : Int32)), .val (.int (1 : Int32)), .unset] []))
        refine Owes.go ?_ fun t₀ k₀ => XS.iconst X30.here hx rfl (hb hby d6_85) k₀
        show Owes _ _ _ _ (T30.setTop (mkF m 86 #[.val (.ref r0), .val (.ref ro), .val (.ref rf), .val (.ref rs), .val (.int p4), .val (.int (1 : Int32)), .val (.int (1 : Int32)), .unset] [(.int (0 : Int32))]))
        refine Owes.go ?_ fun t₀ k₀ => XS.aloadN X30.here hx rfl (hb hby d6_86) rfl rfl k₀
        show Owes _ _ _ _ (T30.setTop (mkF m 87 #[.val (.ref r0), .val (.ref ro), .val (.ref rf), .val (.ref rs), .val (.int p4), .val (.int (1 : Int32)), .val (.int (1 : Int32)), .unset] [(.ref rf), (.int (0 : Int32))]))
        refine Owes.go ?_ fun t₀ k₀ => XS.aloadN X30.here hx rfl (hb hby d6_87) rfl rfl k₀
        show Owes _ _ _ _ (T30.setTop (mkF m 88 #[.val (.ref r0), .val (.ref ro), .val (.ref rf), .val (.ref rs), .val (.int p4), .val (.int (1 : Int32)), .val (.int (1 : Int32)), .unset] [(.ref rs), (.ref rf), (.int (0 : Int32))]))
        refine Owes.go ?_ fun t₀ k₀ => XS.aloadN X30.here hx rfl (hb hby d6_88) rfl rfl k₀
        show Owes _ _ _ _ (T30.setTop (mkF m 89 #[.val (.ref r0), .val (.ref ro), .val (.ref rf), .val (.ref rs), .val (.int p4), .val (.int (1 : Int32)), .val (.int (1 : Int32)), .unset] [(.ref ro), (.ref rs), (.ref rf), (.int (0 : Int32))]))
        refine Owes.go ?_ fun t₀ k₀ => XS.bipush X30.here hx rfl (hb hby d6_89) k₀
        show Owes _ _ _ _ (T30.setTop (mkF m 91 #[.val (.ref r0), .val (.ref ro), .val (.ref rf), .val (.ref rs), .val (.int p4), .val (.int (1 : Int32)), .val (.int (1 : Int32)), .unset] [(.int (64 : Int32)), (.ref ro), (.ref rs), (.ref rf), (.int (0 : Int32))]))
        refine Owes.gI X30 hx hZ e30 GO (i := 64) rfl (by omega) (v := .int (O 64)) rfl (hb hby d6_91) ?_
        show Owes _ _ _ _ (T30.setTop (mkF m 92 #[.val (.ref r0), .val (.ref ro), .val (.ref rf), .val (.ref rs), .val (.int p4), .val (.int (1 : Int32)), .val (.int (1 : Int32)), .unset] [(.int (O 64)), (.ref rs), (.ref rf), (.int (0 : Int32))]))
        refine Owes.go ?_ fun t₀ k₀ => XS.iload X30.here hx rfl (hb hby d6_92) rfl k₀
        show Owes _ _ _ _ (T30.setTop (mkF m 94 #[.val (.ref r0), .val (.ref ro), .val (.ref rf), .val (.ref rs), .val (.int p4), .val (.int (1 : Int32)), .val (.int (1 : Int32)), .unset] [(.int p4), (.int (O 64)), (.ref rs), (.ref rf), (.int (0 : Int32))]))
        refine Owes.callS X30 hx hZ hown (hw _ (List.mem_of_getElem? (i := 65) rfl)) (hw _ (List.mem_of_getElem? (i := 66) rfl)) (hw _ (List.mem_of_getElem? (i := 2) rfl)) (hw _ (List.mem_of_getElem? (i := 67) rfl)) (by decide) (argsL := [(.ref rf), (.ref rs), (.int (O 64)), (.int p4)]) (rest := [(.int (0 : Int32))]) (rm_f_gv l Z a0 hw [] rf rs (O 64) p4 h0 Fa Sl GF GS (O 64).toInt.toNat (by have := hO 64 (by omega); omega) (by have := hO 64 (by omega); omega) _ _ rfl rfl) e30 (by rw [hml]; rfl) pd_2 rfl rfl (hb hby d6_94) (by decide) (Nat.le_of_ble_eq_true rfl) (by decide) (by decide) ?_
        rintro T32 _ _ X32 ⟨rfl, rfl, e32⟩
        rw [List.append_nil] at X32
        show Owes _ _ _ _ (T32.setTop (mkF m 97 #[.val (.ref r0), .val (.ref ro), .val (.ref rf), .val (.ref rs), .val (.int p4), .val (.int (1 : Int32)), .val (.int (1 : Int32)), .unset] [(.int (f_gv (O 64) p4 (Fa (O 64).toInt.toNat) (Sl (O 64).toInt.toNat))), (.int (0 : Int32))]))
        refine Owes.go ?_ fun t₀ k₀ => XS.icmpNo X32.here hx rfl (hb hby d6_97) rfl (teq (own_ag0 I30 (HB 64 (by omega)) hc6 p4 hp)).2 k₀
        show Owes _ _ _ _ (T32.setTop (mkF m 100 #[.val (.ref r0), .val (.ref ro), .val (.ref rf), .val (.ref rs), .val (.int p4), .val (.int (1 : Int32)), .val (.int (1 : Int32)), .unset] []))
        refine Owes.go ?_ fun t₀ k₀ => XS.iconst X32.here hx rfl (hb hby d6_100) k₀
        show Owes _ _ _ _ (T32.setTop (mkF m 101 #[.val (.ref r0), .val (.ref ro), .val (.ref rf), .val (.ref rs), .val (.int p4), .val (.int (1 : Int32)), .val (.int (1 : Int32)), .unset] [(.int (1 : Int32))]))
        refine Owes.go ?_ fun t₀ k₀ => XS.goto X32.here hx rfl (pc0 := 101) (pc' := 105) rfl (hb hby d6_101) (by decide) (by decide) k₀
        show Owes _ _ _ _ (T32.setTop (mkF m 105 #[.val (.ref r0), .val (.ref ro), .val (.ref rf), .val (.ref rs), .val (.int p4), .val (.int (1 : Int32)), .val (.int (1 : Int32)), .unset] [(.int (1 : Int32))]))
        refine Owes.go ?_ fun t₀ k₀ => XS.istore X32.here hx rfl (hb hby d6_105) rfl (l' := #[.val (.ref r0), .val (.ref ro), .val (.ref rf), .val (.ref rs), .val (.int p4), .val (.int (1 : Int32)), .val (.int (1 : Int32)), .val (.int (1 : Int32))]) rfl k₀
        show Owes _ _ _ _ (T32.setTop (mkF m 107 #[.val (.ref r0), .val (.ref ro), .val (.ref rf), .val (.ref rs), .val (.int p4), .val (.int (1 : Int32)), .val (.int (1 : Int32)), .val (.int (1 : Int32))] []))
        refine Owes.go ?_ fun t₀ k₀ => XS.iload X32.here hx rfl (hb hby d6_107) rfl k₀
        show Owes _ _ _ _ (T32.setTop (mkF m 109 #[.val (.ref r0), .val (.ref ro), .val (.ref rf), .val (.ref rs), .val (.int p4), .val (.int (1 : Int32)), .val (.int (1 : Int32)), .val (.int (1 : Int32))] [(.int (1 : Int32))]))
        refine Owes.go ?_ fun t₀ k₀ => XS.ifNo X32.here hx rfl (hb hby d6_109) rfl ((if0 _ _).trans (feq (by decide : ¬ ((1 : Int32) = (0 : Int32)))).1) k₀
        show Owes _ _ _ _ (T32.setTop (mkF m 112 #[.val (.ref r0), .val (.ref ro), .val (.ref rf), .val (.ref rs), .val (.int p4), .val (.int (1 : Int32)), .val (.int (1 : Int32)), .val (.int (1 : Int32))] []))
        refine Owes.go ?_ fun t₀ k₀ => XS.iload X32.here hx rfl (hb hby d6_112) rfl k₀
        show Owes _ _ _ _ (T32.setTop (mkF m 114 #[.val (.ref r0), .val (.ref ro), .val (.ref rf), .val (.ref rs), .val (.int p4), .val (.int (1 : Int32)), .val (.int (1 : Int32)), .val (.int (1 : Int32))] [(.int (1 : Int32))]))
        refine Owes.go ?_ fun t₀ k₀ => XS.ifNo X32.here hx rfl (hb hby d6_114) rfl ((if0 _ _).trans (feq (by decide : ¬ ((1 : Int32) = (0 : Int32)))).1) k₀
        show Owes _ _ _ _ (T32.setTop (mkF m 117 #[.val (.ref r0), .val (.ref ro), .val (.ref rf), .val (.ref rs), .val (.int p4), .val (.int (1 : Int32)), .val (.int (1 : Int32)), .val (.int (1 : Int32))] []))
        refine Owes.go ?_ fun t₀ k₀ => XS.iload X32.here hx rfl (hb hby d6_117) rfl k₀
        show Owes _ _ _ _ (T32.setTop (mkF m 119 #[.val (.ref r0), .val (.ref ro), .val (.ref rf), .val (.ref rs), .val (.int p4), .val (.int (1 : Int32)), .val (.int (1 : Int32)), .val (.int (1 : Int32))] [(.int (1 : Int32))]))
        refine Owes.go ?_ fun t₀ k₀ => XS.ifNo X32.here hx rfl (hb hby d6_119) rfl ((if0 _ _).trans (feq (by decide : ¬ ((1 : Int32) = (0 : Int32)))).1) k₀
        show Owes _ _ _ _ (T32.setTop (mkF m 122 #[.val (.ref r0), .val (.ref ro), .val (.ref rf), .val (.ref rs), .val (.int p4), .val (.int (1 : Int32)), .val (.int (1 : Int32)), .val (.int (1 : Int32))] []))
        refine Owes.go ?_ fun t₀ k₀ => XS.iconst X32.here hx rfl (hb hby d6_122) k₀
        show Owes _ _ _ _ (T32.setTop (mkF m 123 #[.val (.ref r0), .val (.ref ro), .val (.ref rf), .val (.ref rs), .val (.int p4), .val (.int (1 : Int32)), .val (.int (1 : Int32)), .val (.int (1 : Int32))] [(.int (1 : Int32))]))
        refine Owes.go ?_ fun t₀ k₀ => XS.goto X32.here hx rfl (pc0 := 123) (pc' := 127) rfl (hb hby d6_123) (by decide) (by decide) k₀
        show Owes _ _ _ _ (T32.setTop (mkF m 127 #[.val (.ref r0), .val (.ref ro), .val (.ref rf), .val (.ref rs), .val (.int p4), .val (.int (1 : Int32)), .val (.int (1 : Int32)), .val (.int (1 : Int32))] [(.int (1 : Int32))]))
        exact Owes.retN X32 hx hlk hret (by simp) (hb hby d6_127) (by decide) (by decide) ⟨rfl, rfl, e32⟩
    · skip
      refine Owes.go ?_ fun t₀ k₀ => XS.icmpYes X28.here hx rfl (pc0 := 41) (pc' := 48) rfl (hb hby d6_41) rfl (feq hc5).2 (by decide) (by decide) k₀
      show Owes _ _ _ _ (T28.setTop (mkF m 48 #[.val (.ref r0), .val (.ref ro), .val (.ref rf), .val (.ref rs), .val (.int p4), .val (.int (1 : Int32)), .unset, .unset] []))
      refine Owes.go ?_ fun t₀ k₀ => XS.iconst X28.here hx rfl (hb hby d6_48) k₀
      show Owes _ _ _ _ (T28.setTop (mkF m 49 #[.val (.ref r0), .val (.ref ro), .val (.ref rf), .val (.ref rs), .val (.int p4), .val (.int (1 : Int32)), .unset, .unset] [(.int (0 : Int32))]))
      refine Owes.go ?_ fun t₀ k₀ => XS.aloadN X28.here hx rfl (hb hby d6_49) rfl rfl k₀
      show Owes _ _ _ _ (T28.setTop (mkF m 50 #[.val (.ref r0), .val (.ref ro), .val (.ref rf), .val (.ref rs), .val (.int p4), .val (.int (1 : Int32)), .unset, .unset] [(.ref rf), (.int (0 : Int32))]))
      refine Owes.go ?_ fun t₀ k₀ => XS.aloadN X28.here hx rfl (hb hby d6_50) rfl rfl k₀
      show Owes _ _ _ _ (T28.setTop (mkF m 51 #[.val (.ref r0), .val (.ref ro), .val (.ref rf), .val (.ref rs), .val (.int p4), .val (.int (1 : Int32)), .unset, .unset] [(.ref rs), (.ref rf), (.int (0 : Int32))]))
      refine Owes.go ?_ fun t₀ k₀ => XS.aloadN X28.here hx rfl (hb hby d6_51) rfl rfl k₀
      show Owes _ _ _ _ (T28.setTop (mkF m 52 #[.val (.ref r0), .val (.ref ro), .val (.ref rf), .val (.ref rs), .val (.int p4), .val (.int (1 : Int32)), .unset, .unset] [(.ref ro), (.ref rs), (.ref rf), (.int (0 : Int32))]))
      refine Owes.go ?_ fun t₀ k₀ => XS.bipush X28.here hx rfl (hb hby d6_52) k₀
      show Owes _ _ _ _ (T28.setTop (mkF m 54 #[.val (.ref r0), .val (.ref ro), .val (.ref rf), .val (.ref rs), .val (.int p4), .val (.int (1 : Int32)), .unset, .unset] [(.int (63 : Int32)), (.ref ro), (.ref rs), (.ref rf), (.int (0 : Int32))]))
      refine Owes.gI X28 hx hZ e28 GO (i := 63) rfl (by omega) (v := .int (O 63)) rfl (hb hby d6_54) ?_
      show Owes _ _ _ _ (T28.setTop (mkF m 55 #[.val (.ref r0), .val (.ref ro), .val (.ref rf), .val (.ref rs), .val (.int p4), .val (.int (1 : Int32)), .unset, .unset] [(.int (O 63)), (.ref rs), (.ref rf), (.int (0 : Int32))]))
      refine Owes.go ?_ fun t₀ k₀ => XS.iload X28.here hx rfl (hb hby d6_55) rfl k₀
      show Owes _ _ _ _ (T28.setTop (mkF m 57 #[.val (.ref r0), .val (.ref ro), .val (.ref rf), .val (.ref rs), .val (.int p4), .val (.int (1 : Int32)), .unset, .unset] [(.int p4), (.int (O 63)), (.ref rs), (.ref rf), (.int (0 : Int32))]))
      refine Owes.callS X28 hx hZ hown (hw _ (List.mem_of_getElem? (i := 65) rfl)) (hw _ (List.mem_of_getElem? (i := 66) rfl)) (hw _ (List.mem_of_getElem? (i := 2) rfl)) (hw _ (List.mem_of_getElem? (i := 67) rfl)) (by decide) (argsL := [(.ref rf), (.ref rs), (.int (O 63)), (.int p4)]) (rest := [(.int (0 : Int32))]) (rm_f_gv l Z a0 hw [] rf rs (O 63) p4 h0 Fa Sl GF GS (O 63).toInt.toNat (by have := hO 63 (by omega); omega) (by have := hO 63 (by omega); omega) _ _ rfl rfl) e28 (by rw [hml]; rfl) pd_2 rfl rfl (hb hby d6_57) (by decide) (Nat.le_of_ble_eq_true rfl) (by decide) (by decide) ?_
      rintro T33 _ _ X33 ⟨rfl, rfl, e33⟩
      rw [List.append_nil] at X33
      show Owes _ _ _ _ (T33.setTop (mkF m 60 #[.val (.ref r0), .val (.ref ro), .val (.ref rf), .val (.ref rs), .val (.int p4), .val (.int (1 : Int32)), .unset, .unset] [(.int (f_gv (O 63) p4 (Fa (O 63).toInt.toNat) (Sl (O 63).toInt.toNat))), (.int (0 : Int32))]))
      refine Owes.go ?_ fun t₀ k₀ => XS.icmpNo X33.here hx rfl (hb hby d6_60) rfl (teq (own_ag0 I28 (HB 63 (by omega)) hc5 p4 hp)).2 k₀
      show Owes _ _ _ _ (T33.setTop (mkF m 63 #[.val (.ref r0), .val (.ref ro), .val (.ref rf), .val (.ref rs), .val (.int p4), .val (.int (1 : Int32)), .unset, .unset] []))
      refine Owes.go ?_ fun t₀ k₀ => XS.iconst X33.here hx rfl (hb hby d6_63) k₀
      show Owes _ _ _ _ (T33.setTop (mkF m 64 #[.val (.ref r0), .val (.ref ro), .val (.ref rf), .val (.ref rs), .val (.int p4), .val (.int (1 : Int32)), .unset, .unset] [(.int (1 : Int32))]))
      refine Owes.go ?_ fun t₀ k₀ => XS.goto X33.here hx rfl (pc0 := 64) (pc' := 68) rfl (hb hby d6_64) (by decide) (by decide) k₀
      show Owes _ _ _ _ (T33.setTop (mkF m 68 #[.val (.ref r0), .val (.ref ro), .val (.ref rf), .val (.ref rs), .val (.int p4), .val (.int (1 : Int32)), .unset, .unset] [(.int (1 : Int32))]))
      refine Owes.go ?_ fun t₀ k₀ => XS.istore X33.here hx rfl (hb hby d6_68) rfl (l' := #[.val (.ref r0), .val (.ref ro), .val (.ref rf), .val (.ref rs), .val (.int p4), .val (.int (1 : Int32)), .val (.int (1 : Int32)), .unset]) rfl k₀
      show Owes _ _ _ _ (T33.setTop (mkF m 70 #[.val (.ref r0), .val (.ref ro), .val (.ref rf), .val (.ref rs), .val (.int p4), .val (.int (1 : Int32)), .val (.int (1 : Int32)), .unset] []))
      refine Owes.go ?_ fun t₀ k₀ => XS.aloadN X33.here hx rfl (hb hby d6_70) rfl rfl k₀
      show Owes _ _ _ _ (T33.setTop (mkF m 71 #[.val (.ref r0), .val (.ref ro), .val (.ref rf), .val (.ref rs), .val (.int p4), .val (.int (1 : Int32)), .val (.int (1 : Int32)), .unset] [(.ref r0)]))
      refine Owes.go ?_ fun t₀ k₀ => XS.bipush X33.here hx rfl (hb hby d6_71) k₀
      show Owes _ _ _ _ (T33.setTop (mkF m 73 #[.val (.ref r0), .val (.ref ro), .val (.ref rf), .val (.ref rs), .val (.int p4), .val (.int (1 : Int32)), .val (.int (1 : Int32)), .unset] [(.int (64 : Int32)), (.ref r0)]))
      refine Owes.callV X33 hx hZ hown (hw _ (List.mem_of_getElem? (i := 51) rfl)) (hw _ (List.mem_of_getElem? (i := 52) rfl)) (notFace_of_selects (args := #[]) (mvT hZ (hw _ (List.mem_of_getElem? (i := 54) rfl)))) (hw _ (List.mem_of_getElem? (i := 54) rfl)) (hw _ (List.mem_of_getElem? (i := 53) rfl)) (hw _ (List.mem_of_getElem? (i := 7) rfl)) (hw _ (List.mem_of_getElem? (i := 55) rfl)) (by decide) (a := r0) (argsL := [(.int (64 : Int32))]) (rest := []) (rm_next l Z a0 hw [] r0 (64 : Int32) h0 tr jf jo lf le n gj gl T JF G LF H rc F0 64 rfl (by omega)) e33 F0.1 (by rw [hml]; rfl) pd_0 rfl rfl (hb hby d6_73) (by decide) (Nat.le_of_ble_eq_true rfl) (by decide) (by decide) ?_
      rintro T34 v34 L34 X34 ⟨r34, rfl, rfl, e34, I34⟩
      rw [List.append_nil] at X34
      show Owes _ _ _ _ (T34.setTop (mkF m 76 #[.val (.ref r0), .val (.ref ro), .val (.ref rf), .val (.ref rs), .val (.int p4), .val (.int (1 : Int32)), .val (.int (1 : Int32)), .unset] [(.int r34)]))
      refine Owes.go ?_ fun t₀ k₀ => XS.bipush X34.here hx rfl (hb hby d6_76) k₀
      show Owes _ _ _ _ (T34.setTop (mkF m 78 #[.val (.ref r0), .val (.ref ro), .val (.ref rf), .val (.ref rs), .val (.int p4), .val (.int (1 : Int32)), .val (.int (1 : Int32)), .unset] [(.int (64 : Int32)), (.int r34)]))
      by_cases hc7 : r34 = (64 : Int32)
      · skip
        refine Owes.go ?_ fun t₀ k₀ => XS.icmpNo X34.here hx rfl (hb hby d6_78) rfl (teq hc7).2 k₀
        show Owes _ _ _ _ (T34.setTop (mkF m 81 #[.val (.ref r0), .val (.ref ro), .val (.ref rf), .val (.ref rs), .val (.int p4), .val (.int (1 : Int32)), .val (.int (1 : Int32)), .unset] []))
        refine Owes.go ?_ fun t₀ k₀ => XS.iconst X34.here hx rfl (hb hby d6_81) k₀
        show Owes _ _ _ _ (T34.setTop (mkF m 82 #[.val (.ref r0), .val (.ref ro), .val (.ref rf), .val (.ref rs), .val (.int p4), .val (.int (1 : Int32)), .val (.int (1 : Int32)), .unset] [(.int (1 : Int32))]))
        refine Owes.go ?_ fun t₀ k₀ => XS.goto X34.here hx rfl (pc0 := 82) (pc' := 86) rfl (hb hby d6_82) (by decide) (by decide) k₀
        show Owes _ _ _ _ (T34.setTop (mkF m 86 #[.val (.ref r0), .val (.ref ro), .val (.ref rf), .val (.ref rs), .val (.int p4), .val (.int (1 : Int32)), .val (.int (1 : Int32)), .unset] [(.int (1 : Int32))]))
        refine Owes.go ?_ fun t₀ k₀ => XS.aloadN X34.here hx rfl (hb hby d6_86) rfl rfl k₀
        show Owes _ _ _ _ (T34.setTop (mkF m 87 #[.val (.ref r0), .val (.ref ro), .val (.ref rf), .val (.ref rs), .val (.int p4), .val (.int (1 : Int32)), .val (.int (1 : Int32)), .unset] [(.ref rf), (.int (1 : Int32))]))
        refine Owes.go ?_ fun t₀ k₀ => XS.aloadN X34.here hx rfl (hb hby d6_87) rfl rfl k₀
        show Owes _ _ _ _ (T34.setTop (mkF m 88 #[.val (.ref r0), .val (.ref ro), .val (.ref rf), .val (.ref rs), .val (.int p4), .val (.int (1 : Int32)), .val (.int (1 : Int32)), .unset] [(.ref rs), (.ref rf), (.int (1 : Int32))]))
        refine Owes.go ?_ fun t₀ k₀ => XS.aloadN X34.here hx rfl (hb hby d6_88) rfl rfl k₀
        show Owes _ _ _ _ (T34.setTop (mkF m 89 #[.val (.ref r0), .val (.ref ro), .val (.ref rf), .val (.ref rs), .val (.int p4), .val (.int (1 : Int32)), .val (.int (1 : Int32)), .unset] [(.ref ro), (.ref rs), (.ref rf), (.int (1 : Int32))]))
        refine Owes.go ?_ fun t₀ k₀ => XS.bipush X34.here hx rfl (hb hby d6_89) k₀
        show Owes _ _ _ _ (T34.setTop (mkF m 91 #[.val (.ref r0), .val (.ref ro), .val (.ref rf), .val (.ref rs), .val (.int p4), .val (.int (1 : Int32)), .val (.int (1 : Int32)), .unset] [(.int (64 : Int32)), (.ref ro), (.ref rs), (.ref rf), (.int (1 : Int32))]))
        refine Owes.gI X34 hx hZ e34 GO (i := 64) rfl (by omega) (v := .int (O 64)) rfl (hb hby d6_91) ?_
        show Owes _ _ _ _ (T34.setTop (mkF m 92 #[.val (.ref r0), .val (.ref ro), .val (.ref rf), .val (.ref rs), .val (.int p4), .val (.int (1 : Int32)), .val (.int (1 : Int32)), .unset] [(.int (O 64)), (.ref rs), (.ref rf), (.int (1 : Int32))]))
        refine Owes.go ?_ fun t₀ k₀ => XS.iload X34.here hx rfl (hb hby d6_92) rfl k₀
        show Owes _ _ _ _ (T34.setTop (mkF m 94 #[.val (.ref r0), .val (.ref ro), .val (.ref rf), .val (.ref rs), .val (.int p4), .val (.int (1 : Int32)), .val (.int (1 : Int32)), .unset] [(.int p4), (.int (O 64)), (.ref rs), (.ref rf), (.int (1 : Int32))]))
        refine Owes.callS X34 hx hZ hown (hw _ (List.mem_of_getElem? (i := 65) rfl)) (hw _ (List.mem_of_getElem? (i := 66) rfl)) (hw _ (List.mem_of_getElem? (i := 2) rfl)) (hw _ (List.mem_of_getElem? (i := 67) rfl)) (by decide) (argsL := [(.ref rf), (.ref rs), (.int (O 64)), (.int p4)]) (rest := [(.int (1 : Int32))]) (rm_f_gv l Z a0 hw [] rf rs (O 64) p4 h0 Fa Sl GF GS (O 64).toInt.toNat (by have := hO 64 (by omega); omega) (by have := hO 64 (by omega); omega) _ _ rfl rfl) e34 (by rw [hml]; rfl) pd_2 rfl rfl (hb hby d6_94) (by decide) (Nat.le_of_ble_eq_true rfl) (by decide) (by decide) ?_
        rintro T35 _ _ X35 ⟨rfl, rfl, e35⟩
        rw [List.append_nil] at X35
        show Owes _ _ _ _ (T35.setTop (mkF m 97 #[.val (.ref r0), .val (.ref ro), .val (.ref rf), .val (.ref rs), .val (.int p4), .val (.int (1 : Int32)), .val (.int (1 : Int32)), .unset] [(.int (f_gv (O 64) p4 (Fa (O 64).toInt.toNat) (Sl (O 64).toInt.toNat))), (.int (1 : Int32))]))
        refine Owes.go ?_ fun t₀ k₀ => XS.icmpNo X35.here hx rfl (hb hby d6_97) rfl (teq (own_ag1 I34 (HB 64 (by omega)) hc7 p4 hp)).2 k₀
        show Owes _ _ _ _ (T35.setTop (mkF m 100 #[.val (.ref r0), .val (.ref ro), .val (.ref rf), .val (.ref rs), .val (.int p4), .val (.int (1 : Int32)), .val (.int (1 : Int32)), .unset] []))
        refine Owes.go ?_ fun t₀ k₀ => XS.iconst X35.here hx rfl (hb hby d6_100) k₀
        show Owes _ _ _ _ (T35.setTop (mkF m 101 #[.val (.ref r0), .val (.ref ro), .val (.ref rf), .val (.ref rs), .val (.int p4), .val (.int (1 : Int32)), .val (.int (1 : Int32)), .unset] [(.int (1 : Int32))]))
        refine Owes.go ?_ fun t₀ k₀ => XS.goto X35.here hx rfl (pc0 := 101) (pc' := 105) rfl (hb hby d6_101) (by decide) (by decide) k₀
        show Owes _ _ _ _ (T35.setTop (mkF m 105 #[.val (.ref r0), .val (.ref ro), .val (.ref rf), .val (.ref rs), .val (.int p4), .val (.int (1 : Int32)), .val (.int (1 : Int32)), .unset] [(.int (1 : Int32))]))
        refine Owes.go ?_ fun t₀ k₀ => XS.istore X35.here hx rfl (hb hby d6_105) rfl (l' := #[.val (.ref r0), .val (.ref ro), .val (.ref rf), .val (.ref rs), .val (.int p4), .val (.int (1 : Int32)), .val (.int (1 : Int32)), .val (.int (1 : Int32))]) rfl k₀
        show Owes _ _ _ _ (T35.setTop (mkF m 107 #[.val (.ref r0), .val (.ref ro), .val (.ref rf), .val (.ref rs), .val (.int p4), .val (.int (1 : Int32)), .val (.int (1 : Int32)), .val (.int (1 : Int32))] []))
        refine Owes.go ?_ fun t₀ k₀ => XS.iload X35.here hx rfl (hb hby d6_107) rfl k₀
        show Owes _ _ _ _ (T35.setTop (mkF m 109 #[.val (.ref r0), .val (.ref ro), .val (.ref rf), .val (.ref rs), .val (.int p4), .val (.int (1 : Int32)), .val (.int (1 : Int32)), .val (.int (1 : Int32))] [(.int (1 : Int32))]))
        refine Owes.go ?_ fun t₀ k₀ => XS.ifNo X35.here hx rfl (hb hby d6_109) rfl ((if0 _ _).trans (feq (by decide : ¬ ((1 : Int32) = (0 : Int32)))).1) k₀
        show Owes _ _ _ _ (T35.setTop (mkF m 112 #[.val (.ref r0), .val (.ref ro), .val (.ref rf), .val (.ref rs), .val (.int p4), .val (.int (1 : Int32)), .val (.int (1 : Int32)), .val (.int (1 : Int32))] []))
        refine Owes.go ?_ fun t₀ k₀ => XS.iload X35.here hx rfl (hb hby d6_112) rfl k₀
        show Owes _ _ _ _ (T35.setTop (mkF m 114 #[.val (.ref r0), .val (.ref ro), .val (.ref rf), .val (.ref rs), .val (.int p4), .val (.int (1 : Int32)), .val (.int (1 : Int32)), .val (.int (1 : Int32))] [(.int (1 : Int32))]))
        refine Owes.go ?_ fun t₀ k₀ => XS.ifNo X35.here hx rfl (hb hby d6_114) rfl ((if0 _ _).trans (feq (by decide : ¬ ((1 : Int32) = (0 : Int32)))).1) k₀
        show Owes _ _ _ _ (T35.setTop (mkF m 117 #[.val (.ref r0), .val (.ref ro), .val (.ref rf), .val (.ref rs), .val (.int p4), .val (.int (1 : Int32)), .val (.int (1 : Int32)), .val (.int (1 : Int32))] []))
        refine Owes.go ?_ fun t₀ k₀ => XS.iload X35.here hx rfl (hb hby d6_117) rfl k₀
        show Owes _ _ _ _ (T35.setTop (mkF m 119 #[.val (.ref r0), .val (.ref ro), .val (.ref rf), .val (.ref rs), .val (.int p4), .val (.int (1 : Int32)), .val (.int (1 : Int32)), .val (.int (1 : Int32))] [(.int (1 : Int32))]))
        refine Owes.go ?_ fun t₀ k₀ => XS.ifNo X35.here hx rfl (hb hby d6_119) rfl ((if0 _ _).trans (feq (by decide : ¬ ((1 : Int32) = (0 : Int32)))).1) k₀
        show Owes _ _ _ _ (T35.setTop (mkF m 122 #[.val (.ref r0), .val (.ref ro), .val (.ref rf), .val (.ref rs), .val (.int p4), .val (.int (1 : Int32)), .val (.int (1 : Int32)), .val (.int (1 : Int32))] []))
        refine Owes.go ?_ fun t₀ k₀ => XS.iconst X35.here hx rfl (hb hby d6_122) k₀
        show Owes _ _ _ _ (T35.setTop (mkF m 123 #[.val (.ref r0), .val (.ref ro), .val (.ref rf), .val (.ref rs), .val (.int p4), .val (.int (1 : Int32)), .val (.int (1 : Int32)), .val (.int (1 : Int32))] [(.int (1 : Int32))]))
        refine Owes.go ?_ fun t₀ k₀ => XS.goto X35.here hx rfl (pc0 := 123) (pc' := 127) rfl (hb hby d6_123) (by decide) (by decide) k₀
        show Owes _ _ _ _ (T35.setTop (mkF m 127 #[.val (.ref r0), .val (.ref ro), .val (.ref rf), .val (.ref rs), .val (.int p4), .val (.int (1 : Int32)), .val (.int (1 : Int32)), .val (.int (1 : Int32))] [(.int (1 : Int32))]))
        exact Owes.retN X35 hx hlk hret (by simp) (hb hby d6_127) (by decide) (by decide) ⟨rfl, rfl, e35⟩
      · skip
        refine Owes.go ?_ fun t₀ k₀ => XS.icmpYes X34.here hx rfl (pc0 := 78) (pc' := 85) rfl (hb hby d6_78) rfl (feq hc7).2 (by decide) (by decide) k₀
        show Owes _ _ _ _ (T34.setTop (mkF m 85 #[.val (.ref r0), .val (.ref ro), .val (.ref rf), .val (.ref rs), .val (.int p4), .val (.int (1 : Int32)), .val (.int (1 : Int32)), .unset] []))
        refine Owes.go ?_ fun t₀ k₀ => XS.iconst X34.here hx rfl (hb hby d6_85) k₀
        show Owes _ _ _ _ (T34.setTop (mkF m 86 #[.val (.ref r0), .val (.ref ro), .val (.ref rf), .val (.ref rs), .val (.int p4), .val (.int (1 : Int32)), .val (.int (1 : Int32)), .unset] [(.int (0 : Int32))]))
        refine Owes.go ?_ fun t₀ k₀ => XS.aloadN X34.here hx rfl (hb hby d6_86) rfl rfl k₀
        show Owes _ _ _ _ (T34.setTop (mkF m 87 #[.val (.ref r0), .val (.ref ro), .val (.ref rf), .val (.ref rs), .val (.int p4), .val (.int (1 : Int32)), .val (.int (1 : Int32)), .unset] [(.ref rf), (.int (0 : Int32))]))
        refine Owes.go ?_ fun t₀ k₀ => XS.aloadN X34.here hx rfl (hb hby d6_87) rfl rfl k₀
        show Owes _ _ _ _ (T34.setTop (mkF m 88 #[.val (.ref r0), .val (.ref ro), .val (.ref rf), .val (.ref rs), .val (.int p4), .val (.int (1 : Int32)), .val (.int (1 : Int32)), .unset] [(.ref rs), (.ref rf), (.int (0 : Int32))]))
        refine Owes.go ?_ fun t₀ k₀ => XS.aloadN X34.here hx rfl (hb hby d6_88) rfl rfl k₀
        show Owes _ _ _ _ (T34.setTop (mkF m 89 #[.val (.ref r0), .val (.ref ro), .val (.ref rf), .val (.ref rs), .val (.int p4), .val (.int (1 : Int32)), .val (.int (1 : Int32)), .unset] [(.ref ro), (.ref rs), (.ref rf), (.int (0 : Int32))]))
        refine Owes.go ?_ fun t₀ k₀ => XS.bipush X34.here hx rfl (hb hby d6_89) k₀
        show Owes _ _ _ _ (T34.setTop (mkF m 91 #[.val (.ref r0), .val (.ref ro), .val (.ref rf), .val (.ref rs), .val (.int p4), .val (.int (1 : Int32)), .val (.int (1 : Int32)), .unset] [(.int (64 : Int32)), (.ref ro), (.ref rs), (.ref rf), (.int (0 : Int32))]))
        refine Owes.gI X34 hx hZ e34 GO (i := 64) rfl (by omega) (v := .int (O 64)) rfl (hb hby d6_91) ?_
        show Owes _ _ _ _ (T34.setTop (mkF m 92 #[.val (.ref r0), .val (.ref ro), .val (.ref rf), .val (.ref rs), .val (.int p4), .val (.int (1 : Int32)), .val (.int (1 : Int32)), .unset] [(.int (O 64)), (.ref rs), (.ref rf), (.int (0 : Int32))]))
        refine Owes.go ?_ fun t₀ k₀ => XS.iload X34.here hx rfl (hb hby d6_92) rfl k₀
        show Owes _ _ _ _ (T34.setTop (mkF m 94 #[.val (.ref r0), .val (.ref ro), .val (.ref rf), .val (.ref rs), .val (.int p4), .val (.int (1 : Int32)), .val (.int (1 : Int32)), .unset] [(.int p4), (.int (O 64)), (.ref rs), (.ref rf), (.int (0 : Int32))]))
        refine Owes.callS X34 hx hZ hown (hw _ (List.mem_of_getElem? (i := 65) rfl)) (hw _ (List.mem_of_getElem? (i := 66) rfl)) (hw _ (List.mem_of_getElem? (i := 2) rfl)) (hw _ (List.mem_of_getElem? (i := 67) rfl)) (by decide) (argsL := [(.ref rf), (.ref rs), (.int (O 64)), (.int p4)]) (rest := [(.int (0 : Int32))]) (rm_f_gv l Z a0 hw [] rf rs (O 64) p4 h0 Fa Sl GF GS (O 64).toInt.toNat (by have := hO 64 (by omega); omega) (by have := hO 64 (by omega); omega) _ _ rfl rfl) e34 (by rw [hml]; rfl) pd_2 rfl rfl (hb hby d6_94) (by decide) (Nat.le_of_ble_eq_true rfl) (by decide) (by decide) ?_
        rintro T36 _ _ X36 ⟨rfl, rfl, e36⟩
        rw [List.append_nil] at X36
        show Owes _ _ _ _ (T36.setTop (mkF m 97 #[.val (.ref r0), .val (.ref ro), .val (.ref rf), .val (.ref rs), .val (.int p4), .val (.int (1 : Int32)), .val (.int (1 : Int32)), .unset] [(.int (f_gv (O 64) p4 (Fa (O 64).toInt.toNat) (Sl (O 64).toInt.toNat))), (.int (0 : Int32))]))
        refine Owes.go ?_ fun t₀ k₀ => XS.icmpNo X36.here hx rfl (hb hby d6_97) rfl (teq (own_ag0 I34 (HB 64 (by omega)) hc7 p4 hp)).2 k₀
        show Owes _ _ _ _ (T36.setTop (mkF m 100 #[.val (.ref r0), .val (.ref ro), .val (.ref rf), .val (.ref rs), .val (.int p4), .val (.int (1 : Int32)), .val (.int (1 : Int32)), .unset] []))
        refine Owes.go ?_ fun t₀ k₀ => XS.iconst X36.here hx rfl (hb hby d6_100) k₀
        show Owes _ _ _ _ (T36.setTop (mkF m 101 #[.val (.ref r0), .val (.ref ro), .val (.ref rf), .val (.ref rs), .val (.int p4), .val (.int (1 : Int32)), .val (.int (1 : Int32)), .unset] [(.int (1 : Int32))]))
        refine Owes.go ?_ fun t₀ k₀ => XS.goto X36.here hx rfl (pc0 := 101) (pc' := 105) rfl (hb hby d6_101) (by decide) (by decide) k₀
        show Owes _ _ _ _ (T36.setTop (mkF m 105 #[.val (.ref r0), .val (.ref ro), .val (.ref rf), .val (.ref rs), .val (.int p4), .val (.int (1 : Int32)), .val (.int (1 : Int32)), .unset] [(.int (1 : Int32))]))
        refine Owes.go ?_ fun t₀ k₀ => XS.istore X36.here hx rfl (hb hby d6_105) rfl (l' := #[.val (.ref r0), .val (.ref ro), .val (.ref rf), .val (.ref rs), .val (.int p4), .val (.int (1 : Int32)), .val (.int (1 : Int32)), .val (.int (1 : Int32))]) rfl k₀
        show Owes _ _ _ _ (T36.setTop (mkF m 107 #[.val (.ref r0), .val (.ref ro), .val (.ref rf), .val (.ref rs), .val (.int p4), .val (.int (1 : Int32)), .val (.int (1 : Int32)), .val (.int (1 : Int32))] []))
        refine Owes.go ?_ fun t₀ k₀ => XS.iload X36.here hx rfl (hb hby d6_107) rfl k₀
        show Owes _ _ _ _ (T36.setTop (mkF m 109 #[.val (.ref r0), .val (.ref ro), .val (.ref rf), .val (.ref rs), .val (.int p4), .val (.int (1 : Int32)), .val (.int (1 : Int32)), .val (.int (1 : Int32))] [(.int (1 : Int32))]))
        refine Owes.go ?_ fun t₀ k₀ => XS.ifNo X36.here hx rfl (hb hby d6_109) rfl ((if0 _ _).trans (feq (by decide : ¬ ((1 : Int32) = (0 : Int32)))).1) k₀
        show Owes _ _ _ _ (T36.setTop (mkF m 112 #[.val (.ref r0), .val (.ref ro), .val (.ref rf), .val (.ref rs), .val (.int p4), .val (.int (1 : Int32)), .val (.int (1 : Int32)), .val (.int (1 : Int32))] []))
        refine Owes.go ?_ fun t₀ k₀ => XS.iload X36.here hx rfl (hb hby d6_112) rfl k₀
        show Owes _ _ _ _ (T36.setTop (mkF m 114 #[.val (.ref r0), .val (.ref ro), .val (.ref rf), .val (.ref rs), .val (.int p4), .val (.int (1 : Int32)), .val (.int (1 : Int32)), .val (.int (1 : Int32))] [(.int (1 : Int32))]))
        refine Owes.go ?_ fun t₀ k₀ => XS.ifNo X36.here hx rfl (hb hby d6_114) rfl ((if0 _ _).trans (feq (by decide : ¬ ((1 : Int32) = (0 : Int32)))).1) k₀
        show Owes _ _ _ _ (T36.setTop (mkF m 117 #[.val (.ref r0), .val (.ref ro), .val (.ref rf), .val (.ref rs), .val (.int p4), .val (.int (1 : Int32)), .val (.int (1 : Int32)), .val (.int (1 : Int32))] []))
        refine Owes.go ?_ fun t₀ k₀ => XS.iload X36.here hx rfl (hb hby d6_117) rfl k₀
        show Owes _ _ _ _ (T36.setTop (mkF m 119 #[.val (.ref r0), .val (.ref ro), .val (.ref rf), .val (.ref rs), .val (.int p4), .val (.int (1 : Int32)), .val (.int (1 : Int32)), .val (.int (1 : Int32))] [(.int (1 : Int32))]))
        refine Owes.go ?_ fun t₀ k₀ => XS.ifNo X36.here hx rfl (hb hby d6_119) rfl ((if0 _ _).trans (feq (by decide : ¬ ((1 : Int32) = (0 : Int32)))).1) k₀
        show Owes _ _ _ _ (T36.setTop (mkF m 122 #[.val (.ref r0), .val (.ref ro), .val (.ref rf), .val (.ref rs), .val (.int p4), .val (.int (1 : Int32)), .val (.int (1 : Int32)), .val (.int (1 : Int32))] []))
        refine Owes.go ?_ fun t₀ k₀ => XS.iconst X36.here hx rfl (hb hby d6_122) k₀
        show Owes _ _ _ _ (T36.setTop (mkF m 123 #[.val (.ref r0), .val (.ref ro), .val (.ref rf), .val (.ref rs), .val (.int p4), .val (.int (1 : Int32)), .val (.int (1 : Int32)), .val (.int (1 : Int32))] [(.int (1 : Int32))]))
        refine Owes.go ?_ fun t₀ k₀ => XS.goto X36.here hx rfl (pc0 := 123) (pc' := 127) rfl (hb hby d6_123) (by decide) (by decide) k₀
        show Owes _ _ _ _ (T36.setTop (mkF m 127 #[.val (.ref r0), .val (.ref ro), .val (.ref rf), .val (.ref rs), .val (.int p4), .val (.int (1 : Int32)), .val (.int (1 : Int32)), .val (.int (1 : Int32))] [(.int (1 : Int32))]))
        exact Owes.retN X36 hx hlk hret (by simp) (hb hby d6_127) (by decide) (by decide) ⟨rfl, rfl, e36⟩
theorem own_bclr {T T' : Nat → Int64} {H : Nat → Int32} {i j k lo : Nat} {A : Prop} (hb : bitOf T' j = (bitOf T j && !decide (j = i))) (h : bitOf T j = true ↔ A ∧ ¬ ∃ q, lo ≤ q ∧ q < k ∧ (H q).toInt = (j : Int)) (hk : (H k).toInt = (i : Int)) (hl : lo ≤ k) : bitOf T' j = true ↔ A ∧ ¬ ∃ q, lo ≤ q ∧ q < k + 1 ∧ (H q).toInt = (j : Int) := by
  rw [hb, Bool.and_eq_true, h]
  constructor
  · rintro ⟨⟨a, n⟩, d⟩
    refine ⟨a, fun ⟨q, q1, q2, q3⟩ => ?_⟩
    by_cases e : q = k
    · subst e
      have : j = i := by omega
      simp [this] at d
    · exact n ⟨q, q1, by omega, q3⟩
  · rintro ⟨a, n⟩
    refine ⟨⟨a, fun ⟨q, q1, q2, q3⟩ => n ⟨q, q1, by omega, q3⟩⟩, ?_⟩
    by_cases e : j = i
    · exact absurd ⟨k, hl, by omega, by rw [hk, e]⟩ n
    · simp [e]
theorem own_bset {T T' : Nat → Int64} {H : Nat → Int32} {i j k lo : Nat} {A : Prop} (hb : bitOf T' j = (bitOf T j || decide (j = i))) (h : bitOf T j = true ↔ A ∨ ∃ q, lo ≤ q ∧ q < k ∧ (H q).toInt = (j : Int)) (hk : (H k).toInt = (i : Int)) (hl : lo ≤ k) : bitOf T' j = true ↔ A ∨ ∃ q, lo ≤ q ∧ q < k + 1 ∧ (H q).toInt = (j : Int) := by
  rw [hb, Bool.or_eq_true, h]
  constructor
  · rintro ((a | ⟨q, q1, q2, q3⟩) | d)
    · exact Or.inl a
    · exact Or.inr ⟨q, q1, by omega, q3⟩
    · exact Or.inr ⟨k, hl, by omega, by rw [hk, of_decide_eq_true d]⟩
  · rintro (a | ⟨q, q1, q2, q3⟩)
    · exact Or.inl (Or.inl a)
    · by_cases e : q = k
      · subst e
        exact Or.inr (decide_eq_true (by omega))
      · exact Or.inl (Or.inr ⟨q, q1, by omega, q3⟩)
theorem d5_0 : decode prog_143_method_2_code 0 = .ok (.aload_n 0, 1) := by decide +kernel
theorem d5_1 : decode prog_143_method_2_code 1 = .ok (.getfield 7, 3) := by decide +kernel
theorem d5_4 : decode prog_143_method_2_code 4 = .ok (.iconst 1, 1) := by decide +kernel
theorem d5_5 : decode prog_143_method_2_code 5 = .ok (.iadd, 1) := by decide +kernel
theorem d5_6 : decode prog_143_method_2_code 6 = .ok (.istore_n 2, 1) := by decide +kernel
theorem d5_7 : decode prog_143_method_2_code 7 = .ok (.iload_n 2, 1) := by decide +kernel
theorem d5_8 : decode prog_143_method_2_code 8 = .ok (.iload_n 1, 1) := by decide +kernel
theorem d5_9 : decode prog_143_method_2_code 9 = .ok (.if_icmp .gt 113, 3) := by decide +kernel
theorem d5_122 : decode prog_143_method_2_code 122 = .ok (.aload_n 0, 1) := by decide +kernel
theorem d5_123 : decode prog_143_method_2_code 123 = .ok (.iload_n 1, 1) := by decide +kernel
theorem d5_124 : decode prog_143_method_2_code 124 = .ok (.putfield 7, 3) := by decide +kernel
theorem d5_127 : decode prog_143_method_2_code 127 = .ok (.return_, 1) := by decide +kernel
theorem d5_69 : decode prog_143_method_2_code 69 = .ok (.iload_n 3, 1) := by decide +kernel
theorem d5_70 : decode prog_143_method_2_code 70 = .ok (.aload_n 0, 1) := by decide +kernel
theorem d5_71 : decode prog_143_method_2_code 71 = .ok (.getfield 26, 3) := by decide +kernel
theorem d5_74 : decode prog_143_method_2_code 74 = .ok (.iload_n 2, 1) := by decide +kernel
theorem d5_75 : decode prog_143_method_2_code 75 = .ok (.iconst 1, 1) := by decide +kernel
theorem d5_76 : decode prog_143_method_2_code 76 = .ok (.iadd, 1) := by decide +kernel
theorem d5_77 : decode prog_143_method_2_code 77 = .ok (.iaload, 1) := by decide +kernel
theorem d5_78 : decode prog_143_method_2_code 78 = .ok (.if_icmp .ge 38, 3) := by decide +kernel
theorem d5_116 : decode prog_143_method_2_code 116 = .ok (.iinc 2 1, 3) := by decide +kernel
theorem d5_119 : decode prog_143_method_2_code 119 = .ok (.goto (-112), 3) := by decide +kernel
theorem d5_81 : decode prog_143_method_2_code 81 = .ok (.aload_n 0, 1) := by decide +kernel
theorem d5_82 : decode prog_143_method_2_code 82 = .ok (.getfield 18, 3) := by decide +kernel
theorem d5_85 : decode prog_143_method_2_code 85 = .ok (.aload_n 0, 1) := by decide +kernel
theorem d5_86 : decode prog_143_method_2_code 86 = .ok (.getfield 32, 3) := by decide +kernel
theorem d5_89 : decode prog_143_method_2_code 89 = .ok (.iload_n 3, 1) := by decide +kernel
theorem d5_90 : decode prog_143_method_2_code 90 = .ok (.iaload, 1) := by decide +kernel
theorem d5_91 : decode prog_143_method_2_code 91 = .ok (.bipush 6, 2) := by decide +kernel
theorem d5_93 : decode prog_143_method_2_code 93 = .ok (.iushr, 1) := by decide +kernel
theorem d5_94 : decode prog_143_method_2_code 94 = .ok (.dup2, 1) := by decide +kernel
theorem d5_95 : decode prog_143_method_2_code 95 = .ok (.laload, 1) := by decide +kernel
theorem d5_96 : decode prog_143_method_2_code 96 = .ok (.lconst 1, 1) := by decide +kernel
theorem d5_97 : decode prog_143_method_2_code 97 = .ok (.aload_n 0, 1) := by decide +kernel
theorem d5_98 : decode prog_143_method_2_code 98 = .ok (.getfield 32, 3) := by decide +kernel
theorem d5_101 : decode prog_143_method_2_code 101 = .ok (.iload_n 3, 1) := by decide +kernel
theorem d5_102 : decode prog_143_method_2_code 102 = .ok (.iaload, 1) := by decide +kernel
theorem d5_103 : decode prog_143_method_2_code 103 = .ok (.lshl, 1) := by decide +kernel
theorem d5_104 : decode prog_143_method_2_code 104 = .ok (.ldc2_w 40, 3) := by decide +kernel
theorem d5_107 : decode prog_143_method_2_code 107 = .ok (.lxor, 1) := by decide +kernel
theorem d5_108 : decode prog_143_method_2_code 108 = .ok (.land, 1) := by decide +kernel
theorem d5_109 : decode prog_143_method_2_code 109 = .ok (.lastore, 1) := by decide +kernel
theorem d5_110 : decode prog_143_method_2_code 110 = .ok (.iinc 3 1, 3) := by decide +kernel
theorem d5_113 : decode prog_143_method_2_code 113 = .ok (.goto (-44), 3) := by decide +kernel
theorem d5_19 : decode prog_143_method_2_code 19 = .ok (.iload_n 3, 1) := by decide +kernel
theorem d5_20 : decode prog_143_method_2_code 20 = .ok (.aload_n 0, 1) := by decide +kernel
theorem d5_21 : decode prog_143_method_2_code 21 = .ok (.getfield 22, 3) := by decide +kernel
theorem d5_24 : decode prog_143_method_2_code 24 = .ok (.iload_n 2, 1) := by decide +kernel
theorem d5_25 : decode prog_143_method_2_code 25 = .ok (.iconst 1, 1) := by decide +kernel
theorem d5_26 : decode prog_143_method_2_code 26 = .ok (.iadd, 1) := by decide +kernel
theorem d5_27 : decode prog_143_method_2_code 27 = .ok (.iaload, 1) := by decide +kernel
theorem d5_28 : decode prog_143_method_2_code 28 = .ok (.if_icmp .ge 34, 3) := by decide +kernel
theorem d5_62 : decode prog_143_method_2_code 62 = .ok (.aload_n 0, 1) := by decide +kernel
theorem d5_63 : decode prog_143_method_2_code 63 = .ok (.getfield 26, 3) := by decide +kernel
theorem d5_66 : decode prog_143_method_2_code 66 = .ok (.iload_n 2, 1) := by decide +kernel
theorem d5_67 : decode prog_143_method_2_code 67 = .ok (.iaload, 1) := by decide +kernel
theorem d5_68 : decode prog_143_method_2_code 68 = .ok (.istore_n 3, 1) := by decide +kernel
theorem d5_31 : decode prog_143_method_2_code 31 = .ok (.aload_n 0, 1) := by decide +kernel
theorem d5_32 : decode prog_143_method_2_code 32 = .ok (.getfield 18, 3) := by decide +kernel
theorem d5_35 : decode prog_143_method_2_code 35 = .ok (.aload_n 0, 1) := by decide +kernel
theorem d5_36 : decode prog_143_method_2_code 36 = .ok (.getfield 29, 3) := by decide +kernel
theorem d5_39 : decode prog_143_method_2_code 39 = .ok (.iload_n 3, 1) := by decide +kernel
theorem d5_40 : decode prog_143_method_2_code 40 = .ok (.iaload, 1) := by decide +kernel
theorem d5_41 : decode prog_143_method_2_code 41 = .ok (.bipush 6, 2) := by decide +kernel
theorem d5_43 : decode prog_143_method_2_code 43 = .ok (.iushr, 1) := by decide +kernel
theorem d5_44 : decode prog_143_method_2_code 44 = .ok (.dup2, 1) := by decide +kernel
theorem d5_45 : decode prog_143_method_2_code 45 = .ok (.laload, 1) := by decide +kernel
theorem d5_46 : decode prog_143_method_2_code 46 = .ok (.lconst 1, 1) := by decide +kernel
theorem d5_47 : decode prog_143_method_2_code 47 = .ok (.aload_n 0, 1) := by decide +kernel
theorem d5_48 : decode prog_143_method_2_code 48 = .ok (.getfield 29, 3) := by decide +kernel
theorem d5_51 : decode prog_143_method_2_code 51 = .ok (.iload_n 3, 1) := by decide +kernel
theorem d5_52 : decode prog_143_method_2_code 52 = .ok (.iaload, 1) := by decide +kernel
theorem d5_53 : decode prog_143_method_2_code 53 = .ok (.lshl, 1) := by decide +kernel
theorem d5_54 : decode prog_143_method_2_code 54 = .ok (.lor, 1) := by decide +kernel
theorem d5_55 : decode prog_143_method_2_code 55 = .ok (.lastore, 1) := by decide +kernel
theorem d5_56 : decode prog_143_method_2_code 56 = .ok (.iinc 3 1, 3) := by decide +kernel
theorem d5_59 : decode prog_143_method_2_code 59 = .ok (.goto (-40), 3) := by decide +kernel
theorem d5_12 : decode prog_143_method_2_code 12 = .ok (.aload_n 0, 1) := by decide +kernel
theorem d5_13 : decode prog_143_method_2_code 13 = .ok (.getfield 22, 3) := by decide +kernel
theorem d5_16 : decode prog_143_method_2_code 16 = .ok (.iload_n 2, 1) := by decide +kernel
theorem d5_17 : decode prog_143_method_2_code 17 = .ok (.iaload, 1) := by decide +kernel
theorem d5_18 : decode prog_143_method_2_code 18 = .ok (.istore_n 3, 1) := by decide +kernel
theorem own_rc {x : Int32} {t : Nat} (h : x.toInt = (t : Int) - 1) (ht : t ≤ 5) : (x + (1 : Int32)).toInt = (t : Int) := by
  have h1 := c_iadd x 1
  have r := rng32 (x + 1)
  have r2 := rng32 x
  rw [show (1 : Int32).toInt = 1 from rfl, h] at h1
  generalize (x + 1).toInt = v at *
  omega
theorem ef_5 (m : MethodId) (r0 : Addr) (p1 : Int32) : entryFrame m #[(.ref r0), (.int p1)] 4 = mkF m 0 #[.val (.ref r0), .val (.int p1), .unset, .unset] [] := by first | (simp [entryFrame, mkF, argsToLocals, Value.category]; done) | rfl
theorem pn_5 : plainFor (⟨"com/example/slotwright/slotwright/core/TriedSlots", "reach", "(I)V"⟩ : MethodName) = true := plainFor_of_name (by first | (simp [plainName, overriddenIn]; done) | decide +kernel)
set_option maxRecDepth 65536 in
set_option maxHeartbeats 40000000 in
theorem rm_reach (l : Launch) (Z : State) (a0 : Array Value) (hw : ∀ d ∈ tables_1, d.before a0 Z = true) (ws : List Jvm.Cond) (r0 : Addr) (p1 : Int32) (h0 : Heap) (tr jf jo lf le : Addr) (n gj gl : Nat) (T : Nat → Int64) (JF G LF H : Nat → Int32) (rc : Int32) (F0 : TSo Z h0 r0 tr jf jo lf le n gj gl T JF G LF H rc) (n0 : Nat) (gtr : n0 ≤ tr) (gr0 : n0 ≤ r0) (kj kl : Nat → Nat) (TB : Tab kj kl n gj gl JF G LF H) (hkl : ∀ i, i < 65 → kj i < n → kj i < kl i) (t0 : Nat) (hrc : rc.toInt = (t0 : Int) - 1) (HB0 : (∀ i, i < 65 → (bitOf T i = true ↔ kj i < t0 ∧ ¬ kl i < t0))) (pp : Nat) (hp : p1.toInt = (pp : Int)) (hpn : pp < n) (ht0 : t0 ≤ pp + 1) (hn4 : n ≤ 4) :
    OMet l (⟨"com/example/slotwright/slotwright/core/TriedSlots", "reach", "(I)V"⟩ : MethodName) prog_143_method_2_code 4 none ws ({ frames := 0, cells := 0, slots := 0, locals := 0 } : Room) #[(.ref r0), (.int p1)] Z h0 (fun v h L => v = none ∧ Fr n0 L ∧ Keep h0 h [tr, r0] ∧ ∃ T', TSo Z h r0 tr jf jo lf le n gj gl T' JF G LF H p1 ∧ (∀ i, i < 65 → (bitOf T' i = true ↔ kj i < pp + 1 ∧ ¬ kl i < pp + 1))) := by
  refine OMet.of pn_5 (fun m => ef_5 m r0 p1) ?_
  intro p e s m below meth c s₁ hx hby hml hown hnm hret hlk hZ X0 e0
  have wi := (hw _ (List.mem_of_getElem? (i := 6) rfl))
  obtain ⟨B1, B2, B3, B4, ⟨CA, CJ⟩, CB, CL⟩ := TB
  have hg65 := pre_le kj 65 (n + 1)
  have hl65 := pre_le kl 65 (n + 1)
  refine Owes.go ?_ fun t₀ k₀ => XS.aloadN X0.here hx rfl (hb hby d5_0) rfl rfl k₀
  show Owes _ _ _ _ (s₁.setTop (mkF m 1 #[.val (.ref r0), .val (.int p1), .unset, .unset] [(.ref r0)]))
  obtain ⟨T37, X37, e37, st37⟩ := getF X0 hx hZ hown (host := "") (Or.inl (hw _ (List.mem_of_getElem? (i := 14) rfl))) Via.refl e0 F0.2.2.2.2.2.2.2.1 (g := (mkF m 1 #[.val (.ref r0), .val (.int p1), .unset, .unset] [(.ref r0)])) rfl rfl (hb hby d5_1)
  refine Owes.go ?_ st37
  show Owes _ _ _ _ (T37.setTop (mkF m 4 #[.val (.ref r0), .val (.int p1), .unset, .unset] [(.int rc)]))
  refine Owes.go ?_ fun t₀ k₀ => XS.iconst X37.here hx rfl (hb hby d5_4) k₀
  show Owes _ _ _ _ (T37.setTop (mkF m 5 #[.val (.ref r0), .val (.int p1), .unset, .unset] [(.int (1 : Int32)), (.int rc)]))
  refine Owes.go ?_ fun t₀ k₀ => XS.iadd X37.here hx rfl (hb hby d5_5) rfl k₀
  show Owes _ _ _ _ (T37.setTop (mkF m 6 #[.val (.ref r0), .val (.int p1), .unset, .unset] [(.int (rc + (1 : Int32)))]))
  refine Owes.go ?_ fun t₀ k₀ => XS.istoreN X37.here hx rfl (hb hby d5_6) rfl (l' := #[.val (.ref r0), .val (.int p1), .val (.int (rc + (1 : Int32))), .unset]) rfl k₀
  show Owes _ _ _ _ (T37.setTop (mkF m 7 #[.val (.ref r0), .val (.int p1), .val (.int (rc + (1 : Int32))), .unset] []))
  have outer : ∀ (r t : Nat), t + r = pp + 1 → ∀ (tI : Int32) (T1 : State) (locs : List Loc) (h : Heap) (Tw : Nat → Int64) (s3 : Slot), One s3 → Stand p l e ({ frames := 0, cells := 0, slots := 0, locals := 0 } : Room) s m #[(.ref r0), (.int p1)] below meth c T1 locs 0 0 → T1.heap = h → Fr n0 locs → Keep h0 h [tr] → TSo Z h r0 tr jf jo lf le n gj gl Tw JF G LF H rc → (∀ i, i < 65 → (bitOf Tw i = true ↔ kj i < t ∧ ¬ kl i < t)) → tI.toInt = (t : Int) → Owes p e below (EndN s (fun v h L => v = none ∧ Fr n0 L ∧ Keep h0 h [tr, r0] ∧ ∃ T', TSo Z h r0 tr jf jo lf le n gj gl T' JF G LF H p1 ∧ (∀ i, i < 65 → (bitOf T' i = true ↔ kj i < pp + 1 ∧ ¬ kl i < pp + 1))) ({ frames := 0, cells := 0, slots := 0, locals := 0 } : Room).cells ({ frames := 0, cells := 0, slots := 0, locals := 0 } : Room).slots) (T1.setTop (mkF m 7 #[.val (.ref r0), .val (.int p1), .val (.int tI), s3] [])) := by
    intro r
    induction r with
    | zero =>
      intro t ht tI T1 locs h Tw s3 o3 X eT N K F HBt htI
      have htp : t = pp + 1 := by omega
      subst htp
      refine Owes.go ?_ fun t₀ k₀ => XS.iloadN X.here hx rfl (hb hby d5_7) rfl k₀
      show Owes _ _ _ _ (T1.setTop (mkF m 8 #[.val (.ref r0), .val (.int p1), .val (.int tI), s3] [(.int tI)]))
      refine Owes.go ?_ fun t₀ k₀ => XS.iloadN X.here hx rfl (hb hby d5_8) rfl k₀
      show Owes _ _ _ _ (T1.setTop (mkF m 9 #[.val (.ref r0), .val (.int p1), .val (.int tI), s3] [(.int p1), (.int tI)]))
      refine Owes.go ?_ fun t₀ k₀ => XS.icmpYes X.here hx rfl (pc0 := 9) (pc' := 122) rfl (hb hby d5_9) rfl (tlt (own_lti hp htI (by omega))).2.2.1 (by decide) (by decide) k₀
      show Owes _ _ _ _ (T1.setTop (mkF m 122 #[.val (.ref r0), .val (.int p1), .val (.int tI), s3] []))
      refine Owes.go ?_ fun t₀ k₀ => XS.aloadN X.here hx rfl (hb hby d5_122) rfl rfl k₀
      show Owes _ _ _ _ (T1.setTop (mkF m 123 #[.val (.ref r0), .val (.int p1), .val (.int tI), s3] [(.ref r0)]))
      refine Owes.go ?_ fun t₀ k₀ => XS.iloadN X.here hx rfl (hb hby d5_123) rfl k₀
      show Owes _ _ _ _ (T1.setTop (mkF m 124 #[.val (.ref r0), .val (.int p1), .val (.int tI), s3] [(.int p1), (.ref r0)]))
      refine Owes.putF X hx hZ hown (host := "") (Or.inl (hw _ (List.mem_of_getElem? (i := 14) rfl))) Via.refl eT F.2.2.2.2.2.2.2.1 F.1 (Or.inl (hw _ (List.mem_of_getElem? (i := 15) rfl))) (hw _ (List.mem_of_getElem? (i := 6) rfl)) (ty := .int) (by decide) rfl rfl (hb hby d5_124) ?_
      intro T38 h38 X38 e38 W38
      have N38 := Fr.snoc X38 N gr0
      have E_r0_38 := Exa.wr W38 F.1
      have F_r0_size_38 := Fld.other W38 F.2.1 (Or.inr (slot_ne (Or.inr (hw _ (List.mem_of_getElem? (i := 17) rfl))) (Or.inl (hw _ (List.mem_of_getElem? (i := 15) rfl))) (by decide) (t := .int) (t' := .int) (by decide) (by decide)))
      have F_r0_tried_38 := Fld.other W38 F.2.2.1 (Or.inr (slot_ne (Or.inr (hw _ (List.mem_of_getElem? (i := 20) rfl))) (Or.inl (hw _ (List.mem_of_getElem? (i := 15) rfl))) (by decide) (t := (.array .long)) (t' := .int) (by decide) (by decide)))
      have F_r0_joiningFrom_38 := Fld.other W38 F.2.2.2.1 (Or.inr (slot_ne (Or.inr (hw _ (List.mem_of_getElem? (i := 22) rfl))) (Or.inl (hw _ (List.mem_of_getElem? (i := 15) rfl))) (by decide) (t := (.array .int)) (t' := .int) (by decide) (by decide)))
      have F_r0_joining_38 := Fld.other W38 F.2.2.2.2.1 (Or.inr (slot_ne (Or.inr (hw _ (List.mem_of_getElem? (i := 26) rfl))) (Or.inl (hw _ (List.mem_of_getElem? (i := 15) rfl))) (by decide) (t := (.array .int)) (t' := .int) (by decide) (by decide)))
      have F_r0_leavingFrom_38 := Fld.other W38 F.2.2.2.2.2.1 (Or.inr (slot_ne (Or.inr (hw _ (List.mem_of_getElem? (i := 24) rfl))) (Or.inl (hw _ (List.mem_of_getElem? (i := 15) rfl))) (by decide) (t := (.array .int)) (t' := .int) (by decide) (by decide)))
      have F_r0_leaving_38 := Fld.other W38 F.2.2.2.2.2.2.1 (Or.inr (slot_ne (Or.inr (hw _ (List.mem_of_getElem? (i := 28) rfl))) (Or.inl (hw _ (List.mem_of_getElem? (i := 15) rfl))) (by decide) (t := (.array .int)) (t' := .int) (by decide) (by decide)))
      have F_r0_reached_38 := Fld.same W38 F.2.2.2.2.2.2.2.1
      show Owes _ _ _ _ (T38.setTop (mkF m 127 #[.val (.ref r0), .val (.int p1), .val (.int tI), s3] []))
      exact Owes.retV X38 hx hlk hret (hb hby d5_127) (by decide) (by decide) (by rw [e38]; exact ⟨rfl, N38, ((Keep.refl h0 [tr, r0]).trans K (fun x hx => Or.inl (by rw [List.mem_singleton.mp hx]; exact List.mem_cons_self))).wr W38 (Or.inl (List.mem_cons_of_mem _ (List.mem_singleton.mpr rfl))), Tw, ⟨E_r0_38, F_r0_size_38, F_r0_tried_38, F_r0_joiningFrom_38, F_r0_joining_38, F_r0_leavingFrom_38, F_r0_leaving_38, F_r0_reached_38, (F.2.2.2.2.2.2.2.2.1).other W38 (Ne.symm (GA.ne_obj F.1 wi F.2.2.2.2.2.2.2.2.1)), (F.2.2.2.2.2.2.2.2.2.1).other W38 (Ne.symm (GA.ne_obj F.1 wi F.2.2.2.2.2.2.2.2.2.1)), (F.2.2.2.2.2.2.2.2.2.2.1).other W38 (Ne.symm (GA.ne_obj F.1 wi F.2.2.2.2.2.2.2.2.2.2.1)), (F.2.2.2.2.2.2.2.2.2.2.2.1).other W38 (Ne.symm (GA.ne_obj F.1 wi F.2.2.2.2.2.2.2.2.2.2.2.1)), (F.2.2.2.2.2.2.2.2.2.2.2.2).other W38 (Ne.symm (GA.ne_obj F.1 wi F.2.2.2.2.2.2.2.2.2.2.2.2))⟩, HBt⟩)
    | succ r ih =>
      intro t ht tI T1 locs h Tw s3 o3 X eT N K F HBt htI
      have htn : t < n := by omega
      have hgj := pre_mono kj 65 (show t + 1 ≤ n + 1 by omega)
      have hgl := pre_mono kl 65 (show t + 1 ≤ n + 1 by omega)
      have lpL : ∀ (r k : Nat), k + r = pre kl 65 (t + 1) → pre kl 65 t ≤ k → ∀ (kI : Int32) (T1 : State) (locs : List Loc) (h : Heap) (Tw : Nat → Int64), Stand p l e ({ frames := 0, cells := 0, slots := 0, locals := 0 } : Room) s m #[(.ref r0), (.int p1)] below meth c T1 locs 0 0 → T1.heap = h → Fr n0 locs → Keep h0 h [tr] → TSo Z h r0 tr jf jo lf le n gj gl Tw JF G LF H rc → (∀ i, i < 65 → (bitOf Tw i = true ↔ (kj i < t + 1 ∧ ¬ kl i < t) ∧ ¬ ∃ q, pre kl 65 t ≤ q ∧ q < k ∧ (H q).toInt = (i : Int))) → kI.toInt = (k : Int) → Owes p e below (EndN s (fun v h L => v = none ∧ Fr n0 L ∧ Keep h0 h [tr, r0] ∧ ∃ T', TSo Z h r0 tr jf jo lf le n gj gl T' JF G LF H p1 ∧ (∀ i, i < 65 → (bitOf T' i = true ↔ kj i < pp + 1 ∧ ¬ kl i < pp + 1))) ({ frames := 0, cells := 0, slots := 0, locals := 0 } : Room).cells ({ frames := 0, cells := 0, slots := 0, locals := 0 } : Room).slots) (T1.setTop (mkF m 69 #[.val (.ref r0), .val (.int p1), .val (.int tI), .val (.int kI)] [])) := by
        intro r
        induction r with
        | zero =>
          intro k hk0 hk1 kI T1 locs h Tw X eT N K F HB hkI
          refine Owes.go ?_ fun t₀ k₀ => XS.iloadN X.here hx rfl (hb hby d5_69) rfl k₀
          show Owes _ _ _ _ (T1.setTop (mkF m 70 #[.val (.ref r0), .val (.int p1), .val (.int tI), .val (.int kI)] [(.int kI)]))
          refine Owes.go ?_ fun t₀ k₀ => XS.aloadN X.here hx rfl (hb hby d5_70) rfl rfl k₀
          show Owes _ _ _ _ (T1.setTop (mkF m 71 #[.val (.ref r0), .val (.int p1), .val (.int tI), .val (.int kI)] [(.ref r0), (.int kI)]))
          obtain ⟨T39, X39, e39, st39⟩ := getF X hx hZ hown (host := "") (Or.inl (hw _ (List.mem_of_getElem? (i := 23) rfl))) Via.refl eT F.2.2.2.2.2.1 (g := (mkF m 71 #[.val (.ref r0), .val (.int p1), .val (.int tI), .val (.int kI)] [(.ref r0), (.int kI)])) rfl rfl (hb hby d5_71)
          refine Owes.go ?_ st39
          show Owes _ _ _ _ (T39.setTop (mkF m 74 #[.val (.ref r0), .val (.int p1), .val (.int tI), .val (.int kI)] [(.ref lf), (.int kI)]))
          refine Owes.go ?_ fun t₀ k₀ => XS.iloadN X39.here hx rfl (hb hby d5_74) rfl k₀
          show Owes _ _ _ _ (T39.setTop (mkF m 75 #[.val (.ref r0), .val (.int p1), .val (.int tI), .val (.int kI)] [(.int tI), (.ref lf), (.int kI)]))
          refine Owes.go ?_ fun t₀ k₀ => XS.iconst X39.here hx rfl (hb hby d5_75) k₀
          show Owes _ _ _ _ (T39.setTop (mkF m 76 #[.val (.ref r0), .val (.int p1), .val (.int tI), .val (.int kI)] [(.int (1 : Int32)), (.int tI), (.ref lf), (.int kI)]))
          refine Owes.go ?_ fun t₀ k₀ => XS.iadd X39.here hx rfl (hb hby d5_76) rfl k₀
          show Owes _ _ _ _ (T39.setTop (mkF m 77 #[.val (.ref r0), .val (.int p1), .val (.int tI), .val (.int kI)] [(.int (tI + (1 : Int32))), (.ref lf), (.int kI)]))
          refine Owes.gI X39 hx hZ e39 F.2.2.2.2.2.2.2.2.2.2.2.1 (own_inc htI (by omega)) (show t + 1 < n + 1 by omega) (v := .int (LF (t + 1))) rfl (hb hby d5_77) ?_
          show Owes _ _ _ _ (T39.setTop (mkF m 78 #[.val (.ref r0), .val (.int p1), .val (.int tI), .val (.int kI)] [(.int (LF (t + 1))), (.int kI)]))
          refine Owes.go ?_ fun t₀ k₀ => XS.icmpYes X39.here hx rfl (pc0 := 78) (pc' := 116) rfl (hb hby d5_78) rfl (flt (own_nlti hkI (B2 (t + 1) (by omega)) (by omega))).2.1 (by decide) (by decide) k₀
          show Owes _ _ _ _ (T39.setTop (mkF m 116 #[.val (.ref r0), .val (.int p1), .val (.int tI), .val (.int kI)] []))
          refine Owes.go ?_ fun t₀ k₀ => XS.iinc X39.here hx rfl (hb hby d5_116) rfl (l' := #[.val (.ref r0), .val (.int p1), .val (.int (tI + (1 : Int32))), .val (.int kI)]) rfl k₀
          show Owes _ _ _ _ (T39.setTop (mkF m 119 #[.val (.ref r0), .val (.int p1), .val (.int (tI + (1 : Int32))), .val (.int kI)] []))
          refine Owes.go ?_ fun t₀ k₀ => XS.goto X39.here hx rfl (pc0 := 119) (pc' := 7) rfl (hb hby d5_119) (by decide) (by decide) k₀
          show Owes _ _ _ _ (T39.setTop (mkF m 7 #[.val (.ref r0), .val (.int p1), .val (.int (tI + (1 : Int32))), .val (.int kI)] []))
          refine ih (t + 1) (by omega) _ _ _ _ _ _ (One.val rfl) X39 e39 N K F (fun i hi => ?_) (own_inc htI (by omega))
          have h1 := HB i hi
          rw [show k = pre kl 65 (t + 1) by omega, CL.all htn hi] at h1
          rw [h1]
          omega
        | succ r ihL =>
          intro k hk0 hk1 kI T1 locs h Tw X eT N K F HB hkI
          obtain ⟨i, hi65, hi_⟩ := CL.val htn hk1 (show k < pre kl 65 (t + 1) by omega)
          have hkg : k < gl := by omega
          refine Owes.go ?_ fun t₀ k₀ => XS.iloadN X.here hx rfl (hb hby d5_69) rfl k₀
          show Owes _ _ _ _ (T1.setTop (mkF m 70 #[.val (.ref r0), .val (.int p1), .val (.int tI), .val (.int kI)] [(.int kI)]))
          refine Owes.go ?_ fun t₀ k₀ => XS.aloadN X.here hx rfl (hb hby d5_70) rfl rfl k₀
          show Owes _ _ _ _ (T1.setTop (mkF m 71 #[.val (.ref r0), .val (.int p1), .val (.int tI), .val (.int kI)] [(.ref r0), (.int kI)]))
          obtain ⟨T40, X40, e40, st40⟩ := getF X hx hZ hown (host := "") (Or.inl (hw _ (List.mem_of_getElem? (i := 23) rfl))) Via.refl eT F.2.2.2.2.2.1 (g := (mkF m 71 #[.val (.ref r0), .val (.int p1), .val (.int tI), .val (.int kI)] [(.ref r0), (.int kI)])) rfl rfl (hb hby d5_71)
          refine Owes.go ?_ st40
          show Owes _ _ _ _ (T40.setTop (mkF m 74 #[.val (.ref r0), .val (.int p1), .val (.int tI), .val (.int kI)] [(.ref lf), (.int kI)]))
          refine Owes.go ?_ fun t₀ k₀ => XS.iloadN X40.here hx rfl (hb hby d5_74) rfl k₀
          show Owes _ _ _ _ (T40.setTop (mkF m 75 #[.val (.ref r0), .val (.int p1), .val (.int tI), .val (.int kI)] [(.int tI), (.ref lf), (.int kI)]))
          refine Owes.go ?_ fun t₀ k₀ => XS.iconst X40.here hx rfl (hb hby d5_75) k₀
          show Owes _ _ _ _ (T40.setTop (mkF m 76 #[.val (.ref r0), .val (.int p1), .val (.int tI), .val (.int kI)] [(.int (1 : Int32)), (.int tI), (.ref lf), (.int kI)]))
          refine Owes.go ?_ fun t₀ k₀ => XS.iadd X40.here hx rfl (hb hby d5_76) rfl k₀
          show Owes _ _ _ _ (T40.setTop (mkF m 77 #[.val (.ref r0), .val (.int p1), .val (.int tI), .val (.int kI)] [(.int (tI + (1 : Int32))), (.ref lf), (.int kI)]))
          refine Owes.gI X40 hx hZ e40 F.2.2.2.2.2.2.2.2.2.2.2.1 (own_inc htI (by omega)) (show t + 1 < n + 1 by omega) (v := .int (LF (t + 1))) rfl (hb hby d5_77) ?_
          show Owes _ _ _ _ (T40.setTop (mkF m 78 #[.val (.ref r0), .val (.int p1), .val (.int tI), .val (.int kI)] [(.int (LF (t + 1))), (.int kI)]))
          refine Owes.go ?_ fun t₀ k₀ => XS.icmpNo X40.here hx rfl (hb hby d5_78) rfl (tlt (own_lti hkI (B2 (t + 1) (by omega)) (by omega))).2.1 k₀
          show Owes _ _ _ _ (T40.setTop (mkF m 81 #[.val (.ref r0), .val (.int p1), .val (.int tI), .val (.int kI)] []))
          refine Owes.go ?_ fun t₀ k₀ => XS.aloadN X40.here hx rfl (hb hby d5_81) rfl rfl k₀
          show Owes _ _ _ _ (T40.setTop (mkF m 82 #[.val (.ref r0), .val (.int p1), .val (.int tI), .val (.int kI)] [(.ref r0)]))
          obtain ⟨T41, X41, e41, st41⟩ := getF X40 hx hZ hown (host := "") (Or.inl (hw _ (List.mem_of_getElem? (i := 19) rfl))) Via.refl e40 F.2.2.1 (g := (mkF m 82 #[.val (.ref r0), .val (.int p1), .val (.int tI), .val (.int kI)] [(.ref r0)])) rfl rfl (hb hby d5_82)
          refine Owes.go ?_ st41
          show Owes _ _ _ _ (T41.setTop (mkF m 85 #[.val (.ref r0), .val (.int p1), .val (.int tI), .val (.int kI)] [(.ref tr)]))
          refine Owes.go ?_ fun t₀ k₀ => XS.aloadN X41.here hx rfl (hb hby d5_85) rfl rfl k₀
          show Owes _ _ _ _ (T41.setTop (mkF m 86 #[.val (.ref r0), .val (.int p1), .val (.int tI), .val (.int kI)] [(.ref r0), (.ref tr)]))
          obtain ⟨T42, X42, e42, st42⟩ := getF X41 hx hZ hown (host := "") (Or.inl (hw _ (List.mem_of_getElem? (i := 27) rfl))) Via.refl e41 F.2.2.2.2.2.2.1 (g := (mkF m 86 #[.val (.ref r0), .val (.int p1), .val (.int tI), .val (.int kI)] [(.ref r0), (.ref tr)])) rfl rfl (hb hby d5_86)
          refine Owes.go ?_ st42
          show Owes _ _ _ _ (T42.setTop (mkF m 89 #[.val (.ref r0), .val (.int p1), .val (.int tI), .val (.int kI)] [(.ref le), (.ref tr)]))
          refine Owes.go ?_ fun t₀ k₀ => XS.iloadN X42.here hx rfl (hb hby d5_89) rfl k₀
          show Owes _ _ _ _ (T42.setTop (mkF m 90 #[.val (.ref r0), .val (.int p1), .val (.int tI), .val (.int kI)] [(.int kI), (.ref le), (.ref tr)]))
          refine Owes.gI X42 hx hZ e42 F.2.2.2.2.2.2.2.2.2.2.2.2 hkI hkg (v := .int (H k)) rfl (hb hby d5_90) ?_
          show Owes _ _ _ _ (T42.setTop (mkF m 91 #[.val (.ref r0), .val (.int p1), .val (.int tI), .val (.int kI)] [(.int (H k)), (.ref tr)]))
          refine Owes.go ?_ fun t₀ k₀ => XS.bipush X42.here hx rfl (hb hby d5_91) k₀
          show Owes _ _ _ _ (T42.setTop (mkF m 93 #[.val (.ref r0), .val (.int p1), .val (.int tI), .val (.int kI)] [(.int (6 : Int32)), (.int (H k)), (.ref tr)]))
          refine Owes.go ?_ fun t₀ k₀ => XS.iushr X42.here hx rfl (hb hby d5_93) rfl k₀
          show Owes _ _ _ _ (T42.setTop (mkF m 94 #[.val (.ref r0), .val (.int p1), .val (.int tI), .val (.int kI)] [(.int (((H k).toUInt32 >>> ((6 : Int32) &&& 31).toUInt32).toInt32)), (.ref tr)]))
          refine Owes.go ?_ fun t₀ k₀ => Jvm.Free.XT.dup2 X42.here hx rfl (hb hby d5_94) rfl rfl rfl k₀
          show Owes _ _ _ _ (T42.setTop (mkF m 95 #[.val (.ref r0), .val (.int p1), .val (.int tI), .val (.int kI)] [(.int (((H k).toUInt32 >>> ((6 : Int32) &&& 31).toUInt32).toInt32)), (.ref tr), (.int (((H k).toUInt32 >>> ((6 : Int32) &&& 31).toUInt32).toInt32)), (.ref tr)]))
          refine Owes.gJ X42 hx hZ e42 F.2.2.2.2.2.2.2.2.1 (own_sh6 hi_) (show i / 64 < 2 by omega) (v := .long (Tw (i / 64))) rfl (hb hby d5_95) ?_
          show Owes _ _ _ _ (T42.setTop (mkF m 96 #[.val (.ref r0), .val (.int p1), .val (.int tI), .val (.int kI)] [(.long (Tw (i / 64))), (.int (((H k).toUInt32 >>> ((6 : Int32) &&& 31).toUInt32).toInt32)), (.ref tr)]))
          refine Owes.go ?_ fun t₀ k₀ => XS.lconst X42.here hx rfl (hb hby d5_96) k₀
          show Owes _ _ _ _ (T42.setTop (mkF m 97 #[.val (.ref r0), .val (.int p1), .val (.int tI), .val (.int kI)] [(.long (1 : Int64)), (.long (Tw (i / 64))), (.int (((H k).toUInt32 >>> ((6 : Int32) &&& 31).toUInt32).toInt32)), (.ref tr)]))
          refine Owes.go ?_ fun t₀ k₀ => XS.aloadN X42.here hx rfl (hb hby d5_97) rfl rfl k₀
          show Owes _ _ _ _ (T42.setTop (mkF m 98 #[.val (.ref r0), .val (.int p1), .val (.int tI), .val (.int kI)] [(.ref r0), (.long (1 : Int64)), (.long (Tw (i / 64))), (.int (((H k).toUInt32 >>> ((6 : Int32) &&& 31).toUInt32).toInt32)), (.ref tr)]))
          obtain ⟨T43, X43, e43, st43⟩ := getF X42 hx hZ hown (host := "") (Or.inl (hw _ (List.mem_of_getElem? (i := 27) rfl))) Via.refl e42 F.2.2.2.2.2.2.1 (g := (mkF m 98 #[.val (.ref r0), .val (.int p1), .val (.int tI), .val (.int kI)] [(.ref r0), (.long (1 : Int64)), (.long (Tw (i / 64))), (.int (((H k).toUInt32 >>> ((6 : Int32) &&& 31).toUInt32).toInt32)), (.ref tr)])) rfl rfl (hb hby d5_98)
          refine Owes.go ?_ st43
          show Owes _ _ _ _ (T43.setTop (mkF m 101 #[.val (.ref r0), .val (.int p1), .val (.int tI), .val (.int kI)] [(.ref le), (.long (1 : Int64)), (.long (Tw (i / 64))), (.int (((H k).toUInt32 >>> ((6 : Int32) &&& 31).toUInt32).toInt32)), (.ref tr)]))
          refine Owes.go ?_ fun t₀ k₀ => XS.iloadN X43.here hx rfl (hb hby d5_101) rfl k₀
          show Owes _ _ _ _ (T43.setTop (mkF m 102 #[.val (.ref r0), .val (.int p1), .val (.int tI), .val (.int kI)] [(.int kI), (.ref le), (.long (1 : Int64)), (.long (Tw (i / 64))), (.int (((H k).toUInt32 >>> ((6 : Int32) &&& 31).toUInt32).toInt32)), (.ref tr)]))
          refine Owes.gI X43 hx hZ e43 F.2.2.2.2.2.2.2.2.2.2.2.2 hkI hkg (v := .int (H k)) rfl (hb hby d5_102) ?_
          show Owes _ _ _ _ (T43.setTop (mkF m 103 #[.val (.ref r0), .val (.int p1), .val (.int tI), .val (.int kI)] [(.int (H k)), (.long (1 : Int64)), (.long (Tw (i / 64))), (.int (((H k).toUInt32 >>> ((6 : Int32) &&& 31).toUInt32).toInt32)), (.ref tr)]))
          refine Owes.go ?_ fun t₀ k₀ => XS.lshl X43.here hx rfl (hb hby d5_103) rfl k₀
          show Owes _ _ _ _ (T43.setTop (mkF m 104 #[.val (.ref r0), .val (.int p1), .val (.int tI), .val (.int kI)] [(.long ((1 : Int64) <<< ((H k) &&& 0x3f).toInt64)), (.long (Tw (i / 64))), (.int (((H k).toUInt32 >>> ((6 : Int32) &&& 31).toUInt32).toInt32)), (.ref tr)]))
          refine Owes.go ?_ fun t₀ k₀ => X43.ldc2Long hx hown (mvT hZ (hw _ (List.mem_of_getElem? (i := 56) rfl))) (g := (mkF m 104 #[.val (.ref r0), .val (.int p1), .val (.int tI), .val (.int kI)] [(.long ((1 : Int64) <<< ((H k) &&& 0x3f).toInt64)), (.long (Tw (i / 64))), (.int (((H k).toUInt32 >>> ((6 : Int32) &&& 31).toUInt32).toInt32)), (.ref tr)])) rfl (hb hby d5_104) _ k₀
          show Owes _ _ _ _ (T43.setTop (mkF m 107 #[.val (.ref r0), .val (.int p1), .val (.int tI), .val (.int kI)] [(.long (-1 : Int64)), (.long ((1 : Int64) <<< ((H k) &&& 0x3f).toInt64)), (.long (Tw (i / 64))), (.int (((H k).toUInt32 >>> ((6 : Int32) &&& 31).toUInt32).toInt32)), (.ref tr)]))
          refine Owes.go ?_ fun t₀ k₀ => XS.lxor X43.here hx rfl (hb hby d5_107) rfl k₀
          show Owes _ _ _ _ (T43.setTop (mkF m 108 #[.val (.ref r0), .val (.int p1), .val (.int tI), .val (.int kI)] [(.long (((1 : Int64) <<< ((H k) &&& 0x3f).toInt64) ^^^ (-1 : Int64))), (.long (Tw (i / 64))), (.int (((H k).toUInt32 >>> ((6 : Int32) &&& 31).toUInt32).toInt32)), (.ref tr)]))
          refine Owes.go ?_ fun t₀ k₀ => XS.land X43.here hx rfl (hb hby d5_108) rfl k₀
          show Owes _ _ _ _ (T43.setTop (mkF m 109 #[.val (.ref r0), .val (.int p1), .val (.int tI), .val (.int kI)] [(.long ((Tw (i / 64)) &&& (((1 : Int64) <<< ((H k) &&& 0x3f).toInt64) ^^^ (-1 : Int64)))), (.int (((H k).toUInt32 >>> ((6 : Int32) &&& 31).toUInt32).toInt32)), (.ref tr)]))
          refine Owes.sJ X43 hx hZ e43 F.2.2.2.2.2.2.2.2.1 (own_sh6 hi_) (show i / 64 < 2 by omega) (hb hby d5_109) ?_
          intro T44 h44 X44 e44 W44 G44
          have F44 := F.keepT wi (Keep.of_wr W44) G44.setJ
          have N44 := Fr.snoc X44 N gtr
          have K44 := K.wr W44 (Or.inl (List.mem_singleton.mpr rfl))
          show Owes _ _ _ _ (T44.setTop (mkF m 110 #[.val (.ref r0), .val (.int p1), .val (.int tI), .val (.int kI)] []))
          refine Owes.go ?_ fun t₀ k₀ => XS.iinc X44.here hx rfl (hb hby d5_110) rfl (l' := #[.val (.ref r0), .val (.int p1), .val (.int tI), .val (.int (kI + (1 : Int32)))]) rfl k₀
          show Owes _ _ _ _ (T44.setTop (mkF m 113 #[.val (.ref r0), .val (.int p1), .val (.int tI), .val (.int (kI + (1 : Int32)))] []))
          refine Owes.go ?_ fun t₀ k₀ => XS.goto X44.here hx rfl (pc0 := 113) (pc' := 69) rfl (hb hby d5_113) (by decide) (by decide) k₀
          show Owes _ _ _ _ (T44.setTop (mkF m 69 #[.val (.ref r0), .val (.int p1), .val (.int tI), .val (.int (kI + (1 : Int32)))] []))
          exact ihL (k + 1) (by omega) (by omega) _ _ _ _ _ X44 e44 N44 K44 F44 (fun j hj => own_bclr (bitOf_clr Tw (H k) i hi_ j) (HB j hj) hi_ hk1) (own_inc hkI (by omega))
      have lpJ : ∀ (r k : Nat), k + r = pre kj 65 (t + 1) → pre kj 65 t ≤ k → ∀ (kI : Int32) (T1 : State) (locs : List Loc) (h : Heap) (Tw : Nat → Int64), Stand p l e ({ frames := 0, cells := 0, slots := 0, locals := 0 } : Room) s m #[(.ref r0), (.int p1)] below meth c T1 locs 0 0 → T1.heap = h → Fr n0 locs → Keep h0 h [tr] → TSo Z h r0 tr jf jo lf le n gj gl Tw JF G LF H rc → (∀ i, i < 65 → (bitOf Tw i = true ↔ (kj i < t ∧ ¬ kl i < t) ∨ ∃ q, pre kj 65 t ≤ q ∧ q < k ∧ (G q).toInt = (i : Int))) → kI.toInt = (k : Int) → Owes p e below (EndN s (fun v h L => v = none ∧ Fr n0 L ∧ Keep h0 h [tr, r0] ∧ ∃ T', TSo Z h r0 tr jf jo lf le n gj gl T' JF G LF H p1 ∧ (∀ i, i < 65 → (bitOf T' i = true ↔ kj i < pp + 1 ∧ ¬ kl i < pp + 1))) ({ frames := 0, cells := 0, slots := 0, locals := 0 } : Room).cells ({ frames := 0, cells := 0, slots := 0, locals := 0 } : Room).slots) (T1.setTop (mkF m 19 #[.val (.ref r0), .val (.int p1), .val (.int tI), .val (.int kI)] [])) := by
        intro r
        induction r with
        | zero =>
          intro k hk0 hk1 kI T1 locs h Tw X eT N K F HB hkI
          refine Owes.go ?_ fun t₀ k₀ => XS.iloadN X.here hx rfl (hb hby d5_19) rfl k₀
          show Owes _ _ _ _ (T1.setTop (mkF m 20 #[.val (.ref r0), .val (.int p1), .val (.int tI), .val (.int kI)] [(.int kI)]))
          refine Owes.go ?_ fun t₀ k₀ => XS.aloadN X.here hx rfl (hb hby d5_20) rfl rfl k₀
          show Owes _ _ _ _ (T1.setTop (mkF m 21 #[.val (.ref r0), .val (.int p1), .val (.int tI), .val (.int kI)] [(.ref r0), (.int kI)]))
          obtain ⟨T45, X45, e45, st45⟩ := getF X hx hZ hown (host := "") (Or.inl (hw _ (List.mem_of_getElem? (i := 21) rfl))) Via.refl eT F.2.2.2.1 (g := (mkF m 21 #[.val (.ref r0), .val (.int p1), .val (.int tI), .val (.int kI)] [(.ref r0), (.int kI)])) rfl rfl (hb hby d5_21)
          refine Owes.go ?_ st45
          show Owes _ _ _ _ (T45.setTop (mkF m 24 #[.val (.ref r0), .val (.int p1), .val (.int tI), .val (.int kI)] [(.ref jf), (.int kI)]))
          refine Owes.go ?_ fun t₀ k₀ => XS.iloadN X45.here hx rfl (hb hby d5_24) rfl k₀
          show Owes _ _ _ _ (T45.setTop (mkF m 25 #[.val (.ref r0), .val (.int p1), .val (.int tI), .val (.int kI)] [(.int tI), (.ref jf), (.int kI)]))
          refine Owes.go ?_ fun t₀ k₀ => XS.iconst X45.here hx rfl (hb hby d5_25) k₀
          show Owes _ _ _ _ (T45.setTop (mkF m 26 #[.val (.ref r0), .val (.int p1), .val (.int tI), .val (.int kI)] [(.int (1 : Int32)), (.int tI), (.ref jf), (.int kI)]))
          refine Owes.go ?_ fun t₀ k₀ => XS.iadd X45.here hx rfl (hb hby d5_26) rfl k₀
          show Owes _ _ _ _ (T45.setTop (mkF m 27 #[.val (.ref r0), .val (.int p1), .val (.int tI), .val (.int kI)] [(.int (tI + (1 : Int32))), (.ref jf), (.int kI)]))
          refine Owes.gI X45 hx hZ e45 F.2.2.2.2.2.2.2.2.2.1 (own_inc htI (by omega)) (show t + 1 < n + 1 by omega) (v := .int (JF (t + 1))) rfl (hb hby d5_27) ?_
          show Owes _ _ _ _ (T45.setTop (mkF m 28 #[.val (.ref r0), .val (.int p1), .val (.int tI), .val (.int kI)] [(.int (JF (t + 1))), (.int kI)]))
          refine Owes.go ?_ fun t₀ k₀ => XS.icmpYes X45.here hx rfl (pc0 := 28) (pc' := 62) rfl (hb hby d5_28) rfl (flt (own_nlti hkI (B1 (t + 1) (by omega)) (by omega))).2.1 (by decide) (by decide) k₀
          show Owes _ _ _ _ (T45.setTop (mkF m 62 #[.val (.ref r0), .val (.int p1), .val (.int tI), .val (.int kI)] []))
          refine Owes.go ?_ fun t₀ k₀ => XS.aloadN X45.here hx rfl (hb hby d5_62) rfl rfl k₀
          show Owes _ _ _ _ (T45.setTop (mkF m 63 #[.val (.ref r0), .val (.int p1), .val (.int tI), .val (.int kI)] [(.ref r0)]))
          obtain ⟨T46, X46, e46, st46⟩ := getF X45 hx hZ hown (host := "") (Or.inl (hw _ (List.mem_of_getElem? (i := 23) rfl))) Via.refl e45 F.2.2.2.2.2.1 (g := (mkF m 63 #[.val (.ref r0), .val (.int p1), .val (.int tI), .val (.int kI)] [(.ref r0)])) rfl rfl (hb hby d5_63)
          refine Owes.go ?_ st46
          show Owes _ _ _ _ (T46.setTop (mkF m 66 #[.val (.ref r0), .val (.int p1), .val (.int tI), .val (.int kI)] [(.ref lf)]))
          refine Owes.go ?_ fun t₀ k₀ => XS.iloadN X46.here hx rfl (hb hby d5_66) rfl k₀
          show Owes _ _ _ _ (T46.setTop (mkF m 67 #[.val (.ref r0), .val (.int p1), .val (.int tI), .val (.int kI)] [(.int tI), (.ref lf)]))
          refine Owes.gI X46 hx hZ e46 F.2.2.2.2.2.2.2.2.2.2.2.1 htI (show t < n + 1 by omega) (v := .int (LF t)) rfl (hb hby d5_67) ?_
          show Owes _ _ _ _ (T46.setTop (mkF m 68 #[.val (.ref r0), .val (.int p1), .val (.int tI), .val (.int kI)] [(.int (LF t))]))
          refine Owes.go ?_ fun t₀ k₀ => XS.istoreN X46.here hx rfl (hb hby d5_68) rfl (l' := #[.val (.ref r0), .val (.int p1), .val (.int tI), .val (.int (LF t))]) rfl k₀
          show Owes _ _ _ _ (T46.setTop (mkF m 69 #[.val (.ref r0), .val (.int p1), .val (.int tI), .val (.int (LF t))] []))
          refine lpL (pre kl 65 (t + 1) - pre kl 65 t) (pre kl 65 t) (by have := pre_mono kl 65 (show t ≤ t + 1 by omega); omega) (Nat.le_refl _) _ _ _ _ _ X46 e46 N K F (fun i hi => ?_) (B2 t (by omega))
          have h1 := HB i hi
          rw [show k = pre kj 65 (t + 1) by omega, CJ.all htn hi] at h1
          have h2 := hkl i hi
          have h3 : ¬ ∃ q, pre kl 65 t ≤ q ∧ q < pre kl 65 t ∧ (H q).toInt = (i : Int) := fun ⟨q, q1, q2, _⟩ => by omega
          rw [h1]
          simp only [h3, not_false_eq_true, and_true]
          omega
        | succ r ihJ =>
          intro k hk0 hk1 kI T1 locs h Tw X eT N K F HB hkI
          obtain ⟨i, hi65, hi_⟩ := CJ.val htn hk1 (show k < pre kj 65 (t + 1) by omega)
          have hkg : k < gj := by omega
          refine Owes.go ?_ fun t₀ k₀ => XS.iloadN X.here hx rfl (hb hby d5_19) rfl k₀
          show Owes _ _ _ _ (T1.setTop (mkF m 20 #[.val (.ref r0), .val (.int p1), .val (.int tI), .val (.int kI)] [(.int kI)]))
          refine Owes.go ?_ fun t₀ k₀ => XS.aloadN X.here hx rfl (hb hby d5_20) rfl rfl k₀
          show Owes _ _ _ _ (T1.setTop (mkF m 21 #[.val (.ref r0), .val (.int p1), .val (.int tI), .val (.int kI)] [(.ref r0), (.int kI)]))
          obtain ⟨T47, X47, e47, st47⟩ := getF X hx hZ hown (host := "") (Or.inl (hw _ (List.mem_of_getElem? (i := 21) rfl))) Via.refl eT F.2.2.2.1 (g := (mkF m 21 #[.val (.ref r0), .val (.int p1), .val (.int tI), .val (.int kI)] [(.ref r0), (.int kI)])) rfl rfl (hb hby d5_21)
          refine Owes.go ?_ st47
          show Owes _ _ _ _ (T47.setTop (mkF m 24 #[.val (.ref r0), .val (.int p1), .val (.int tI), .val (.int kI)] [(.ref jf), (.int kI)]))
          refine Owes.go ?_ fun t₀ k₀ => XS.iloadN X47.here hx rfl (hb hby d5_24) rfl k₀
          show Owes _ _ _ _ (T47.setTop (mkF m 25 #[.val (.ref r0), .val (.int p1), .val (.int tI), .val (.int kI)] [(.int tI), (.ref jf), (.int kI)]))
          refine Owes.go ?_ fun t₀ k₀ => XS.iconst X47.here hx rfl (hb hby d5_25) k₀
          show Owes _ _ _ _ (T47.setTop (mkF m 26 #[.val (.ref r0), .val (.int p1), .val (.int tI), .val (.int kI)] [(.int (1 : Int32)), (.int tI), (.ref jf), (.int kI)]))
          refine Owes.go ?_ fun t₀ k₀ => XS.iadd X47.here hx rfl (hb hby d5_26) rfl k₀
          show Owes _ _ _ _ (T47.setTop (mkF m 27 #[.val (.ref r0), .val (.int p1), .val (.int tI), .val (.int kI)] [(.int (tI + (1 : Int32))), (.ref jf), (.int kI)]))
          refine Owes.gI X47 hx hZ e47 F.2.2.2.2.2.2.2.2.2.1 (own_inc htI (by omega)) (show t + 1 < n + 1 by omega) (v := .int (JF (t + 1))) rfl (hb hby d5_27) ?_
          show Owes _ _ _ _ (T47.setTop (mkF m 28 #[.val (.ref r0), .val (.int p1), .val (.int tI), .val (.int kI)] [(.int (JF (t + 1))), (.int kI)]))
          refine Owes.go ?_ fun t₀ k₀ => XS.icmpNo X47.here hx rfl (hb hby d5_28) rfl (tlt (own_lti hkI (B1 (t + 1) (by omega)) (by omega))).2.1 k₀
          show Owes _ _ _ _ (T47.setTop (mkF m 31 #[.val (.ref r0), .val (.int p1), .val (.int tI), .val (.int kI)] []))
          refine Owes.go ?_ fun t₀ k₀ => XS.aloadN X47.here hx rfl (hb hby d5_31) rfl rfl k₀
          show Owes _ _ _ _ (T47.setTop (mkF m 32 #[.val (.ref r0), .val (.int p1), .val (.int tI), .val (.int kI)] [(.ref r0)]))
          obtain ⟨T48, X48, e48, st48⟩ := getF X47 hx hZ hown (host := "") (Or.inl (hw _ (List.mem_of_getElem? (i := 19) rfl))) Via.refl e47 F.2.2.1 (g := (mkF m 32 #[.val (.ref r0), .val (.int p1), .val (.int tI), .val (.int kI)] [(.ref r0)])) rfl rfl (hb hby d5_32)
          refine Owes.go ?_ st48
          show Owes _ _ _ _ (T48.setTop (mkF m 35 #[.val (.ref r0), .val (.int p1), .val (.int tI), .val (.int kI)] [(.ref tr)]))
          refine Owes.go ?_ fun t₀ k₀ => XS.aloadN X48.here hx rfl (hb hby d5_35) rfl rfl k₀
          show Owes _ _ _ _ (T48.setTop (mkF m 36 #[.val (.ref r0), .val (.int p1), .val (.int tI), .val (.int kI)] [(.ref r0), (.ref tr)]))
          obtain ⟨T49, X49, e49, st49⟩ := getF X48 hx hZ hown (host := "") (Or.inl (hw _ (List.mem_of_getElem? (i := 25) rfl))) Via.refl e48 F.2.2.2.2.1 (g := (mkF m 36 #[.val (.ref r0), .val (.int p1), .val (.int tI), .val (.int kI)] [(.ref r0), (.ref tr)])) rfl rfl (hb hby d5_36)
          refine Owes.go ?_ st49
          show Owes _ _ _ _ (T49.setTop (mkF m 39 #[.val (.ref r0), .val (.int p1), .val (.int tI), .val (.int kI)] [(.ref jo), (.ref tr)]))
          refine Owes.go ?_ fun t₀ k₀ => XS.iloadN X49.here hx rfl (hb hby d5_39) rfl k₀
          show Owes _ _ _ _ (T49.setTop (mkF m 40 #[.val (.ref r0), .val (.int p1), .val (.int tI), .val (.int kI)] [(.int kI), (.ref jo), (.ref tr)]))
          refine Owes.gI X49 hx hZ e49 F.2.2.2.2.2.2.2.2.2.2.1 hkI hkg (v := .int (G k)) rfl (hb hby d5_40) ?_
          show Owes _ _ _ _ (T49.setTop (mkF m 41 #[.val (.ref r0), .val (.int p1), .val (.int tI), .val (.int kI)] [(.int (G k)), (.ref tr)]))
          refine Owes.go ?_ fun t₀ k₀ => XS.bipush X49.here hx rfl (hb hby d5_41) k₀
          show Owes _ _ _ _ (T49.setTop (mkF m 43 #[.val (.ref r0), .val (.int p1), .val (.int tI), .val (.int kI)] [(.int (6 : Int32)), (.int (G k)), (.ref tr)]))
          refine Owes.go ?_ fun t₀ k₀ => XS.iushr X49.here hx rfl (hb hby d5_43) rfl k₀
          show Owes _ _ _ _ (T49.setTop (mkF m 44 #[.val (.ref r0), .val (.int p1), .val (.int tI), .val (.int kI)] [(.int (((G k).toUInt32 >>> ((6 : Int32) &&& 31).toUInt32).toInt32)), (.ref tr)]))
          refine Owes.go ?_ fun t₀ k₀ => Jvm.Free.XT.dup2 X49.here hx rfl (hb hby d5_44) rfl rfl rfl k₀
          show Owes _ _ _ _ (T49.setTop (mkF m 45 #[.val (.ref r0), .val (.int p1), .val (.int tI), .val (.int kI)] [(.int (((G k).toUInt32 >>> ((6 : Int32) &&& 31).toUInt32).toInt32)), (.ref tr), (.int (((G k).toUInt32 >>> ((6 : Int32) &&& 31).toUInt32).toInt32)), (.ref tr)]))
          refine Owes.gJ X49 hx hZ e49 F.2.2.2.2.2.2.2.2.1 (own_sh6 hi_) (show i / 64 < 2 by omega) (v := .long (Tw (i / 64))) rfl (hb hby d5_45) ?_
          show Owes _ _ _ _ (T49.setTop (mkF m 46 #[.val (.ref r0), .val (.int p1), .val (.int tI), .val (.int kI)] [(.long (Tw (i / 64))), (.int (((G k).toUInt32 >>> ((6 : Int32) &&& 31).toUInt32).toInt32)), (.ref tr)]))
          refine Owes.go ?_ fun t₀ k₀ => XS.lconst X49.here hx rfl (hb hby d5_46) k₀
          show Owes _ _ _ _ (T49.setTop (mkF m 47 #[.val (.ref r0), .val (.int p1), .val (.int tI), .val (.int kI)] [(.long (1 : Int64)), (.long (Tw (i / 64))), (.int (((G k).toUInt32 >>> ((6 : Int32) &&& 31).toUInt32).toInt32)), (.ref tr)]))
          refine Owes.go ?_ fun t₀ k₀ => XS.aloadN X49.here hx rfl (hb hby d5_47) rfl rfl k₀
          show Owes _ _ _ _ (T49.setTop (mkF m 48 #[.val (.ref r0), .val (.int p1), .val (.int tI), .val (.int kI)] [(.ref r0), (.long (1 : Int64)), (.long (Tw (i / 64))), (.int (((G k).toUInt32 >>> ((6 : Int32) &&& 31).toUInt32).toInt32)), (.ref tr)]))
          obtain ⟨T50, X50, e50, st50⟩ := getF X49 hx hZ hown (host := "") (Or.inl (hw _ (List.mem_of_getElem? (i := 25) rfl))) Via.refl e49 F.2.2.2.2.1 (g := (mkF m 48 #[.val (.ref r0), .val (.int p1), .val (.int tI), .val (.int kI)] [(.ref r0), (.long (1 : Int64)), (.long (Tw (i / 64))), (.int (((G k).toUInt32 >>> ((6 : Int32) &&& 31).toUInt32).toInt32)), (.ref tr)])) rfl rfl (hb hby d5_48)
          refine Owes.go ?_ st50
          show Owes _ _ _ _ (T50.setTop (mkF m 51 #[.val (.ref r0), .val (.int p1), .val (.int tI), .val (.int kI)] [(.ref jo), (.long (1 : Int64)), (.long (Tw (i / 64))), (.int (((G k).toUInt32 >>> ((6 : Int32) &&& 31).toUInt32).toInt32)), (.ref tr)]))
          refine Owes.go ?_ fun t₀ k₀ => XS.iloadN X50.here hx rfl (hb hby d5_51) rfl k₀
          show Owes _ _ _ _ (T50.setTop (mkF m 52 #[.val (.ref r0), .val (.int p1), .val (.int tI), .val (.int kI)] [(.int kI), (.ref jo), (.long (1 : Int64)), (.long (Tw (i / 64))), (.int (((G k).toUInt32 >>> ((6 : Int32) &&& 31).toUInt32).toInt32)), (.ref tr)]))
          refine Owes.gI X50 hx hZ e50 F.2.2.2.2.2.2.2.2.2.2.1 hkI hkg (v := .int (G k)) rfl (hb hby d5_52) ?_
          show Owes _ _ _ _ (T50.setTop (mkF m 53 #[.val (.ref r0), .val (.int p1), .val (.int tI), .val (.int kI)] [(.int (G k)), (.long (1 : Int64)), (.long (Tw (i / 64))), (.int (((G k).toUInt32 >>> ((6 : Int32) &&& 31).toUInt32).toInt32)), (.ref tr)]))
          refine Owes.go ?_ fun t₀ k₀ => XS.lshl X50.here hx rfl (hb hby d5_53) rfl k₀
          show Owes _ _ _ _ (T50.setTop (mkF m 54 #[.val (.ref r0), .val (.int p1), .val (.int tI), .val (.int kI)] [(.long ((1 : Int64) <<< ((G k) &&& 0x3f).toInt64)), (.long (Tw (i / 64))), (.int (((G k).toUInt32 >>> ((6 : Int32) &&& 31).toUInt32).toInt32)), (.ref tr)]))
          refine Owes.go ?_ fun t₀ k₀ => XS.lor X50.here hx rfl (hb hby d5_54) rfl k₀
          show Owes _ _ _ _ (T50.setTop (mkF m 55 #[.val (.ref r0), .val (.int p1), .val (.int tI), .val (.int kI)] [(.long ((Tw (i / 64)) ||| ((1 : Int64) <<< ((G k) &&& 0x3f).toInt64))), (.int (((G k).toUInt32 >>> ((6 : Int32) &&& 31).toUInt32).toInt32)), (.ref tr)]))
          refine Owes.sJ X50 hx hZ e50 F.2.2.2.2.2.2.2.2.1 (own_sh6 hi_) (show i / 64 < 2 by omega) (hb hby d5_55) ?_
          intro T51 h51 X51 e51 W51 G51
          have F51 := F.keepT wi (Keep.of_wr W51) G51.setJ
          have N51 := Fr.snoc X51 N gtr
          have K51 := K.wr W51 (Or.inl (List.mem_singleton.mpr rfl))
          show Owes _ _ _ _ (T51.setTop (mkF m 56 #[.val (.ref r0), .val (.int p1), .val (.int tI), .val (.int kI)] []))
          refine Owes.go ?_ fun t₀ k₀ => XS.iinc X51.here hx rfl (hb hby d5_56) rfl (l' := #[.val (.ref r0), .val (.int p1), .val (.int tI), .val (.int (kI + (1 : Int32)))]) rfl k₀
          show Owes _ _ _ _ (T51.setTop (mkF m 59 #[.val (.ref r0), .val (.int p1), .val (.int tI), .val (.int (kI + (1 : Int32)))] []))
          refine Owes.go ?_ fun t₀ k₀ => XS.goto X51.here hx rfl (pc0 := 59) (pc' := 19) rfl (hb hby d5_59) (by decide) (by decide) k₀
          show Owes _ _ _ _ (T51.setTop (mkF m 19 #[.val (.ref r0), .val (.int p1), .val (.int tI), .val (.int (kI + (1 : Int32)))] []))
          exact ihJ (k + 1) (by omega) (by omega) _ _ _ _ _ X51 e51 N51 K51 F51 (fun j hj => own_bset (bitOf_set Tw (G k) i hi_ j) (HB j hj) hi_ hk1) (own_inc hkI (by omega))
      refine Owes.go ?_ fun t₀ k₀ => XS.iloadN X.here hx rfl (hb hby d5_7) rfl k₀
      show Owes _ _ _ _ (T1.setTop (mkF m 8 #[.val (.ref r0), .val (.int p1), .val (.int tI), s3] [(.int tI)]))
      refine Owes.go ?_ fun t₀ k₀ => XS.iloadN X.here hx rfl (hb hby d5_8) rfl k₀
      show Owes _ _ _ _ (T1.setTop (mkF m 9 #[.val (.ref r0), .val (.int p1), .val (.int tI), s3] [(.int p1), (.int tI)]))
      refine Owes.go ?_ fun t₀ k₀ => XS.icmpNo X.here hx rfl (hb hby d5_9) rfl (flt (own_nlti hp htI (by omega))).2.2.1 k₀
      show Owes _ _ _ _ (T1.setTop (mkF m 12 #[.val (.ref r0), .val (.int p1), .val (.int tI), s3] []))
      refine Owes.go ?_ fun t₀ k₀ => XS.aloadN X.here hx rfl (hb hby d5_12) rfl rfl k₀
      show Owes _ _ _ _ (T1.setTop (mkF m 13 #[.val (.ref r0), .val (.int p1), .val (.int tI), s3] [(.ref r0)]))
      obtain ⟨T52, X52, e52, st52⟩ := getF X hx hZ hown (host := "") (Or.inl (hw _ (List.mem_of_getElem? (i := 21) rfl))) Via.refl eT F.2.2.2.1 (g := (mkF m 13 #[.val (.ref r0), .val (.int p1), .val (.int tI), s3] [(.ref r0)])) rfl rfl (hb hby d5_13)
      refine Owes.go ?_ st52
      show Owes _ _ _ _ (T52.setTop (mkF m 16 #[.val (.ref r0), .val (.int p1), .val (.int tI), s3] [(.ref jf)]))
      refine Owes.go ?_ fun t₀ k₀ => XS.iloadN X52.here hx rfl (hb hby d5_16) rfl k₀
      show Owes _ _ _ _ (T52.setTop (mkF m 17 #[.val (.ref r0), .val (.int p1), .val (.int tI), s3] [(.int tI), (.ref jf)]))
      refine Owes.gI X52 hx hZ e52 F.2.2.2.2.2.2.2.2.2.1 htI (show t < n + 1 by omega) (v := .int (JF t)) rfl (hb hby d5_17) ?_
      show Owes _ _ _ _ (T52.setTop (mkF m 18 #[.val (.ref r0), .val (.int p1), .val (.int tI), s3] [(.int (JF t))]))
      refine Owes.go ?_ fun t₀ k₀ => XS.istoreN X52.here hx rfl (hb hby d5_18) rfl (l' := #[.val (.ref r0), .val (.int p1), .val (.int tI), .val (.int (JF t))]) (XS.store1 rfl o3 rfl) k₀
      show Owes _ _ _ _ (T52.setTop (mkF m 19 #[.val (.ref r0), .val (.int p1), .val (.int tI), .val (.int (JF t))] []))
      refine lpJ (pre kj 65 (t + 1) - pre kj 65 t) (pre kj 65 t) (by have := pre_mono kj 65 (show t ≤ t + 1 by omega); omega) (Nat.le_refl _) _ _ _ _ _ X52 e52 N K F (fun i hi => ?_) (B1 t (by omega))
      have h3 : ¬ ∃ q, pre kj 65 t ≤ q ∧ q < pre kj 65 t ∧ (G q).toInt = (i : Int) := fun ⟨q, q1, q2, _⟩ => by omega
      rw [HBt i hi]
      simp only [h3, or_false]
  exact outer (pp + 1 - t0) t0 (by omega) _ _ _ _ _ _ One.u X37 e37 (Fr.nil n0) (Keep.refl h0 _) F0 HB0 (own_rc hrc (by omega))
theorem own_addt {x t : Int32} {a b : Nat} (hx : x.toInt = (a : Int)) (ht : t.toInt = (b : Int)) (h : a + b < 2147483648) : (x + t).toInt = ((a + b : Nat) : Int) := by
  have h1 := c_iadd x t
  have r := rng32 (x + t)
  omega
theorem own_kJ0 {O Fa Sl : Nat → Int32} {P q n : Nat} (hq : (O P).toInt = (q : Int)) (h : Sl q < Fa q) : kJ O Fa Sl P = 1000 ∧ kL O Fa Sl n P = 1000 := by
  have e : (O P).toInt.toNat = q := by omega
  rw [Int32.lt_iff_toInt_lt] at h
  unfold kJ kL
  rw [e, if_pos h, if_pos h]; exact ⟨rfl, rfl⟩
theorem own_kJ1 {O Fa Sl : Nat → Int32} {P q f : Nat} (hq : (O P).toInt = (q : Int)) (h : ¬ Sl q < Fa q) (hf : (Fa q).toInt = (f : Int)) : kJ O Fa Sl P = f := by
  have e : (O P).toInt.toNat = q := by omega
  rw [Int32.lt_iff_toInt_lt] at h
  unfold kJ
  rw [e, if_neg h]; omega
theorem own_kL1 {O Fa Sl : Nat → Int32} {P q u n : Nat} (hq : (O P).toInt = (q : Int)) (h : ¬ Sl q < Fa q) (hu : (Sl q).toInt = (u : Int)) (hn : u + 1 < n) : kL O Fa Sl n P = u + 1 := by
  have e : (O P).toInt.toNat = q := by omega
  rw [Int32.lt_iff_toInt_lt] at h
  unfold kL
  rw [e, if_neg h, if_pos (by omega)]; omega
theorem own_kL0 {O Fa Sl : Nat → Int32} {P q u n : Nat} (hq : (O P).toInt = (q : Int)) (h : ¬ Sl q < Fa q) (hu : (Sl q).toInt = (u : Int)) (hn : ¬ u + 1 < n) : kL O Fa Sl n P = 1000 := by
  have e : (O P).toInt.toNat = q := by omega
  rw [Int32.lt_iff_toInt_lt] at h
  unfold kL
  rw [e, if_neg h, if_neg (by omega)]
theorem own_ltn {x y : Int32} {a b : Nat} (hx : x.toInt = (a : Int)) (hy : y.toInt = (b : Int)) (h : x < y) : a < b := by rw [Int32.lt_iff_toInt_lt, hx, hy] at h; omega
theorem own_ltn0 {x y : Int32} {a b : Nat} (hx : x.toInt = (a : Int)) (hy : y.toInt = (b : Int)) (h : ¬ x < y) : ¬ a < b := by rw [Int32.lt_iff_toInt_lt, hx, hy] at h; omega
theorem own_pre0 {key : Nat → Nat} {P T : Nat} {x : Int32} (h : x.toInt = (pre key P T : Int)) (hk : ¬ key P < T) : x.toInt = (pre key (P + 1) T : Int) := by rw [pre_sP, if_neg hk]; exact h
theorem own_pre1 {key : Nat → Nat} {P T : Nat} {x : Int32} (h : x.toInt = (pre key P T : Int)) (hk : key P < T) (hP : P < 65) : (x + (1 : Int32)).toInt = (pre key (P + 1) T : Int) := by
  rw [pre_sP, if_pos hk]
  exact own_inc h (by have := pre_le key P T; omega)
theorem own_lo {a : Nat → Int32} {key : Nat → Nat} {t : Nat} {x : Int32} (h : ∀ u, u < t → (a u).toInt = (pre key 65 u : Int)) (hx : x.toInt = (pre key 65 t : Int)) : ∀ u, u < t + 1 → (upd a t x u).toInt = (pre key 65 u : Int) := fun u hu => by
  by_cases q : u = t
  · rw [q, upd_same]; exact hx
  · rw [upd_ne _ _ q]; exact h u (by omega)
theorem own_hi' {a : Nat → Int32} {key : Nat → Nat} {t n : Nat} {x : Int32} (h : ∀ u, t ≤ u → u ≤ n → (a u).toInt = (cnt key 65 u : Int)) : ∀ u, t + 1 ≤ u → u ≤ n → (upd a t x u).toInt = (cnt key 65 u : Int) := fun u hu hn => by
  rw [upd_ne _ _ (by omega)]; exact h u (by omega) hn
theorem d2_0 : decode prog_143_method_1_code 0 = .ok (.aload_n 0, 1) := by decide +kernel
theorem d2_1 : decode prog_143_method_1_code 1 = .ok (.invokespecial 1, 3) := by decide +kernel
theorem d2_4 : decode prog_143_method_1_code 4 = .ok (.aload_n 0, 1) := by decide +kernel
theorem d2_5 : decode prog_143_method_1_code 5 = .ok (.iconst (-1), 1) := by decide +kernel
theorem d2_6 : decode prog_143_method_1_code 6 = .ok (.putfield 7, 3) := by decide +kernel
theorem d2_9 : decode prog_143_method_1_code 9 = .ok (.aload_n 0, 1) := by decide +kernel
theorem d2_10 : decode prog_143_method_1_code 10 = .ok (.aload_n 1, 1) := by decide +kernel
theorem d2_11 : decode prog_143_method_1_code 11 = .ok (.arraylength, 1) := by decide +kernel
theorem d2_12 : decode prog_143_method_1_code 12 = .ok (.putfield 13, 3) := by decide +kernel
theorem d2_15 : decode prog_143_method_1_code 15 = .ok (.aload_n 0, 1) := by decide +kernel
theorem d2_16 : decode prog_143_method_1_code 16 = .ok (.aload_n 0, 1) := by decide +kernel
theorem d2_17 : decode prog_143_method_1_code 17 = .ok (.getfield 13, 3) := by decide +kernel
theorem d2_20 : decode prog_143_method_1_code 20 = .ok (.bipush 64, 2) := by decide +kernel
theorem d2_22 : decode prog_143_method_1_code 22 = .ok (.iadd, 1) := by decide +kernel
theorem d2_23 : decode prog_143_method_1_code 23 = .ok (.iconst 1, 1) := by decide +kernel
theorem d2_24 : decode prog_143_method_1_code 24 = .ok (.isub, 1) := by decide +kernel
theorem d2_25 : decode prog_143_method_1_code 25 = .ok (.bipush 64, 2) := by decide +kernel
theorem d2_27 : decode prog_143_method_1_code 27 = .ok (.idiv, 1) := by decide +kernel
theorem d2_28 : decode prog_143_method_1_code 28 = .ok (.newarray .long, 2) := by decide +kernel
theorem d2_30 : decode prog_143_method_1_code 30 = .ok (.putfield 18, 3) := by decide +kernel
theorem d2_33 : decode prog_143_method_1_code 33 = .ok (.aload_n 0, 1) := by decide +kernel
theorem d2_34 : decode prog_143_method_1_code 34 = .ok (.iload 4, 2) := by decide +kernel
theorem d2_36 : decode prog_143_method_1_code 36 = .ok (.iconst 1, 1) := by decide +kernel
theorem d2_37 : decode prog_143_method_1_code 37 = .ok (.iadd, 1) := by decide +kernel
theorem d2_38 : decode prog_143_method_1_code 38 = .ok (.newarray .int, 2) := by decide +kernel
theorem d2_40 : decode prog_143_method_1_code 40 = .ok (.putfield 22, 3) := by decide +kernel
theorem d2_43 : decode prog_143_method_1_code 43 = .ok (.aload_n 0, 1) := by decide +kernel
theorem d2_44 : decode prog_143_method_1_code 44 = .ok (.iload 4, 2) := by decide +kernel
theorem d2_46 : decode prog_143_method_1_code 46 = .ok (.iconst 1, 1) := by decide +kernel
theorem d2_47 : decode prog_143_method_1_code 47 = .ok (.iadd, 1) := by decide +kernel
theorem d2_48 : decode prog_143_method_1_code 48 = .ok (.newarray .int, 2) := by decide +kernel
theorem d2_50 : decode prog_143_method_1_code 50 = .ok (.putfield 26, 3) := by decide +kernel
theorem d2_53 : decode prog_143_method_1_code 53 = .ok (.iconst 0, 1) := by decide +kernel
theorem d2_54 : decode prog_143_method_1_code 54 = .ok (.istore 5, 2) := by decide +kernel
theorem d2_56 : decode prog_143_method_1_code 56 = .ok (.aload_n 1, 1) := by decide +kernel
theorem d2_57 : decode prog_143_method_1_code 57 = .ok (.astore 6, 2) := by decide +kernel
theorem d2_59 : decode prog_143_method_1_code 59 = .ok (.aload 6, 2) := by decide +kernel
theorem d2_61 : decode prog_143_method_1_code 61 = .ok (.arraylength, 1) := by decide +kernel
theorem d2_62 : decode prog_143_method_1_code 62 = .ok (.istore 7, 2) := by decide +kernel
theorem d2_64 : decode prog_143_method_1_code 64 = .ok (.iconst 0, 1) := by decide +kernel
theorem d2_65 : decode prog_143_method_1_code 65 = .ok (.istore 8, 2) := by decide +kernel
theorem d2_149 : decode prog_143_method_1_code 149 = .ok (.iload 8, 2) := by decide +kernel
theorem d2_151 : decode prog_143_method_1_code 151 = .ok (.iload 4, 2) := by decide +kernel
theorem d2_153 : decode prog_143_method_1_code 153 = .ok (.if_icmp .gt 59, 3) := by decide +kernel
theorem d2_212 : decode prog_143_method_1_code 212 = .ok (.aload_n 0, 1) := by decide +kernel
theorem d2_213 : decode prog_143_method_1_code 213 = .ok (.iload 5, 2) := by decide +kernel
theorem d2_215 : decode prog_143_method_1_code 215 = .ok (.newarray .int, 2) := by decide +kernel
theorem d2_217 : decode prog_143_method_1_code 217 = .ok (.putfield 29, 3) := by decide +kernel
theorem d2_220 : decode prog_143_method_1_code 220 = .ok (.aload_n 0, 1) := by decide +kernel
theorem d2_221 : decode prog_143_method_1_code 221 = .ok (.iload 7, 2) := by decide +kernel
theorem d2_223 : decode prog_143_method_1_code 223 = .ok (.newarray .int, 2) := by decide +kernel
theorem d2_225 : decode prog_143_method_1_code 225 = .ok (.putfield 32, 3) := by decide +kernel
theorem d2_228 : decode prog_143_method_1_code 228 = .ok (.aload_n 0, 1) := by decide +kernel
theorem d2_229 : decode prog_143_method_1_code 229 = .ok (.getfield 22, 3) := by decide +kernel
theorem d2_232 : decode prog_143_method_1_code 232 = .ok (.invokevirtual 35, 3) := by decide +kernel
theorem d2_235 : decode prog_143_method_1_code 235 = .ok (.checkcast 36, 3) := by decide +kernel
theorem d2_238 : decode prog_143_method_1_code 238 = .ok (.astore 8, 2) := by decide +kernel
theorem d2_240 : decode prog_143_method_1_code 240 = .ok (.aload_n 0, 1) := by decide +kernel
theorem d2_241 : decode prog_143_method_1_code 241 = .ok (.getfield 26, 3) := by decide +kernel
theorem d2_244 : decode prog_143_method_1_code 244 = .ok (.invokevirtual 35, 3) := by decide +kernel
theorem d2_247 : decode prog_143_method_1_code 247 = .ok (.checkcast 36, 3) := by decide +kernel
theorem d2_250 : decode prog_143_method_1_code 250 = .ok (.astore 9, 2) := by decide +kernel
theorem d2_252 : decode prog_143_method_1_code 252 = .ok (.iconst 0, 1) := by decide +kernel
theorem d2_253 : decode prog_143_method_1_code 253 = .ok (.istore 10, 2) := by decide +kernel
theorem d2_255 : decode prog_143_method_1_code 255 = .ok (.iload 10, 2) := by decide +kernel
theorem d2_257 : decode prog_143_method_1_code 257 = .ok (.aload_n 0, 1) := by decide +kernel
theorem d2_258 : decode prog_143_method_1_code 258 = .ok (.getfield 13, 3) := by decide +kernel
theorem d2_261 : decode prog_143_method_1_code 261 = .ok (.if_icmp .ge 77, 3) := by decide +kernel
theorem d2_338 : decode prog_143_method_1_code 338 = .ok (.return_, 1) := by decide +kernel
theorem d2_264 : decode prog_143_method_1_code 264 = .ok (.aload_n 1, 1) := by decide +kernel
theorem d2_265 : decode prog_143_method_1_code 265 = .ok (.iload 10, 2) := by decide +kernel
theorem d2_267 : decode prog_143_method_1_code 267 = .ok (.iaload, 1) := by decide +kernel
theorem d2_268 : decode prog_143_method_1_code 268 = .ok (.istore 11, 2) := by decide +kernel
theorem d2_270 : decode prog_143_method_1_code 270 = .ok (.aload_n 3, 1) := by decide +kernel
theorem d2_271 : decode prog_143_method_1_code 271 = .ok (.iload 11, 2) := by decide +kernel
theorem d2_273 : decode prog_143_method_1_code 273 = .ok (.iaload, 1) := by decide +kernel
theorem d2_274 : decode prog_143_method_1_code 274 = .ok (.aload_n 2, 1) := by decide +kernel
theorem d2_275 : decode prog_143_method_1_code 275 = .ok (.iload 11, 2) := by decide +kernel
theorem d2_277 : decode prog_143_method_1_code 277 = .ok (.iaload, 1) := by decide +kernel
theorem d2_278 : decode prog_143_method_1_code 278 = .ok (.if_icmp .lt 54, 3) := by decide +kernel
theorem d2_332 : decode prog_143_method_1_code 332 = .ok (.iinc 10 1, 3) := by decide +kernel
theorem d2_335 : decode prog_143_method_1_code 335 = .ok (.goto (-80), 3) := by decide +kernel
theorem d2_281 : decode prog_143_method_1_code 281 = .ok (.aload_n 0, 1) := by decide +kernel
theorem d2_282 : decode prog_143_method_1_code 282 = .ok (.getfield 29, 3) := by decide +kernel
theorem d2_285 : decode prog_143_method_1_code 285 = .ok (.aload 8, 2) := by decide +kernel
theorem d2_287 : decode prog_143_method_1_code 287 = .ok (.aload_n 2, 1) := by decide +kernel
theorem d2_288 : decode prog_143_method_1_code 288 = .ok (.iload 11, 2) := by decide +kernel
theorem d2_290 : decode prog_143_method_1_code 290 = .ok (.iaload, 1) := by decide +kernel
theorem d2_291 : decode prog_143_method_1_code 291 = .ok (.dup2, 1) := by decide +kernel
theorem d2_292 : decode prog_143_method_1_code 292 = .ok (.iaload, 1) := by decide +kernel
theorem d2_293 : decode prog_143_method_1_code 293 = .ok (.dup_x2, 1) := by decide +kernel
theorem d2_294 : decode prog_143_method_1_code 294 = .ok (.iconst 1, 1) := by decide +kernel
theorem d2_295 : decode prog_143_method_1_code 295 = .ok (.iadd, 1) := by decide +kernel
theorem d2_296 : decode prog_143_method_1_code 296 = .ok (.iastore, 1) := by decide +kernel
theorem d2_297 : decode prog_143_method_1_code 297 = .ok (.iload 10, 2) := by decide +kernel
theorem d2_299 : decode prog_143_method_1_code 299 = .ok (.iastore, 1) := by decide +kernel
theorem d2_300 : decode prog_143_method_1_code 300 = .ok (.aload_n 3, 1) := by decide +kernel
theorem d2_301 : decode prog_143_method_1_code 301 = .ok (.iload 11, 2) := by decide +kernel
theorem d2_303 : decode prog_143_method_1_code 303 = .ok (.iaload, 1) := by decide +kernel
theorem d2_304 : decode prog_143_method_1_code 304 = .ok (.iconst 1, 1) := by decide +kernel
theorem d2_305 : decode prog_143_method_1_code 305 = .ok (.iadd, 1) := by decide +kernel
theorem d2_306 : decode prog_143_method_1_code 306 = .ok (.iload 4, 2) := by decide +kernel
theorem d2_308 : decode prog_143_method_1_code 308 = .ok (.if_icmp .ge 24, 3) := by decide +kernel
theorem d2_311 : decode prog_143_method_1_code 311 = .ok (.aload_n 0, 1) := by decide +kernel
theorem d2_312 : decode prog_143_method_1_code 312 = .ok (.getfield 32, 3) := by decide +kernel
theorem d2_315 : decode prog_143_method_1_code 315 = .ok (.aload 9, 2) := by decide +kernel
theorem d2_317 : decode prog_143_method_1_code 317 = .ok (.aload_n 3, 1) := by decide +kernel
theorem d2_318 : decode prog_143_method_1_code 318 = .ok (.iload 11, 2) := by decide +kernel
theorem d2_320 : decode prog_143_method_1_code 320 = .ok (.iaload, 1) := by decide +kernel
theorem d2_321 : decode prog_143_method_1_code 321 = .ok (.iconst 1, 1) := by decide +kernel
theorem d2_322 : decode prog_143_method_1_code 322 = .ok (.iadd, 1) := by decide +kernel
theorem d2_323 : decode prog_143_method_1_code 323 = .ok (.dup2, 1) := by decide +kernel
theorem d2_324 : decode prog_143_method_1_code 324 = .ok (.iaload, 1) := by decide +kernel
theorem d2_325 : decode prog_143_method_1_code 325 = .ok (.dup_x2, 1) := by decide +kernel
theorem d2_326 : decode prog_143_method_1_code 326 = .ok (.iconst 1, 1) := by decide +kernel
theorem d2_327 : decode prog_143_method_1_code 327 = .ok (.iadd, 1) := by decide +kernel
theorem d2_328 : decode prog_143_method_1_code 328 = .ok (.iastore, 1) := by decide +kernel
theorem d2_329 : decode prog_143_method_1_code 329 = .ok (.iload 10, 2) := by decide +kernel
theorem d2_331 : decode prog_143_method_1_code 331 = .ok (.iastore, 1) := by decide +kernel
theorem d2_156 : decode prog_143_method_1_code 156 = .ok (.aload_n 0, 1) := by decide +kernel
theorem d2_157 : decode prog_143_method_1_code 157 = .ok (.getfield 22, 3) := by decide +kernel
theorem d2_160 : decode prog_143_method_1_code 160 = .ok (.iload 8, 2) := by decide +kernel
theorem d2_162 : decode prog_143_method_1_code 162 = .ok (.iaload, 1) := by decide +kernel
theorem d2_163 : decode prog_143_method_1_code 163 = .ok (.istore 9, 2) := by decide +kernel
theorem d2_165 : decode prog_143_method_1_code 165 = .ok (.aload_n 0, 1) := by decide +kernel
theorem d2_166 : decode prog_143_method_1_code 166 = .ok (.getfield 26, 3) := by decide +kernel
theorem d2_169 : decode prog_143_method_1_code 169 = .ok (.iload 8, 2) := by decide +kernel
theorem d2_171 : decode prog_143_method_1_code 171 = .ok (.iaload, 1) := by decide +kernel
theorem d2_172 : decode prog_143_method_1_code 172 = .ok (.istore 10, 2) := by decide +kernel
theorem d2_174 : decode prog_143_method_1_code 174 = .ok (.aload_n 0, 1) := by decide +kernel
theorem d2_175 : decode prog_143_method_1_code 175 = .ok (.getfield 22, 3) := by decide +kernel
theorem d2_178 : decode prog_143_method_1_code 178 = .ok (.iload 8, 2) := by decide +kernel
theorem d2_180 : decode prog_143_method_1_code 180 = .ok (.iload 6, 2) := by decide +kernel
theorem d2_182 : decode prog_143_method_1_code 182 = .ok (.iastore, 1) := by decide +kernel
theorem d2_183 : decode prog_143_method_1_code 183 = .ok (.aload_n 0, 1) := by decide +kernel
theorem d2_184 : decode prog_143_method_1_code 184 = .ok (.getfield 26, 3) := by decide +kernel
theorem d2_187 : decode prog_143_method_1_code 187 = .ok (.iload 8, 2) := by decide +kernel
theorem d2_189 : decode prog_143_method_1_code 189 = .ok (.iload 7, 2) := by decide +kernel
theorem d2_191 : decode prog_143_method_1_code 191 = .ok (.iastore, 1) := by decide +kernel
theorem d2_192 : decode prog_143_method_1_code 192 = .ok (.iload 6, 2) := by decide +kernel
theorem d2_194 : decode prog_143_method_1_code 194 = .ok (.iload 9, 2) := by decide +kernel
theorem d2_196 : decode prog_143_method_1_code 196 = .ok (.iadd, 1) := by decide +kernel
theorem d2_197 : decode prog_143_method_1_code 197 = .ok (.istore 6, 2) := by decide +kernel
theorem d2_199 : decode prog_143_method_1_code 199 = .ok (.iload 7, 2) := by decide +kernel
theorem d2_201 : decode prog_143_method_1_code 201 = .ok (.iload 10, 2) := by decide +kernel
theorem d2_203 : decode prog_143_method_1_code 203 = .ok (.iadd, 1) := by decide +kernel
theorem d2_204 : decode prog_143_method_1_code 204 = .ok (.istore 7, 2) := by decide +kernel
theorem d2_206 : decode prog_143_method_1_code 206 = .ok (.iinc 8 1, 3) := by decide +kernel
theorem d2_209 : decode prog_143_method_1_code 209 = .ok (.goto (-60), 3) := by decide +kernel
theorem d2_67 : decode prog_143_method_1_code 67 = .ok (.iload 8, 2) := by decide +kernel
theorem d2_69 : decode prog_143_method_1_code 69 = .ok (.iload 7, 2) := by decide +kernel
theorem d2_71 : decode prog_143_method_1_code 71 = .ok (.if_icmp .ge 69, 3) := by decide +kernel
theorem d2_140 : decode prog_143_method_1_code 140 = .ok (.iconst 0, 1) := by decide +kernel
theorem d2_141 : decode prog_143_method_1_code 141 = .ok (.istore 6, 2) := by decide +kernel
theorem d2_143 : decode prog_143_method_1_code 143 = .ok (.iconst 0, 1) := by decide +kernel
theorem d2_144 : decode prog_143_method_1_code 144 = .ok (.istore 7, 2) := by decide +kernel
theorem d2_146 : decode prog_143_method_1_code 146 = .ok (.iconst 0, 1) := by decide +kernel
theorem d2_147 : decode prog_143_method_1_code 147 = .ok (.istore 8, 2) := by decide +kernel
theorem d2_74 : decode prog_143_method_1_code 74 = .ok (.aload 6, 2) := by decide +kernel
theorem d2_76 : decode prog_143_method_1_code 76 = .ok (.iload 8, 2) := by decide +kernel
theorem d2_78 : decode prog_143_method_1_code 78 = .ok (.iaload, 1) := by decide +kernel
theorem d2_79 : decode prog_143_method_1_code 79 = .ok (.istore 9, 2) := by decide +kernel
theorem d2_81 : decode prog_143_method_1_code 81 = .ok (.aload_n 3, 1) := by decide +kernel
theorem d2_82 : decode prog_143_method_1_code 82 = .ok (.iload 9, 2) := by decide +kernel
theorem d2_84 : decode prog_143_method_1_code 84 = .ok (.iaload, 1) := by decide +kernel
theorem d2_85 : decode prog_143_method_1_code 85 = .ok (.aload_n 2, 1) := by decide +kernel
theorem d2_86 : decode prog_143_method_1_code 86 = .ok (.iload 9, 2) := by decide +kernel
theorem d2_88 : decode prog_143_method_1_code 88 = .ok (.iaload, 1) := by decide +kernel
theorem d2_89 : decode prog_143_method_1_code 89 = .ok (.if_icmp .lt 45, 3) := by decide +kernel
theorem d2_134 : decode prog_143_method_1_code 134 = .ok (.iinc 8 1, 3) := by decide +kernel
theorem d2_137 : decode prog_143_method_1_code 137 = .ok (.goto (-70), 3) := by decide +kernel
theorem d2_92 : decode prog_143_method_1_code 92 = .ok (.aload_n 0, 1) := by decide +kernel
theorem d2_93 : decode prog_143_method_1_code 93 = .ok (.getfield 22, 3) := by decide +kernel
theorem d2_96 : decode prog_143_method_1_code 96 = .ok (.aload_n 2, 1) := by decide +kernel
theorem d2_97 : decode prog_143_method_1_code 97 = .ok (.iload 9, 2) := by decide +kernel
theorem d2_99 : decode prog_143_method_1_code 99 = .ok (.iaload, 1) := by decide +kernel
theorem d2_100 : decode prog_143_method_1_code 100 = .ok (.dup2, 1) := by decide +kernel
theorem d2_101 : decode prog_143_method_1_code 101 = .ok (.iaload, 1) := by decide +kernel
theorem d2_102 : decode prog_143_method_1_code 102 = .ok (.iconst 1, 1) := by decide +kernel
theorem d2_103 : decode prog_143_method_1_code 103 = .ok (.iadd, 1) := by decide +kernel
theorem d2_104 : decode prog_143_method_1_code 104 = .ok (.iastore, 1) := by decide +kernel
theorem d2_105 : decode prog_143_method_1_code 105 = .ok (.aload_n 3, 1) := by decide +kernel
theorem d2_106 : decode prog_143_method_1_code 106 = .ok (.iload 9, 2) := by decide +kernel
theorem d2_108 : decode prog_143_method_1_code 108 = .ok (.iaload, 1) := by decide +kernel
theorem d2_109 : decode prog_143_method_1_code 109 = .ok (.iconst 1, 1) := by decide +kernel
theorem d2_110 : decode prog_143_method_1_code 110 = .ok (.iadd, 1) := by decide +kernel
theorem d2_111 : decode prog_143_method_1_code 111 = .ok (.iload 4, 2) := by decide +kernel
theorem d2_113 : decode prog_143_method_1_code 113 = .ok (.if_icmp .ge 18, 3) := by decide +kernel
theorem d2_116 : decode prog_143_method_1_code 116 = .ok (.aload_n 0, 1) := by decide +kernel
theorem d2_117 : decode prog_143_method_1_code 117 = .ok (.getfield 26, 3) := by decide +kernel
theorem d2_120 : decode prog_143_method_1_code 120 = .ok (.aload_n 3, 1) := by decide +kernel
theorem d2_121 : decode prog_143_method_1_code 121 = .ok (.iload 9, 2) := by decide +kernel
theorem d2_123 : decode prog_143_method_1_code 123 = .ok (.iaload, 1) := by decide +kernel
theorem d2_124 : decode prog_143_method_1_code 124 = .ok (.iconst 1, 1) := by decide +kernel
theorem d2_125 : decode prog_143_method_1_code 125 = .ok (.iadd, 1) := by decide +kernel
theorem d2_126 : decode prog_143_method_1_code 126 = .ok (.dup2, 1) := by decide +kernel
theorem d2_127 : decode prog_143_method_1_code 127 = .ok (.iaload, 1) := by decide +kernel
theorem d2_128 : decode prog_143_method_1_code 128 = .ok (.iconst 1, 1) := by decide +kernel
theorem d2_129 : decode prog_143_method_1_code 129 = .ok (.iadd, 1) := by decide +kernel
theorem d2_130 : decode prog_143_method_1_code 130 = .ok (.iastore, 1) := by decide +kernel
theorem d2_131 : decode prog_143_method_1_code 131 = .ok (.iinc 5 1, 3) := by decide +kernel
theorem ef_2 (m : MethodId) (r0 : Addr) (ro : Addr) (rf : Addr) (rs : Addr) (p4 : Int32) : entryFrame m #[(.ref r0), (.ref ro), (.ref rf), (.ref rs), (.int p4)] 12 = mkF m 0 #[.val (.ref r0), .val (.ref ro), .val (.ref rf), .val (.ref rs), .val (.int p4), .unset, .unset, .unset, .unset, .unset, .unset, .unset] [] := by first | (simp [entryFrame, mkF, argsToLocals, Value.category]; done) | rfl
theorem pn_2 : plainFor (⟨"com/example/slotwright/slotwright/core/TriedSlots", "<init>", "([I[I[II)V"⟩ : MethodName) = true := plainFor_of_name (by first | (simp [plainName, overriddenIn]; done) | decide +kernel)
set_option maxRecDepth 65536 in
set_option maxHeartbeats 40000000 in
theorem rm_init (l : Launch) (Z : State) (a0 : Array Value) (hw : ∀ d ∈ tables_1, d.before a0 Z = true) (ws : List Jvm.Cond) (r0 : Addr) (ro : Addr) (rf : Addr) (rs : Addr) (p4 : Int32) (h0 : Heap) (n0 : Nat) (Z0 : n0 ≤ h0.size) (g0 : n0 ≤ r0) (E0 : Exa Z h0 r0 "com/example/slotwright/slotwright/core/TriedSlots") (F_size : Fld Z h0 r0 "com/example/slotwright/slotwright/core/TriedSlots" "size" "I" (.int (0 : Int32))) (F_tried : Fld Z h0 r0 "com/example/slotwright/slotwright/core/TriedSlots" "tried" "[J" .null) (F_joiningFrom : Fld Z h0 r0 "com/example/slotwright/slotwright/core/TriedSlots" "joiningFrom" "[I" .null) (F_joining : Fld Z h0 r0 "com/example/slotwright/slotwright/core/TriedSlots" "joining" "[I" .null) (F_leavingFrom : Fld Z h0 r0 "com/example/slotwright/slotwright/core/TriedSlots" "leavingFrom" "[I" .null) (F_leaving : Fld Z h0 r0 "com/example/slotwright/slotwright/core/TriedSlots" "leaving" "[I" .null) (F_reached : Fld Z h0 r0 "com/example/slotwright/slotwright/core/TriedSlots" "reached" "I" (.int (0 : Int32))) (O Fa Sl : Nat → Int32) (GO : GA Z h0 ro .int 65 (fun i => .int (O i))) (GF : GA Z h0 rf .int 65 (fun i => .int (Fa i))) (GS : GA Z h0 rs .int 65 (fun i => .int (Sl i))) (n : Nat) (hO : ∀ i, i < 65 → 0 ≤ (O i).toInt ∧ (O i).toInt < 65) (hF : ∀ i, i < 65 → 0 ≤ (Fa i).toInt ∧ (Fa i).toInt < (n : Int)) (hS : ∀ i, i < 65 → 0 ≤ (Sl i).toInt ∧ (Sl i).toInt < (n : Int)) (hn : p4.toInt = (n : Int)) (hn1 : 1 ≤ n) (hn4 : n ≤ 4) :
    OMet l (⟨"com/example/slotwright/slotwright/core/TriedSlots", "<init>", "([I[I[II)V"⟩ : MethodName) prog_143_method_1_code 12 none ws ({ frames := 1, cells := 7, slots := 160, locals := 30 } : Room) #[(.ref r0), (.ref ro), (.ref rf), (.ref rs), (.int p4)] Z h0 (fun v h L => v = none ∧ Fr n0 L ∧ Keep h0 h [r0] ∧ ∃ (tr jf jo lf le : Addr) (gj gl : Nat) (JF G LF H : Nat → Int32), TSo Z h r0 tr jf jo lf le n gj gl (fun _ => 0) JF G LF H (-1) ∧ n0 ≤ tr ∧ Tab (kJ O Fa Sl) (kL O Fa Sl n) n gj gl JF G LF H) := by
  refine OMet.of pn_2 (fun m => ef_2 m r0 ro rf rs p4) ?_
  intro p e s m below meth c s₁ hx hby hml hown hnm hret hlk hZ X0 e0
  have wi := (hw _ (List.mem_of_getElem? (i := 6) rfl))
  have N0 := Fr.nil n0
  have K00 := Keep.refl h0 [r0]
  have hn' := own_inc hn (by omega)
  refine Owes.go ?_ fun t₀ k₀ => XS.aloadN X0.here hx rfl (hb hby d2_0) rfl rfl k₀
  show Owes _ _ _ _ (s₁.setTop (mkF m 1 #[.val (.ref r0), .val (.ref ro), .val (.ref rf), .val (.ref rs), .val (.int p4), .unset, .unset, .unset, .unset, .unset, .unset, .unset] [(.ref r0)]))
  refine Owes.initO X0 hx hZ hown (hw _ (List.mem_of_getElem? (i := 11) rfl)) (hw _ (List.mem_of_getElem? (i := 12) rfl)) (hw _ (List.mem_of_getElem? (i := 13) rfl)) e0 (by rw [hml]; rfl) (hb hby d2_1) (by decide) (Nat.le_of_ble_eq_true rfl) ?_
  intro T53 X53 e53
  show Owes _ _ _ _ (T53.setTop (mkF m 4 #[.val (.ref r0), .val (.ref ro), .val (.ref rf), .val (.ref rs), .val (.int p4), .unset, .unset, .unset, .unset, .unset, .unset, .unset] []))
  refine Owes.go ?_ fun t₀ k₀ => XS.aloadN X53.here hx rfl (hb hby d2_4) rfl rfl k₀
  show Owes _ _ _ _ (T53.setTop (mkF m 5 #[.val (.ref r0), .val (.ref ro), .val (.ref rf), .val (.ref rs), .val (.int p4), .unset, .unset, .unset, .unset, .unset, .unset, .unset] [(.ref r0)]))
  refine Owes.go ?_ fun t₀ k₀ => XS.iconst X53.here hx rfl (hb hby d2_5) k₀
  show Owes _ _ _ _ (T53.setTop (mkF m 6 #[.val (.ref r0), .val (.ref ro), .val (.ref rf), .val (.ref rs), .val (.int p4), .unset, .unset, .unset, .unset, .unset, .unset, .unset] [(.int (-1 : Int32)), (.ref r0)]))
  refine Owes.putF X53 hx hZ hown (host := "") (Or.inl (hw _ (List.mem_of_getElem? (i := 14) rfl))) Via.refl e53 F_reached E0 (Or.inl (hw _ (List.mem_of_getElem? (i := 15) rfl))) (hw _ (List.mem_of_getElem? (i := 6) rfl)) (ty := .int) (by decide) rfl rfl (hb hby d2_6) ?_
  intro T54 h54 X54 e54 W54
  have N54 := Fr.snoc X54 N0 g0
  have E_r0_54 := Exa.wr W54 E0
  have F_r0_size_54 := Fld.other W54 F_size (Or.inr (slot_ne (Or.inr (hw _ (List.mem_of_getElem? (i := 17) rfl))) (Or.inl (hw _ (List.mem_of_getElem? (i := 15) rfl))) (by decide) (t := .int) (t' := .int) (by decide) (by decide)))
  have F_r0_tried_54 := Fld.other W54 F_tried (Or.inr (slot_ne (Or.inr (hw _ (List.mem_of_getElem? (i := 20) rfl))) (Or.inl (hw _ (List.mem_of_getElem? (i := 15) rfl))) (by decide) (t := (.array .long)) (t' := .int) (by decide) (by decide)))
  have F_r0_joiningFrom_54 := Fld.other W54 F_joiningFrom (Or.inr (slot_ne (Or.inr (hw _ (List.mem_of_getElem? (i := 22) rfl))) (Or.inl (hw _ (List.mem_of_getElem? (i := 15) rfl))) (by decide) (t := (.array .int)) (t' := .int) (by decide) (by decide)))
  have F_r0_joining_54 := Fld.other W54 F_joining (Or.inr (slot_ne (Or.inr (hw _ (List.mem_of_getElem? (i := 26) rfl))) (Or.inl (hw _ (List.mem_of_getElem? (i := 15) rfl))) (by decide) (t := (.array .int)) (t' := .int) (by decide) (by decide)))
  have F_r0_leavingFrom_54 := Fld.other W54 F_leavingFrom (Or.inr (slot_ne (Or.inr (hw _ (List.mem_of_getElem? (i := 24) rfl))) (Or.inl (hw _ (List.mem_of_getElem? (i := 15) rfl))) (by decide) (t := (.array .int)) (t' := .int) (by decide) (by decide)))
  have F_r0_leaving_54 := Fld.other W54 F_leaving (Or.inr (slot_ne (Or.inr (hw _ (List.mem_of_getElem? (i := 28) rfl))) (Or.inl (hw _ (List.mem_of_getElem? (i := 15) rfl))) (by decide) (t := (.array .int)) (t' := .int) (by decide) (by decide)))
  have F_r0_reached_54 := Fld.same W54 F_reached
  have G_ro_54 := GA.other GO W54 (Ne.symm (GA.ne_obj E0 wi GO))
  have G_rf_54 := GA.other GF W54 (Ne.symm (GA.ne_obj E0 wi GF))
  have G_rs_54 := GA.other GS W54 (Ne.symm (GA.ne_obj E0 wi GS))
  have K_54 := K00.wr W54 (Or.inl (List.mem_singleton.mpr rfl))
  show Owes _ _ _ _ (T54.setTop (mkF m 9 #[.val (.ref r0), .val (.ref ro), .val (.ref rf), .val (.ref rs), .val (.int p4), .unset, .unset, .unset, .unset, .unset, .unset, .unset] []))
  refine Owes.go ?_ fun t₀ k₀ => XS.aloadN X54.here hx rfl (hb hby d2_9) rfl rfl k₀
  show Owes _ _ _ _ (T54.setTop (mkF m 10 #[.val (.ref r0), .val (.ref ro), .val (.ref rf), .val (.ref rs), .val (.int p4), .unset, .unset, .unset, .unset, .unset, .unset, .unset] [(.ref r0)]))
  refine Owes.go ?_ fun t₀ k₀ => XS.aloadN X54.here hx rfl (hb hby d2_10) rfl rfl k₀
  show Owes _ _ _ _ (T54.setTop (mkF m 11 #[.val (.ref r0), .val (.ref ro), .val (.ref rf), .val (.ref rs), .val (.int p4), .unset, .unset, .unset, .unset, .unset, .unset, .unset] [(.ref ro), (.ref r0)]))
  refine Owes.glen X54 hx hZ e54 G_ro_54 (z := (65 : Int32)) rfl (hb hby d2_11) ?_
  show Owes _ _ _ _ (T54.setTop (mkF m 12 #[.val (.ref r0), .val (.ref ro), .val (.ref rf), .val (.ref rs), .val (.int p4), .unset, .unset, .unset, .unset, .unset, .unset, .unset] [(.int (65 : Int32)), (.ref r0)]))
  refine Owes.putF X54 hx hZ hown (host := "") (Or.inl (hw _ (List.mem_of_getElem? (i := 16) rfl))) Via.refl e54 F_r0_size_54 E_r0_54 (Or.inr ⟨(hw _ (List.mem_of_getElem? (i := 17) rfl)), rfl, hnm⟩) (hw _ (List.mem_of_getElem? (i := 6) rfl)) (ty := .int) (by decide) rfl rfl (hb hby d2_12) ?_
  intro T55 h55 X55 e55 W55
  have N55 := Fr.snoc X55 N54 g0
  have E_r0_55 := Exa.wr W55 E_r0_54
  have F_r0_size_55 := Fld.same W55 F_r0_size_54
  have F_r0_tried_55 := Fld.other W55 F_r0_tried_54 (Or.inr (slot_ne (Or.inr (hw _ (List.mem_of_getElem? (i := 20) rfl))) (Or.inr (hw _ (List.mem_of_getElem? (i := 17) rfl))) (by decide) (t := (.array .long)) (t' := .int) (by decide) (by decide)))
  have F_r0_joiningFrom_55 := Fld.other W55 F_r0_joiningFrom_54 (Or.inr (slot_ne (Or.inr (hw _ (List.mem_of_getElem? (i := 22) rfl))) (Or.inr (hw _ (List.mem_of_getElem? (i := 17) rfl))) (by decide) (t := (.array .int)) (t' := .int) (by decide) (by decide)))
  have F_r0_joining_55 := Fld.other W55 F_r0_joining_54 (Or.inr (slot_ne (Or.inr (hw _ (List.mem_of_getElem? (i := 26) rfl))) (Or.inr (hw _ (List.mem_of_getElem? (i := 17) rfl))) (by decide) (t := (.array .int)) (t' := .int) (by decide) (by decide)))
  have F_r0_leavingFrom_55 := Fld.other W55 F_r0_leavingFrom_54 (Or.inr (slot_ne (Or.inr (hw _ (List.mem_of_getElem? (i := 24) rfl))) (Or.inr (hw _ (List.mem_of_getElem? (i := 17) rfl))) (by decide) (t := (.array .int)) (t' := .int) (by decide) (by decide)))
  have F_r0_leaving_55 := Fld.other W55 F_r0_leaving_54 (Or.inr (slot_ne (Or.inr (hw _ (List.mem_of_getElem? (i := 28) rfl))) (Or.inr (hw _ (List.mem_of_getElem? (i := 17) rfl))) (by decide) (t := (.array .int)) (t' := .int) (by decide) (by decide)))
  have F_r0_reached_55 := Fld.other W55 F_r0_reached_54 (Or.inr (slot_ne (Or.inl (hw _ (List.mem_of_getElem? (i := 15) rfl))) (Or.inr (hw _ (List.mem_of_getElem? (i := 17) rfl))) (by decide) (t := .int) (t' := .int) (by decide) (by decide)))
  have G_ro_55 := GA.other G_ro_54 W55 (Ne.symm (GA.ne_obj E_r0_54 wi G_ro_54))
  have G_rf_55 := GA.other G_rf_54 W55 (Ne.symm (GA.ne_obj E_r0_54 wi G_rf_54))
  have G_rs_55 := GA.other G_rs_54 W55 (Ne.symm (GA.ne_obj E_r0_54 wi G_rs_54))
  have K_55 := K_54.wr W55 (Or.inl (List.mem_singleton.mpr rfl))
  show Owes _ _ _ _ (T55.setTop (mkF m 15 #[.val (.ref r0), .val (.ref ro), .val (.ref rf), .val (.ref rs), .val (.int p4), .unset, .unset, .unset, .unset, .unset, .unset, .unset] []))
  refine Owes.go ?_ fun t₀ k₀ => XS.aloadN X55.here hx rfl (hb hby d2_15) rfl rfl k₀
  show Owes _ _ _ _ (T55.setTop (mkF m 16 #[.val (.ref r0), .val (.ref ro), .val (.ref rf), .val (.ref rs), .val (.int p4), .unset, .unset, .unset, .unset, .unset, .unset, .unset] [(.ref r0)]))
  refine Owes.go ?_ fun t₀ k₀ => XS.aloadN X55.here hx rfl (hb hby d2_16) rfl rfl k₀
  show Owes _ _ _ _ (T55.setTop (mkF m 17 #[.val (.ref r0), .val (.ref ro), .val (.ref rf), .val (.ref rs), .val (.int p4), .unset, .unset, .unset, .unset, .unset, .unset, .unset] [(.ref r0), (.ref r0)]))
  obtain ⟨T56, X56, e56, st56⟩ := getF X55 hx hZ hown (host := "") (Or.inl (hw _ (List.mem_of_getElem? (i := 16) rfl))) Via.refl e55 F_r0_size_55 (g := (mkF m 17 #[.val (.ref r0), .val (.ref ro), .val (.ref rf), .val (.ref rs), .val (.int p4), .unset, .unset, .unset, .unset, .unset, .unset, .unset] [(.ref r0), (.ref r0)])) rfl rfl (hb hby d2_17)
  refine Owes.go ?_ st56
  show Owes _ _ _ _ (T56.setTop (mkF m 20 #[.val (.ref r0), .val (.ref ro), .val (.ref rf), .val (.ref rs), .val (.int p4), .unset, .unset, .unset, .unset, .unset, .unset, .unset] [(.int (65 : Int32)), (.ref r0)]))
  refine Owes.go ?_ fun t₀ k₀ => XS.bipush X56.here hx rfl (hb hby d2_20) k₀
  show Owes _ _ _ _ (T56.setTop (mkF m 22 #[.val (.ref r0), .val (.ref ro), .val (.ref rf), .val (.ref rs), .val (.int p4), .unset, .unset, .unset, .unset, .unset, .unset, .unset] [(.int (64 : Int32)), (.int (65 : Int32)), (.ref r0)]))
  refine Owes.go ?_ fun t₀ k₀ => XS.iadd X56.here hx rfl (hb hby d2_22) rfl k₀
  show Owes _ _ _ _ (T56.setTop (mkF m 23 #[.val (.ref r0), .val (.ref ro), .val (.ref rf), .val (.ref rs), .val (.int p4), .unset, .unset, .unset, .unset, .unset, .unset, .unset] [(.int ((65 : Int32) + (64 : Int32))), (.ref r0)]))
  refine Owes.go ?_ fun t₀ k₀ => XS.iconst X56.here hx rfl (hb hby d2_23) k₀
  show Owes _ _ _ _ (T56.setTop (mkF m 24 #[.val (.ref r0), .val (.ref ro), .val (.ref rf), .val (.ref rs), .val (.int p4), .unset, .unset, .unset, .unset, .unset, .unset, .unset] [(.int (1 : Int32)), (.int ((65 : Int32) + (64 : Int32))), (.ref r0)]))
  refine Owes.go ?_ fun t₀ k₀ => XS.isub X56.here hx rfl (hb hby d2_24) rfl k₀
  show Owes _ _ _ _ (T56.setTop (mkF m 25 #[.val (.ref r0), .val (.ref ro), .val (.ref rf), .val (.ref rs), .val (.int p4), .unset, .unset, .unset, .unset, .unset, .unset, .unset] [(.int (((65 : Int32) + (64 : Int32)) - (1 : Int32))), (.ref r0)]))
  refine Owes.go ?_ fun t₀ k₀ => XS.bipush X56.here hx rfl (hb hby d2_25) k₀
  show Owes _ _ _ _ (T56.setTop (mkF m 27 #[.val (.ref r0), .val (.ref ro), .val (.ref rf), .val (.ref rs), .val (.int p4), .unset, .unset, .unset, .unset, .unset, .unset, .unset] [(.int (64 : Int32)), (.int (((65 : Int32) + (64 : Int32)) - (1 : Int32))), (.ref r0)]))
  refine Owes.go ?_ fun t₀ k₀ => XS.idiv X56.here hx rfl (hb hby d2_27) rfl (by decide : ¬ ((64 : Int32) = (0 : Int32))) k₀
  show Owes _ _ _ _ (T56.setTop (mkF m 28 #[.val (.ref r0), .val (.ref ro), .val (.ref rf), .val (.ref rs), .val (.int p4), .unset, .unset, .unset, .unset, .unset, .unset, .unset] [(.int ((((65 : Int32) + (64 : Int32)) - (1 : Int32)) / (64 : Int32))), (.ref r0)]))
  refine Owes.newArr X56 hx hZ (aty := .long) (hw _ (List.mem_of_getElem? (i := 18) rfl)) e56 (n := 2) (by decide) (by omega) (by decide) (by decide) (ad := "[J") (by decide) (hb hby d2_28) ?_
  intro T57 h57 X57 e57 E57 G57 EX57
  obtain ⟨tr, gtr⟩ : ∃ z, z = h55.size := ⟨_, rfl⟩
  rw [← gtr] at G57 EX57 ⊢
  have lt_r0_tr : r0 < tr := by rw [gtr]; exact (E_r0_55).lt
  have lt_ro_tr : ro < tr := by rw [gtr]; exact (G_ro_55).lt
  have lt_rf_tr : rf < tr := by rw [gtr]; exact (G_rf_55).lt
  have lt_rs_tr : rs < tr := by rw [gtr]; exact (G_rs_55).lt
  have ge_tr : h0.size ≤ tr := by rw [gtr]; exact K_55.1
  have gn_tr : n0 ≤ tr := Nat.le_trans Z0 ge_tr
  have E_r0_57 := (E_r0_55).ext E57
  have F_size_57 := (F_r0_size_55).ext E57
  have F_tried_57 := (F_r0_tried_55).ext E57
  have F_joiningFrom_57 := (F_r0_joiningFrom_55).ext E57
  have F_joining_57 := (F_r0_joining_55).ext E57
  have F_leavingFrom_57 := (F_r0_leavingFrom_55).ext E57
  have F_leaving_57 := (F_r0_leaving_55).ext E57
  have F_reached_57 := (F_r0_reached_55).ext E57
  have G_ro_57 := GA.ext G_ro_55 E57
  have G_rf_57 := GA.ext G_rf_55 E57
  have G_rs_57 := GA.ext G_rs_55 E57
  have K_57 := K_55.ext E57
  have G57 : GA Z h57 tr .long 2 (fun i => .long ((fun _ => 0) i)) := G57
  show Owes _ _ _ _ (T57.setTop (mkF m 30 #[.val (.ref r0), .val (.ref ro), .val (.ref rf), .val (.ref rs), .val (.int p4), .unset, .unset, .unset, .unset, .unset, .unset, .unset] [(.ref tr), (.ref r0)]))
  refine Owes.putF X57 hx hZ hown (host := "") (Or.inl (hw _ (List.mem_of_getElem? (i := 19) rfl))) Via.refl e57 F_tried_57 E_r0_57 (Or.inr ⟨(hw _ (List.mem_of_getElem? (i := 20) rfl)), rfl, hnm⟩) (hw _ (List.mem_of_getElem? (i := 6) rfl)) (ty := (.array .long)) (by decide) rfl rfl (hb hby d2_30) ?_
  intro T58 h58 X58 e58 W58
  have N58 := Fr.snoc X58 N55 g0
  have E_r0_58 := Exa.wr W58 E_r0_57
  have F_r0_size_58 := Fld.other W58 F_size_57 (Or.inr (slot_ne (Or.inr (hw _ (List.mem_of_getElem? (i := 17) rfl))) (Or.inr (hw _ (List.mem_of_getElem? (i := 20) rfl))) (by decide) (t := .int) (t' := (.array .long)) (by decide) (by decide)))
  have F_r0_tried_58 := Fld.same W58 F_tried_57
  have F_r0_joiningFrom_58 := Fld.other W58 F_joiningFrom_57 (Or.inr (slot_ne (Or.inr (hw _ (List.mem_of_getElem? (i := 22) rfl))) (Or.inr (hw _ (List.mem_of_getElem? (i := 20) rfl))) (by decide) (t := (.array .int)) (t' := (.array .long)) (by decide) (by decide)))
  have F_r0_joining_58 := Fld.other W58 F_joining_57 (Or.inr (slot_ne (Or.inr (hw _ (List.mem_of_getElem? (i := 26) rfl))) (Or.inr (hw _ (List.mem_of_getElem? (i := 20) rfl))) (by decide) (t := (.array .int)) (t' := (.array .long)) (by decide) (by decide)))
  have F_r0_leavingFrom_58 := Fld.other W58 F_leavingFrom_57 (Or.inr (slot_ne (Or.inr (hw _ (List.mem_of_getElem? (i := 24) rfl))) (Or.inr (hw _ (List.mem_of_getElem? (i := 20) rfl))) (by decide) (t := (.array .int)) (t' := (.array .long)) (by decide) (by decide)))
  have F_r0_leaving_58 := Fld.other W58 F_leaving_57 (Or.inr (slot_ne (Or.inr (hw _ (List.mem_of_getElem? (i := 28) rfl))) (Or.inr (hw _ (List.mem_of_getElem? (i := 20) rfl))) (by decide) (t := (.array .int)) (t' := (.array .long)) (by decide) (by decide)))
  have F_r0_reached_58 := Fld.other W58 F_reached_57 (Or.inr (slot_ne (Or.inl (hw _ (List.mem_of_getElem? (i := 15) rfl))) (Or.inr (hw _ (List.mem_of_getElem? (i := 20) rfl))) (by decide) (t := .int) (t' := (.array .long)) (by decide) (by decide)))
  have G_ro_58 := GA.other G_ro_57 W58 (Ne.symm (GA.ne_obj E_r0_57 wi G_ro_57))
  have G_rf_58 := GA.other G_rf_57 W58 (Ne.symm (GA.ne_obj E_r0_57 wi G_rf_57))
  have G_rs_58 := GA.other G_rs_57 W58 (Ne.symm (GA.ne_obj E_r0_57 wi G_rs_57))
  have G_tr_58 := GA.other G57 W58 (Ne.symm (GA.ne_obj E_r0_57 wi G57))
  have EX_tr_58 := Exa.wr W58 EX57
  have K_58 := K_57.wr W58 (Or.inl (List.mem_singleton.mpr rfl))
  show Owes _ _ _ _ (T58.setTop (mkF m 33 #[.val (.ref r0), .val (.ref ro), .val (.ref rf), .val (.ref rs), .val (.int p4), .unset, .unset, .unset, .unset, .unset, .unset, .unset] []))
  refine Owes.go ?_ fun t₀ k₀ => XS.aloadN X58.here hx rfl (hb hby d2_33) rfl rfl k₀
  show Owes _ _ _ _ (T58.setTop (mkF m 34 #[.val (.ref r0), .val (.ref ro), .val (.ref rf), .val (.ref rs), .val (.int p4), .unset, .unset, .unset, .unset, .unset, .unset, .unset] [(.ref r0)]))
  refine Owes.go ?_ fun t₀ k₀ => XS.iload X58.here hx rfl (hb hby d2_34) rfl k₀
  show Owes _ _ _ _ (T58.setTop (mkF m 36 #[.val (.ref r0), .val (.ref ro), .val (.ref rf), .val (.ref rs), .val (.int p4), .unset, .unset, .unset, .unset, .unset, .unset, .unset] [(.int p4), (.ref r0)]))
  refine Owes.go ?_ fun t₀ k₀ => XS.iconst X58.here hx rfl (hb hby d2_36) k₀
  show Owes _ _ _ _ (T58.setTop (mkF m 37 #[.val (.ref r0), .val (.ref ro), .val (.ref rf), .val (.ref rs), .val (.int p4), .unset, .unset, .unset, .unset, .unset, .unset, .unset] [(.int (1 : Int32)), (.int p4), (.ref r0)]))
  refine Owes.go ?_ fun t₀ k₀ => XS.iadd X58.here hx rfl (hb hby d2_37) rfl k₀
  show Owes _ _ _ _ (T58.setTop (mkF m 38 #[.val (.ref r0), .val (.ref ro), .val (.ref rf), .val (.ref rs), .val (.int p4), .unset, .unset, .unset, .unset, .unset, .unset, .unset] [(.int (p4 + (1 : Int32))), (.ref r0)]))
  refine Owes.newArr X58 hx hZ (aty := .int) (hw _ (List.mem_of_getElem? (i := 4) rfl)) e58 (n := (n + 1)) hn' (by omega) (by decide) (show 0 + 2 + (n + 1) ≤ 160 by omega) (ad := "[I") (by decide) (hb hby d2_38) ?_
  intro T59 h59 X59 e59 E59 G59 EX59
  obtain ⟨jf, gjf⟩ : ∃ z, z = h58.size := ⟨_, rfl⟩
  rw [← gjf] at G59 EX59 ⊢
  have lt_r0_jf : r0 < jf := by rw [gjf]; exact (E_r0_58).lt
  have lt_ro_jf : ro < jf := by rw [gjf]; exact (G_ro_58).lt
  have lt_rf_jf : rf < jf := by rw [gjf]; exact (G_rf_58).lt
  have lt_rs_jf : rs < jf := by rw [gjf]; exact (G_rs_58).lt
  have lt_tr_jf : tr < jf := by rw [gjf]; exact (G_tr_58).lt
  have ge_jf : h0.size ≤ jf := by rw [gjf]; exact K_58.1
  have gn_jf : n0 ≤ jf := Nat.le_trans Z0 ge_jf
  have E_r0_59 := (E_r0_58).ext E59
  have F_size_59 := (F_r0_size_58).ext E59
  have F_tried_59 := (F_r0_tried_58).ext E59
  have F_joiningFrom_59 := (F_r0_joiningFrom_58).ext E59
  have F_joining_59 := (F_r0_joining_58).ext E59
  have F_leavingFrom_59 := (F_r0_leavingFrom_58).ext E59
  have F_leaving_59 := (F_r0_leaving_58).ext E59
  have F_reached_59 := (F_r0_reached_58).ext E59
  have G_ro_59 := GA.ext G_ro_58 E59
  have G_rf_59 := GA.ext G_rf_58 E59
  have G_rs_59 := GA.ext G_rs_58 E59
  have G_tr_59 := GA.ext G_tr_58 E59
  have EX_tr_59 := (EX_tr_58).ext E59
  have K_59 := K_58.ext E59
  have G59 : GA Z h59 jf .int (n + 1) (fun i => .int ((fun _ => 0) i)) := G59
  show Owes _ _ _ _ (T59.setTop (mkF m 40 #[.val (.ref r0), .val (.ref ro), .val (.ref rf), .val (.ref rs), .val (.int p4), .unset, .unset, .unset, .unset, .unset, .unset, .unset] [(.ref jf), (.ref r0)]))
  refine Owes.putF X59 hx hZ hown (host := "") (Or.inl (hw _ (List.mem_of_getElem? (i := 21) rfl))) Via.refl e59 F_joiningFrom_59 E_r0_59 (Or.inr ⟨(hw _ (List.mem_of_getElem? (i := 22) rfl)), rfl, hnm⟩) (hw _ (List.mem_of_getElem? (i := 6) rfl)) (ty := (.array .int)) (by decide) rfl rfl (hb hby d2_40) ?_
  intro T60 h60 X60 e60 W60
  have N60 := Fr.snoc X60 N58 g0
  have E_r0_60 := Exa.wr W60 E_r0_59
  have F_r0_size_60 := Fld.other W60 F_size_59 (Or.inr (slot_ne (Or.inr (hw _ (List.mem_of_getElem? (i := 17) rfl))) (Or.inr (hw _ (List.mem_of_getElem? (i := 22) rfl))) (by decide) (t := .int) (t' := (.array .int)) (by decide) (by decide)))
  have F_r0_tried_60 := Fld.other W60 F_tried_59 (Or.inr (slot_ne (Or.inr (hw _ (List.mem_of_getElem? (i := 20) rfl))) (Or.inr (hw _ (List.mem_of_getElem? (i := 22) rfl))) (by decide) (t := (.array .long)) (t' := (.array .int)) (by decide) (by decide)))
  have F_r0_joiningFrom_60 := Fld.same W60 F_joiningFrom_59
  have F_r0_joining_60 := Fld.other W60 F_joining_59 (Or.inr (slot_ne (Or.inr (hw _ (List.mem_of_getElem? (i := 26) rfl))) (Or.inr (hw _ (List.mem_of_getElem? (i := 22) rfl))) (by decide) (t := (.array .int)) (t' := (.array .int)) (by decide) (by decide)))
  have F_r0_leavingFrom_60 := Fld.other W60 F_leavingFrom_59 (Or.inr (slot_ne (Or.inr (hw _ (List.mem_of_getElem? (i := 24) rfl))) (Or.inr (hw _ (List.mem_of_getElem? (i := 22) rfl))) (by decide) (t := (.array .int)) (t' := (.array .int)) (by decide) (by decide)))
  have F_r0_leaving_60 := Fld.other W60 F_leaving_59 (Or.inr (slot_ne (Or.inr (hw _ (List.mem_of_getElem? (i := 28) rfl))) (Or.inr (hw _ (List.mem_of_getElem? (i := 22) rfl))) (by decide) (t := (.array .int)) (t' := (.array .int)) (by decide) (by decide)))
  have F_r0_reached_60 := Fld.other W60 F_reached_59 (Or.inr (slot_ne (Or.inl (hw _ (List.mem_of_getElem? (i := 15) rfl))) (Or.inr (hw _ (List.mem_of_getElem? (i := 22) rfl))) (by decide) (t := .int) (t' := (.array .int)) (by decide) (by decide)))
  have G_ro_60 := GA.other G_ro_59 W60 (Ne.symm (GA.ne_obj E_r0_59 wi G_ro_59))
  have G_rf_60 := GA.other G_rf_59 W60 (Ne.symm (GA.ne_obj E_r0_59 wi G_rf_59))
  have G_rs_60 := GA.other G_rs_59 W60 (Ne.symm (GA.ne_obj E_r0_59 wi G_rs_59))
  have G_tr_60 := GA.other G_tr_59 W60 (Ne.symm (GA.ne_obj E_r0_59 wi G_tr_59))
  have G_jf_60 := GA.other G59 W60 (Ne.symm (GA.ne_obj E_r0_59 wi G59))
  have EX_tr_60 := Exa.wr W60 EX_tr_59
  have EX_jf_60 := Exa.wr W60 EX59
  have K_60 := K_59.wr W60 (Or.inl (List.mem_singleton.mpr rfl))
  show Owes _ _ _ _ (T60.setTop (mkF m 43 #[.val (.ref r0), .val (.ref ro), .val (.ref rf), .val (.ref rs), .val (.int p4), .unset, .unset, .unset, .unset, .unset, .unset, .unset] []))
  refine Owes.go ?_ fun t₀ k₀ => XS.aloadN X60.here hx rfl (hb hby d2_43) rfl rfl k₀
  show Owes _ _ _ _ (T60.setTop (mkF m 44 #[.val (.ref r0), .val (.ref ro), .val (.ref rf), .val (.ref rs), .val (.int p4), .unset, .unset, .unset, .unset, .unset, .unset, .unset] [(.ref r0)]))
  refine Owes.go ?_ fun t₀ k₀ => XS.iload X60.here hx rfl (hb hby d2_44) rfl k₀
  show Owes _ _ _ _ (T60.setTop (mkF m 46 #[.val (.ref r0), .val (.ref ro), .val (.ref rf), .val (.ref rs), .val (.int p4), .unset, .unset, .unset, .unset, .unset, .unset, .unset] [(.int p4), (.ref r0)]))
  refine Owes.go ?_ fun t₀ k₀ => XS.iconst X60.here hx rfl (hb hby d2_46) k₀
  show Owes _ _ _ _ (T60.setTop (mkF m 47 #[.val (.ref r0), .val (.ref ro), .val (.ref rf), .val (.ref rs), .val (.int p4), .unset, .unset, .unset, .unset, .unset, .unset, .unset] [(.int (1 : Int32)), (.int p4), (.ref r0)]))
  refine Owes.go ?_ fun t₀ k₀ => XS.iadd X60.here hx rfl (hb hby d2_47) rfl k₀
  show Owes _ _ _ _ (T60.setTop (mkF m 48 #[.val (.ref r0), .val (.ref ro), .val (.ref rf), .val (.ref rs), .val (.int p4), .unset, .unset, .unset, .unset, .unset, .unset, .unset] [(.int (p4 + (1 : Int32))), (.ref r0)]))
  refine Owes.newArr X60 hx hZ (aty := .int) (hw _ (List.mem_of_getElem? (i := 4) rfl)) e60 (n := (n + 1)) hn' (by omega) (by decide) (show 0 + 2 + (n + 1) + (n + 1) ≤ 160 by omega) (ad := "[I") (by decide) (hb hby d2_48) ?_
  intro T61 h61 X61 e61 E61 G61 EX61
  obtain ⟨lf, glf⟩ : ∃ z, z = h60.size := ⟨_, rfl⟩
  rw [← glf] at G61 EX61 ⊢
  have lt_r0_lf : r0 < lf := by rw [glf]; exact (E_r0_60).lt
  have lt_ro_lf : ro < lf := by rw [glf]; exact (G_ro_60).lt
  have lt_rf_lf : rf < lf := by rw [glf]; exact (G_rf_60).lt
  have lt_rs_lf : rs < lf := by rw [glf]; exact (G_rs_60).lt
  have lt_tr_lf : tr < lf := by rw [glf]; exact (G_tr_60).lt
  have lt_jf_lf : jf < lf := by rw [glf]; exact (G_jf_60).lt
  have ge_lf : h0.size ≤ lf := by rw [glf]; exact K_60.1
  have gn_lf : n0 ≤ lf := Nat.le_trans Z0 ge_lf
  have E_r0_61 := (E_r0_60).ext E61
  have F_size_61 := (F_r0_size_60).ext E61
  have F_tried_61 := (F_r0_tried_60).ext E61
  have F_joiningFrom_61 := (F_r0_joiningFrom_60).ext E61
  have F_joining_61 := (F_r0_joining_60).ext E61
  have F_leavingFrom_61 := (F_r0_leavingFrom_60).ext E61
  have F_leaving_61 := (F_r0_leaving_60).ext E61
  have F_reached_61 := (F_r0_reached_60).ext E61
  have G_ro_61 := GA.ext G_ro_60 E61
  have G_rf_61 := GA.ext G_rf_60 E61
  have G_rs_61 := GA.ext G_rs_60 E61
  have G_tr_61 := GA.ext G_tr_60 E61
  have G_jf_61 := GA.ext G_jf_60 E61
  have EX_tr_61 := (EX_tr_60).ext E61
  have EX_jf_61 := (EX_jf_60).ext E61
  have K_61 := K_60.ext E61
  have G61 : GA Z h61 lf .int (n + 1) (fun i => .int ((fun _ => 0) i)) := G61
  show Owes _ _ _ _ (T61.setTop (mkF m 50 #[.val (.ref r0), .val (.ref ro), .val (.ref rf), .val (.ref rs), .val (.int p4), .unset, .unset, .unset, .unset, .unset, .unset, .unset] [(.ref lf), (.ref r0)]))
  refine Owes.putF X61 hx hZ hown (host := "") (Or.inl (hw _ (List.mem_of_getElem? (i := 23) rfl))) Via.refl e61 F_leavingFrom_61 E_r0_61 (Or.inr ⟨(hw _ (List.mem_of_getElem? (i := 24) rfl)), rfl, hnm⟩) (hw _ (List.mem_of_getElem? (i := 6) rfl)) (ty := (.array .int)) (by decide) rfl rfl (hb hby d2_50) ?_
  intro T62 h62 X62 e62 W62
  have N62 := Fr.snoc X62 N60 g0
  have E_r0_62 := Exa.wr W62 E_r0_61
  have F_r0_size_62 := Fld.other W62 F_size_61 (Or.inr (slot_ne (Or.inr (hw _ (List.mem_of_getElem? (i := 17) rfl))) (Or.inr (hw _ (List.mem_of_getElem? (i := 24) rfl))) (by decide) (t := .int) (t' := (.array .int)) (by decide) (by decide)))
  have F_r0_tried_62 := Fld.other W62 F_tried_61 (Or.inr (slot_ne (Or.inr (hw _ (List.mem_of_getElem? (i := 20) rfl))) (Or.inr (hw _ (List.mem_of_getElem? (i := 24) rfl))) (by decide) (t := (.array .long)) (t' := (.array .int)) (by decide) (by decide)))
  have F_r0_joiningFrom_62 := Fld.other W62 F_joiningFrom_61 (Or.inr (slot_ne (Or.inr (hw _ (List.mem_of_getElem? (i := 22) rfl))) (Or.inr (hw _ (List.mem_of_getElem? (i := 24) rfl))) (by decide) (t := (.array .int)) (t' := (.array .int)) (by decide) (by decide)))
  have F_r0_joining_62 := Fld.other W62 F_joining_61 (Or.inr (slot_ne (Or.inr (hw _ (List.mem_of_getElem? (i := 26) rfl))) (Or.inr (hw _ (List.mem_of_getElem? (i := 24) rfl))) (by decide) (t := (.array .int)) (t' := (.array .int)) (by decide) (by decide)))
  have F_r0_leavingFrom_62 := Fld.same W62 F_leavingFrom_61
  have F_r0_leaving_62 := Fld.other W62 F_leaving_61 (Or.inr (slot_ne (Or.inr (hw _ (List.mem_of_getElem? (i := 28) rfl))) (Or.inr (hw _ (List.mem_of_getElem? (i := 24) rfl))) (by decide) (t := (.array .int)) (t' := (.array .int)) (by decide) (by decide)))
  have F_r0_reached_62 := Fld.other W62 F_reached_61 (Or.inr (slot_ne (Or.inl (hw _ (List.mem_of_getElem? (i := 15) rfl))) (Or.inr (hw _ (List.mem_of_getElem? (i := 24) rfl))) (by decide) (t := .int) (t' := (.array .int)) (by decide) (by decide)))
  have G_ro_62 := GA.other G_ro_61 W62 (Ne.symm (GA.ne_obj E_r0_61 wi G_ro_61))
  have G_rf_62 := GA.other G_rf_61 W62 (Ne.symm (GA.ne_obj E_r0_61 wi G_rf_61))
  have G_rs_62 := GA.other G_rs_61 W62 (Ne.symm (GA.ne_obj E_r0_61 wi G_rs_61))
  have G_tr_62 := GA.other G_tr_61 W62 (Ne.symm (GA.ne_obj E_r0_61 wi G_tr_61))
  have G_jf_62 := GA.other G_jf_61 W62 (Ne.symm (GA.ne_obj E_r0_61 wi G_jf_61))
  have G_lf_62 := GA.other G61 W62 (Ne.symm (GA.ne_obj E_r0_61 wi G61))
  have EX_tr_62 := Exa.wr W62 EX_tr_61
  have EX_jf_62 := Exa.wr W62 EX_jf_61
  have EX_lf_62 := Exa.wr W62 EX61
  have K_62 := K_61.wr W62 (Or.inl (List.mem_singleton.mpr rfl))
  show Owes _ _ _ _ (T62.setTop (mkF m 53 #[.val (.ref r0), .val (.ref ro), .val (.ref rf), .val (.ref rs), .val (.int p4), .unset, .unset, .unset, .unset, .unset, .unset, .unset] []))
  refine Owes.go ?_ fun t₀ k₀ => XS.iconst X62.here hx rfl (hb hby d2_53) k₀
  show Owes _ _ _ _ (T62.setTop (mkF m 54 #[.val (.ref r0), .val (.ref ro), .val (.ref rf), .val (.ref rs), .val (.int p4), .unset, .unset, .unset, .unset, .unset, .unset, .unset] [(.int (0 : Int32))]))
  refine Owes.go ?_ fun t₀ k₀ => XS.istore X62.here hx rfl (hb hby d2_54) rfl (l' := #[.val (.ref r0), .val (.ref ro), .val (.ref rf), .val (.ref rs), .val (.int p4), .val (.int (0 : Int32)), .unset, .unset, .unset, .unset, .unset, .unset]) rfl k₀
  show Owes _ _ _ _ (T62.setTop (mkF m 56 #[.val (.ref r0), .val (.ref ro), .val (.ref rf), .val (.ref rs), .val (.int p4), .val (.int (0 : Int32)), .unset, .unset, .unset, .unset, .unset, .unset] []))
  refine Owes.go ?_ fun t₀ k₀ => XS.aloadN X62.here hx rfl (hb hby d2_56) rfl rfl k₀
  show Owes _ _ _ _ (T62.setTop (mkF m 57 #[.val (.ref r0), .val (.ref ro), .val (.ref rf), .val (.ref rs), .val (.int p4), .val (.int (0 : Int32)), .unset, .unset, .unset, .unset, .unset, .unset] [(.ref ro)]))
  refine Owes.go ?_ fun t₀ k₀ => XS.astore X62.here hx rfl (hb hby d2_57) rfl rfl (l' := #[.val (.ref r0), .val (.ref ro), .val (.ref rf), .val (.ref rs), .val (.int p4), .val (.int (0 : Int32)), .val (.ref ro), .unset, .unset, .unset, .unset, .unset]) rfl k₀
  show Owes _ _ _ _ (T62.setTop (mkF m 59 #[.val (.ref r0), .val (.ref ro), .val (.ref rf), .val (.ref rs), .val (.int p4), .val (.int (0 : Int32)), .val (.ref ro), .unset, .unset, .unset, .unset, .unset] []))
  refine Owes.go ?_ fun t₀ k₀ => XS.aload X62.here hx rfl (hb hby d2_59) rfl rfl k₀
  show Owes _ _ _ _ (T62.setTop (mkF m 61 #[.val (.ref r0), .val (.ref ro), .val (.ref rf), .val (.ref rs), .val (.int p4), .val (.int (0 : Int32)), .val (.ref ro), .unset, .unset, .unset, .unset, .unset] [(.ref ro)]))
  refine Owes.glen X62 hx hZ e62 G_ro_62 (z := (65 : Int32)) rfl (hb hby d2_61) ?_
  show Owes _ _ _ _ (T62.setTop (mkF m 62 #[.val (.ref r0), .val (.ref ro), .val (.ref rf), .val (.ref rs), .val (.int p4), .val (.int (0 : Int32)), .val (.ref ro), .unset, .unset, .unset, .unset, .unset] [(.int (65 : Int32))]))
  refine Owes.go ?_ fun t₀ k₀ => XS.istore X62.here hx rfl (hb hby d2_62) rfl (l' := #[.val (.ref r0), .val (.ref ro), .val (.ref rf), .val (.ref rs), .val (.int p4), .val (.int (0 : Int32)), .val (.ref ro), .val (.int (65 : Int32)), .unset, .unset, .unset, .unset]) rfl k₀
  show Owes _ _ _ _ (T62.setTop (mkF m 64 #[.val (.ref r0), .val (.ref ro), .val (.ref rf), .val (.ref rs), .val (.int p4), .val (.int (0 : Int32)), .val (.ref ro), .val (.int (65 : Int32)), .unset, .unset, .unset, .unset] []))
  refine Owes.go ?_ fun t₀ k₀ => XS.iconst X62.here hx rfl (hb hby d2_64) k₀
  show Owes _ _ _ _ (T62.setTop (mkF m 65 #[.val (.ref r0), .val (.ref ro), .val (.ref rf), .val (.ref rs), .val (.int p4), .val (.int (0 : Int32)), .val (.ref ro), .val (.int (65 : Int32)), .unset, .unset, .unset, .unset] [(.int (0 : Int32))]))
  refine Owes.go ?_ fun t₀ k₀ => XS.istore X62.here hx rfl (hb hby d2_65) rfl (l' := #[.val (.ref r0), .val (.ref ro), .val (.ref rf), .val (.ref rs), .val (.int p4), .val (.int (0 : Int32)), .val (.ref ro), .val (.int (65 : Int32)), .val (.int (0 : Int32)), .unset, .unset, .unset]) rfl k₀
  show Owes _ _ _ _ (T62.setTop (mkF m 67 #[.val (.ref r0), .val (.ref ro), .val (.ref rf), .val (.ref rs), .val (.int p4), .val (.int (0 : Int32)), .val (.ref ro), .val (.int (65 : Int32)), .val (.int (0 : Int32)), .unset, .unset, .unset] []))
  have nr : r0 ∉ [jf, lf] := own_ni2 (Nat.ne_of_lt lt_r0_jf) (Nat.ne_of_lt lt_r0_lf)
  have nO : ro ∉ [jf, lf] := own_ni2 (Nat.ne_of_lt lt_ro_jf) (Nat.ne_of_lt lt_ro_lf)
  have nF : rf ∉ [jf, lf] := own_ni2 (Nat.ne_of_lt lt_rf_jf) (Nat.ne_of_lt lt_rf_lf)
  have nS : rs ∉ [jf, lf] := own_ni2 (Nat.ne_of_lt lt_rs_jf) (Nat.ne_of_lt lt_rs_lf)
  have nT : tr ∉ [jf, lf] := own_ni2 (Nat.ne_of_lt lt_tr_jf) (Nat.ne_of_lt lt_tr_lf)
  have hKJn : ∀ i, i < 65 → (kJ O Fa Sl) i < n → (kJ O Fa Sl) i < (kL O Fa Sl n) i := fun i hi => own_kJL hn4 hO hF hi
  generalize hkj : (kJ O Fa Sl) = kj at *
  generalize hkl : (kL O Fa Sl n) = kl at *
  have l2 : ∀ (r t : Nat), t + r = n + 1 → ∀ (T1 : State) (locs : List Loc) (h : Heap) (aj al : Nat → Int32) (gI jI lI tI : Int32) (s9 s10 : Slot), One s9 → One s10 → Stand p l e ({ frames := 1, cells := 7, slots := 160, locals := 30 } : Room) s m #[(.ref r0), (.ref ro), (.ref rf), (.ref rs), (.int p4)] below meth c T1 locs 3 (2 * n + 4) → T1.heap = h → Fr n0 locs → Keep h62 h [jf, lf] → GA Z h jf .int (n + 1) (fun i => .int (aj i)) → GA Z h lf .int (n + 1) (fun i => .int (al i)) → (∀ u, u < t → (aj u).toInt = (pre kj 65 u : Int)) → (∀ u, t ≤ u → u ≤ n → (aj u).toInt = (cnt kj 65 u : Int)) → (∀ u, u < t → (al u).toInt = (pre kl 65 u : Int)) → (∀ u, t ≤ u → u ≤ n → (al u).toInt = (cnt kl 65 u : Int)) → gI.toInt = (pre kj 65 (n + 1) : Int) → jI.toInt = (pre kj 65 t : Int) → lI.toInt = (pre kl 65 t : Int) → tI.toInt = (t : Int) → Owes p e below (EndN s (fun v h L => v = none ∧ Fr n0 L ∧ Keep h0 h [r0] ∧ ∃ (tr jf jo lf le : Addr) (gj gl : Nat) (JF G LF H : Nat → Int32), TSo Z h r0 tr jf jo lf le n gj gl (fun _ => 0) JF G LF H (-1) ∧ n0 ≤ tr ∧ Tab kj kl n gj gl JF G LF H) ({ frames := 1, cells := 7, slots := 160, locals := 30 } : Room).cells ({ frames := 1, cells := 7, slots := 160, locals := 30 } : Room).slots) (T1.setTop (mkF m 149 #[.val (.ref r0), .val (.ref ro), .val (.ref rf), .val (.ref rs), .val (.int p4), .val (.int gI), .val (.int jI), .val (.int lI), .val (.int tI), s9, s10, .unset] [])) := by
    intro r
    induction r with
    | zero =>
      intro t ht T1 locs h aj al gI jI lI tI s9 s10 o9 o10 X eT N K GJ GL a1 a2 b1 b2 hgI hjI hlI htI
      have htn : t = n + 1 := by omega
      subst htn
      have hgj65 := pre_le kj 65 (n + 1)
      have hgl65 := pre_le kl 65 (n + 1)
      obtain ⟨gj, egj⟩ : ∃ z, z = pre kj 65 (n + 1) := ⟨_, rfl⟩
      obtain ⟨gl, egl⟩ : ∃ z, z = pre kl 65 (n + 1) := ⟨_, rfl⟩
      rw [← egj] at hgI hjI hgj65
      have hlI' := hlI
      rw [← egl] at hlI' hgl65
      have K0h : Keep h0 h [r0] := K_62.trans K (fun x hx => Or.inr (by rcases List.mem_cons.mp hx with rfl | hx; exact ge_jf; rw [List.mem_singleton.mp hx]; exact ge_lf))
      refine Owes.go ?_ fun t₀ k₀ => XS.iload X.here hx rfl (hb hby d2_149) rfl k₀
      show Owes _ _ _ _ (T1.setTop (mkF m 151 #[.val (.ref r0), .val (.ref ro), .val (.ref rf), .val (.ref rs), .val (.int p4), .val (.int gI), .val (.int jI), .val (.int lI), .val (.int tI), s9, s10, .unset] [(.int tI)]))
      refine Owes.go ?_ fun t₀ k₀ => XS.iload X.here hx rfl (hb hby d2_151) rfl k₀
      show Owes _ _ _ _ (T1.setTop (mkF m 153 #[.val (.ref r0), .val (.ref ro), .val (.ref rf), .val (.ref rs), .val (.int p4), .val (.int gI), .val (.int jI), .val (.int lI), .val (.int tI), s9, s10, .unset] [(.int p4), (.int tI)]))
      refine Owes.go ?_ fun t₀ k₀ => XS.icmpYes X.here hx rfl (pc0 := 153) (pc' := 212) rfl (hb hby d2_153) rfl (tlt (own_lti hn htI (by omega))).2.2.1 (by decide) (by decide) k₀
      show Owes _ _ _ _ (T1.setTop (mkF m 212 #[.val (.ref r0), .val (.ref ro), .val (.ref rf), .val (.ref rs), .val (.int p4), .val (.int gI), .val (.int jI), .val (.int lI), .val (.int tI), s9, s10, .unset] []))
      refine Owes.go ?_ fun t₀ k₀ => XS.aloadN X.here hx rfl (hb hby d2_212) rfl rfl k₀
      show Owes _ _ _ _ (T1.setTop (mkF m 213 #[.val (.ref r0), .val (.ref ro), .val (.ref rf), .val (.ref rs), .val (.int p4), .val (.int gI), .val (.int jI), .val (.int lI), .val (.int tI), s9, s10, .unset] [(.ref r0)]))
      refine Owes.go ?_ fun t₀ k₀ => XS.iload X.here hx rfl (hb hby d2_213) rfl k₀
      show Owes _ _ _ _ (T1.setTop (mkF m 215 #[.val (.ref r0), .val (.ref ro), .val (.ref rf), .val (.ref rs), .val (.int p4), .val (.int gI), .val (.int jI), .val (.int lI), .val (.int tI), s9, s10, .unset] [(.int gI), (.ref r0)]))
      refine Owes.newArr X hx hZ (aty := .int) (hw _ (List.mem_of_getElem? (i := 4) rfl)) eT (n := gj) hgI (by omega) (by decide) (show 2 * n + 4 + gj ≤ 160 by omega) (ad := "[I") (by decide) (hb hby d2_215) ?_
      intro T63 h63 X63 e63 E63 G63 EX63
      obtain ⟨jo, gjo⟩ : ∃ z, z = h.size := ⟨_, rfl⟩
      rw [← gjo] at G63 EX63 ⊢
      have lt_r0_jo : r0 < jo := by rw [gjo]; exact ((Exa.keep E_r0_62 K)).lt
      have lt_ro_jo : ro < jo := by rw [gjo]; exact ((GA.keep G_ro_62 K nO)).lt
      have lt_rf_jo : rf < jo := by rw [gjo]; exact ((GA.keep G_rf_62 K nF)).lt
      have lt_rs_jo : rs < jo := by rw [gjo]; exact ((GA.keep G_rs_62 K nS)).lt
      have lt_tr_jo : tr < jo := by rw [gjo]; exact ((GA.keep G_tr_62 K nT)).lt
      have lt_jf_jo : jf < jo := by rw [gjo]; exact (GJ).lt
      have lt_lf_jo : lf < jo := by rw [gjo]; exact (GL).lt
      have ge_jo : h0.size ≤ jo := by rw [gjo]; exact K0h.1
      have gn_jo : n0 ≤ jo := Nat.le_trans Z0 ge_jo
      have E_r0_63 := ((Exa.keep E_r0_62 K)).ext E63
      have F_size_63 := ((Fld.keep F_r0_size_62 K nr)).ext E63
      have F_tried_63 := ((Fld.keep F_r0_tried_62 K nr)).ext E63
      have F_joiningFrom_63 := ((Fld.keep F_r0_joiningFrom_62 K nr)).ext E63
      have F_joining_63 := ((Fld.keep F_r0_joining_62 K nr)).ext E63
      have F_leavingFrom_63 := ((Fld.keep F_r0_leavingFrom_62 K nr)).ext E63
      have F_leaving_63 := ((Fld.keep F_r0_leaving_62 K nr)).ext E63
      have F_reached_63 := ((Fld.keep F_r0_reached_62 K nr)).ext E63
      have G_ro_63 := GA.ext (GA.keep G_ro_62 K nO) E63
      have G_rf_63 := GA.ext (GA.keep G_rf_62 K nF) E63
      have G_rs_63 := GA.ext (GA.keep G_rs_62 K nS) E63
      have G_tr_63 := GA.ext (GA.keep G_tr_62 K nT) E63
      have G_jf_63 := GA.ext GJ E63
      have G_lf_63 := GA.ext GL E63
      have EX_jf_63 := ((Exa.keep EX_jf_62 K)).ext E63
      have EX_lf_63 := ((Exa.keep EX_lf_62 K)).ext E63
      have K_63 := K0h.ext E63
      have G63 : GA Z h63 jo .int gj (fun i => .int ((fun _ => 0) i)) := G63
      show Owes _ _ _ _ (T63.setTop (mkF m 217 #[.val (.ref r0), .val (.ref ro), .val (.ref rf), .val (.ref rs), .val (.int p4), .val (.int gI), .val (.int jI), .val (.int lI), .val (.int tI), s9, s10, .unset] [(.ref jo), (.ref r0)]))
      refine Owes.putF X63 hx hZ hown (host := "") (Or.inl (hw _ (List.mem_of_getElem? (i := 25) rfl))) Via.refl e63 F_joining_63 E_r0_63 (Or.inr ⟨(hw _ (List.mem_of_getElem? (i := 26) rfl)), rfl, hnm⟩) (hw _ (List.mem_of_getElem? (i := 6) rfl)) (ty := (.array .int)) (by decide) rfl rfl (hb hby d2_217) ?_
      intro T64 h64 X64 e64 W64
      have N64 := Fr.snoc X64 N g0
      have E_r0_64 := Exa.wr W64 E_r0_63
      have F_r0_size_64 := Fld.other W64 F_size_63 (Or.inr (slot_ne (Or.inr (hw _ (List.mem_of_getElem? (i := 17) rfl))) (Or.inr (hw _ (List.mem_of_getElem? (i := 26) rfl))) (by decide) (t := .int) (t' := (.array .int)) (by decide) (by decide)))
      have F_r0_tried_64 := Fld.other W64 F_tried_63 (Or.inr (slot_ne (Or.inr (hw _ (List.mem_of_getElem? (i := 20) rfl))) (Or.inr (hw _ (List.mem_of_getElem? (i := 26) rfl))) (by decide) (t := (.array .long)) (t' := (.array .int)) (by decide) (by decide)))
      have F_r0_joiningFrom_64 := Fld.other W64 F_joiningFrom_63 (Or.inr (slot_ne (Or.inr (hw _ (List.mem_of_getElem? (i := 22) rfl))) (Or.inr (hw _ (List.mem_of_getElem? (i := 26) rfl))) (by decide) (t := (.array .int)) (t' := (.array .int)) (by decide) (by decide)))
      have F_r0_joining_64 := Fld.same W64 F_joining_63
      have F_r0_leavingFrom_64 := Fld.other W64 F_leavingFrom_63 (Or.inr (slot_ne (Or.inr (hw _ (List.mem_of_getElem? (i := 24) rfl))) (Or.inr (hw _ (List.mem_of_getElem? (i := 26) rfl))) (by decide) (t := (.array .int)) (t' := (.array .int)) (by decide) (by decide)))
      have F_r0_leaving_64 := Fld.other W64 F_leaving_63 (Or.inr (slot_ne (Or.inr (hw _ (List.mem_of_getElem? (i := 28) rfl))) (Or.inr (hw _ (List.mem_of_getElem? (i := 26) rfl))) (by decide) (t := (.array .int)) (t' := (.array .int)) (by decide) (by decide)))
      have F_r0_reached_64 := Fld.other W64 F_reached_63 (Or.inr (slot_ne (Or.inl (hw _ (List.mem_of_getElem? (i := 15) rfl))) (Or.inr (hw _ (List.mem_of_getElem? (i := 26) rfl))) (by decide) (t := .int) (t' := (.array .int)) (by decide) (by decide)))
      have G_ro_64 := GA.other G_ro_63 W64 (Ne.symm (GA.ne_obj E_r0_63 wi G_ro_63))
      have G_rf_64 := GA.other G_rf_63 W64 (Ne.symm (GA.ne_obj E_r0_63 wi G_rf_63))
      have G_rs_64 := GA.other G_rs_63 W64 (Ne.symm (GA.ne_obj E_r0_63 wi G_rs_63))
      have G_tr_64 := GA.other G_tr_63 W64 (Ne.symm (GA.ne_obj E_r0_63 wi G_tr_63))
      have G_jf_64 := GA.other G_jf_63 W64 (Ne.symm (GA.ne_obj E_r0_63 wi G_jf_63))
      have G_lf_64 := GA.other G_lf_63 W64 (Ne.symm (GA.ne_obj E_r0_63 wi G_lf_63))
      have G_jo_64 := GA.other G63 W64 (Ne.symm (GA.ne_obj E_r0_63 wi G63))
      have EX_jf_64 := Exa.wr W64 EX_jf_63
      have EX_lf_64 := Exa.wr W64 EX_lf_63
      have EX_jo_64 := Exa.wr W64 EX63
      have K_64 := K_63.wr W64 (Or.inl (List.mem_singleton.mpr rfl))
      show Owes _ _ _ _ (T64.setTop (mkF m 220 #[.val (.ref r0), .val (.ref ro), .val (.ref rf), .val (.ref rs), .val (.int p4), .val (.int gI), .val (.int jI), .val (.int lI), .val (.int tI), s9, s10, .unset] []))
      refine Owes.go ?_ fun t₀ k₀ => XS.aloadN X64.here hx rfl (hb hby d2_220) rfl rfl k₀
      show Owes _ _ _ _ (T64.setTop (mkF m 221 #[.val (.ref r0), .val (.ref ro), .val (.ref rf), .val (.ref rs), .val (.int p4), .val (.int gI), .val (.int jI), .val (.int lI), .val (.int tI), s9, s10, .unset] [(.ref r0)]))
      refine Owes.go ?_ fun t₀ k₀ => XS.iload X64.here hx rfl (hb hby d2_221) rfl k₀
      show Owes _ _ _ _ (T64.setTop (mkF m 223 #[.val (.ref r0), .val (.ref ro), .val (.ref rf), .val (.ref rs), .val (.int p4), .val (.int gI), .val (.int jI), .val (.int lI), .val (.int tI), s9, s10, .unset] [(.int lI), (.ref r0)]))
      refine Owes.newArr X64 hx hZ (aty := .int) (hw _ (List.mem_of_getElem? (i := 4) rfl)) e64 (n := gl) hlI' (by omega) (by decide) (show 2 * n + 4 + gj + gl ≤ 160 by omega) (ad := "[I") (by decide) (hb hby d2_223) ?_
      intro T65 h65 X65 e65 E65 G65 EX65
      obtain ⟨le, gle⟩ : ∃ z, z = h64.size := ⟨_, rfl⟩
      rw [← gle] at G65 EX65 ⊢
      have lt_r0_le : r0 < le := by rw [gle]; exact (E_r0_64).lt
      have lt_ro_le : ro < le := by rw [gle]; exact (G_ro_64).lt
      have lt_rf_le : rf < le := by rw [gle]; exact (G_rf_64).lt
      have lt_rs_le : rs < le := by rw [gle]; exact (G_rs_64).lt
      have lt_tr_le : tr < le := by rw [gle]; exact (G_tr_64).lt
      have lt_jf_le : jf < le := by rw [gle]; exact (G_jf_64).lt
      have lt_lf_le : lf < le := by rw [gle]; exact (G_lf_64).lt
      have lt_jo_le : jo < le := by rw [gle]; exact (G_jo_64).lt
      have ge_le : h0.size ≤ le := by rw [gle]; exact K_64.1
      have gn_le : n0 ≤ le := Nat.le_trans Z0 ge_le
      have E_r0_65 := (E_r0_64).ext E65
      have F_size_65 := (F_r0_size_64).ext E65
      have F_tried_65 := (F_r0_tried_64).ext E65
      have F_joiningFrom_65 := (F_r0_joiningFrom_64).ext E65
      have F_joining_65 := (F_r0_joining_64).ext E65
      have F_leavingFrom_65 := (F_r0_leavingFrom_64).ext E65
      have F_leaving_65 := (F_r0_leaving_64).ext E65
      have F_reached_65 := (F_r0_reached_64).ext E65
      have G_ro_65 := GA.ext G_ro_64 E65
      have G_rf_65 := GA.ext G_rf_64 E65
      have G_rs_65 := GA.ext G_rs_64 E65
      have G_tr_65 := GA.ext G_tr_64 E65
      have G_jf_65 := GA.ext G_jf_64 E65
      have G_lf_65 := GA.ext G_lf_64 E65
      have G_jo_65 := GA.ext G_jo_64 E65
      have EX_jf_65 := (EX_jf_64).ext E65
      have EX_lf_65 := (EX_lf_64).ext E65
      have EX_jo_65 := (EX_jo_64).ext E65
      have K_65 := K_64.ext E65
      have G65 : GA Z h65 le .int gl (fun i => .int ((fun _ => 0) i)) := G65
      show Owes _ _ _ _ (T65.setTop (mkF m 225 #[.val (.ref r0), .val (.ref ro), .val (.ref rf), .val (.ref rs), .val (.int p4), .val (.int gI), .val (.int jI), .val (.int lI), .val (.int tI), s9, s10, .unset] [(.ref le), (.ref r0)]))
      refine Owes.putF X65 hx hZ hown (host := "") (Or.inl (hw _ (List.mem_of_getElem? (i := 27) rfl))) Via.refl e65 F_leaving_65 E_r0_65 (Or.inr ⟨(hw _ (List.mem_of_getElem? (i := 28) rfl)), rfl, hnm⟩) (hw _ (List.mem_of_getElem? (i := 6) rfl)) (ty := (.array .int)) (by decide) rfl rfl (hb hby d2_225) ?_
      intro T66 h66 X66 e66 W66
      have N66 := Fr.snoc X66 N64 g0
      have E_r0_66 := Exa.wr W66 E_r0_65
      have F_r0_size_66 := Fld.other W66 F_size_65 (Or.inr (slot_ne (Or.inr (hw _ (List.mem_of_getElem? (i := 17) rfl))) (Or.inr (hw _ (List.mem_of_getElem? (i := 28) rfl))) (by decide) (t := .int) (t' := (.array .int)) (by decide) (by decide)))
      have F_r0_tried_66 := Fld.other W66 F_tried_65 (Or.inr (slot_ne (Or.inr (hw _ (List.mem_of_getElem? (i := 20) rfl))) (Or.inr (hw _ (List.mem_of_getElem? (i := 28) rfl))) (by decide) (t := (.array .long)) (t' := (.array .int)) (by decide) (by decide)))
      have F_r0_joiningFrom_66 := Fld.other W66 F_joiningFrom_65 (Or.inr (slot_ne (Or.inr (hw _ (List.mem_of_getElem? (i := 22) rfl))) (Or.inr (hw _ (List.mem_of_getElem? (i := 28) rfl))) (by decide) (t := (.array .int)) (t' := (.array .int)) (by decide) (by decide)))
      have F_r0_joining_66 := Fld.other W66 F_joining_65 (Or.inr (slot_ne (Or.inr (hw _ (List.mem_of_getElem? (i := 26) rfl))) (Or.inr (hw _ (List.mem_of_getElem? (i := 28) rfl))) (by decide) (t := (.array .int)) (t' := (.array .int)) (by decide) (by decide)))
      have F_r0_leavingFrom_66 := Fld.other W66 F_leavingFrom_65 (Or.inr (slot_ne (Or.inr (hw _ (List.mem_of_getElem? (i := 24) rfl))) (Or.inr (hw _ (List.mem_of_getElem? (i := 28) rfl))) (by decide) (t := (.array .int)) (t' := (.array .int)) (by decide) (by decide)))
      have F_r0_leaving_66 := Fld.same W66 F_leaving_65
      have F_r0_reached_66 := Fld.other W66 F_reached_65 (Or.inr (slot_ne (Or.inl (hw _ (List.mem_of_getElem? (i := 15) rfl))) (Or.inr (hw _ (List.mem_of_getElem? (i := 28) rfl))) (by decide) (t := .int) (t' := (.array .int)) (by decide) (by decide)))
      have G_ro_66 := GA.other G_ro_65 W66 (Ne.symm (GA.ne_obj E_r0_65 wi G_ro_65))
      have G_rf_66 := GA.other G_rf_65 W66 (Ne.symm (GA.ne_obj E_r0_65 wi G_rf_65))
      have G_rs_66 := GA.other G_rs_65 W66 (Ne.symm (GA.ne_obj E_r0_65 wi G_rs_65))
      have G_tr_66 := GA.other G_tr_65 W66 (Ne.symm (GA.ne_obj E_r0_65 wi G_tr_65))
      have G_jf_66 := GA.other G_jf_65 W66 (Ne.symm (GA.ne_obj E_r0_65 wi G_jf_65))
      have G_lf_66 := GA.other G_lf_65 W66 (Ne.symm (GA.ne_obj E_r0_65 wi G_lf_65))
      have G_jo_66 := GA.other G_jo_65 W66 (Ne.symm (GA.ne_obj E_r0_65 wi G_jo_65))
      have G_le_66 := GA.other G65 W66 (Ne.symm (GA.ne_obj E_r0_65 wi G65))
      have EX_jf_66 := Exa.wr W66 EX_jf_65
      have EX_lf_66 := Exa.wr W66 EX_lf_65
      have EX_jo_66 := Exa.wr W66 EX_jo_65
      have EX_le_66 := Exa.wr W66 EX65
      have K_66 := K_65.wr W66 (Or.inl (List.mem_singleton.mpr rfl))
      show Owes _ _ _ _ (T66.setTop (mkF m 228 #[.val (.ref r0), .val (.ref ro), .val (.ref rf), .val (.ref rs), .val (.int p4), .val (.int gI), .val (.int jI), .val (.int lI), .val (.int tI), s9, s10, .unset] []))
      refine Owes.go ?_ fun t₀ k₀ => XS.aloadN X66.here hx rfl (hb hby d2_228) rfl rfl k₀
      show Owes _ _ _ _ (T66.setTop (mkF m 229 #[.val (.ref r0), .val (.ref ro), .val (.ref rf), .val (.ref rs), .val (.int p4), .val (.int gI), .val (.int jI), .val (.int lI), .val (.int tI), s9, s10, .unset] [(.ref r0)]))
      obtain ⟨T67, X67, e67, st67⟩ := getF X66 hx hZ hown (host := "") (Or.inl (hw _ (List.mem_of_getElem? (i := 21) rfl))) Via.refl e66 F_r0_joiningFrom_66 (g := (mkF m 229 #[.val (.ref r0), .val (.ref ro), .val (.ref rf), .val (.ref rs), .val (.int p4), .val (.int gI), .val (.int jI), .val (.int lI), .val (.int tI), s9, s10, .unset] [(.ref r0)])) rfl rfl (hb hby d2_229)
      refine Owes.go ?_ st67
      show Owes _ _ _ _ (T67.setTop (mkF m 232 #[.val (.ref r0), .val (.ref ro), .val (.ref rf), .val (.ref rs), .val (.int p4), .val (.int gI), .val (.int jI), .val (.int lI), .val (.int tI), s9, s10, .unset] [(.ref jf)]))
      refine Owes.cloneI X67 hx hZ hown (hw _ (List.mem_of_getElem? (i := 29) rfl)) (hw _ (List.mem_of_getElem? (i := 30) rfl)) (hw _ (List.mem_of_getElem? (i := 34) rfl)) (hw _ (List.mem_of_getElem? (i := 32) rfl)) (hw _ (List.mem_of_getElem? (i := 33) rfl)) (hw _ (List.mem_of_getElem? (i := 35) rfl)) e67 G_jf_66 EX_jf_66 (by rw [hml]; rfl) (hb hby d2_232) (by decide) (Nat.le_of_ble_eq_true rfl) (by decide) (show 2 * n + 4 + gj + gl + (n + 1) ≤ 160 by omega) ?_
      intro T68 h68 X68 e68 E68 G68 EX68
      obtain ⟨ja, gja⟩ : ∃ z, z = h66.size := ⟨_, rfl⟩
      rw [← gja] at G68 EX68 ⊢
      have lt_r0_ja : r0 < ja := by rw [gja]; exact (E_r0_66).lt
      have lt_ro_ja : ro < ja := by rw [gja]; exact (G_ro_66).lt
      have lt_rf_ja : rf < ja := by rw [gja]; exact (G_rf_66).lt
      have lt_rs_ja : rs < ja := by rw [gja]; exact (G_rs_66).lt
      have lt_tr_ja : tr < ja := by rw [gja]; exact (G_tr_66).lt
      have lt_jf_ja : jf < ja := by rw [gja]; exact (G_jf_66).lt
      have lt_lf_ja : lf < ja := by rw [gja]; exact (G_lf_66).lt
      have lt_jo_ja : jo < ja := by rw [gja]; exact (G_jo_66).lt
      have lt_le_ja : le < ja := by rw [gja]; exact (G_le_66).lt
      have ge_ja : h0.size ≤ ja := by rw [gja]; exact K_66.1
      have gn_ja : n0 ≤ ja := Nat.le_trans Z0 ge_ja
      have E_r0_68 := (E_r0_66).ext E68
      have F_size_68 := (F_r0_size_66).ext E68
      have F_tried_68 := (F_r0_tried_66).ext E68
      have F_joiningFrom_68 := (F_r0_joiningFrom_66).ext E68
      have F_joining_68 := (F_r0_joining_66).ext E68
      have F_leavingFrom_68 := (F_r0_leavingFrom_66).ext E68
      have F_leaving_68 := (F_r0_leaving_66).ext E68
      have F_reached_68 := (F_r0_reached_66).ext E68
      have G_ro_68 := GA.ext G_ro_66 E68
      have G_rf_68 := GA.ext G_rf_66 E68
      have G_rs_68 := GA.ext G_rs_66 E68
      have G_tr_68 := GA.ext G_tr_66 E68
      have G_jf_68 := GA.ext G_jf_66 E68
      have G_lf_68 := GA.ext G_lf_66 E68
      have G_jo_68 := GA.ext G_jo_66 E68
      have G_le_68 := GA.ext G_le_66 E68
      have EX_jf_68 := (EX_jf_66).ext E68
      have EX_lf_68 := (EX_lf_66).ext E68
      have EX_jo_68 := (EX_jo_66).ext E68
      have EX_le_68 := (EX_le_66).ext E68
      have K_68 := K_66.ext E68
      show Owes _ _ _ _ (T68.setTop (mkF m 235 #[.val (.ref r0), .val (.ref ro), .val (.ref rf), .val (.ref rs), .val (.int p4), .val (.int gI), .val (.int jI), .val (.int lI), .val (.int tI), s9, s10, .unset] [(.ref ja)]))
      refine Owes.cast X68 hx hZ hown (hw _ (List.mem_of_getElem? (i := 36) rfl)) e68 EX68 (hb hby d2_235) ?_
      intro T69 X69 e69
      show Owes _ _ _ _ (T69.setTop (mkF m 238 #[.val (.ref r0), .val (.ref ro), .val (.ref rf), .val (.ref rs), .val (.int p4), .val (.int gI), .val (.int jI), .val (.int lI), .val (.int tI), s9, s10, .unset] [(.ref ja)]))
      refine Owes.go ?_ fun t₀ k₀ => XS.astore X69.here hx rfl (hb hby d2_238) rfl rfl (l' := #[.val (.ref r0), .val (.ref ro), .val (.ref rf), .val (.ref rs), .val (.int p4), .val (.int gI), .val (.int jI), .val (.int lI), .val (.ref ja), s9, s10, .unset]) rfl k₀
      show Owes _ _ _ _ (T69.setTop (mkF m 240 #[.val (.ref r0), .val (.ref ro), .val (.ref rf), .val (.ref rs), .val (.int p4), .val (.int gI), .val (.int jI), .val (.int lI), .val (.ref ja), s9, s10, .unset] []))
      refine Owes.go ?_ fun t₀ k₀ => XS.aloadN X69.here hx rfl (hb hby d2_240) rfl rfl k₀
      show Owes _ _ _ _ (T69.setTop (mkF m 241 #[.val (.ref r0), .val (.ref ro), .val (.ref rf), .val (.ref rs), .val (.int p4), .val (.int gI), .val (.int jI), .val (.int lI), .val (.ref ja), s9, s10, .unset] [(.ref r0)]))
      obtain ⟨T70, X70, e70, st70⟩ := getF X69 hx hZ hown (host := "") (Or.inl (hw _ (List.mem_of_getElem? (i := 23) rfl))) Via.refl e69 F_leavingFrom_68 (g := (mkF m 241 #[.val (.ref r0), .val (.ref ro), .val (.ref rf), .val (.ref rs), .val (.int p4), .val (.int gI), .val (.int jI), .val (.int lI), .val (.ref ja), s9, s10, .unset] [(.ref r0)])) rfl rfl (hb hby d2_241)
      refine Owes.go ?_ st70
      show Owes _ _ _ _ (T70.setTop (mkF m 244 #[.val (.ref r0), .val (.ref ro), .val (.ref rf), .val (.ref rs), .val (.int p4), .val (.int gI), .val (.int jI), .val (.int lI), .val (.ref ja), s9, s10, .unset] [(.ref lf)]))
      refine Owes.cloneI X70 hx hZ hown (hw _ (List.mem_of_getElem? (i := 29) rfl)) (hw _ (List.mem_of_getElem? (i := 30) rfl)) (hw _ (List.mem_of_getElem? (i := 34) rfl)) (hw _ (List.mem_of_getElem? (i := 32) rfl)) (hw _ (List.mem_of_getElem? (i := 33) rfl)) (hw _ (List.mem_of_getElem? (i := 35) rfl)) e70 G_lf_68 EX_lf_68 (by rw [hml]; rfl) (hb hby d2_244) (by decide) (Nat.le_of_ble_eq_true rfl) (by decide) (show 2 * n + 4 + gj + gl + (n + 1) + (n + 1) ≤ 160 by omega) ?_
      intro T71 h71 X71 e71 E71 G71 EX71
      obtain ⟨la, gla⟩ : ∃ z, z = h68.size := ⟨_, rfl⟩
      rw [← gla] at G71 EX71 ⊢
      have lt_r0_la : r0 < la := by rw [gla]; exact (E_r0_68).lt
      have lt_ro_la : ro < la := by rw [gla]; exact (G_ro_68).lt
      have lt_rf_la : rf < la := by rw [gla]; exact (G_rf_68).lt
      have lt_rs_la : rs < la := by rw [gla]; exact (G_rs_68).lt
      have lt_tr_la : tr < la := by rw [gla]; exact (G_tr_68).lt
      have lt_jf_la : jf < la := by rw [gla]; exact (G_jf_68).lt
      have lt_lf_la : lf < la := by rw [gla]; exact (G_lf_68).lt
      have lt_jo_la : jo < la := by rw [gla]; exact (G_jo_68).lt
      have lt_le_la : le < la := by rw [gla]; exact (G_le_68).lt
      have lt_ja_la : ja < la := by rw [gla]; exact (G68).lt
      have ge_la : h0.size ≤ la := by rw [gla]; exact K_68.1
      have gn_la : n0 ≤ la := Nat.le_trans Z0 ge_la
      have E_r0_71 := (E_r0_68).ext E71
      have F_size_71 := (F_size_68).ext E71
      have F_tried_71 := (F_tried_68).ext E71
      have F_joiningFrom_71 := (F_joiningFrom_68).ext E71
      have F_joining_71 := (F_joining_68).ext E71
      have F_leavingFrom_71 := (F_leavingFrom_68).ext E71
      have F_leaving_71 := (F_leaving_68).ext E71
      have F_reached_71 := (F_reached_68).ext E71
      have G_ro_71 := GA.ext G_ro_68 E71
      have G_rf_71 := GA.ext G_rf_68 E71
      have G_rs_71 := GA.ext G_rs_68 E71
      have G_tr_71 := GA.ext G_tr_68 E71
      have G_jf_71 := GA.ext G_jf_68 E71
      have G_lf_71 := GA.ext G_lf_68 E71
      have G_jo_71 := GA.ext G_jo_68 E71
      have G_le_71 := GA.ext G_le_68 E71
      have G_ja_71 := GA.ext G68 E71
      have EX_jf_71 := (EX_jf_68).ext E71
      have EX_lf_71 := (EX_lf_68).ext E71
      have EX_jo_71 := (EX_jo_68).ext E71
      have EX_le_71 := (EX_le_68).ext E71
      have EX_ja_71 := (EX68).ext E71
      have K_71 := K_68.ext E71
      show Owes _ _ _ _ (T71.setTop (mkF m 247 #[.val (.ref r0), .val (.ref ro), .val (.ref rf), .val (.ref rs), .val (.int p4), .val (.int gI), .val (.int jI), .val (.int lI), .val (.ref ja), s9, s10, .unset] [(.ref la)]))
      refine Owes.cast X71 hx hZ hown (hw _ (List.mem_of_getElem? (i := 36) rfl)) e71 EX71 (hb hby d2_247) ?_
      intro T72 X72 e72
      show Owes _ _ _ _ (T72.setTop (mkF m 250 #[.val (.ref r0), .val (.ref ro), .val (.ref rf), .val (.ref rs), .val (.int p4), .val (.int gI), .val (.int jI), .val (.int lI), .val (.ref ja), s9, s10, .unset] [(.ref la)]))
      refine Owes.go ?_ fun t₀ k₀ => XS.astore X72.here hx rfl (hb hby d2_250) rfl rfl (l' := #[.val (.ref r0), .val (.ref ro), .val (.ref rf), .val (.ref rs), .val (.int p4), .val (.int gI), .val (.int jI), .val (.int lI), .val (.ref ja), .val (.ref la), s10, .unset]) (XS.store1 rfl o9 rfl) k₀
      show Owes _ _ _ _ (T72.setTop (mkF m 252 #[.val (.ref r0), .val (.ref ro), .val (.ref rf), .val (.ref rs), .val (.int p4), .val (.int gI), .val (.int jI), .val (.int lI), .val (.ref ja), .val (.ref la), s10, .unset] []))
      refine Owes.go ?_ fun t₀ k₀ => XS.iconst X72.here hx rfl (hb hby d2_252) k₀
      show Owes _ _ _ _ (T72.setTop (mkF m 253 #[.val (.ref r0), .val (.ref ro), .val (.ref rf), .val (.ref rs), .val (.int p4), .val (.int gI), .val (.int jI), .val (.int lI), .val (.ref ja), .val (.ref la), s10, .unset] [(.int (0 : Int32))]))
      refine Owes.go ?_ fun t₀ k₀ => XS.istore X72.here hx rfl (hb hby d2_253) rfl (l' := #[.val (.ref r0), .val (.ref ro), .val (.ref rf), .val (.ref rs), .val (.int p4), .val (.int gI), .val (.int jI), .val (.int lI), .val (.ref ja), .val (.ref la), .val (.int (0 : Int32)), .unset]) (XS.store1 rfl o10 rfl) k₀
      show Owes _ _ _ _ (T72.setTop (mkF m 255 #[.val (.ref r0), .val (.ref ro), .val (.ref rf), .val (.ref rs), .val (.int p4), .val (.int gI), .val (.int jI), .val (.int lI), .val (.ref ja), .val (.ref la), .val (.int (0 : Int32)), .unset] []))
      have nr : r0 ∉ [ja, jo, la, le] := own_ni4 (Nat.ne_of_lt lt_r0_ja) (Nat.ne_of_lt lt_r0_jo) (Nat.ne_of_lt lt_r0_la) (Nat.ne_of_lt lt_r0_le)
      have nO : ro ∉ [ja, jo, la, le] := own_ni4 (Nat.ne_of_lt lt_ro_ja) (Nat.ne_of_lt lt_ro_jo) (Nat.ne_of_lt lt_ro_la) (Nat.ne_of_lt lt_ro_le)
      have nF : rf ∉ [ja, jo, la, le] := own_ni4 (Nat.ne_of_lt lt_rf_ja) (Nat.ne_of_lt lt_rf_jo) (Nat.ne_of_lt lt_rf_la) (Nat.ne_of_lt lt_rf_le)
      have nS : rs ∉ [ja, jo, la, le] := own_ni4 (Nat.ne_of_lt lt_rs_ja) (Nat.ne_of_lt lt_rs_jo) (Nat.ne_of_lt lt_rs_la) (Nat.ne_of_lt lt_rs_le)
      have nT : tr ∉ [ja, jo, la, le] := own_ni4 (Nat.ne_of_lt lt_tr_ja) (Nat.ne_of_lt lt_tr_jo) (Nat.ne_of_lt lt_tr_la) (Nat.ne_of_lt lt_tr_le)
      have njf : jf ∉ [ja, jo, la, le] := own_ni4 (Nat.ne_of_lt lt_jf_ja) (Nat.ne_of_lt lt_jf_jo) (Nat.ne_of_lt lt_jf_la) (Nat.ne_of_lt lt_jf_le)
      have nlf : lf ∉ [ja, jo, la, le] := own_ni4 (Nat.ne_of_lt lt_lf_ja) (Nat.ne_of_lt lt_lf_jo) (Nat.ne_of_lt lt_lf_la) (Nat.ne_of_lt lt_lf_le)
      have l3 : ∀ (r P : Nat), P + r = 65 → ∀ (T1 : State) (locs : List Loc) (h : Heap) (A G B H : Nat → Int32) (pI : Int32) (s11 : Slot), One s11 → Stand p l e ({ frames := 1, cells := 7, slots := 160, locals := 30 } : Room) s m #[(.ref r0), (.ref ro), (.ref rf), (.ref rs), (.int p4)] below meth c T1 locs 7 (2 * n + 4 + gj + gl + (n + 1) + (n + 1)) → T1.heap = h → Fr n0 locs → Keep h71 h [ja, jo, la, le] → GA Z h ja .int (n + 1) (fun i => .int (A i)) → GA Z h jo .int gj (fun i => .int (G i)) → GA Z h la .int (n + 1) (fun i => .int (B i)) → GA Z h le .int gl (fun i => .int (H i)) → CS kj 65 n P A G → CS kl 65 n P B H → pI.toInt = (P : Int) → Owes p e below (EndN s (fun v h L => v = none ∧ Fr n0 L ∧ Keep h0 h [r0] ∧ ∃ (tr jf jo lf le : Addr) (gj gl : Nat) (JF G LF H : Nat → Int32), TSo Z h r0 tr jf jo lf le n gj gl (fun _ => 0) JF G LF H (-1) ∧ n0 ≤ tr ∧ Tab kj kl n gj gl JF G LF H) ({ frames := 1, cells := 7, slots := 160, locals := 30 } : Room).cells ({ frames := 1, cells := 7, slots := 160, locals := 30 } : Room).slots) (T1.setTop (mkF m 255 #[.val (.ref r0), .val (.ref ro), .val (.ref rf), .val (.ref rs), .val (.int p4), .val (.int gI), .val (.int jI), .val (.int lI), .val (.ref ja), .val (.ref la), .val (.int pI), s11] [])) := by
        intro r
        induction r with
        | zero =>
          intro P hP0 T1 locs h A G B H pI s11 o11 X eT N K GA_ GG GB GH CJ CL hpI
          have hP65 : P = 65 := by omega
          subst hP65
          refine Owes.go ?_ fun t₀ k₀ => XS.iload X.here hx rfl (hb hby d2_255) rfl k₀
          show Owes _ _ _ _ (T1.setTop (mkF m 257 #[.val (.ref r0), .val (.ref ro), .val (.ref rf), .val (.ref rs), .val (.int p4), .val (.int gI), .val (.int jI), .val (.int lI), .val (.ref ja), .val (.ref la), .val (.int pI), s11] [(.int pI)]))
          refine Owes.go ?_ fun t₀ k₀ => XS.aloadN X.here hx rfl (hb hby d2_257) rfl rfl k₀
          show Owes _ _ _ _ (T1.setTop (mkF m 258 #[.val (.ref r0), .val (.ref ro), .val (.ref rf), .val (.ref rs), .val (.int p4), .val (.int gI), .val (.int jI), .val (.int lI), .val (.ref ja), .val (.ref la), .val (.int pI), s11] [(.ref r0), (.int pI)]))
          obtain ⟨T73, X73, e73, st73⟩ := getF X hx hZ hown (host := "") (Or.inl (hw _ (List.mem_of_getElem? (i := 16) rfl))) Via.refl eT (F_size_71.keep K nr) (g := (mkF m 258 #[.val (.ref r0), .val (.ref ro), .val (.ref rf), .val (.ref rs), .val (.int p4), .val (.int gI), .val (.int jI), .val (.int lI), .val (.ref ja), .val (.ref la), .val (.int pI), s11] [(.ref r0), (.int pI)])) rfl rfl (hb hby d2_258)
          refine Owes.go ?_ st73
          show Owes _ _ _ _ (T73.setTop (mkF m 261 #[.val (.ref r0), .val (.ref ro), .val (.ref rf), .val (.ref rs), .val (.int p4), .val (.int gI), .val (.int jI), .val (.int lI), .val (.ref ja), .val (.ref la), .val (.int pI), s11] [(.int (65 : Int32)), (.int pI)]))
          refine Owes.go ?_ fun t₀ k₀ => XS.icmpYes X73.here hx rfl (pc0 := 261) (pc' := 338) rfl (hb hby d2_261) rfl (flt (own_nlti hpI (b := 65) rfl (by omega))).2.1 (by decide) (by decide) k₀
          show Owes _ _ _ _ (T73.setTop (mkF m 338 #[.val (.ref r0), .val (.ref ro), .val (.ref rf), .val (.ref rs), .val (.int p4), .val (.int gI), .val (.int jI), .val (.int lI), .val (.ref ja), .val (.ref la), .val (.int pI), s11] []))
          exact Owes.retV X73 hx hlk hret (hb hby d2_338) (by decide) (show (2 * n + 4 + gj + gl + (n + 1) + (n + 1)) ≤ 160 by omega) (by rw [e73]; exact ⟨rfl, N, K_71.trans K (fun x hx => Or.inr (by simp only [List.mem_cons, List.not_mem_nil, or_false] at hx; rcases hx with rfl | rfl | rfl | rfl; exact ge_ja; exact ge_jo; exact ge_la; exact ge_le)), tr, jf, jo, lf, le, gj, gl, aj, G, al, H, ⟨E_r0_71.keep K, Fld.keep F_size_71 K nr, Fld.keep F_tried_71 K nr, Fld.keep F_joiningFrom_71 K nr, Fld.keep F_joining_71 K nr, Fld.keep F_leavingFrom_71 K nr, Fld.keep F_leaving_71 K nr, Fld.keep F_reached_71 K nr, GA.keep G_tr_71 K nT, GA.keep G_jf_71 K njf, GG, GA.keep G_lf_71 K nlf, GH⟩, gn_tr, (fun t ht => a1 t (by omega)), (fun t ht => b1 t (by omega)), egj.symm, egl.symm, ⟨A, CJ⟩, ⟨B, CL⟩⟩)
        | succ r ih =>
          intro P hP0 T1 locs h A G B H pI s11 o11 X eT N K GA_ GG GB GH CJ CL hpI
          have hP : P < 65 := by omega
          obtain ⟨q, hq, hq65⟩ : ∃ q : Nat, (O P).toInt = (q : Int) ∧ q < 65 := ⟨(O P).toInt.toNat, by have := hO P hP; omega, by have := hO P hP; omega⟩
          obtain ⟨f, hf, hfn⟩ : ∃ f : Nat, (Fa q).toInt = (f : Int) ∧ f < n := ⟨(Fa q).toInt.toNat, by have := hF q hq65; omega, by have := hF q hq65; omega⟩
          obtain ⟨u, hu, hun⟩ : ∃ u : Nat, (Sl q).toInt = (u : Int) ∧ u < n := ⟨(Sl q).toInt.toNat, by have := hS q hq65; omega, by have := hS q hq65; omega⟩
          have hu1 := own_inc hu (by omega)
          refine Owes.go ?_ fun t₀ k₀ => XS.iload X.here hx rfl (hb hby d2_255) rfl k₀
          show Owes _ _ _ _ (T1.setTop (mkF m 257 #[.val (.ref r0), .val (.ref ro), .val (.ref rf), .val (.ref rs), .val (.int p4), .val (.int gI), .val (.int jI), .val (.int lI), .val (.ref ja), .val (.ref la), .val (.int pI), s11] [(.int pI)]))
          refine Owes.go ?_ fun t₀ k₀ => XS.aloadN X.here hx rfl (hb hby d2_257) rfl rfl k₀
          show Owes _ _ _ _ (T1.setTop (mkF m 258 #[.val (.ref r0), .val (.ref ro), .val (.ref rf), .val (.ref rs), .val (.int p4), .val (.int gI), .val (.int jI), .val (.int lI), .val (.ref ja), .val (.ref la), .val (.int pI), s11] [(.ref r0), (.int pI)]))
          obtain ⟨T74, X74, e74, st74⟩ := getF X hx hZ hown (host := "") (Or.inl (hw _ (List.mem_of_getElem? (i := 16) rfl))) Via.refl eT (F_size_71.keep K nr) (g := (mkF m 258 #[.val (.ref r0), .val (.ref ro), .val (.ref rf), .val (.ref rs), .val (.int p4), .val (.int gI), .val (.int jI), .val (.int lI), .val (.ref ja), .val (.ref la), .val (.int pI), s11] [(.ref r0), (.int pI)])) rfl rfl (hb hby d2_258)
          refine Owes.go ?_ st74
          show Owes _ _ _ _ (T74.setTop (mkF m 261 #[.val (.ref r0), .val (.ref ro), .val (.ref rf), .val (.ref rs), .val (.int p4), .val (.int gI), .val (.int jI), .val (.int lI), .val (.ref ja), .val (.ref la), .val (.int pI), s11] [(.int (65 : Int32)), (.int pI)]))
          refine Owes.go ?_ fun t₀ k₀ => XS.icmpNo X74.here hx rfl (hb hby d2_261) rfl (tlt (own_lti hpI (b := 65) rfl (by omega))).2.1 k₀
          show Owes _ _ _ _ (T74.setTop (mkF m 264 #[.val (.ref r0), .val (.ref ro), .val (.ref rf), .val (.ref rs), .val (.int p4), .val (.int gI), .val (.int jI), .val (.int lI), .val (.ref ja), .val (.ref la), .val (.int pI), s11] []))
          refine Owes.go ?_ fun t₀ k₀ => XS.aloadN X74.here hx rfl (hb hby d2_264) rfl rfl k₀
          show Owes _ _ _ _ (T74.setTop (mkF m 265 #[.val (.ref r0), .val (.ref ro), .val (.ref rf), .val (.ref rs), .val (.int p4), .val (.int gI), .val (.int jI), .val (.int lI), .val (.ref ja), .val (.ref la), .val (.int pI), s11] [(.ref ro)]))
          refine Owes.go ?_ fun t₀ k₀ => XS.iload X74.here hx rfl (hb hby d2_265) rfl k₀
          show Owes _ _ _ _ (T74.setTop (mkF m 267 #[.val (.ref r0), .val (.ref ro), .val (.ref rf), .val (.ref rs), .val (.int p4), .val (.int gI), .val (.int jI), .val (.int lI), .val (.ref ja), .val (.ref la), .val (.int pI), s11] [(.int pI), (.ref ro)]))
          refine Owes.gI X74 hx hZ e74 (GA.keep G_ro_71 K nO) hpI hP (v := .int (O P)) rfl (hb hby d2_267) ?_
          show Owes _ _ _ _ (T74.setTop (mkF m 268 #[.val (.ref r0), .val (.ref ro), .val (.ref rf), .val (.ref rs), .val (.int p4), .val (.int gI), .val (.int jI), .val (.int lI), .val (.ref ja), .val (.ref la), .val (.int pI), s11] [(.int (O P))]))
          refine Owes.go ?_ fun t₀ k₀ => XS.istore X74.here hx rfl (hb hby d2_268) rfl (l' := #[.val (.ref r0), .val (.ref ro), .val (.ref rf), .val (.ref rs), .val (.int p4), .val (.int gI), .val (.int jI), .val (.int lI), .val (.ref ja), .val (.ref la), .val (.int pI), .val (.int (O P))]) (XS.store1 rfl o11 rfl) k₀
          show Owes _ _ _ _ (T74.setTop (mkF m 270 #[.val (.ref r0), .val (.ref ro), .val (.ref rf), .val (.ref rs), .val (.int p4), .val (.int gI), .val (.int jI), .val (.int lI), .val (.ref ja), .val (.ref la), .val (.int pI), .val (.int (O P))] []))
          refine Owes.go ?_ fun t₀ k₀ => XS.aloadN X74.here hx rfl (hb hby d2_270) rfl rfl k₀
          show Owes _ _ _ _ (T74.setTop (mkF m 271 #[.val (.ref r0), .val (.ref ro), .val (.ref rf), .val (.ref rs), .val (.int p4), .val (.int gI), .val (.int jI), .val (.int lI), .val (.ref ja), .val (.ref la), .val (.int pI), .val (.int (O P))] [(.ref rs)]))
          refine Owes.go ?_ fun t₀ k₀ => XS.iload X74.here hx rfl (hb hby d2_271) rfl k₀
          show Owes _ _ _ _ (T74.setTop (mkF m 273 #[.val (.ref r0), .val (.ref ro), .val (.ref rf), .val (.ref rs), .val (.int p4), .val (.int gI), .val (.int jI), .val (.int lI), .val (.ref ja), .val (.ref la), .val (.int pI), .val (.int (O P))] [(.int (O P)), (.ref rs)]))
          refine Owes.gI X74 hx hZ e74 (GA.keep G_rs_71 K nS) hq hq65 (v := .int (Sl q)) rfl (hb hby d2_273) ?_
          show Owes _ _ _ _ (T74.setTop (mkF m 274 #[.val (.ref r0), .val (.ref ro), .val (.ref rf), .val (.ref rs), .val (.int p4), .val (.int gI), .val (.int jI), .val (.int lI), .val (.ref ja), .val (.ref la), .val (.int pI), .val (.int (O P))] [(.int (Sl q))]))
          refine Owes.go ?_ fun t₀ k₀ => XS.aloadN X74.here hx rfl (hb hby d2_274) rfl rfl k₀
          show Owes _ _ _ _ (T74.setTop (mkF m 275 #[.val (.ref r0), .val (.ref ro), .val (.ref rf), .val (.ref rs), .val (.int p4), .val (.int gI), .val (.int jI), .val (.int lI), .val (.ref ja), .val (.ref la), .val (.int pI), .val (.int (O P))] [(.ref rf), (.int (Sl q))]))
          refine Owes.go ?_ fun t₀ k₀ => XS.iload X74.here hx rfl (hb hby d2_275) rfl k₀
          show Owes _ _ _ _ (T74.setTop (mkF m 277 #[.val (.ref r0), .val (.ref ro), .val (.ref rf), .val (.ref rs), .val (.int p4), .val (.int gI), .val (.int jI), .val (.int lI), .val (.ref ja), .val (.ref la), .val (.int pI), .val (.int (O P))] [(.int (O P)), (.ref rf), (.int (Sl q))]))
          refine Owes.gI X74 hx hZ e74 (GA.keep G_rf_71 K nF) hq hq65 (v := .int (Fa q)) rfl (hb hby d2_277) ?_
          show Owes _ _ _ _ (T74.setTop (mkF m 278 #[.val (.ref r0), .val (.ref ro), .val (.ref rf), .val (.ref rs), .val (.int p4), .val (.int gI), .val (.int jI), .val (.int lI), .val (.ref ja), .val (.ref la), .val (.int pI), .val (.int (O P))] [(.int (Fa q)), (.int (Sl q))]))
          by_cases hc1 : (Sl q) < (Fa q)
          · skip
            refine Owes.go ?_ fun t₀ k₀ => XS.icmpYes X74.here hx rfl (pc0 := 278) (pc' := 332) rfl (hb hby d2_278) rfl (tlt hc1).1 (by decide) (by decide) k₀
            show Owes _ _ _ _ (T74.setTop (mkF m 332 #[.val (.ref r0), .val (.ref ro), .val (.ref rf), .val (.ref rs), .val (.int p4), .val (.int gI), .val (.int jI), .val (.int lI), .val (.ref ja), .val (.ref la), .val (.int pI), .val (.int (O P))] []))
            refine Owes.go ?_ fun t₀ k₀ => XS.iinc X74.here hx rfl (hb hby d2_332) rfl (l' := #[.val (.ref r0), .val (.ref ro), .val (.ref rf), .val (.ref rs), .val (.int p4), .val (.int gI), .val (.int jI), .val (.int lI), .val (.ref ja), .val (.ref la), .val (.int (pI + (1 : Int32))), .val (.int (O P))]) rfl k₀
            show Owes _ _ _ _ (T74.setTop (mkF m 335 #[.val (.ref r0), .val (.ref ro), .val (.ref rf), .val (.ref rs), .val (.int p4), .val (.int gI), .val (.int jI), .val (.int lI), .val (.ref ja), .val (.ref la), .val (.int (pI + (1 : Int32))), .val (.int (O P))] []))
            refine Owes.go ?_ fun t₀ k₀ => XS.goto X74.here hx rfl (pc0 := 335) (pc' := 255) rfl (hb hby d2_335) (by decide) (by decide) k₀
            show Owes _ _ _ _ (T74.setTop (mkF m 255 #[.val (.ref r0), .val (.ref ro), .val (.ref rf), .val (.ref rs), .val (.int p4), .val (.int gI), .val (.int jI), .val (.int lI), .val (.ref ja), .val (.ref la), .val (.int (pI + (1 : Int32))), .val (.int (O P))] []))
            have kP := own_kJ0 (n := n) hq hc1
            rw [hkj, hkl] at kP
            exact ih (P + 1) (by omega) _ _ _ _ _ _ _ _ _ (One.val rfl) X74 e74 N K GA_ GG GB GH (CJ.skip (by omega)) (CL.skip (by omega)) (own_inc hpI (by omega))
          · skip
            refine Owes.go ?_ fun t₀ k₀ => XS.icmpNo X74.here hx rfl (hb hby d2_278) rfl (flt hc1).1 k₀
            show Owes _ _ _ _ (T74.setTop (mkF m 281 #[.val (.ref r0), .val (.ref ro), .val (.ref rf), .val (.ref rs), .val (.int p4), .val (.int gI), .val (.int jI), .val (.int lI), .val (.ref ja), .val (.ref la), .val (.int pI), .val (.int (O P))] []))
            refine Owes.go ?_ fun t₀ k₀ => XS.aloadN X74.here hx rfl (hb hby d2_281) rfl rfl k₀
            show Owes _ _ _ _ (T74.setTop (mkF m 282 #[.val (.ref r0), .val (.ref ro), .val (.ref rf), .val (.ref rs), .val (.int p4), .val (.int gI), .val (.int jI), .val (.int lI), .val (.ref ja), .val (.ref la), .val (.int pI), .val (.int (O P))] [(.ref r0)]))
            obtain ⟨T75, X75, e75, st75⟩ := getF X74 hx hZ hown (host := "") (Or.inl (hw _ (List.mem_of_getElem? (i := 25) rfl))) Via.refl e74 (F_joining_71.keep K nr) (g := (mkF m 282 #[.val (.ref r0), .val (.ref ro), .val (.ref rf), .val (.ref rs), .val (.int p4), .val (.int gI), .val (.int jI), .val (.int lI), .val (.ref ja), .val (.ref la), .val (.int pI), .val (.int (O P))] [(.ref r0)])) rfl rfl (hb hby d2_282)
            refine Owes.go ?_ st75
            show Owes _ _ _ _ (T75.setTop (mkF m 285 #[.val (.ref r0), .val (.ref ro), .val (.ref rf), .val (.ref rs), .val (.int p4), .val (.int gI), .val (.int jI), .val (.int lI), .val (.ref ja), .val (.ref la), .val (.int pI), .val (.int (O P))] [(.ref jo)]))
            refine Owes.go ?_ fun t₀ k₀ => XS.aload X75.here hx rfl (hb hby d2_285) rfl rfl k₀
            show Owes _ _ _ _ (T75.setTop (mkF m 287 #[.val (.ref r0), .val (.ref ro), .val (.ref rf), .val (.ref rs), .val (.int p4), .val (.int gI), .val (.int jI), .val (.int lI), .val (.ref ja), .val (.ref la), .val (.int pI), .val (.int (O P))] [(.ref ja), (.ref jo)]))
            refine Owes.go ?_ fun t₀ k₀ => XS.aloadN X75.here hx rfl (hb hby d2_287) rfl rfl k₀
            show Owes _ _ _ _ (T75.setTop (mkF m 288 #[.val (.ref r0), .val (.ref ro), .val (.ref rf), .val (.ref rs), .val (.int p4), .val (.int gI), .val (.int jI), .val (.int lI), .val (.ref ja), .val (.ref la), .val (.int pI), .val (.int (O P))] [(.ref rf), (.ref ja), (.ref jo)]))
            refine Owes.go ?_ fun t₀ k₀ => XS.iload X75.here hx rfl (hb hby d2_288) rfl k₀
            show Owes _ _ _ _ (T75.setTop (mkF m 290 #[.val (.ref r0), .val (.ref ro), .val (.ref rf), .val (.ref rs), .val (.int p4), .val (.int gI), .val (.int jI), .val (.int lI), .val (.ref ja), .val (.ref la), .val (.int pI), .val (.int (O P))] [(.int (O P)), (.ref rf), (.ref ja), (.ref jo)]))
            refine Owes.gI X75 hx hZ e75 (GA.keep G_rf_71 K nF) hq hq65 (v := .int (Fa q)) rfl (hb hby d2_290) ?_
            show Owes _ _ _ _ (T75.setTop (mkF m 291 #[.val (.ref r0), .val (.ref ro), .val (.ref rf), .val (.ref rs), .val (.int p4), .val (.int gI), .val (.int jI), .val (.int lI), .val (.ref ja), .val (.ref la), .val (.int pI), .val (.int (O P))] [(.int (Fa q)), (.ref ja), (.ref jo)]))
            refine Owes.go ?_ fun t₀ k₀ => Jvm.Free.XT.dup2 X75.here hx rfl (hb hby d2_291) rfl rfl rfl k₀
            show Owes _ _ _ _ (T75.setTop (mkF m 292 #[.val (.ref r0), .val (.ref ro), .val (.ref rf), .val (.ref rs), .val (.int p4), .val (.int gI), .val (.int jI), .val (.int lI), .val (.ref ja), .val (.ref la), .val (.int pI), .val (.int (O P))] [(.int (Fa q)), (.ref ja), (.int (Fa q)), (.ref ja), (.ref jo)]))
            refine Owes.gI X75 hx hZ e75 GA_ hf (show f < n + 1 by omega) (v := .int (A f)) rfl (hb hby d2_292) ?_
            show Owes _ _ _ _ (T75.setTop (mkF m 293 #[.val (.ref r0), .val (.ref ro), .val (.ref rf), .val (.ref rs), .val (.int p4), .val (.int gI), .val (.int jI), .val (.int lI), .val (.ref ja), .val (.ref la), .val (.int pI), .val (.int (O P))] [(.int (A f)), (.int (Fa q)), (.ref ja), (.ref jo)]))
            refine Owes.go ?_ fun t₀ k₀ => own_dupX2 X75.here hx rfl (hb hby d2_293) rfl rfl rfl rfl k₀
            show Owes _ _ _ _ (T75.setTop (mkF m 294 #[.val (.ref r0), .val (.ref ro), .val (.ref rf), .val (.ref rs), .val (.int p4), .val (.int gI), .val (.int jI), .val (.int lI), .val (.ref ja), .val (.ref la), .val (.int pI), .val (.int (O P))] [(.int (A f)), (.int (Fa q)), (.ref ja), (.int (A f)), (.ref jo)]))
            refine Owes.go ?_ fun t₀ k₀ => XS.iconst X75.here hx rfl (hb hby d2_294) k₀
            show Owes _ _ _ _ (T75.setTop (mkF m 295 #[.val (.ref r0), .val (.ref ro), .val (.ref rf), .val (.ref rs), .val (.int p4), .val (.int gI), .val (.int jI), .val (.int lI), .val (.ref ja), .val (.ref la), .val (.int pI), .val (.int (O P))] [(.int (1 : Int32)), (.int (A f)), (.int (Fa q)), (.ref ja), (.int (A f)), (.ref jo)]))
            refine Owes.go ?_ fun t₀ k₀ => XS.iadd X75.here hx rfl (hb hby d2_295) rfl k₀
            show Owes _ _ _ _ (T75.setTop (mkF m 296 #[.val (.ref r0), .val (.ref ro), .val (.ref rf), .val (.ref rs), .val (.int p4), .val (.int gI), .val (.int jI), .val (.int lI), .val (.ref ja), .val (.ref la), .val (.int pI), .val (.int (O P))] [(.int ((A f) + (1 : Int32))), (.int (Fa q)), (.ref ja), (.int (A f)), (.ref jo)]))
            have kjP : kj P = f := by rw [← hkj]; exact own_kJ1 hq hc1 hf
            have IJ := CJ.idx hP (by rw [kjP]; exact hfn)
            rw [kjP] at IJ
            have hmj := pre_mono kj 65 (show f + 1 ≤ n + 1 by omega)
            obtain ⟨ij, eij⟩ : ∃ z, z = pre kj 65 f + cnt kj P f := ⟨_, rfl⟩
            rw [← eij] at IJ
            refine Owes.sI X75 hx hZ e75 GA_ (i := f) hf (show f < n + 1 by omega) (hb hby d2_296) ?_
            intro T76 h76 X76 e76 W76 G76
            replace G76 := G76.setI
            have G_jo_76 := GA.other GG W76 (Nat.ne_of_lt lt_jo_ja)
            have G_la_76 := GA.other GB W76 (Ne.symm (Nat.ne_of_lt lt_ja_la))
            have G_le_76 := GA.other GH W76 (Nat.ne_of_lt lt_le_ja)
            have K76 := K.wr W76 (Or.inl List.mem_cons_self)
            have N76 := Fr.snoc X76 N gn_ja
            show Owes _ _ _ _ (T76.setTop (mkF m 297 #[.val (.ref r0), .val (.ref ro), .val (.ref rf), .val (.ref rs), .val (.int p4), .val (.int gI), .val (.int jI), .val (.int lI), .val (.ref ja), .val (.ref la), .val (.int pI), .val (.int (O P))] [(.int (A f)), (.ref jo)]))
            refine Owes.go ?_ fun t₀ k₀ => XS.iload X76.here hx rfl (hb hby d2_297) rfl k₀
            show Owes _ _ _ _ (T76.setTop (mkF m 299 #[.val (.ref r0), .val (.ref ro), .val (.ref rf), .val (.ref rs), .val (.int p4), .val (.int gI), .val (.int jI), .val (.int lI), .val (.ref ja), .val (.ref la), .val (.int pI), .val (.int (O P))] [(.int pI), (.int (A f)), (.ref jo)]))
            refine Owes.sI X76 hx hZ e76 G_jo_76 (i := ij) IJ.1 (show ij < gj by omega) (hb hby d2_299) ?_
            intro T77 h77 X77 e77 W77 G77
            replace G77 := G77.setI
            have G_la_77 := GA.other G_la_76 W77 (Ne.symm (Nat.ne_of_lt lt_jo_la))
            have G_le_77 := GA.other G_le_76 W77 (Ne.symm (Nat.ne_of_lt lt_jo_le))
            have G_ja_77 := GA.other G76 W77 (Ne.symm (Nat.ne_of_lt lt_jo_ja))
            have K77 := K76.wr W77 (Or.inl (List.mem_cons_of_mem _ List.mem_cons_self))
            have N77 := Fr.snoc X77 N76 gn_jo
            have CJ' := CJ.step (x := A f + 1) (y := pI) hP (by rw [kjP]; exact hfn) (by rw [kjP, ← eij]; exact own_inc IJ.1 (by omega)) hpI
            rw [kjP, ← eij] at CJ'
            show Owes _ _ _ _ (T77.setTop (mkF m 300 #[.val (.ref r0), .val (.ref ro), .val (.ref rf), .val (.ref rs), .val (.int p4), .val (.int gI), .val (.int jI), .val (.int lI), .val (.ref ja), .val (.ref la), .val (.int pI), .val (.int (O P))] []))
            refine Owes.go ?_ fun t₀ k₀ => XS.aloadN X77.here hx rfl (hb hby d2_300) rfl rfl k₀
            show Owes _ _ _ _ (T77.setTop (mkF m 301 #[.val (.ref r0), .val (.ref ro), .val (.ref rf), .val (.ref rs), .val (.int p4), .val (.int gI), .val (.int jI), .val (.int lI), .val (.ref ja), .val (.ref la), .val (.int pI), .val (.int (O P))] [(.ref rs)]))
            refine Owes.go ?_ fun t₀ k₀ => XS.iload X77.here hx rfl (hb hby d2_301) rfl k₀
            show Owes _ _ _ _ (T77.setTop (mkF m 303 #[.val (.ref r0), .val (.ref ro), .val (.ref rf), .val (.ref rs), .val (.int p4), .val (.int gI), .val (.int jI), .val (.int lI), .val (.ref ja), .val (.ref la), .val (.int pI), .val (.int (O P))] [(.int (O P)), (.ref rs)]))
            refine Owes.gI X77 hx hZ e77 (GA.keep G_rs_71 K77 nS) hq hq65 (v := .int (Sl q)) rfl (hb hby d2_303) ?_
            show Owes _ _ _ _ (T77.setTop (mkF m 304 #[.val (.ref r0), .val (.ref ro), .val (.ref rf), .val (.ref rs), .val (.int p4), .val (.int gI), .val (.int jI), .val (.int lI), .val (.ref ja), .val (.ref la), .val (.int pI), .val (.int (O P))] [(.int (Sl q))]))
            refine Owes.go ?_ fun t₀ k₀ => XS.iconst X77.here hx rfl (hb hby d2_304) k₀
            show Owes _ _ _ _ (T77.setTop (mkF m 305 #[.val (.ref r0), .val (.ref ro), .val (.ref rf), .val (.ref rs), .val (.int p4), .val (.int gI), .val (.int jI), .val (.int lI), .val (.ref ja), .val (.ref la), .val (.int pI), .val (.int (O P))] [(.int (1 : Int32)), (.int (Sl q))]))
            refine Owes.go ?_ fun t₀ k₀ => XS.iadd X77.here hx rfl (hb hby d2_305) rfl k₀
            show Owes _ _ _ _ (T77.setTop (mkF m 306 #[.val (.ref r0), .val (.ref ro), .val (.ref rf), .val (.ref rs), .val (.int p4), .val (.int gI), .val (.int jI), .val (.int lI), .val (.ref ja), .val (.ref la), .val (.int pI), .val (.int (O P))] [(.int ((Sl q) + (1 : Int32)))]))
            refine Owes.go ?_ fun t₀ k₀ => XS.iload X77.here hx rfl (hb hby d2_306) rfl k₀
            show Owes _ _ _ _ (T77.setTop (mkF m 308 #[.val (.ref r0), .val (.ref ro), .val (.ref rf), .val (.ref rs), .val (.int p4), .val (.int gI), .val (.int jI), .val (.int lI), .val (.ref ja), .val (.ref la), .val (.int pI), .val (.int (O P))] [(.int p4), (.int ((Sl q) + (1 : Int32)))]))
            by_cases hc2 : ((Sl q) + (1 : Int32)) < p4
            · skip
              refine Owes.go ?_ fun t₀ k₀ => XS.icmpNo X77.here hx rfl (hb hby d2_308) rfl (tlt hc2).2.1 k₀
              show Owes _ _ _ _ (T77.setTop (mkF m 311 #[.val (.ref r0), .val (.ref ro), .val (.ref rf), .val (.ref rs), .val (.int p4), .val (.int gI), .val (.int jI), .val (.int lI), .val (.ref ja), .val (.ref la), .val (.int pI), .val (.int (O P))] []))
              refine Owes.go ?_ fun t₀ k₀ => XS.aloadN X77.here hx rfl (hb hby d2_311) rfl rfl k₀
              show Owes _ _ _ _ (T77.setTop (mkF m 312 #[.val (.ref r0), .val (.ref ro), .val (.ref rf), .val (.ref rs), .val (.int p4), .val (.int gI), .val (.int jI), .val (.int lI), .val (.ref ja), .val (.ref la), .val (.int pI), .val (.int (O P))] [(.ref r0)]))
              obtain ⟨T78, X78, e78, st78⟩ := getF X77 hx hZ hown (host := "") (Or.inl (hw _ (List.mem_of_getElem? (i := 27) rfl))) Via.refl e77 (F_leaving_71.keep K77 nr) (g := (mkF m 312 #[.val (.ref r0), .val (.ref ro), .val (.ref rf), .val (.ref rs), .val (.int p4), .val (.int gI), .val (.int jI), .val (.int lI), .val (.ref ja), .val (.ref la), .val (.int pI), .val (.int (O P))] [(.ref r0)])) rfl rfl (hb hby d2_312)
              refine Owes.go ?_ st78
              show Owes _ _ _ _ (T78.setTop (mkF m 315 #[.val (.ref r0), .val (.ref ro), .val (.ref rf), .val (.ref rs), .val (.int p4), .val (.int gI), .val (.int jI), .val (.int lI), .val (.ref ja), .val (.ref la), .val (.int pI), .val (.int (O P))] [(.ref le)]))
              refine Owes.go ?_ fun t₀ k₀ => XS.aload X78.here hx rfl (hb hby d2_315) rfl rfl k₀
              show Owes _ _ _ _ (T78.setTop (mkF m 317 #[.val (.ref r0), .val (.ref ro), .val (.ref rf), .val (.ref rs), .val (.int p4), .val (.int gI), .val (.int jI), .val (.int lI), .val (.ref ja), .val (.ref la), .val (.int pI), .val (.int (O P))] [(.ref la), (.ref le)]))
              refine Owes.go ?_ fun t₀ k₀ => XS.aloadN X78.here hx rfl (hb hby d2_317) rfl rfl k₀
              show Owes _ _ _ _ (T78.setTop (mkF m 318 #[.val (.ref r0), .val (.ref ro), .val (.ref rf), .val (.ref rs), .val (.int p4), .val (.int gI), .val (.int jI), .val (.int lI), .val (.ref ja), .val (.ref la), .val (.int pI), .val (.int (O P))] [(.ref rs), (.ref la), (.ref le)]))
              refine Owes.go ?_ fun t₀ k₀ => XS.iload X78.here hx rfl (hb hby d2_318) rfl k₀
              show Owes _ _ _ _ (T78.setTop (mkF m 320 #[.val (.ref r0), .val (.ref ro), .val (.ref rf), .val (.ref rs), .val (.int p4), .val (.int gI), .val (.int jI), .val (.int lI), .val (.ref ja), .val (.ref la), .val (.int pI), .val (.int (O P))] [(.int (O P)), (.ref rs), (.ref la), (.ref le)]))
              refine Owes.gI X78 hx hZ e78 (GA.keep G_rs_71 K77 nS) hq hq65 (v := .int (Sl q)) rfl (hb hby d2_320) ?_
              show Owes _ _ _ _ (T78.setTop (mkF m 321 #[.val (.ref r0), .val (.ref ro), .val (.ref rf), .val (.ref rs), .val (.int p4), .val (.int gI), .val (.int jI), .val (.int lI), .val (.ref ja), .val (.ref la), .val (.int pI), .val (.int (O P))] [(.int (Sl q)), (.ref la), (.ref le)]))
              refine Owes.go ?_ fun t₀ k₀ => XS.iconst X78.here hx rfl (hb hby d2_321) k₀
              show Owes _ _ _ _ (T78.setTop (mkF m 322 #[.val (.ref r0), .val (.ref ro), .val (.ref rf), .val (.ref rs), .val (.int p4), .val (.int gI), .val (.int jI), .val (.int lI), .val (.ref ja), .val (.ref la), .val (.int pI), .val (.int (O P))] [(.int (1 : Int32)), (.int (Sl q)), (.ref la), (.ref le)]))
              refine Owes.go ?_ fun t₀ k₀ => XS.iadd X78.here hx rfl (hb hby d2_322) rfl k₀
              show Owes _ _ _ _ (T78.setTop (mkF m 323 #[.val (.ref r0), .val (.ref ro), .val (.ref rf), .val (.ref rs), .val (.int p4), .val (.int gI), .val (.int jI), .val (.int lI), .val (.ref ja), .val (.ref la), .val (.int pI), .val (.int (O P))] [(.int ((Sl q) + (1 : Int32))), (.ref la), (.ref le)]))
              refine Owes.go ?_ fun t₀ k₀ => Jvm.Free.XT.dup2 X78.here hx rfl (hb hby d2_323) rfl rfl rfl k₀
              show Owes _ _ _ _ (T78.setTop (mkF m 324 #[.val (.ref r0), .val (.ref ro), .val (.ref rf), .val (.ref rs), .val (.int p4), .val (.int gI), .val (.int jI), .val (.int lI), .val (.ref ja), .val (.ref la), .val (.int pI), .val (.int (O P))] [(.int ((Sl q) + (1 : Int32))), (.ref la), (.int ((Sl q) + (1 : Int32))), (.ref la), (.ref le)]))
              refine Owes.gI X78 hx hZ e78 G_la_77 hu1 (show u + 1 < n + 1 by omega) (v := .int (B (u + 1))) rfl (hb hby d2_324) ?_
              show Owes _ _ _ _ (T78.setTop (mkF m 325 #[.val (.ref r0), .val (.ref ro), .val (.ref rf), .val (.ref rs), .val (.int p4), .val (.int gI), .val (.int jI), .val (.int lI), .val (.ref ja), .val (.ref la), .val (.int pI), .val (.int (O P))] [(.int (B (u + 1))), (.int ((Sl q) + (1 : Int32))), (.ref la), (.ref le)]))
              refine Owes.go ?_ fun t₀ k₀ => own_dupX2 X78.here hx rfl (hb hby d2_325) rfl rfl rfl rfl k₀
              show Owes _ _ _ _ (T78.setTop (mkF m 326 #[.val (.ref r0), .val (.ref ro), .val (.ref rf), .val (.ref rs), .val (.int p4), .val (.int gI), .val (.int jI), .val (.int lI), .val (.ref ja), .val (.ref la), .val (.int pI), .val (.int (O P))] [(.int (B (u + 1))), (.int ((Sl q) + (1 : Int32))), (.ref la), (.int (B (u + 1))), (.ref le)]))
              refine Owes.go ?_ fun t₀ k₀ => XS.iconst X78.here hx rfl (hb hby d2_326) k₀
              show Owes _ _ _ _ (T78.setTop (mkF m 327 #[.val (.ref r0), .val (.ref ro), .val (.ref rf), .val (.ref rs), .val (.int p4), .val (.int gI), .val (.int jI), .val (.int lI), .val (.ref ja), .val (.ref la), .val (.int pI), .val (.int (O P))] [(.int (1 : Int32)), (.int (B (u + 1))), (.int ((Sl q) + (1 : Int32))), (.ref la), (.int (B (u + 1))), (.ref le)]))
              refine Owes.go ?_ fun t₀ k₀ => XS.iadd X78.here hx rfl (hb hby d2_327) rfl k₀
              show Owes _ _ _ _ (T78.setTop (mkF m 328 #[.val (.ref r0), .val (.ref ro), .val (.ref rf), .val (.ref rs), .val (.int p4), .val (.int gI), .val (.int jI), .val (.int lI), .val (.ref ja), .val (.ref la), .val (.int pI), .val (.int (O P))] [(.int ((B (u + 1)) + (1 : Int32))), (.int ((Sl q) + (1 : Int32))), (.ref la), (.int (B (u + 1))), (.ref le)]))
              have hun1 := own_ltn hu1 hn hc2
              have klP : kl P = u + 1 := by rw [← hkl]; exact own_kL1 hq hc1 hu hun1
              have IL := CL.idx hP (by rw [klP]; exact hun1)
              rw [klP] at IL
              have hml' := pre_mono kl 65 (show u + 1 + 1 ≤ n + 1 by omega)
              obtain ⟨il, eil⟩ : ∃ z, z = pre kl 65 (u + 1) + cnt kl P (u + 1) := ⟨_, rfl⟩
              rw [← eil] at IL
              refine Owes.sI X78 hx hZ e78 G_la_77 (i := (u + 1)) hu1 (show u + 1 < n + 1 by omega) (hb hby d2_328) ?_
              intro T79 h79 X79 e79 W79 G79
              replace G79 := G79.setI
              have G_le_79 := GA.other G_le_77 W79 (Nat.ne_of_lt lt_le_la)
              have G_ja_79 := GA.other G_ja_77 W79 (Nat.ne_of_lt lt_ja_la)
              have G_jo_79 := GA.other G77 W79 (Nat.ne_of_lt lt_jo_la)
              have K79 := K77.wr W79 (Or.inl (List.mem_cons_of_mem _ (List.mem_cons_of_mem _ List.mem_cons_self)))
              have N79 := Fr.snoc X79 N77 gn_la
              show Owes _ _ _ _ (T79.setTop (mkF m 329 #[.val (.ref r0), .val (.ref ro), .val (.ref rf), .val (.ref rs), .val (.int p4), .val (.int gI), .val (.int jI), .val (.int lI), .val (.ref ja), .val (.ref la), .val (.int pI), .val (.int (O P))] [(.int (B (u + 1))), (.ref le)]))
              refine Owes.go ?_ fun t₀ k₀ => XS.iload X79.here hx rfl (hb hby d2_329) rfl k₀
              show Owes _ _ _ _ (T79.setTop (mkF m 331 #[.val (.ref r0), .val (.ref ro), .val (.ref rf), .val (.ref rs), .val (.int p4), .val (.int gI), .val (.int jI), .val (.int lI), .val (.ref ja), .val (.ref la), .val (.int pI), .val (.int (O P))] [(.int pI), (.int (B (u + 1))), (.ref le)]))
              refine Owes.sI X79 hx hZ e79 G_le_79 (i := il) IL.1 (show il < gl by omega) (hb hby d2_331) ?_
              intro T80 h80 X80 e80 W80 G80
              replace G80 := G80.setI
              have G_ja_80 := GA.other G_ja_79 W80 (Ne.symm (Nat.ne_of_lt lt_le_ja))
              have G_jo_80 := GA.other G_jo_79 W80 (Nat.ne_of_lt lt_jo_le)
              have G_la_80 := GA.other G79 W80 (Ne.symm (Nat.ne_of_lt lt_le_la))
              have K80 := K79.wr W80 (Or.inl (List.mem_cons_of_mem _ (List.mem_cons_of_mem _ (List.mem_cons_of_mem _ List.mem_cons_self))))
              have N80 := Fr.snoc X80 N79 gn_le
              have CL' := CL.step (x := B (u + 1) + 1) (y := pI) hP (by rw [klP]; exact hun1) (by rw [klP, ← eil]; exact own_inc IL.1 (by omega)) hpI
              rw [klP, ← eil] at CL'
              show Owes _ _ _ _ (T80.setTop (mkF m 332 #[.val (.ref r0), .val (.ref ro), .val (.ref rf), .val (.ref rs), .val (.int p4), .val (.int gI), .val (.int jI), .val (.int lI), .val (.ref ja), .val (.ref la), .val (.int pI), .val (.int (O P))] []))
              refine Owes.go ?_ fun t₀ k₀ => XS.iinc X80.here hx rfl (hb hby d2_332) rfl (l' := #[.val (.ref r0), .val (.ref ro), .val (.ref rf), .val (.ref rs), .val (.int p4), .val (.int gI), .val (.int jI), .val (.int lI), .val (.ref ja), .val (.ref la), .val (.int (pI + (1 : Int32))), .val (.int (O P))]) rfl k₀
              show Owes _ _ _ _ (T80.setTop (mkF m 335 #[.val (.ref r0), .val (.ref ro), .val (.ref rf), .val (.ref rs), .val (.int p4), .val (.int gI), .val (.int jI), .val (.int lI), .val (.ref ja), .val (.ref la), .val (.int (pI + (1 : Int32))), .val (.int (O P))] []))
              refine Owes.go ?_ fun t₀ k₀ => XS.goto X80.here hx rfl (pc0 := 335) (pc' := 255) rfl (hb hby d2_335) (by decide) (by decide) k₀
              show Owes _ _ _ _ (T80.setTop (mkF m 255 #[.val (.ref r0), .val (.ref ro), .val (.ref rf), .val (.ref rs), .val (.int p4), .val (.int gI), .val (.int jI), .val (.int lI), .val (.ref ja), .val (.ref la), .val (.int (pI + (1 : Int32))), .val (.int (O P))] []))
              exact ih (P + 1) (by omega) _ _ _ _ _ _ _ _ _ (One.val rfl) X80 e80 N80 K80 G_ja_80 G_jo_80 G_la_80 G80 CJ' CL' (own_inc hpI (by omega))
            · skip
              refine Owes.go ?_ fun t₀ k₀ => XS.icmpYes X77.here hx rfl (pc0 := 308) (pc' := 332) rfl (hb hby d2_308) rfl (flt hc2).2.1 (by decide) (by decide) k₀
              show Owes _ _ _ _ (T77.setTop (mkF m 332 #[.val (.ref r0), .val (.ref ro), .val (.ref rf), .val (.ref rs), .val (.int p4), .val (.int gI), .val (.int jI), .val (.int lI), .val (.ref ja), .val (.ref la), .val (.int pI), .val (.int (O P))] []))
              refine Owes.go ?_ fun t₀ k₀ => XS.iinc X77.here hx rfl (hb hby d2_332) rfl (l' := #[.val (.ref r0), .val (.ref ro), .val (.ref rf), .val (.ref rs), .val (.int p4), .val (.int gI), .val (.int jI), .val (.int lI), .val (.ref ja), .val (.ref la), .val (.int (pI + (1 : Int32))), .val (.int (O P))]) rfl k₀
              show Owes _ _ _ _ (T77.setTop (mkF m 335 #[.val (.ref r0), .val (.ref ro), .val (.ref rf), .val (.ref rs), .val (.int p4), .val (.int gI), .val (.int jI), .val (.int lI), .val (.ref ja), .val (.ref la), .val (.int (pI + (1 : Int32))), .val (.int (O P))] []))
              refine Owes.go ?_ fun t₀ k₀ => XS.goto X77.here hx rfl (pc0 := 335) (pc' := 255) rfl (hb hby d2_335) (by decide) (by decide) k₀
              show Owes _ _ _ _ (T77.setTop (mkF m 255 #[.val (.ref r0), .val (.ref ro), .val (.ref rf), .val (.ref rs), .val (.int p4), .val (.int gI), .val (.int jI), .val (.int lI), .val (.ref ja), .val (.ref la), .val (.int (pI + (1 : Int32))), .val (.int (O P))] []))
              have klP : kl P = 1000 := by rw [← hkl]; exact own_kL0 hq hc1 hu (own_ltn0 hu1 hn hc2)
              exact ih (P + 1) (by omega) _ _ _ _ _ _ _ _ _ (One.val rfl) X77 e77 N77 K77 G_ja_77 G77 G_la_77 G_le_77 CJ' (CL.skip (by omega)) (own_inc hpI (by omega))
      exact l3 65 0 (by omega) _ _ _ _ _ _ _ _ .unset One.u (own_st X72 (by decide) (by omega)) e72 N66 (Keep.refl _ _) G_ja_71 G_jo_71 G71 G_le_71 (CS.start fun t ht => a1 t (by omega)) (CS.start fun t ht => b1 t (by omega)) rfl
    | succ r ih =>
      intro t ht T1 locs h aj al gI jI lI tI s9 s10 o9 o10 X eT N K GJ GL a1 a2 b1 b2 hgI hjI hlI htI
      have htn : t ≤ n := by omega
      refine Owes.go ?_ fun t₀ k₀ => XS.iload X.here hx rfl (hb hby d2_149) rfl k₀
      show Owes _ _ _ _ (T1.setTop (mkF m 151 #[.val (.ref r0), .val (.ref ro), .val (.ref rf), .val (.ref rs), .val (.int p4), .val (.int gI), .val (.int jI), .val (.int lI), .val (.int tI), s9, s10, .unset] [(.int tI)]))
      refine Owes.go ?_ fun t₀ k₀ => XS.iload X.here hx rfl (hb hby d2_151) rfl k₀
      show Owes _ _ _ _ (T1.setTop (mkF m 153 #[.val (.ref r0), .val (.ref ro), .val (.ref rf), .val (.ref rs), .val (.int p4), .val (.int gI), .val (.int jI), .val (.int lI), .val (.int tI), s9, s10, .unset] [(.int p4), (.int tI)]))
      refine Owes.go ?_ fun t₀ k₀ => XS.icmpNo X.here hx rfl (hb hby d2_153) rfl (flt (own_nlti hn htI (by omega))).2.2.1 k₀
      show Owes _ _ _ _ (T1.setTop (mkF m 156 #[.val (.ref r0), .val (.ref ro), .val (.ref rf), .val (.ref rs), .val (.int p4), .val (.int gI), .val (.int jI), .val (.int lI), .val (.int tI), s9, s10, .unset] []))
      refine Owes.go ?_ fun t₀ k₀ => XS.aloadN X.here hx rfl (hb hby d2_156) rfl rfl k₀
      show Owes _ _ _ _ (T1.setTop (mkF m 157 #[.val (.ref r0), .val (.ref ro), .val (.ref rf), .val (.ref rs), .val (.int p4), .val (.int gI), .val (.int jI), .val (.int lI), .val (.int tI), s9, s10, .unset] [(.ref r0)]))
      obtain ⟨T81, X81, e81, st81⟩ := getF X hx hZ hown (host := "") (Or.inl (hw _ (List.mem_of_getElem? (i := 21) rfl))) Via.refl eT (F_r0_joiningFrom_62.keep K nr) (g := (mkF m 157 #[.val (.ref r0), .val (.ref ro), .val (.ref rf), .val (.ref rs), .val (.int p4), .val (.int gI), .val (.int jI), .val (.int lI), .val (.int tI), s9, s10, .unset] [(.ref r0)])) rfl rfl (hb hby d2_157)
      refine Owes.go ?_ st81
      show Owes _ _ _ _ (T81.setTop (mkF m 160 #[.val (.ref r0), .val (.ref ro), .val (.ref rf), .val (.ref rs), .val (.int p4), .val (.int gI), .val (.int jI), .val (.int lI), .val (.int tI), s9, s10, .unset] [(.ref jf)]))
      refine Owes.go ?_ fun t₀ k₀ => XS.iload X81.here hx rfl (hb hby d2_160) rfl k₀
      show Owes _ _ _ _ (T81.setTop (mkF m 162 #[.val (.ref r0), .val (.ref ro), .val (.ref rf), .val (.ref rs), .val (.int p4), .val (.int gI), .val (.int jI), .val (.int lI), .val (.int tI), s9, s10, .unset] [(.int tI), (.ref jf)]))
      refine Owes.gI X81 hx hZ e81 GJ htI (show t < n + 1 by omega) (v := .int (aj t)) rfl (hb hby d2_162) ?_
      show Owes _ _ _ _ (T81.setTop (mkF m 163 #[.val (.ref r0), .val (.ref ro), .val (.ref rf), .val (.ref rs), .val (.int p4), .val (.int gI), .val (.int jI), .val (.int lI), .val (.int tI), s9, s10, .unset] [(.int (aj t))]))
      refine Owes.go ?_ fun t₀ k₀ => XS.istore X81.here hx rfl (hb hby d2_163) rfl (l' := #[.val (.ref r0), .val (.ref ro), .val (.ref rf), .val (.ref rs), .val (.int p4), .val (.int gI), .val (.int jI), .val (.int lI), .val (.int tI), .val (.int (aj t)), s10, .unset]) (XS.store1 rfl o9 rfl) k₀
      show Owes _ _ _ _ (T81.setTop (mkF m 165 #[.val (.ref r0), .val (.ref ro), .val (.ref rf), .val (.ref rs), .val (.int p4), .val (.int gI), .val (.int jI), .val (.int lI), .val (.int tI), .val (.int (aj t)), s10, .unset] []))
      refine Owes.go ?_ fun t₀ k₀ => XS.aloadN X81.here hx rfl (hb hby d2_165) rfl rfl k₀
      show Owes _ _ _ _ (T81.setTop (mkF m 166 #[.val (.ref r0), .val (.ref ro), .val (.ref rf), .val (.ref rs), .val (.int p4), .val (.int gI), .val (.int jI), .val (.int lI), .val (.int tI), .val (.int (aj t)), s10, .unset] [(.ref r0)]))
      obtain ⟨T82, X82, e82, st82⟩ := getF X81 hx hZ hown (host := "") (Or.inl (hw _ (List.mem_of_getElem? (i := 23) rfl))) Via.refl e81 (F_r0_leavingFrom_62.keep K nr) (g := (mkF m 166 #[.val (.ref r0), .val (.ref ro), .val (.ref rf), .val (.ref rs), .val (.int p4), .val (.int gI), .val (.int jI), .val (.int lI), .val (.int tI), .val (.int (aj t)), s10, .unset] [(.ref r0)])) rfl rfl (hb hby d2_166)
      refine Owes.go ?_ st82
      show Owes _ _ _ _ (T82.setTop (mkF m 169 #[.val (.ref r0), .val (.ref ro), .val (.ref rf), .val (.ref rs), .val (.int p4), .val (.int gI), .val (.int jI), .val (.int lI), .val (.int tI), .val (.int (aj t)), s10, .unset] [(.ref lf)]))
      refine Owes.go ?_ fun t₀ k₀ => XS.iload X82.here hx rfl (hb hby d2_169) rfl k₀
      show Owes _ _ _ _ (T82.setTop (mkF m 171 #[.val (.ref r0), .val (.ref ro), .val (.ref rf), .val (.ref rs), .val (.int p4), .val (.int gI), .val (.int jI), .val (.int lI), .val (.int tI), .val (.int (aj t)), s10, .unset] [(.int tI), (.ref lf)]))
      refine Owes.gI X82 hx hZ e82 GL htI (show t < n + 1 by omega) (v := .int (al t)) rfl (hb hby d2_171) ?_
      show Owes _ _ _ _ (T82.setTop (mkF m 172 #[.val (.ref r0), .val (.ref ro), .val (.ref rf), .val (.ref rs), .val (.int p4), .val (.int gI), .val (.int jI), .val (.int lI), .val (.int tI), .val (.int (aj t)), s10, .unset] [(.int (al t))]))
      refine Owes.go ?_ fun t₀ k₀ => XS.istore X82.here hx rfl (hb hby d2_172) rfl (l' := #[.val (.ref r0), .val (.ref ro), .val (.ref rf), .val (.ref rs), .val (.int p4), .val (.int gI), .val (.int jI), .val (.int lI), .val (.int tI), .val (.int (aj t)), .val (.int (al t)), .unset]) (XS.store1 rfl o10 rfl) k₀
      show Owes _ _ _ _ (T82.setTop (mkF m 174 #[.val (.ref r0), .val (.ref ro), .val (.ref rf), .val (.ref rs), .val (.int p4), .val (.int gI), .val (.int jI), .val (.int lI), .val (.int tI), .val (.int (aj t)), .val (.int (al t)), .unset] []))
      refine Owes.go ?_ fun t₀ k₀ => XS.aloadN X82.here hx rfl (hb hby d2_174) rfl rfl k₀
      show Owes _ _ _ _ (T82.setTop (mkF m 175 #[.val (.ref r0), .val (.ref ro), .val (.ref rf), .val (.ref rs), .val (.int p4), .val (.int gI), .val (.int jI), .val (.int lI), .val (.int tI), .val (.int (aj t)), .val (.int (al t)), .unset] [(.ref r0)]))
      obtain ⟨T83, X83, e83, st83⟩ := getF X82 hx hZ hown (host := "") (Or.inl (hw _ (List.mem_of_getElem? (i := 21) rfl))) Via.refl e82 (F_r0_joiningFrom_62.keep K nr) (g := (mkF m 175 #[.val (.ref r0), .val (.ref ro), .val (.ref rf), .val (.ref rs), .val (.int p4), .val (.int gI), .val (.int jI), .val (.int lI), .val (.int tI), .val (.int (aj t)), .val (.int (al t)), .unset] [(.ref r0)])) rfl rfl (hb hby d2_175)
      refine Owes.go ?_ st83
      show Owes _ _ _ _ (T83.setTop (mkF m 178 #[.val (.ref r0), .val (.ref ro), .val (.ref rf), .val (.ref rs), .val (.int p4), .val (.int gI), .val (.int jI), .val (.int lI), .val (.int tI), .val (.int (aj t)), .val (.int (al t)), .unset] [(.ref jf)]))
      refine Owes.go ?_ fun t₀ k₀ => XS.iload X83.here hx rfl (hb hby d2_178) rfl k₀
      show Owes _ _ _ _ (T83.setTop (mkF m 180 #[.val (.ref r0), .val (.ref ro), .val (.ref rf), .val (.ref rs), .val (.int p4), .val (.int gI), .val (.int jI), .val (.int lI), .val (.int tI), .val (.int (aj t)), .val (.int (al t)), .unset] [(.int tI), (.ref jf)]))
      refine Owes.go ?_ fun t₀ k₀ => XS.iload X83.here hx rfl (hb hby d2_180) rfl k₀
      show Owes _ _ _ _ (T83.setTop (mkF m 182 #[.val (.ref r0), .val (.ref ro), .val (.ref rf), .val (.ref rs), .val (.int p4), .val (.int gI), .val (.int jI), .val (.int lI), .val (.int tI), .val (.int (aj t)), .val (.int (al t)), .unset] [(.int jI), (.int tI), (.ref jf)]))
      refine Owes.sI X83 hx hZ e83 GJ (i := t) htI (show t < n + 1 by omega) (hb hby d2_182) ?_
      intro T84 h84 X84 e84 W84 G84
      replace G84 := G84.setI
      have G_lf_84 := GA.other GL W84 (Ne.symm (Nat.ne_of_lt lt_jf_lf))
      have K84 := K.wr W84 (Or.inl List.mem_cons_self)
      have N84 := Fr.snoc X84 N gn_jf
      show Owes _ _ _ _ (T84.setTop (mkF m 183 #[.val (.ref r0), .val (.ref ro), .val (.ref rf), .val (.ref rs), .val (.int p4), .val (.int gI), .val (.int jI), .val (.int lI), .val (.int tI), .val (.int (aj t)), .val (.int (al t)), .unset] []))
      refine Owes.go ?_ fun t₀ k₀ => XS.aloadN X84.here hx rfl (hb hby d2_183) rfl rfl k₀
      show Owes _ _ _ _ (T84.setTop (mkF m 184 #[.val (.ref r0), .val (.ref ro), .val (.ref rf), .val (.ref rs), .val (.int p4), .val (.int gI), .val (.int jI), .val (.int lI), .val (.int tI), .val (.int (aj t)), .val (.int (al t)), .unset] [(.ref r0)]))
      obtain ⟨T85, X85, e85, st85⟩ := getF X84 hx hZ hown (host := "") (Or.inl (hw _ (List.mem_of_getElem? (i := 23) rfl))) Via.refl e84 (F_r0_leavingFrom_62.keep K84 nr) (g := (mkF m 184 #[.val (.ref r0), .val (.ref ro), .val (.ref rf), .val (.ref rs), .val (.int p4), .val (.int gI), .val (.int jI), .val (.int lI), .val (.int tI), .val (.int (aj t)), .val (.int (al t)), .unset] [(.ref r0)])) rfl rfl (hb hby d2_184)
      refine Owes.go ?_ st85
      show Owes _ _ _ _ (T85.setTop (mkF m 187 #[.val (.ref r0), .val (.ref ro), .val (.ref rf), .val (.ref rs), .val (.int p4), .val (.int gI), .val (.int jI), .val (.int lI), .val (.int tI), .val (.int (aj t)), .val (.int (al t)), .unset] [(.ref lf)]))
      refine Owes.go ?_ fun t₀ k₀ => XS.iload X85.here hx rfl (hb hby d2_187) rfl k₀
      show Owes _ _ _ _ (T85.setTop (mkF m 189 #[.val (.ref r0), .val (.ref ro), .val (.ref rf), .val (.ref rs), .val (.int p4), .val (.int gI), .val (.int jI), .val (.int lI), .val (.int tI), .val (.int (aj t)), .val (.int (al t)), .unset] [(.int tI), (.ref lf)]))
      refine Owes.go ?_ fun t₀ k₀ => XS.iload X85.here hx rfl (hb hby d2_189) rfl k₀
      show Owes _ _ _ _ (T85.setTop (mkF m 191 #[.val (.ref r0), .val (.ref ro), .val (.ref rf), .val (.ref rs), .val (.int p4), .val (.int gI), .val (.int jI), .val (.int lI), .val (.int tI), .val (.int (aj t)), .val (.int (al t)), .unset] [(.int lI), (.int tI), (.ref lf)]))
      refine Owes.sI X85 hx hZ e85 G_lf_84 (i := t) htI (show t < n + 1 by omega) (hb hby d2_191) ?_
      intro T86 h86 X86 e86 W86 G86
      replace G86 := G86.setI
      have G_jf_86 := GA.other G84 W86 (Nat.ne_of_lt lt_jf_lf)
      have K86 := K84.wr W86 (Or.inl (List.mem_cons_of_mem _ List.mem_cons_self))
      have N86 := Fr.snoc X86 N84 gn_lf
      show Owes _ _ _ _ (T86.setTop (mkF m 192 #[.val (.ref r0), .val (.ref ro), .val (.ref rf), .val (.ref rs), .val (.int p4), .val (.int gI), .val (.int jI), .val (.int lI), .val (.int tI), .val (.int (aj t)), .val (.int (al t)), .unset] []))
      refine Owes.go ?_ fun t₀ k₀ => XS.iload X86.here hx rfl (hb hby d2_192) rfl k₀
      show Owes _ _ _ _ (T86.setTop (mkF m 194 #[.val (.ref r0), .val (.ref ro), .val (.ref rf), .val (.ref rs), .val (.int p4), .val (.int gI), .val (.int jI), .val (.int lI), .val (.int tI), .val (.int (aj t)), .val (.int (al t)), .unset] [(.int jI)]))
      refine Owes.go ?_ fun t₀ k₀ => XS.iload X86.here hx rfl (hb hby d2_194) rfl k₀
      show Owes _ _ _ _ (T86.setTop (mkF m 196 #[.val (.ref r0), .val (.ref ro), .val (.ref rf), .val (.ref rs), .val (.int p4), .val (.int gI), .val (.int jI), .val (.int lI), .val (.int tI), .val (.int (aj t)), .val (.int (al t)), .unset] [(.int (aj t)), (.int jI)]))
      refine Owes.go ?_ fun t₀ k₀ => XS.iadd X86.here hx rfl (hb hby d2_196) rfl k₀
      show Owes _ _ _ _ (T86.setTop (mkF m 197 #[.val (.ref r0), .val (.ref ro), .val (.ref rf), .val (.ref rs), .val (.int p4), .val (.int gI), .val (.int jI), .val (.int lI), .val (.int tI), .val (.int (aj t)), .val (.int (al t)), .unset] [(.int (jI + (aj t)))]))
      refine Owes.go ?_ fun t₀ k₀ => XS.istore X86.here hx rfl (hb hby d2_197) rfl (l' := #[.val (.ref r0), .val (.ref ro), .val (.ref rf), .val (.ref rs), .val (.int p4), .val (.int gI), .val (.int (jI + (aj t))), .val (.int lI), .val (.int tI), .val (.int (aj t)), .val (.int (al t)), .unset]) rfl k₀
      show Owes _ _ _ _ (T86.setTop (mkF m 199 #[.val (.ref r0), .val (.ref ro), .val (.ref rf), .val (.ref rs), .val (.int p4), .val (.int gI), .val (.int (jI + (aj t))), .val (.int lI), .val (.int tI), .val (.int (aj t)), .val (.int (al t)), .unset] []))
      refine Owes.go ?_ fun t₀ k₀ => XS.iload X86.here hx rfl (hb hby d2_199) rfl k₀
      show Owes _ _ _ _ (T86.setTop (mkF m 201 #[.val (.ref r0), .val (.ref ro), .val (.ref rf), .val (.ref rs), .val (.int p4), .val (.int gI), .val (.int (jI + (aj t))), .val (.int lI), .val (.int tI), .val (.int (aj t)), .val (.int (al t)), .unset] [(.int lI)]))
      refine Owes.go ?_ fun t₀ k₀ => XS.iload X86.here hx rfl (hb hby d2_201) rfl k₀
      show Owes _ _ _ _ (T86.setTop (mkF m 203 #[.val (.ref r0), .val (.ref ro), .val (.ref rf), .val (.ref rs), .val (.int p4), .val (.int gI), .val (.int (jI + (aj t))), .val (.int lI), .val (.int tI), .val (.int (aj t)), .val (.int (al t)), .unset] [(.int (al t)), (.int lI)]))
      refine Owes.go ?_ fun t₀ k₀ => XS.iadd X86.here hx rfl (hb hby d2_203) rfl k₀
      show Owes _ _ _ _ (T86.setTop (mkF m 204 #[.val (.ref r0), .val (.ref ro), .val (.ref rf), .val (.ref rs), .val (.int p4), .val (.int gI), .val (.int (jI + (aj t))), .val (.int lI), .val (.int tI), .val (.int (aj t)), .val (.int (al t)), .unset] [(.int (lI + (al t)))]))
      refine Owes.go ?_ fun t₀ k₀ => XS.istore X86.here hx rfl (hb hby d2_204) rfl (l' := #[.val (.ref r0), .val (.ref ro), .val (.ref rf), .val (.ref rs), .val (.int p4), .val (.int gI), .val (.int (jI + (aj t))), .val (.int (lI + (al t))), .val (.int tI), .val (.int (aj t)), .val (.int (al t)), .unset]) rfl k₀
      show Owes _ _ _ _ (T86.setTop (mkF m 206 #[.val (.ref r0), .val (.ref ro), .val (.ref rf), .val (.ref rs), .val (.int p4), .val (.int gI), .val (.int (jI + (aj t))), .val (.int (lI + (al t))), .val (.int tI), .val (.int (aj t)), .val (.int (al t)), .unset] []))
      refine Owes.go ?_ fun t₀ k₀ => XS.iinc X86.here hx rfl (hb hby d2_206) rfl (l' := #[.val (.ref r0), .val (.ref ro), .val (.ref rf), .val (.ref rs), .val (.int p4), .val (.int gI), .val (.int (jI + (aj t))), .val (.int (lI + (al t))), .val (.int (tI + (1 : Int32))), .val (.int (aj t)), .val (.int (al t)), .unset]) rfl k₀
      show Owes _ _ _ _ (T86.setTop (mkF m 209 #[.val (.ref r0), .val (.ref ro), .val (.ref rf), .val (.ref rs), .val (.int p4), .val (.int gI), .val (.int (jI + (aj t))), .val (.int (lI + (al t))), .val (.int (tI + (1 : Int32))), .val (.int (aj t)), .val (.int (al t)), .unset] []))
      refine Owes.go ?_ fun t₀ k₀ => XS.goto X86.here hx rfl (pc0 := 209) (pc' := 149) rfl (hb hby d2_209) (by decide) (by decide) k₀
      show Owes _ _ _ _ (T86.setTop (mkF m 149 #[.val (.ref r0), .val (.ref ro), .val (.ref rf), .val (.ref rs), .val (.int p4), .val (.int gI), .val (.int (jI + (aj t))), .val (.int (lI + (al t))), .val (.int (tI + (1 : Int32))), .val (.int (aj t)), .val (.int (al t)), .unset] []))
      have q1 := pre_le kj 65 t
      have q2 := cnt_le kj 65 t
      have q3 := pre_le kl 65 t
      have q4 := cnt_le kl 65 t
      exact ih (t + 1) (by omega) _ _ _ _ _ _ _ _ _ _ _ (One.val rfl) (One.val rfl) X86 e86 N86 K86 G_jf_86 G86 (own_lo a1 hjI) (own_hi' a2) (own_lo b1 hlI) (own_hi' b2) hgI (own_addt hjI (a2 t (Nat.le_refl _) htn) (by omega)) (own_addt hlI (b2 t (Nat.le_refl _) htn) (by omega)) (own_inc htI (by omega))
  have l1 : ∀ (r P : Nat), P + r = 65 → ∀ (T1 : State) (locs : List Loc) (h : Heap) (cj c_l : Nat → Int32) (gI pI : Int32) (s9 : Slot), One s9 → Stand p l e ({ frames := 1, cells := 7, slots := 160, locals := 30 } : Room) s m #[(.ref r0), (.ref ro), (.ref rf), (.ref rs), (.int p4)] below meth c T1 locs 3 (2 * n + 4) → T1.heap = h → Fr n0 locs → Keep h62 h [jf, lf] → GA Z h jf .int (n + 1) (fun i => .int (cj i)) → GA Z h lf .int (n + 1) (fun i => .int (c_l i)) → (∀ t, t ≤ n → (cj t).toInt = (cnt kj P t : Int)) → (∀ t, t ≤ n → (c_l t).toInt = (cnt kl P t : Int)) → gI.toInt = (pre kj P (n + 1) : Int) → pI.toInt = (P : Int) → Owes p e below (EndN s (fun v h L => v = none ∧ Fr n0 L ∧ Keep h0 h [r0] ∧ ∃ (tr jf jo lf le : Addr) (gj gl : Nat) (JF G LF H : Nat → Int32), TSo Z h r0 tr jf jo lf le n gj gl (fun _ => 0) JF G LF H (-1) ∧ n0 ≤ tr ∧ Tab kj kl n gj gl JF G LF H) ({ frames := 1, cells := 7, slots := 160, locals := 30 } : Room).cells ({ frames := 1, cells := 7, slots := 160, locals := 30 } : Room).slots) (T1.setTop (mkF m 67 #[.val (.ref r0), .val (.ref ro), .val (.ref rf), .val (.ref rs), .val (.int p4), .val (.int gI), .val (.ref ro), .val (.int (65 : Int32)), .val (.int pI), s9, .unset, .unset] [])) := by
    intro r
    induction r with
    | zero =>
      intro P hP0 T1 locs h cj c_l gI pI s9 o9 X eT N K GJ GL HJ HL hgI hpI
      have hP65 : P = 65 := by omega
      subst hP65
      refine Owes.go ?_ fun t₀ k₀ => XS.iload X.here hx rfl (hb hby d2_67) rfl k₀
      show Owes _ _ _ _ (T1.setTop (mkF m 69 #[.val (.ref r0), .val (.ref ro), .val (.ref rf), .val (.ref rs), .val (.int p4), .val (.int gI), .val (.ref ro), .val (.int (65 : Int32)), .val (.int pI), s9, .unset, .unset] [(.int pI)]))
      refine Owes.go ?_ fun t₀ k₀ => XS.iload X.here hx rfl (hb hby d2_69) rfl k₀
      show Owes _ _ _ _ (T1.setTop (mkF m 71 #[.val (.ref r0), .val (.ref ro), .val (.ref rf), .val (.ref rs), .val (.int p4), .val (.int gI), .val (.ref ro), .val (.int (65 : Int32)), .val (.int pI), s9, .unset, .unset] [(.int (65 : Int32)), (.int pI)]))
      refine Owes.go ?_ fun t₀ k₀ => XS.icmpYes X.here hx rfl (pc0 := 71) (pc' := 140) rfl (hb hby d2_71) rfl (flt (own_nlti hpI (b := 65) rfl (by omega))).2.1 (by decide) (by decide) k₀
      show Owes _ _ _ _ (T1.setTop (mkF m 140 #[.val (.ref r0), .val (.ref ro), .val (.ref rf), .val (.ref rs), .val (.int p4), .val (.int gI), .val (.ref ro), .val (.int (65 : Int32)), .val (.int pI), s9, .unset, .unset] []))
      refine Owes.go ?_ fun t₀ k₀ => XS.iconst X.here hx rfl (hb hby d2_140) k₀
      show Owes _ _ _ _ (T1.setTop (mkF m 141 #[.val (.ref r0), .val (.ref ro), .val (.ref rf), .val (.ref rs), .val (.int p4), .val (.int gI), .val (.ref ro), .val (.int (65 : Int32)), .val (.int pI), s9, .unset, .unset] [(.int (0 : Int32))]))
      refine Owes.go ?_ fun t₀ k₀ => XS.istore X.here hx rfl (hb hby d2_141) rfl (l' := #[.val (.ref r0), .val (.ref ro), .val (.ref rf), .val (.ref rs), .val (.int p4), .val (.int gI), .val (.int (0 : Int32)), .val (.int (65 : Int32)), .val (.int pI), s9, .unset, .unset]) rfl k₀
      show Owes _ _ _ _ (T1.setTop (mkF m 143 #[.val (.ref r0), .val (.ref ro), .val (.ref rf), .val (.ref rs), .val (.int p4), .val (.int gI), .val (.int (0 : Int32)), .val (.int (65 : Int32)), .val (.int pI), s9, .unset, .unset] []))
      refine Owes.go ?_ fun t₀ k₀ => XS.iconst X.here hx rfl (hb hby d2_143) k₀
      show Owes _ _ _ _ (T1.setTop (mkF m 144 #[.val (.ref r0), .val (.ref ro), .val (.ref rf), .val (.ref rs), .val (.int p4), .val (.int gI), .val (.int (0 : Int32)), .val (.int (65 : Int32)), .val (.int pI), s9, .unset, .unset] [(.int (0 : Int32))]))
      refine Owes.go ?_ fun t₀ k₀ => XS.istore X.here hx rfl (hb hby d2_144) rfl (l' := #[.val (.ref r0), .val (.ref ro), .val (.ref rf), .val (.ref rs), .val (.int p4), .val (.int gI), .val (.int (0 : Int32)), .val (.int (0 : Int32)), .val (.int pI), s9, .unset, .unset]) rfl k₀
      show Owes _ _ _ _ (T1.setTop (mkF m 146 #[.val (.ref r0), .val (.ref ro), .val (.ref rf), .val (.ref rs), .val (.int p4), .val (.int gI), .val (.int (0 : Int32)), .val (.int (0 : Int32)), .val (.int pI), s9, .unset, .unset] []))
      refine Owes.go ?_ fun t₀ k₀ => XS.iconst X.here hx rfl (hb hby d2_146) k₀
      show Owes _ _ _ _ (T1.setTop (mkF m 147 #[.val (.ref r0), .val (.ref ro), .val (.ref rf), .val (.ref rs), .val (.int p4), .val (.int gI), .val (.int (0 : Int32)), .val (.int (0 : Int32)), .val (.int pI), s9, .unset, .unset] [(.int (0 : Int32))]))
      refine Owes.go ?_ fun t₀ k₀ => XS.istore X.here hx rfl (hb hby d2_147) rfl (l' := #[.val (.ref r0), .val (.ref ro), .val (.ref rf), .val (.ref rs), .val (.int p4), .val (.int gI), .val (.int (0 : Int32)), .val (.int (0 : Int32)), .val (.int (0 : Int32)), s9, .unset, .unset]) rfl k₀
      show Owes _ _ _ _ (T1.setTop (mkF m 149 #[.val (.ref r0), .val (.ref ro), .val (.ref rf), .val (.ref rs), .val (.int p4), .val (.int gI), .val (.int (0 : Int32)), .val (.int (0 : Int32)), .val (.int (0 : Int32)), s9, .unset, .unset] []))
      exact l2 (n + 1) 0 (by omega) _ _ _ _ _ _ _ _ _ _ _ o9 One.u X eT N K GJ GL (fun u hu => absurd hu (Nat.not_lt_zero _)) (fun u _ hu => HJ u hu) (fun u hu => absurd hu (Nat.not_lt_zero _)) (fun u _ hu => HL u hu) hgI rfl rfl rfl
    | succ r ih =>
      intro P hP0 T1 locs h cj c_l gI pI s9 o9 X eT N K GJ GL HJ HL hgI hpI
      have hP : P < 65 := by omega
      obtain ⟨q, hq, hq65⟩ : ∃ q : Nat, (O P).toInt = (q : Int) ∧ q < 65 := ⟨(O P).toInt.toNat, by have := hO P hP; omega, by have := hO P hP; omega⟩
      obtain ⟨f, hf, hfn⟩ : ∃ f : Nat, (Fa q).toInt = (f : Int) ∧ f < n := ⟨(Fa q).toInt.toNat, by have := hF q hq65; omega, by have := hF q hq65; omega⟩
      obtain ⟨u, hu, hun⟩ : ∃ u : Nat, (Sl q).toInt = (u : Int) ∧ u < n := ⟨(Sl q).toInt.toNat, by have := hS q hq65; omega, by have := hS q hq65; omega⟩
      have hu1 := own_inc hu (by omega)
      refine Owes.go ?_ fun t₀ k₀ => XS.iload X.here hx rfl (hb hby d2_67) rfl k₀
      show Owes _ _ _ _ (T1.setTop (mkF m 69 #[.val (.ref r0), .val (.ref ro), .val (.ref rf), .val (.ref rs), .val (.int p4), .val (.int gI), .val (.ref ro), .val (.int (65 : Int32)), .val (.int pI), s9, .unset, .unset] [(.int pI)]))
      refine Owes.go ?_ fun t₀ k₀ => XS.iload X.here hx rfl (hb hby d2_69) rfl k₀
      show Owes _ _ _ _ (T1.setTop (mkF m 71 #[.val (.ref r0), .val (.ref ro), .val (.ref rf), .val (.ref rs), .val (.int p4), .val (.int gI), .val (.ref ro), .val (.int (65 : Int32)), .val (.int pI), s9, .unset, .unset] [(.int (65 : Int32)), (.int pI)]))
      refine Owes.go ?_ fun t₀ k₀ => XS.icmpNo X.here hx rfl (hb hby d2_71) rfl (tlt (own_lti hpI (b := 65) rfl (by omega))).2.1 k₀
      show Owes _ _ _ _ (T1.setTop (mkF m 74 #[.val (.ref r0), .val (.ref ro), .val (.ref rf), .val (.ref rs), .val (.int p4), .val (.int gI), .val (.ref ro), .val (.int (65 : Int32)), .val (.int pI), s9, .unset, .unset] []))
      refine Owes.go ?_ fun t₀ k₀ => XS.aload X.here hx rfl (hb hby d2_74) rfl rfl k₀
      show Owes _ _ _ _ (T1.setTop (mkF m 76 #[.val (.ref r0), .val (.ref ro), .val (.ref rf), .val (.ref rs), .val (.int p4), .val (.int gI), .val (.ref ro), .val (.int (65 : Int32)), .val (.int pI), s9, .unset, .unset] [(.ref ro)]))
      refine Owes.go ?_ fun t₀ k₀ => XS.iload X.here hx rfl (hb hby d2_76) rfl k₀
      show Owes _ _ _ _ (T1.setTop (mkF m 78 #[.val (.ref r0), .val (.ref ro), .val (.ref rf), .val (.ref rs), .val (.int p4), .val (.int gI), .val (.ref ro), .val (.int (65 : Int32)), .val (.int pI), s9, .unset, .unset] [(.int pI), (.ref ro)]))
      refine Owes.gI X hx hZ eT (GA.keep G_ro_62 K nO) hpI hP (v := .int (O P)) rfl (hb hby d2_78) ?_
      show Owes _ _ _ _ (T1.setTop (mkF m 79 #[.val (.ref r0), .val (.ref ro), .val (.ref rf), .val (.ref rs), .val (.int p4), .val (.int gI), .val (.ref ro), .val (.int (65 : Int32)), .val (.int pI), s9, .unset, .unset] [(.int (O P))]))
      refine Owes.go ?_ fun t₀ k₀ => XS.istore X.here hx rfl (hb hby d2_79) rfl (l' := #[.val (.ref r0), .val (.ref ro), .val (.ref rf), .val (.ref rs), .val (.int p4), .val (.int gI), .val (.ref ro), .val (.int (65 : Int32)), .val (.int pI), .val (.int (O P)), .unset, .unset]) (XS.store1 rfl o9 rfl) k₀
      show Owes _ _ _ _ (T1.setTop (mkF m 81 #[.val (.ref r0), .val (.ref ro), .val (.ref rf), .val (.ref rs), .val (.int p4), .val (.int gI), .val (.ref ro), .val (.int (65 : Int32)), .val (.int pI), .val (.int (O P)), .unset, .unset] []))
      refine Owes.go ?_ fun t₀ k₀ => XS.aloadN X.here hx rfl (hb hby d2_81) rfl rfl k₀
      show Owes _ _ _ _ (T1.setTop (mkF m 82 #[.val (.ref r0), .val (.ref ro), .val (.ref rf), .val (.ref rs), .val (.int p4), .val (.int gI), .val (.ref ro), .val (.int (65 : Int32)), .val (.int pI), .val (.int (O P)), .unset, .unset] [(.ref rs)]))
      refine Owes.go ?_ fun t₀ k₀ => XS.iload X.here hx rfl (hb hby d2_82) rfl k₀
      show Owes _ _ _ _ (T1.setTop (mkF m 84 #[.val (.ref r0), .val (.ref ro), .val (.ref rf), .val (.ref rs), .val (.int p4), .val (.int gI), .val (.ref ro), .val (.int (65 : Int32)), .val (.int pI), .val (.int (O P)), .unset, .unset] [(.int (O P)), (.ref rs)]))
      refine Owes.gI X hx hZ eT (GA.keep G_rs_62 K nS) hq hq65 (v := .int (Sl q)) rfl (hb hby d2_84) ?_
      show Owes _ _ _ _ (T1.setTop (mkF m 85 #[.val (.ref r0), .val (.ref ro), .val (.ref rf), .val (.ref rs), .val (.int p4), .val (.int gI), .val (.ref ro), .val (.int (65 : Int32)), .val (.int pI), .val (.int (O P)), .unset, .unset] [(.int (Sl q))]))
      refine Owes.go ?_ fun t₀ k₀ => XS.aloadN X.here hx rfl (hb hby d2_85) rfl rfl k₀
      show Owes _ _ _ _ (T1.setTop (mkF m 86 #[.val (.ref r0), .val (.ref ro), .val (.ref rf), .val (.ref rs), .val (.int p4), .val (.int gI), .val (.ref ro), .val (.int (65 : Int32)), .val (.int pI), .val (.int (O P)), .unset, .unset] [(.ref rf), (.int (Sl q))]))
      refine Owes.go ?_ fun t₀ k₀ => XS.iload X.here hx rfl (hb hby d2_86) rfl k₀
      show Owes _ _ _ _ (T1.setTop (mkF m 88 #[.val (.ref r0), .val (.ref ro), .val (.ref rf), .val (.ref rs), .val (.int p4), .val (.int gI), .val (.ref ro), .val (.int (65 : Int32)), .val (.int pI), .val (.int (O P)), .unset, .unset] [(.int (O P)), (.ref rf), (.int (Sl q))]))
      refine Owes.gI X hx hZ eT (GA.keep G_rf_62 K nF) hq hq65 (v := .int (Fa q)) rfl (hb hby d2_88) ?_
      show Owes _ _ _ _ (T1.setTop (mkF m 89 #[.val (.ref r0), .val (.ref ro), .val (.ref rf), .val (.ref rs), .val (.int p4), .val (.int gI), .val (.ref ro), .val (.int (65 : Int32)), .val (.int pI), .val (.int (O P)), .unset, .unset] [(.int (Fa q)), (.int (Sl q))]))
      by_cases hc3 : (Sl q) < (Fa q)
      · skip
        refine Owes.go ?_ fun t₀ k₀ => XS.icmpYes X.here hx rfl (pc0 := 89) (pc' := 134) rfl (hb hby d2_89) rfl (tlt hc3).1 (by decide) (by decide) k₀
        show Owes _ _ _ _ (T1.setTop (mkF m 134 #[.val (.ref r0), .val (.ref ro), .val (.ref rf), .val (.ref rs), .val (.int p4), .val (.int gI), .val (.ref ro), .val (.int (65 : Int32)), .val (.int pI), .val (.int (O P)), .unset, .unset] []))
        refine Owes.go ?_ fun t₀ k₀ => XS.iinc X.here hx rfl (hb hby d2_134) rfl (l' := #[.val (.ref r0), .val (.ref ro), .val (.ref rf), .val (.ref rs), .val (.int p4), .val (.int gI), .val (.ref ro), .val (.int (65 : Int32)), .val (.int (pI + (1 : Int32))), .val (.int (O P)), .unset, .unset]) rfl k₀
        show Owes _ _ _ _ (T1.setTop (mkF m 137 #[.val (.ref r0), .val (.ref ro), .val (.ref rf), .val (.ref rs), .val (.int p4), .val (.int gI), .val (.ref ro), .val (.int (65 : Int32)), .val (.int (pI + (1 : Int32))), .val (.int (O P)), .unset, .unset] []))
        refine Owes.go ?_ fun t₀ k₀ => XS.goto X.here hx rfl (pc0 := 137) (pc' := 67) rfl (hb hby d2_137) (by decide) (by decide) k₀
        show Owes _ _ _ _ (T1.setTop (mkF m 67 #[.val (.ref r0), .val (.ref ro), .val (.ref rf), .val (.ref rs), .val (.int p4), .val (.int gI), .val (.ref ro), .val (.int (65 : Int32)), .val (.int (pI + (1 : Int32))), .val (.int (O P)), .unset, .unset] []))
        have kP := own_kJ0 (n := n) hq hc3
        rw [hkj, hkl] at kP
        exact ih (P + 1) (by omega) _ _ _ _ _ _ _ _ (One.val rfl) X eT N K GJ GL (cnt_skip HJ (by omega)) (cnt_skip HL (by omega)) (own_pre0 hgI (by omega)) (own_inc hpI (by omega))
      · skip
        refine Owes.go ?_ fun t₀ k₀ => XS.icmpNo X.here hx rfl (hb hby d2_89) rfl (flt hc3).1 k₀
        show Owes _ _ _ _ (T1.setTop (mkF m 92 #[.val (.ref r0), .val (.ref ro), .val (.ref rf), .val (.ref rs), .val (.int p4), .val (.int gI), .val (.ref ro), .val (.int (65 : Int32)), .val (.int pI), .val (.int (O P)), .unset, .unset] []))
        refine Owes.go ?_ fun t₀ k₀ => XS.aloadN X.here hx rfl (hb hby d2_92) rfl rfl k₀
        show Owes _ _ _ _ (T1.setTop (mkF m 93 #[.val (.ref r0), .val (.ref ro), .val (.ref rf), .val (.ref rs), .val (.int p4), .val (.int gI), .val (.ref ro), .val (.int (65 : Int32)), .val (.int pI), .val (.int (O P)), .unset, .unset] [(.ref r0)]))
        obtain ⟨T87, X87, e87, st87⟩ := getF X hx hZ hown (host := "") (Or.inl (hw _ (List.mem_of_getElem? (i := 21) rfl))) Via.refl eT (F_r0_joiningFrom_62.keep K nr) (g := (mkF m 93 #[.val (.ref r0), .val (.ref ro), .val (.ref rf), .val (.ref rs), .val (.int p4), .val (.int gI), .val (.ref ro), .val (.int (65 : Int32)), .val (.int pI), .val (.int (O P)), .unset, .unset] [(.ref r0)])) rfl rfl (hb hby d2_93)
        refine Owes.go ?_ st87
        show Owes _ _ _ _ (T87.setTop (mkF m 96 #[.val (.ref r0), .val (.ref ro), .val (.ref rf), .val (.ref rs), .val (.int p4), .val (.int gI), .val (.ref ro), .val (.int (65 : Int32)), .val (.int pI), .val (.int (O P)), .unset, .unset] [(.ref jf)]))
        refine Owes.go ?_ fun t₀ k₀ => XS.aloadN X87.here hx rfl (hb hby d2_96) rfl rfl k₀
        show Owes _ _ _ _ (T87.setTop (mkF m 97 #[.val (.ref r0), .val (.ref ro), .val (.ref rf), .val (.ref rs), .val (.int p4), .val (.int gI), .val (.ref ro), .val (.int (65 : Int32)), .val (.int pI), .val (.int (O P)), .unset, .unset] [(.ref rf), (.ref jf)]))
        refine Owes.go ?_ fun t₀ k₀ => XS.iload X87.here hx rfl (hb hby d2_97) rfl k₀
        show Owes _ _ _ _ (T87.setTop (mkF m 99 #[.val (.ref r0), .val (.ref ro), .val (.ref rf), .val (.ref rs), .val (.int p4), .val (.int gI), .val (.ref ro), .val (.int (65 : Int32)), .val (.int pI), .val (.int (O P)), .unset, .unset] [(.int (O P)), (.ref rf), (.ref jf)]))
        refine Owes.gI X87 hx hZ e87 (GA.keep G_rf_62 K nF) hq hq65 (v := .int (Fa q)) rfl (hb hby d2_99) ?_
        show Owes _ _ _ _ (T87.setTop (mkF m 100 #[.val (.ref r0), .val (.ref ro), .val (.ref rf), .val (.ref rs), .val (.int p4), .val (.int gI), .val (.ref ro), .val (.int (65 : Int32)), .val (.int pI), .val (.int (O P)), .unset, .unset] [(.int (Fa q)), (.ref jf)]))
        refine Owes.go ?_ fun t₀ k₀ => Jvm.Free.XT.dup2 X87.here hx rfl (hb hby d2_100) rfl rfl rfl k₀
        show Owes _ _ _ _ (T87.setTop (mkF m 101 #[.val (.ref r0), .val (.ref ro), .val (.ref rf), .val (.ref rs), .val (.int p4), .val (.int gI), .val (.ref ro), .val (.int (65 : Int32)), .val (.int pI), .val (.int (O P)), .unset, .unset] [(.int (Fa q)), (.ref jf), (.int (Fa q)), (.ref jf)]))
        refine Owes.gI X87 hx hZ e87 GJ hf (show f < n + 1 by omega) (v := .int (cj f)) rfl (hb hby d2_101) ?_
        show Owes _ _ _ _ (T87.setTop (mkF m 102 #[.val (.ref r0), .val (.ref ro), .val (.ref rf), .val (.ref rs), .val (.int p4), .val (.int gI), .val (.ref ro), .val (.int (65 : Int32)), .val (.int pI), .val (.int (O P)), .unset, .unset] [(.int (cj f)), (.int (Fa q)), (.ref jf)]))
        refine Owes.go ?_ fun t₀ k₀ => XS.iconst X87.here hx rfl (hb hby d2_102) k₀
        show Owes _ _ _ _ (T87.setTop (mkF m 103 #[.val (.ref r0), .val (.ref ro), .val (.ref rf), .val (.ref rs), .val (.int p4), .val (.int gI), .val (.ref ro), .val (.int (65 : Int32)), .val (.int pI), .val (.int (O P)), .unset, .unset] [(.int (1 : Int32)), (.int (cj f)), (.int (Fa q)), (.ref jf)]))
        refine Owes.go ?_ fun t₀ k₀ => XS.iadd X87.here hx rfl (hb hby d2_103) rfl k₀
        show Owes _ _ _ _ (T87.setTop (mkF m 104 #[.val (.ref r0), .val (.ref ro), .val (.ref rf), .val (.ref rs), .val (.int p4), .val (.int gI), .val (.ref ro), .val (.int (65 : Int32)), .val (.int pI), .val (.int (O P)), .unset, .unset] [(.int ((cj f) + (1 : Int32))), (.int (Fa q)), (.ref jf)]))
        refine Owes.sI X87 hx hZ e87 GJ (i := f) hf (show f < n + 1 by omega) (hb hby d2_104) ?_
        intro T88 h88 X88 e88 W88 G88
        replace G88 := G88.setI
        have G_lf_88 := GA.other GL W88 (Ne.symm (Nat.ne_of_lt lt_jf_lf))
        have K88 := K.wr W88 (Or.inl List.mem_cons_self)
        have N88 := Fr.snoc X88 N gn_jf
        show Owes _ _ _ _ (T88.setTop (mkF m 105 #[.val (.ref r0), .val (.ref ro), .val (.ref rf), .val (.ref rs), .val (.int p4), .val (.int gI), .val (.ref ro), .val (.int (65 : Int32)), .val (.int pI), .val (.int (O P)), .unset, .unset] []))
        refine Owes.go ?_ fun t₀ k₀ => XS.aloadN X88.here hx rfl (hb hby d2_105) rfl rfl k₀
        show Owes _ _ _ _ (T88.setTop (mkF m 106 #[.val (.ref r0), .val (.ref ro), .val (.ref rf), .val (.ref rs), .val (.int p4), .val (.int gI), .val (.ref ro), .val (.int (65 : Int32)), .val (.int pI), .val (.int (O P)), .unset, .unset] [(.ref rs)]))
        refine Owes.go ?_ fun t₀ k₀ => XS.iload X88.here hx rfl (hb hby d2_106) rfl k₀
        show Owes _ _ _ _ (T88.setTop (mkF m 108 #[.val (.ref r0), .val (.ref ro), .val (.ref rf), .val (.ref rs), .val (.int p4), .val (.int gI), .val (.ref ro), .val (.int (65 : Int32)), .val (.int pI), .val (.int (O P)), .unset, .unset] [(.int (O P)), (.ref rs)]))
        refine Owes.gI X88 hx hZ e88 (GA.keep G_rs_62 K88 nS) hq hq65 (v := .int (Sl q)) rfl (hb hby d2_108) ?_
        show Owes _ _ _ _ (T88.setTop (mkF m 109 #[.val (.ref r0), .val (.ref ro), .val (.ref rf), .val (.ref rs), .val (.int p4), .val (.int gI), .val (.ref ro), .val (.int (65 : Int32)), .val (.int pI), .val (.int (O P)), .unset, .unset] [(.int (Sl q))]))
        refine Owes.go ?_ fun t₀ k₀ => XS.iconst X88.here hx rfl (hb hby d2_109) k₀
        show Owes _ _ _ _ (T88.setTop (mkF m 110 #[.val (.ref r0), .val (.ref ro), .val (.ref rf), .val (.ref rs), .val (.int p4), .val (.int gI), .val (.ref ro), .val (.int (65 : Int32)), .val (.int pI), .val (.int (O P)), .unset, .unset] [(.int (1 : Int32)), (.int (Sl q))]))
        refine Owes.go ?_ fun t₀ k₀ => XS.iadd X88.here hx rfl (hb hby d2_110) rfl k₀
        show Owes _ _ _ _ (T88.setTop (mkF m 111 #[.val (.ref r0), .val (.ref ro), .val (.ref rf), .val (.ref rs), .val (.int p4), .val (.int gI), .val (.ref ro), .val (.int (65 : Int32)), .val (.int pI), .val (.int (O P)), .unset, .unset] [(.int ((Sl q) + (1 : Int32)))]))
        refine Owes.go ?_ fun t₀ k₀ => XS.iload X88.here hx rfl (hb hby d2_111) rfl k₀
        show Owes _ _ _ _ (T88.setTop (mkF m 113 #[.val (.ref r0), .val (.ref ro), .val (.ref rf), .val (.ref rs), .val (.int p4), .val (.int gI), .val (.ref ro), .val (.int (65 : Int32)), .val (.int pI), .val (.int (O P)), .unset, .unset] [(.int p4), (.int ((Sl q) + (1 : Int32)))]))
        by_cases hc4 : ((Sl q) + (1 : Int32)) < p4
        · skip
          refine Owes.go ?_ fun t₀ k₀ => XS.icmpNo X88.here hx rfl (hb hby d2_113) rfl (tlt hc4).2.1 k₀
          show Owes _ _ _ _ (T88.setTop (mkF m 116 #[.val (.ref r0), .val (.ref ro), .val (.ref rf), .val (.ref rs), .val (.int p4), .val (.int gI), .val (.ref ro), .val (.int (65 : Int32)), .val (.int pI), .val (.int (O P)), .unset, .unset] []))
          refine Owes.go ?_ fun t₀ k₀ => XS.aloadN X88.here hx rfl (hb hby d2_116) rfl rfl k₀
          show Owes _ _ _ _ (T88.setTop (mkF m 117 #[.val (.ref r0), .val (.ref ro), .val (.ref rf), .val (.ref rs), .val (.int p4), .val (.int gI), .val (.ref ro), .val (.int (65 : Int32)), .val (.int pI), .val (.int (O P)), .unset, .unset] [(.ref r0)]))
          obtain ⟨T89, X89, e89, st89⟩ := getF X88 hx hZ hown (host := "") (Or.inl (hw _ (List.mem_of_getElem? (i := 23) rfl))) Via.refl e88 (F_r0_leavingFrom_62.keep K88 nr) (g := (mkF m 117 #[.val (.ref r0), .val (.ref ro), .val (.ref rf), .val (.ref rs), .val (.int p4), .val (.int gI), .val (.ref ro), .val (.int (65 : Int32)), .val (.int pI), .val (.int (O P)), .unset, .unset] [(.ref r0)])) rfl rfl (hb hby d2_117)
          refine Owes.go ?_ st89
          show Owes _ _ _ _ (T89.setTop (mkF m 120 #[.val (.ref r0), .val (.ref ro), .val (.ref rf), .val (.ref rs), .val (.int p4), .val (.int gI), .val (.ref ro), .val (.int (65 : Int32)), .val (.int pI), .val (.int (O P)), .unset, .unset] [(.ref lf)]))
          refine Owes.go ?_ fun t₀ k₀ => XS.aloadN X89.here hx rfl (hb hby d2_120) rfl rfl k₀
          show Owes _ _ _ _ (T89.setTop (mkF m 121 #[.val (.ref r0), .val (.ref ro), .val (.ref rf), .val (.ref rs), .val (.int p4), .val (.int gI), .val (.ref ro), .val (.int (65 : Int32)), .val (.int pI), .val (.int (O P)), .unset, .unset] [(.ref rs), (.ref lf)]))
          refine Owes.go ?_ fun t₀ k₀ => XS.iload X89.here hx rfl (hb hby d2_121) rfl k₀
          show Owes _ _ _ _ (T89.setTop (mkF m 123 #[.val (.ref r0), .val (.ref ro), .val (.ref rf), .val (.ref rs), .val (.int p4), .val (.int gI), .val (.ref ro), .val (.int (65 : Int32)), .val (.int pI), .val (.int (O P)), .unset, .unset] [(.int (O P)), (.ref rs), (.ref lf)]))
          refine Owes.gI X89 hx hZ e89 (GA.keep G_rs_62 K88 nS) hq hq65 (v := .int (Sl q)) rfl (hb hby d2_123) ?_
          show Owes _ _ _ _ (T89.setTop (mkF m 124 #[.val (.ref r0), .val (.ref ro), .val (.ref rf), .val (.ref rs), .val (.int p4), .val (.int gI), .val (.ref ro), .val (.int (65 : Int32)), .val (.int pI), .val (.int (O P)), .unset, .unset] [(.int (Sl q)), (.ref lf)]))
          refine Owes.go ?_ fun t₀ k₀ => XS.iconst X89.here hx rfl (hb hby d2_124) k₀
          show Owes _ _ _ _ (T89.setTop (mkF m 125 #[.val (.ref r0), .val (.ref ro), .val (.ref rf), .val (.ref rs), .val (.int p4), .val (.int gI), .val (.ref ro), .val (.int (65 : Int32)), .val (.int pI), .val (.int (O P)), .unset, .unset] [(.int (1 : Int32)), (.int (Sl q)), (.ref lf)]))
          refine Owes.go ?_ fun t₀ k₀ => XS.iadd X89.here hx rfl (hb hby d2_125) rfl k₀
          show Owes _ _ _ _ (T89.setTop (mkF m 126 #[.val (.ref r0), .val (.ref ro), .val (.ref rf), .val (.ref rs), .val (.int p4), .val (.int gI), .val (.ref ro), .val (.int (65 : Int32)), .val (.int pI), .val (.int (O P)), .unset, .unset] [(.int ((Sl q) + (1 : Int32))), (.ref lf)]))
          refine Owes.go ?_ fun t₀ k₀ => Jvm.Free.XT.dup2 X89.here hx rfl (hb hby d2_126) rfl rfl rfl k₀
          show Owes _ _ _ _ (T89.setTop (mkF m 127 #[.val (.ref r0), .val (.ref ro), .val (.ref rf), .val (.ref rs), .val (.int p4), .val (.int gI), .val (.ref ro), .val (.int (65 : Int32)), .val (.int pI), .val (.int (O P)), .unset, .unset] [(.int ((Sl q) + (1 : Int32))), (.ref lf), (.int ((Sl q) + (1 : Int32))), (.ref lf)]))
          have hun1 := own_ltn hu1 hn hc4
          refine Owes.gI X89 hx hZ e89 G_lf_88 hu1 (show u + 1 < n + 1 by omega) (v := .int (c_l (u + 1))) rfl (hb hby d2_127) ?_
          show Owes _ _ _ _ (T89.setTop (mkF m 128 #[.val (.ref r0), .val (.ref ro), .val (.ref rf), .val (.ref rs), .val (.int p4), .val (.int gI), .val (.ref ro), .val (.int (65 : Int32)), .val (.int pI), .val (.int (O P)), .unset, .unset] [(.int (c_l (u + 1))), (.int ((Sl q) + (1 : Int32))), (.ref lf)]))
          refine Owes.go ?_ fun t₀ k₀ => XS.iconst X89.here hx rfl (hb hby d2_128) k₀
          show Owes _ _ _ _ (T89.setTop (mkF m 129 #[.val (.ref r0), .val (.ref ro), .val (.ref rf), .val (.ref rs), .val (.int p4), .val (.int gI), .val (.ref ro), .val (.int (65 : Int32)), .val (.int pI), .val (.int (O P)), .unset, .unset] [(.int (1 : Int32)), (.int (c_l (u + 1))), (.int ((Sl q) + (1 : Int32))), (.ref lf)]))
          refine Owes.go ?_ fun t₀ k₀ => XS.iadd X89.here hx rfl (hb hby d2_129) rfl k₀
          show Owes _ _ _ _ (T89.setTop (mkF m 130 #[.val (.ref r0), .val (.ref ro), .val (.ref rf), .val (.ref rs), .val (.int p4), .val (.int gI), .val (.ref ro), .val (.int (65 : Int32)), .val (.int pI), .val (.int (O P)), .unset, .unset] [(.int ((c_l (u + 1)) + (1 : Int32))), (.int ((Sl q) + (1 : Int32))), (.ref lf)]))
          refine Owes.sI X89 hx hZ e89 G_lf_88 (i := (u + 1)) hu1 (show u + 1 < n + 1 by omega) (hb hby d2_130) ?_
          intro T90 h90 X90 e90 W90 G90
          replace G90 := G90.setI
          have G_jf_90 := GA.other G88 W90 (Nat.ne_of_lt lt_jf_lf)
          have K90 := K88.wr W90 (Or.inl (List.mem_cons_of_mem _ List.mem_cons_self))
          have N90 := Fr.snoc X90 N88 gn_lf
          show Owes _ _ _ _ (T90.setTop (mkF m 131 #[.val (.ref r0), .val (.ref ro), .val (.ref rf), .val (.ref rs), .val (.int p4), .val (.int gI), .val (.ref ro), .val (.int (65 : Int32)), .val (.int pI), .val (.int (O P)), .unset, .unset] []))
          refine Owes.go ?_ fun t₀ k₀ => XS.iinc X90.here hx rfl (hb hby d2_131) rfl (l' := #[.val (.ref r0), .val (.ref ro), .val (.ref rf), .val (.ref rs), .val (.int p4), .val (.int (gI + (1 : Int32))), .val (.ref ro), .val (.int (65 : Int32)), .val (.int pI), .val (.int (O P)), .unset, .unset]) rfl k₀
          show Owes _ _ _ _ (T90.setTop (mkF m 134 #[.val (.ref r0), .val (.ref ro), .val (.ref rf), .val (.ref rs), .val (.int p4), .val (.int (gI + (1 : Int32))), .val (.ref ro), .val (.int (65 : Int32)), .val (.int pI), .val (.int (O P)), .unset, .unset] []))
          refine Owes.go ?_ fun t₀ k₀ => XS.iinc X90.here hx rfl (hb hby d2_134) rfl (l' := #[.val (.ref r0), .val (.ref ro), .val (.ref rf), .val (.ref rs), .val (.int p4), .val (.int (gI + (1 : Int32))), .val (.ref ro), .val (.int (65 : Int32)), .val (.int (pI + (1 : Int32))), .val (.int (O P)), .unset, .unset]) rfl k₀
          show Owes _ _ _ _ (T90.setTop (mkF m 137 #[.val (.ref r0), .val (.ref ro), .val (.ref rf), .val (.ref rs), .val (.int p4), .val (.int (gI + (1 : Int32))), .val (.ref ro), .val (.int (65 : Int32)), .val (.int (pI + (1 : Int32))), .val (.int (O P)), .unset, .unset] []))
          refine Owes.go ?_ fun t₀ k₀ => XS.goto X90.here hx rfl (pc0 := 137) (pc' := 67) rfl (hb hby d2_137) (by decide) (by decide) k₀
          show Owes _ _ _ _ (T90.setTop (mkF m 67 #[.val (.ref r0), .val (.ref ro), .val (.ref rf), .val (.ref rs), .val (.int p4), .val (.int (gI + (1 : Int32))), .val (.ref ro), .val (.int (65 : Int32)), .val (.int (pI + (1 : Int32))), .val (.int (O P)), .unset, .unset] []))
          have kjP : kj P = f := by rw [← hkj]; exact own_kJ1 hq hc3 hf
          have q2 := cnt_le kj P f
          have klP : kl P = u + 1 := by rw [← hkl]; exact own_kL1 hq hc3 hu hun1
          have q3 := cnt_le kl P (u + 1)
          exact ih (P + 1) (by omega) _ _ _ _ _ _ _ _ (One.val rfl) X90 e90 N90 K90 G_jf_90 G90 (cnt_upd HJ kjP (own_inc (HJ f (by omega)) (by omega))) (cnt_upd HL klP (own_inc (HL (u + 1) (by omega)) (by omega))) (own_pre1 hgI (by omega) hP) (own_inc hpI (by omega))
        · skip
          refine Owes.go ?_ fun t₀ k₀ => XS.icmpYes X88.here hx rfl (pc0 := 113) (pc' := 131) rfl (hb hby d2_113) rfl (flt hc4).2.1 (by decide) (by decide) k₀
          show Owes _ _ _ _ (T88.setTop (mkF m 131 #[.val (.ref r0), .val (.ref ro), .val (.ref rf), .val (.ref rs), .val (.int p4), .val (.int gI), .val (.ref ro), .val (.int (65 : Int32)), .val (.int pI), .val (.int (O P)), .unset, .unset] []))
          refine Owes.go ?_ fun t₀ k₀ => XS.iinc X88.here hx rfl (hb hby d2_131) rfl (l' := #[.val (.ref r0), .val (.ref ro), .val (.ref rf), .val (.ref rs), .val (.int p4), .val (.int (gI + (1 : Int32))), .val (.ref ro), .val (.int (65 : Int32)), .val (.int pI), .val (.int (O P)), .unset, .unset]) rfl k₀
          show Owes _ _ _ _ (T88.setTop (mkF m 134 #[.val (.ref r0), .val (.ref ro), .val (.ref rf), .val (.ref rs), .val (.int p4), .val (.int (gI + (1 : Int32))), .val (.ref ro), .val (.int (65 : Int32)), .val (.int pI), .val (.int (O P)), .unset, .unset] []))
          refine Owes.go ?_ fun t₀ k₀ => XS.iinc X88.here hx rfl (hb hby d2_134) rfl (l' := #[.val (.ref r0), .val (.ref ro), .val (.ref rf), .val (.ref rs), .val (.int p4), .val (.int (gI + (1 : Int32))), .val (.ref ro), .val (.int (65 : Int32)), .val (.int (pI + (1 : Int32))), .val (.int (O P)), .unset, .unset]) rfl k₀
          show Owes _ _ _ _ (T88.setTop (mkF m 137 #[.val (.ref r0), .val (.ref ro), .val (.ref rf), .val (.ref rs), .val (.int p4), .val (.int (gI + (1 : Int32))), .val (.ref ro), .val (.int (65 : Int32)), .val (.int (pI + (1 : Int32))), .val (.int (O P)), .unset, .unset] []))
          refine Owes.go ?_ fun t₀ k₀ => XS.goto X88.here hx rfl (pc0 := 137) (pc' := 67) rfl (hb hby d2_137) (by decide) (by decide) k₀
          show Owes _ _ _ _ (T88.setTop (mkF m 67 #[.val (.ref r0), .val (.ref ro), .val (.ref rf), .val (.ref rs), .val (.int p4), .val (.int (gI + (1 : Int32))), .val (.ref ro), .val (.int (65 : Int32)), .val (.int (pI + (1 : Int32))), .val (.int (O P)), .unset, .unset] []))
          have kjP : kj P = f := by rw [← hkj]; exact own_kJ1 hq hc3 hf
          have q2 := cnt_le kj P f
          have klP : kl P = 1000 := by rw [← hkl]; exact own_kL0 hq hc3 hu (own_ltn0 hu1 hn hc4)
          exact ih (P + 1) (by omega) _ _ _ _ _ _ _ _ (One.val rfl) X88 e88 N88 K88 G88 G_lf_88 (cnt_upd HJ kjP (own_inc (HJ f (by omega)) (by omega))) (cnt_skip HL (by omega)) (own_pre1 hgI (by omega) hP) (own_inc hpI (by omega))
  exact l1 65 0 (by omega) _ _ _ _ _ _ _ .unset One.u (own_st X62 (by decide) (show 0 + 2 + (n + 1) + (n + 1) = 2 * n + 4 by omega)) e62 N62 (Keep.refl _ _) G_jf_62 G_lf_62 (fun t _ => rfl) (fun t _ => rfl) (by rw [pre_z]; rfl) rfl
theorem d1_0 : decode method_5_code 0 = .ok (.bipush 65, 2) := by decide +kernel
theorem d1_2 : decode method_5_code 2 = .ok (.newarray .int, 2) := by decide +kernel
theorem d1_4 : decode method_5_code 4 = .ok (.dup, 1) := by decide +kernel
theorem d1_5 : decode method_5_code 5 = .ok (.iconst 0, 1) := by decide +kernel
theorem d1_6 : decode method_5_code 6 = .ok (.iconst 0, 1) := by decide +kernel
theorem d1_7 : decode method_5_code 7 = .ok (.iastore, 1) := by decide +kernel
theorem d1_8 : decode method_5_code 8 = .ok (.dup, 1) := by decide +kernel
theorem d1_9 : decode method_5_code 9 = .ok (.iconst 1, 1) := by decide +kernel
theorem d1_10 : decode method_5_code 10 = .ok (.iconst 1, 1) := by decide +kernel
theorem d1_11 : decode method_5_code 11 = .ok (.iastore, 1) := by decide +kernel
theorem d1_12 : decode method_5_code 12 = .ok (.dup, 1) := by decide +kernel
theorem d1_13 : decode method_5_code 13 = .ok (.iconst 2, 1) := by decide +kernel
theorem d1_14 : decode method_5_code 14 = .ok (.iconst 2, 1) := by decide +kernel
theorem d1_15 : decode method_5_code 15 = .ok (.iastore, 1) := by decide +kernel
theorem d1_16 : decode method_5_code 16 = .ok (.dup, 1) := by decide +kernel
theorem d1_17 : decode method_5_code 17 = .ok (.iconst 3, 1) := by decide +kernel
theorem d1_18 : decode method_5_code 18 = .ok (.iconst 3, 1) := by decide +kernel
theorem d1_19 : decode method_5_code 19 = .ok (.iastore, 1) := by decide +kernel
theorem d1_20 : decode method_5_code 20 = .ok (.dup, 1) := by decide +kernel
theorem d1_21 : decode method_5_code 21 = .ok (.iconst 4, 1) := by decide +kernel
theorem d1_22 : decode method_5_code 22 = .ok (.iconst 4, 1) := by decide +kernel
theorem d1_23 : decode method_5_code 23 = .ok (.iastore, 1) := by decide +kernel
theorem d1_24 : decode method_5_code 24 = .ok (.dup, 1) := by decide +kernel
theorem d1_25 : decode method_5_code 25 = .ok (.iconst 5, 1) := by decide +kernel
theorem d1_26 : decode method_5_code 26 = .ok (.iconst 5, 1) := by decide +kernel
theorem d1_27 : decode method_5_code 27 = .ok (.iastore, 1) := by decide +kernel
theorem d1_28 : decode method_5_code 28 = .ok (.dup, 1) := by decide +kernel
theorem d1_29 : decode method_5_code 29 = .ok (.bipush 6, 2) := by decide +kernel
theorem d1_31 : decode method_5_code 31 = .ok (.bipush 6, 2) := by decide +kernel
theorem d1_33 : decode method_5_code 33 = .ok (.iastore, 1) := by decide +kernel
theorem d1_34 : decode method_5_code 34 = .ok (.dup, 1) := by decide +kernel
theorem d1_35 : decode method_5_code 35 = .ok (.bipush 7, 2) := by decide +kernel
theorem d1_37 : decode method_5_code 37 = .ok (.bipush 7, 2) := by decide +kernel
theorem d1_39 : decode method_5_code 39 = .ok (.iastore, 1) := by decide +kernel
theorem d1_40 : decode method_5_code 40 = .ok (.dup, 1) := by decide +kernel
theorem d1_41 : decode method_5_code 41 = .ok (.bipush 8, 2) := by decide +kernel
theorem d1_43 : decode method_5_code 43 = .ok (.bipush 8, 2) := by decide +kernel
theorem d1_45 : decode method_5_code 45 = .ok (.iastore, 1) := by decide +kernel
theorem d1_46 : decode method_5_code 46 = .ok (.dup, 1) := by decide +kernel
theorem d1_47 : decode method_5_code 47 = .ok (.bipush 9, 2) := by decide +kernel
theorem d1_49 : decode method_5_code 49 = .ok (.bipush 9, 2) := by decide +kernel
theorem d1_51 : decode method_5_code 51 = .ok (.iastore, 1) := by decide +kernel
theorem d1_52 : decode method_5_code 52 = .ok (.dup, 1) := by decide +kernel
theorem d1_53 : decode method_5_code 53 = .ok (.bipush 10, 2) := by decide +kernel
theorem d1_55 : decode method_5_code 55 = .ok (.bipush 10, 2) := by decide +kernel
theorem d1_57 : decode method_5_code 57 = .ok (.iastore, 1) := by decide +kernel
theorem d1_58 : decode method_5_code 58 = .ok (.dup, 1) := by decide +kernel
theorem d1_59 : decode method_5_code 59 = .ok (.bipush 11, 2) := by decide +kernel
theorem d1_61 : decode method_5_code 61 = .ok (.bipush 11, 2) := by decide +kernel
theorem d1_63 : decode method_5_code 63 = .ok (.iastore, 1) := by decide +kernel
theorem d1_64 : decode method_5_code 64 = .ok (.dup, 1) := by decide +kernel
theorem d1_65 : decode method_5_code 65 = .ok (.bipush 12, 2) := by decide +kernel
theorem d1_67 : decode method_5_code 67 = .ok (.bipush 12, 2) := by decide +kernel
theorem d1_69 : decode method_5_code 69 = .ok (.iastore, 1) := by decide +kernel
theorem d1_70 : decode method_5_code 70 = .ok (.dup, 1) := by decide +kernel
theorem d1_71 : decode method_5_code 71 = .ok (.bipush 13, 2) := by decide +kernel
theorem d1_73 : decode method_5_code 73 = .ok (.bipush 13, 2) := by decide +kernel
theorem d1_75 : decode method_5_code 75 = .ok (.iastore, 1) := by decide +kernel
theorem d1_76 : decode method_5_code 76 = .ok (.dup, 1) := by decide +kernel
theorem d1_77 : decode method_5_code 77 = .ok (.bipush 14, 2) := by decide +kernel
theorem d1_79 : decode method_5_code 79 = .ok (.bipush 14, 2) := by decide +kernel
theorem d1_81 : decode method_5_code 81 = .ok (.iastore, 1) := by decide +kernel
theorem d1_82 : decode method_5_code 82 = .ok (.dup, 1) := by decide +kernel
theorem d1_83 : decode method_5_code 83 = .ok (.bipush 15, 2) := by decide +kernel
theorem d1_85 : decode method_5_code 85 = .ok (.bipush 15, 2) := by decide +kernel
theorem d1_87 : decode method_5_code 87 = .ok (.iastore, 1) := by decide +kernel
theorem d1_88 : decode method_5_code 88 = .ok (.dup, 1) := by decide +kernel
theorem d1_89 : decode method_5_code 89 = .ok (.bipush 16, 2) := by decide +kernel
theorem d1_91 : decode method_5_code 91 = .ok (.bipush 16, 2) := by decide +kernel
theorem d1_93 : decode method_5_code 93 = .ok (.iastore, 1) := by decide +kernel
theorem d1_94 : decode method_5_code 94 = .ok (.dup, 1) := by decide +kernel
theorem d1_95 : decode method_5_code 95 = .ok (.bipush 17, 2) := by decide +kernel
theorem d1_97 : decode method_5_code 97 = .ok (.bipush 17, 2) := by decide +kernel
theorem d1_99 : decode method_5_code 99 = .ok (.iastore, 1) := by decide +kernel
theorem d1_100 : decode method_5_code 100 = .ok (.dup, 1) := by decide +kernel
theorem d1_101 : decode method_5_code 101 = .ok (.bipush 18, 2) := by decide +kernel
theorem d1_103 : decode method_5_code 103 = .ok (.bipush 18, 2) := by decide +kernel
theorem d1_105 : decode method_5_code 105 = .ok (.iastore, 1) := by decide +kernel
theorem d1_106 : decode method_5_code 106 = .ok (.dup, 1) := by decide +kernel
theorem d1_107 : decode method_5_code 107 = .ok (.bipush 19, 2) := by decide +kernel
theorem d1_109 : decode method_5_code 109 = .ok (.bipush 19, 2) := by decide +kernel
theorem d1_111 : decode method_5_code 111 = .ok (.iastore, 1) := by decide +kernel
theorem d1_112 : decode method_5_code 112 = .ok (.dup, 1) := by decide +kernel
theorem d1_113 : decode method_5_code 113 = .ok (.bipush 20, 2) := by decide +kernel
theorem d1_115 : decode method_5_code 115 = .ok (.bipush 20, 2) := by decide +kernel
theorem d1_117 : decode method_5_code 117 = .ok (.iastore, 1) := by decide +kernel
theorem d1_118 : decode method_5_code 118 = .ok (.dup, 1) := by decide +kernel
theorem d1_119 : decode method_5_code 119 = .ok (.bipush 21, 2) := by decide +kernel
theorem d1_121 : decode method_5_code 121 = .ok (.bipush 21, 2) := by decide +kernel
theorem d1_123 : decode method_5_code 123 = .ok (.iastore, 1) := by decide +kernel
theorem d1_124 : decode method_5_code 124 = .ok (.dup, 1) := by decide +kernel
theorem d1_125 : decode method_5_code 125 = .ok (.bipush 22, 2) := by decide +kernel
theorem d1_127 : decode method_5_code 127 = .ok (.bipush 22, 2) := by decide +kernel
theorem d1_129 : decode method_5_code 129 = .ok (.iastore, 1) := by decide +kernel
theorem d1_130 : decode method_5_code 130 = .ok (.dup, 1) := by decide +kernel
theorem d1_131 : decode method_5_code 131 = .ok (.bipush 23, 2) := by decide +kernel
theorem d1_133 : decode method_5_code 133 = .ok (.bipush 23, 2) := by decide +kernel
theorem d1_135 : decode method_5_code 135 = .ok (.iastore, 1) := by decide +kernel
theorem d1_136 : decode method_5_code 136 = .ok (.dup, 1) := by decide +kernel
theorem d1_137 : decode method_5_code 137 = .ok (.bipush 24, 2) := by decide +kernel
theorem d1_139 : decode method_5_code 139 = .ok (.bipush 24, 2) := by decide +kernel
theorem d1_141 : decode method_5_code 141 = .ok (.iastore, 1) := by decide +kernel
theorem d1_142 : decode method_5_code 142 = .ok (.dup, 1) := by decide +kernel
theorem d1_143 : decode method_5_code 143 = .ok (.bipush 25, 2) := by decide +kernel
theorem d1_145 : decode method_5_code 145 = .ok (.bipush 25, 2) := by decide +kernel
theorem d1_147 : decode method_5_code 147 = .ok (.iastore, 1) := by decide +kernel
theorem d1_148 : decode method_5_code 148 = .ok (.dup, 1) := by decide +kernel
theorem d1_149 : decode method_5_code 149 = .ok (.bipush 26, 2) := by decide +kernel
theorem d1_151 : decode method_5_code 151 = .ok (.bipush 26, 2) := by decide +kernel
theorem d1_153 : decode method_5_code 153 = .ok (.iastore, 1) := by decide +kernel
theorem d1_154 : decode method_5_code 154 = .ok (.dup, 1) := by decide +kernel
theorem d1_155 : decode method_5_code 155 = .ok (.bipush 27, 2) := by decide +kernel
theorem d1_157 : decode method_5_code 157 = .ok (.bipush 27, 2) := by decide +kernel
theorem d1_159 : decode method_5_code 159 = .ok (.iastore, 1) := by decide +kernel
theorem d1_160 : decode method_5_code 160 = .ok (.dup, 1) := by decide +kernel
theorem d1_161 : decode method_5_code 161 = .ok (.bipush 28, 2) := by decide +kernel
theorem d1_163 : decode method_5_code 163 = .ok (.bipush 28, 2) := by decide +kernel
theorem d1_165 : decode method_5_code 165 = .ok (.iastore, 1) := by decide +kernel
theorem d1_166 : decode method_5_code 166 = .ok (.dup, 1) := by decide +kernel
theorem d1_167 : decode method_5_code 167 = .ok (.bipush 29, 2) := by decide +kernel
theorem d1_169 : decode method_5_code 169 = .ok (.bipush 29, 2) := by decide +kernel
theorem d1_171 : decode method_5_code 171 = .ok (.iastore, 1) := by decide +kernel
theorem d1_172 : decode method_5_code 172 = .ok (.dup, 1) := by decide +kernel
theorem d1_173 : decode method_5_code 173 = .ok (.bipush 30, 2) := by decide +kernel
theorem d1_175 : decode method_5_code 175 = .ok (.bipush 30, 2) := by decide +kernel
theorem d1_177 : decode method_5_code 177 = .ok (.iastore, 1) := by decide +kernel
theorem d1_178 : decode method_5_code 178 = .ok (.dup, 1) := by decide +kernel
theorem d1_179 : decode method_5_code 179 = .ok (.bipush 31, 2) := by decide +kernel
theorem d1_181 : decode method_5_code 181 = .ok (.bipush 31, 2) := by decide +kernel
theorem d1_183 : decode method_5_code 183 = .ok (.iastore, 1) := by decide +kernel
theorem d1_184 : decode method_5_code 184 = .ok (.dup, 1) := by decide +kernel
theorem d1_185 : decode method_5_code 185 = .ok (.bipush 32, 2) := by decide +kernel
theorem d1_187 : decode method_5_code 187 = .ok (.bipush 32, 2) := by decide +kernel
theorem d1_189 : decode method_5_code 189 = .ok (.iastore, 1) := by decide +kernel
theorem d1_190 : decode method_5_code 190 = .ok (.dup, 1) := by decide +kernel
theorem d1_191 : decode method_5_code 191 = .ok (.bipush 33, 2) := by decide +kernel
theorem d1_193 : decode method_5_code 193 = .ok (.bipush 33, 2) := by decide +kernel
theorem d1_195 : decode method_5_code 195 = .ok (.iastore, 1) := by decide +kernel
theorem d1_196 : decode method_5_code 196 = .ok (.dup, 1) := by decide +kernel
theorem d1_197 : decode method_5_code 197 = .ok (.bipush 34, 2) := by decide +kernel
theorem d1_199 : decode method_5_code 199 = .ok (.bipush 34, 2) := by decide +kernel
theorem d1_201 : decode method_5_code 201 = .ok (.iastore, 1) := by decide +kernel
theorem d1_202 : decode method_5_code 202 = .ok (.dup, 1) := by decide +kernel
theorem d1_203 : decode method_5_code 203 = .ok (.bipush 35, 2) := by decide +kernel
theorem d1_205 : decode method_5_code 205 = .ok (.bipush 35, 2) := by decide +kernel
theorem d1_207 : decode method_5_code 207 = .ok (.iastore, 1) := by decide +kernel
theorem d1_208 : decode method_5_code 208 = .ok (.dup, 1) := by decide +kernel
theorem d1_209 : decode method_5_code 209 = .ok (.bipush 36, 2) := by decide +kernel
theorem d1_211 : decode method_5_code 211 = .ok (.bipush 36, 2) := by decide +kernel
theorem d1_213 : decode method_5_code 213 = .ok (.iastore, 1) := by decide +kernel
theorem d1_214 : decode method_5_code 214 = .ok (.dup, 1) := by decide +kernel
theorem d1_215 : decode method_5_code 215 = .ok (.bipush 37, 2) := by decide +kernel
theorem d1_217 : decode method_5_code 217 = .ok (.bipush 37, 2) := by decide +kernel
theorem d1_219 : decode method_5_code 219 = .ok (.iastore, 1) := by decide +kernel
theorem d1_220 : decode method_5_code 220 = .ok (.dup, 1) := by decide +kernel
theorem d1_221 : decode method_5_code 221 = .ok (.bipush 38, 2) := by decide +kernel
theorem d1_223 : decode method_5_code 223 = .ok (.bipush 38, 2) := by decide +kernel
theorem d1_225 : decode method_5_code 225 = .ok (.iastore, 1) := by decide +kernel
theorem d1_226 : decode method_5_code 226 = .ok (.dup, 1) := by decide +kernel
theorem d1_227 : decode method_5_code 227 = .ok (.bipush 39, 2) := by decide +kernel
theorem d1_229 : decode method_5_code 229 = .ok (.bipush 39, 2) := by decide +kernel
theorem d1_231 : decode method_5_code 231 = .ok (.iastore, 1) := by decide +kernel
theorem d1_232 : decode method_5_code 232 = .ok (.dup, 1) := by decide +kernel
theorem d1_233 : decode method_5_code 233 = .ok (.bipush 40, 2) := by decide +kernel
theorem d1_235 : decode method_5_code 235 = .ok (.bipush 40, 2) := by decide +kernel
theorem d1_237 : decode method_5_code 237 = .ok (.iastore, 1) := by decide +kernel
theorem d1_238 : decode method_5_code 238 = .ok (.dup, 1) := by decide +kernel
theorem d1_239 : decode method_5_code 239 = .ok (.bipush 41, 2) := by decide +kernel
theorem d1_241 : decode method_5_code 241 = .ok (.bipush 41, 2) := by decide +kernel
theorem d1_243 : decode method_5_code 243 = .ok (.iastore, 1) := by decide +kernel
theorem d1_244 : decode method_5_code 244 = .ok (.dup, 1) := by decide +kernel
theorem d1_245 : decode method_5_code 245 = .ok (.bipush 42, 2) := by decide +kernel
theorem d1_247 : decode method_5_code 247 = .ok (.bipush 42, 2) := by decide +kernel
theorem d1_249 : decode method_5_code 249 = .ok (.iastore, 1) := by decide +kernel
theorem d1_250 : decode method_5_code 250 = .ok (.dup, 1) := by decide +kernel
theorem d1_251 : decode method_5_code 251 = .ok (.bipush 43, 2) := by decide +kernel
theorem d1_253 : decode method_5_code 253 = .ok (.bipush 43, 2) := by decide +kernel
theorem d1_255 : decode method_5_code 255 = .ok (.iastore, 1) := by decide +kernel
theorem d1_256 : decode method_5_code 256 = .ok (.dup, 1) := by decide +kernel
theorem d1_257 : decode method_5_code 257 = .ok (.bipush 44, 2) := by decide +kernel
theorem d1_259 : decode method_5_code 259 = .ok (.bipush 44, 2) := by decide +kernel
theorem d1_261 : decode method_5_code 261 = .ok (.iastore, 1) := by decide +kernel
theorem d1_262 : decode method_5_code 262 = .ok (.dup, 1) := by decide +kernel
theorem d1_263 : decode method_5_code 263 = .ok (.bipush 45, 2) := by decide +kernel
theorem d1_265 : decode method_5_code 265 = .ok (.bipush 45, 2) := by decide +kernel
theorem d1_267 : decode method_5_code 267 = .ok (.iastore, 1) := by decide +kernel
theorem d1_268 : decode method_5_code 268 = .ok (.dup, 1) := by decide +kernel
theorem d1_269 : decode method_5_code 269 = .ok (.bipush 46, 2) := by decide +kernel
theorem d1_271 : decode method_5_code 271 = .ok (.bipush 46, 2) := by decide +kernel
theorem d1_273 : decode method_5_code 273 = .ok (.iastore, 1) := by decide +kernel
theorem d1_274 : decode method_5_code 274 = .ok (.dup, 1) := by decide +kernel
theorem d1_275 : decode method_5_code 275 = .ok (.bipush 47, 2) := by decide +kernel
theorem d1_277 : decode method_5_code 277 = .ok (.bipush 47, 2) := by decide +kernel
theorem d1_279 : decode method_5_code 279 = .ok (.iastore, 1) := by decide +kernel
theorem d1_280 : decode method_5_code 280 = .ok (.dup, 1) := by decide +kernel
theorem d1_281 : decode method_5_code 281 = .ok (.bipush 48, 2) := by decide +kernel
theorem d1_283 : decode method_5_code 283 = .ok (.bipush 48, 2) := by decide +kernel
theorem d1_285 : decode method_5_code 285 = .ok (.iastore, 1) := by decide +kernel
theorem d1_286 : decode method_5_code 286 = .ok (.dup, 1) := by decide +kernel
theorem d1_287 : decode method_5_code 287 = .ok (.bipush 49, 2) := by decide +kernel
theorem d1_289 : decode method_5_code 289 = .ok (.bipush 49, 2) := by decide +kernel
theorem d1_291 : decode method_5_code 291 = .ok (.iastore, 1) := by decide +kernel
theorem d1_292 : decode method_5_code 292 = .ok (.dup, 1) := by decide +kernel
theorem d1_293 : decode method_5_code 293 = .ok (.bipush 50, 2) := by decide +kernel
theorem d1_295 : decode method_5_code 295 = .ok (.bipush 50, 2) := by decide +kernel
theorem d1_297 : decode method_5_code 297 = .ok (.iastore, 1) := by decide +kernel
theorem d1_298 : decode method_5_code 298 = .ok (.dup, 1) := by decide +kernel
theorem d1_299 : decode method_5_code 299 = .ok (.bipush 51, 2) := by decide +kernel
theorem d1_301 : decode method_5_code 301 = .ok (.bipush 51, 2) := by decide +kernel
theorem d1_303 : decode method_5_code 303 = .ok (.iastore, 1) := by decide +kernel
theorem d1_304 : decode method_5_code 304 = .ok (.dup, 1) := by decide +kernel
theorem d1_305 : decode method_5_code 305 = .ok (.bipush 52, 2) := by decide +kernel
theorem d1_307 : decode method_5_code 307 = .ok (.bipush 52, 2) := by decide +kernel
theorem d1_309 : decode method_5_code 309 = .ok (.iastore, 1) := by decide +kernel
theorem d1_310 : decode method_5_code 310 = .ok (.dup, 1) := by decide +kernel
theorem d1_311 : decode method_5_code 311 = .ok (.bipush 53, 2) := by decide +kernel
theorem d1_313 : decode method_5_code 313 = .ok (.bipush 53, 2) := by decide +kernel
theorem d1_315 : decode method_5_code 315 = .ok (.iastore, 1) := by decide +kernel
theorem d1_316 : decode method_5_code 316 = .ok (.dup, 1) := by decide +kernel
theorem d1_317 : decode method_5_code 317 = .ok (.bipush 54, 2) := by decide +kernel
theorem d1_319 : decode method_5_code 319 = .ok (.bipush 54, 2) := by decide +kernel
theorem d1_321 : decode method_5_code 321 = .ok (.iastore, 1) := by decide +kernel
theorem d1_322 : decode method_5_code 322 = .ok (.dup, 1) := by decide +kernel
theorem d1_323 : decode method_5_code 323 = .ok (.bipush 55, 2) := by decide +kernel
theorem d1_325 : decode method_5_code 325 = .ok (.bipush 55, 2) := by decide +kernel
theorem d1_327 : decode method_5_code 327 = .ok (.iastore, 1) := by decide +kernel
theorem d1_328 : decode method_5_code 328 = .ok (.dup, 1) := by decide +kernel
theorem d1_329 : decode method_5_code 329 = .ok (.bipush 56, 2) := by decide +kernel
theorem d1_331 : decode method_5_code 331 = .ok (.bipush 56, 2) := by decide +kernel
theorem d1_333 : decode method_5_code 333 = .ok (.iastore, 1) := by decide +kernel
theorem d1_334 : decode method_5_code 334 = .ok (.dup, 1) := by decide +kernel
theorem d1_335 : decode method_5_code 335 = .ok (.bipush 57, 2) := by decide +kernel
theorem d1_337 : decode method_5_code 337 = .ok (.bipush 57, 2) := by decide +kernel
theorem d1_339 : decode method_5_code 339 = .ok (.iastore, 1) := by decide +kernel
theorem d1_340 : decode method_5_code 340 = .ok (.dup, 1) := by decide +kernel
theorem d1_341 : decode method_5_code 341 = .ok (.bipush 58, 2) := by decide +kernel
theorem d1_343 : decode method_5_code 343 = .ok (.bipush 58, 2) := by decide +kernel
theorem d1_345 : decode method_5_code 345 = .ok (.iastore, 1) := by decide +kernel
theorem d1_346 : decode method_5_code 346 = .ok (.dup, 1) := by decide +kernel
theorem d1_347 : decode method_5_code 347 = .ok (.bipush 59, 2) := by decide +kernel
theorem d1_349 : decode method_5_code 349 = .ok (.bipush 59, 2) := by decide +kernel
theorem d1_351 : decode method_5_code 351 = .ok (.iastore, 1) := by decide +kernel
theorem d1_352 : decode method_5_code 352 = .ok (.dup, 1) := by decide +kernel
theorem d1_353 : decode method_5_code 353 = .ok (.bipush 60, 2) := by decide +kernel
theorem d1_355 : decode method_5_code 355 = .ok (.bipush 60, 2) := by decide +kernel
theorem d1_357 : decode method_5_code 357 = .ok (.iastore, 1) := by decide +kernel
theorem d1_358 : decode method_5_code 358 = .ok (.dup, 1) := by decide +kernel
theorem d1_359 : decode method_5_code 359 = .ok (.bipush 61, 2) := by decide +kernel
theorem d1_361 : decode method_5_code 361 = .ok (.bipush 61, 2) := by decide +kernel
theorem d1_363 : decode method_5_code 363 = .ok (.iastore, 1) := by decide +kernel
theorem d1_364 : decode method_5_code 364 = .ok (.dup, 1) := by decide +kernel
theorem d1_365 : decode method_5_code 365 = .ok (.bipush 62, 2) := by decide +kernel
theorem d1_367 : decode method_5_code 367 = .ok (.bipush 62, 2) := by decide +kernel
theorem d1_369 : decode method_5_code 369 = .ok (.iastore, 1) := by decide +kernel
theorem d1_370 : decode method_5_code 370 = .ok (.dup, 1) := by decide +kernel
theorem d1_371 : decode method_5_code 371 = .ok (.bipush 63, 2) := by decide +kernel
theorem d1_373 : decode method_5_code 373 = .ok (.bipush 63, 2) := by decide +kernel
theorem d1_375 : decode method_5_code 375 = .ok (.iastore, 1) := by decide +kernel
theorem d1_376 : decode method_5_code 376 = .ok (.dup, 1) := by decide +kernel
theorem d1_377 : decode method_5_code 377 = .ok (.bipush 64, 2) := by decide +kernel
theorem d1_379 : decode method_5_code 379 = .ok (.bipush 64, 2) := by decide +kernel
theorem d1_381 : decode method_5_code 381 = .ok (.iastore, 1) := by decide +kernel
theorem d1_382 : decode method_5_code 382 = .ok (.areturn, 1) := by decide +kernel
theorem ef_1 (m : MethodId)  : entryFrame m #[] 0 = mkF m 0 #[] [] := by first | (simp [entryFrame, mkF, argsToLocals, Value.category]; done) | rfl
theorem pn_1 : plainFor (⟨"com/example/slotwright/slotwright/core/TriedSlotsReachPinLaw", "identity", "()[I"⟩ : MethodName) = true := plainFor_of_name (by first | (simp [plainName, overriddenIn]; done) | decide +kernel)
set_option maxRecDepth 65536 in
set_option maxHeartbeats 40000000 in
theorem rm_ident (l : Launch) (Z : State) (a0 : Array Value) (hw : ∀ d ∈ tables_1, d.before a0 Z = true) (ws : List Jvm.Cond)  (h0 : Heap) (n0 : Nat) (Z0 : n0 ≤ h0.size) :
    OMet l (⟨"com/example/slotwright/slotwright/core/TriedSlotsReachPinLaw", "identity", "()[I"⟩ : MethodName) method_5_code 0 (some (.array .int)) ws ({ frames := 0, cells := 1, slots := 65, locals := 0 } : Room) #[] Z h0 (fun v h L => ∃ r : Addr, v = some (.ref r) ∧ Fr n0 L ∧ Keep h0 h [] ∧ BA Z h r 65 65 ∧ n0 ≤ r) := by
  refine OMet.of pn_1 (fun m => ef_1 m ) ?_
  intro p e s m below meth c s₁ hx hby hml hown hnm hret hlk hZ X0 e0
  have N0 := Fr.nil n0
  refine Owes.go ?_ fun t₀ k₀ => XS.bipush X0.here hx rfl (hb hby d1_0) k₀
  show Owes _ _ _ _ (s₁.setTop (mkF m 2 #[] [(.int (65 : Int32))]))
  refine Owes.newArr X0 hx hZ (aty := .int) (hw _ (List.mem_of_getElem? (i := 4) rfl)) e0 (n := 65) rfl (by decide) (by decide) (by decide) (ad := "[I") (by decide) (hb hby d1_2) ?_
  intro T91 h91 X91 e91 E91 G91 EX91
  obtain ⟨ro, gro⟩ : ∃ z, z = h0.size := ⟨_, rfl⟩
  rw [← gro] at G91 EX91 ⊢
  have ge : h0.size ≤ ro := Nat.le_of_eq gro.symm
  have gn : n0 ≤ ro := Nat.le_trans Z0 ge
  have B91 : BA Z h91 ro 65 65 := BA.new G91 (by decide)
  have K91 : Keep h0 h91 [] := (Keep.refl h0 []).ext E91
  show Owes _ _ _ _ (T91.setTop (mkF m 4 #[] [(.ref ro)]))
  refine Owes.go ?_ fun t₀ k₀ => XS.dup X91.here hx rfl (hb hby d1_4) rfl rfl k₀
  show Owes _ _ _ _ (T91.setTop (mkF m 5 #[] [(.ref ro), (.ref ro)]))
  refine Owes.go ?_ fun t₀ k₀ => XS.iconst X91.here hx rfl (hb hby d1_5) k₀
  show Owes _ _ _ _ (T91.setTop (mkF m 6 #[] [(.int (0 : Int32)), (.ref ro), (.ref ro)]))
  refine Owes.go ?_ fun t₀ k₀ => XS.iconst X91.here hx rfl (hb hby d1_6) k₀
  show Owes _ _ _ _ (T91.setTop (mkF m 7 #[] [(.int (0 : Int32)), (.int (0 : Int32)), (.ref ro), (.ref ro)]))
  refine Owes.sB X91 hx hZ e91 B91 (i := 0) rfl (by decide) ⟨by decide, by decide⟩ (hb hby d1_7) ?_
  intro T92 h92 X92 e92 W92 B92
  have K92 := K91.wr W92 (Or.inr ge)
  have N92 := Fr.snoc X92 N0 gn
  show Owes _ _ _ _ (T92.setTop (mkF m 8 #[] [(.ref ro)]))
  refine Owes.go ?_ fun t₀ k₀ => XS.dup X92.here hx rfl (hb hby d1_8) rfl rfl k₀
  show Owes _ _ _ _ (T92.setTop (mkF m 9 #[] [(.ref ro), (.ref ro)]))
  refine Owes.go ?_ fun t₀ k₀ => XS.iconst X92.here hx rfl (hb hby d1_9) k₀
  show Owes _ _ _ _ (T92.setTop (mkF m 10 #[] [(.int (1 : Int32)), (.ref ro), (.ref ro)]))
  refine Owes.go ?_ fun t₀ k₀ => XS.iconst X92.here hx rfl (hb hby d1_10) k₀
  show Owes _ _ _ _ (T92.setTop (mkF m 11 #[] [(.int (1 : Int32)), (.int (1 : Int32)), (.ref ro), (.ref ro)]))
  refine Owes.sB X92 hx hZ e92 B92 (i := 1) rfl (by decide) ⟨by decide, by decide⟩ (hb hby d1_11) ?_
  intro T93 h93 X93 e93 W93 B93
  have K93 := K92.wr W93 (Or.inr ge)
  have N93 := Fr.snoc X93 N92 gn
  clear B92 K92 N92
  show Owes _ _ _ _ (T93.setTop (mkF m 12 #[] [(.ref ro)]))
  refine Owes.go ?_ fun t₀ k₀ => XS.dup X93.here hx rfl (hb hby d1_12) rfl rfl k₀
  show Owes _ _ _ _ (T93.setTop (mkF m 13 #[] [(.ref ro), (.ref ro)]))
  refine Owes.go ?_ fun t₀ k₀ => XS.iconst X93.here hx rfl (hb hby d1_13) k₀
  show Owes _ _ _ _ (T93.setTop (mkF m 14 #[] [(.int (2 : Int32)), (.ref ro), (.ref ro)]))
  refine Owes.go ?_ fun t₀ k₀ => XS.iconst X93.here hx rfl (hb hby d1_14) k₀
  show Owes _ _ _ _ (T93.setTop (mkF m 15 #[] [(.int (2 : Int32)), (.int (2 : Int32)), (.ref ro), (.ref ro)]))
  refine Owes.sB X93 hx hZ e93 B93 (i := 2) rfl (by decide) ⟨by decide, by decide⟩ (hb hby d1_15) ?_
  intro T94 h94 X94 e94 W94 B94
  have K94 := K93.wr W94 (Or.inr ge)
  have N94 := Fr.snoc X94 N93 gn
  clear B93 K93 N93
  show Owes _ _ _ _ (T94.setTop (mkF m 16 #[] [(.ref ro)]))
  refine Owes.go ?_ fun t₀ k₀ => XS.dup X94.here hx rfl (hb hby d1_16) rfl rfl k₀
  show Owes _ _ _ _ (T94.setTop (mkF m 17 #[] [(.ref ro), (.ref ro)]))
  refine Owes.go ?_ fun t₀ k₀ => XS.iconst X94.here hx rfl (hb hby d1_17) k₀
  show Owes _ _ _ _ (T94.setTop (mkF m 18 #[] [(.int (3 : Int32)), (.ref ro), (.ref ro)]))
  refine Owes.go ?_ fun t₀ k₀ => XS.iconst X94.here hx rfl (hb hby d1_18) k₀
  show Owes _ _ _ _ (T94.setTop (mkF m 19 #[] [(.int (3 : Int32)), (.int (3 : Int32)), (.ref ro), (.ref ro)]))
  refine Owes.sB X94 hx hZ e94 B94 (i := 3) rfl (by decide) ⟨by decide, by decide⟩ (hb hby d1_19) ?_
  intro T95 h95 X95 e95 W95 B95
  have K95 := K94.wr W95 (Or.inr ge)
  have N95 := Fr.snoc X95 N94 gn
  clear B94 K94 N94
  show Owes _ _ _ _ (T95.setTop (mkF m 20 #[] [(.ref ro)]))
  refine Owes.go ?_ fun t₀ k₀ => XS.dup X95.here hx rfl (hb hby d1_20) rfl rfl k₀
  show Owes _ _ _ _ (T95.setTop (mkF m 21 #[] [(.ref ro), (.ref ro)]))
  refine Owes.go ?_ fun t₀ k₀ => XS.iconst X95.here hx rfl (hb hby d1_21) k₀
  show Owes _ _ _ _ (T95.setTop (mkF m 22 #[] [(.int (4 : Int32)), (.ref ro), (.ref ro)]))
  refine Owes.go ?_ fun t₀ k₀ => XS.iconst X95.here hx rfl (hb hby d1_22) k₀
  show Owes _ _ _ _ (T95.setTop (mkF m 23 #[] [(.int (4 : Int32)), (.int (4 : Int32)), (.ref ro), (.ref ro)]))
  refine Owes.sB X95 hx hZ e95 B95 (i := 4) rfl (by decide) ⟨by decide, by decide⟩ (hb hby d1_23) ?_
  intro T96 h96 X96 e96 W96 B96
  have K96 := K95.wr W96 (Or.inr ge)
  have N96 := Fr.snoc X96 N95 gn
  clear B95 K95 N95
  show Owes _ _ _ _ (T96.setTop (mkF m 24 #[] [(.ref ro)]))
  refine Owes.go ?_ fun t₀ k₀ => XS.dup X96.here hx rfl (hb hby d1_24) rfl rfl k₀
  show Owes _ _ _ _ (T96.setTop (mkF m 25 #[] [(.ref ro), (.ref ro)]))
  refine Owes.go ?_ fun t₀ k₀ => XS.iconst X96.here hx rfl (hb hby d1_25) k₀
  show Owes _ _ _ _ (T96.setTop (mkF m 26 #[] [(.int (5 : Int32)), (.ref ro), (.ref ro)]))
  refine Owes.go ?_ fun t₀ k₀ => XS.iconst X96.here hx rfl (hb hby d1_26) k₀
  show Owes _ _ _ _ (T96.setTop (mkF m 27 #[] [(.int (5 : Int32)), (.int (5 : Int32)), (.ref ro), (.ref ro)]))
  refine Owes.sB X96 hx hZ e96 B96 (i := 5) rfl (by decide) ⟨by decide, by decide⟩ (hb hby d1_27) ?_
  intro T97 h97 X97 e97 W97 B97
  have K97 := K96.wr W97 (Or.inr ge)
  have N97 := Fr.snoc X97 N96 gn
  clear B96 K96 N96
  show Owes _ _ _ _ (T97.setTop (mkF m 28 #[] [(.ref ro)]))
  refine Owes.go ?_ fun t₀ k₀ => XS.dup X97.here hx rfl (hb hby d1_28) rfl rfl k₀
  show Owes _ _ _ _ (T97.setTop (mkF m 29 #[] [(.ref ro), (.ref ro)]))
  refine Owes.go ?_ fun t₀ k₀ => XS.bipush X97.here hx rfl (hb hby d1_29) k₀
  show Owes _ _ _ _ (T97.setTop (mkF m 31 #[] [(.int (6 : Int32)), (.ref ro), (.ref ro)]))
  refine Owes.go ?_ fun t₀ k₀ => XS.bipush X97.here hx rfl (hb hby d1_31) k₀
  show Owes _ _ _ _ (T97.setTop (mkF m 33 #[] [(.int (6 : Int32)), (.int (6 : Int32)), (.ref ro), (.ref ro)]))
  refine Owes.sB X97 hx hZ e97 B97 (i := 6) rfl (by decide) ⟨by decide, by decide⟩ (hb hby d1_33) ?_
  intro T98 h98 X98 e98 W98 B98
  have K98 := K97.wr W98 (Or.inr ge)
  have N98 := Fr.snoc X98 N97 gn
  clear B97 K97 N97
  show Owes _ _ _ _ (T98.setTop (mkF m 34 #[] [(.ref ro)]))
  refine Owes.go ?_ fun t₀ k₀ => XS.dup X98.here hx rfl (hb hby d1_34) rfl rfl k₀
  show Owes _ _ _ _ (T98.setTop (mkF m 35 #[] [(.ref ro), (.ref ro)]))
  refine Owes.go ?_ fun t₀ k₀ => XS.bipush X98.here hx rfl (hb hby d1_35) k₀
  show Owes _ _ _ _ (T98.setTop (mkF m 37 #[] [(.int (7 : Int32)), (.ref ro), (.ref ro)]))
  refine Owes.go ?_ fun t₀ k₀ => XS.bipush X98.here hx rfl (hb hby d1_37) k₀
  show Owes _ _ _ _ (T98.setTop (mkF m 39 #[] [(.int (7 : Int32)), (.int (7 : Int32)), (.ref ro), (.ref ro)]))
  refine Owes.sB X98 hx hZ e98 B98 (i := 7) rfl (by decide) ⟨by decide, by decide⟩ (hb hby d1_39) ?_
  intro T99 h99 X99 e99 W99 B99
  have K99 := K98.wr W99 (Or.inr ge)
  have N99 := Fr.snoc X99 N98 gn
  clear B98 K98 N98
  show Owes _ _ _ _ (T99.setTop (mkF m 40 #[] [(.ref ro)]))
  refine Owes.go ?_ fun t₀ k₀ => XS.dup X99.here hx rfl (hb hby d1_40) rfl rfl k₀
  show Owes _ _ _ _ (T99.setTop (mkF m 41 #[] [(.ref ro), (.ref ro)]))
  refine Owes.go ?_ fun t₀ k₀ => XS.bipush X99.here hx rfl (hb hby d1_41) k₀
  show Owes _ _ _ _ (T99.setTop (mkF m 43 #[] [(.int (8 : Int32)), (.ref ro), (.ref ro)]))
  refine Owes.go ?_ fun t₀ k₀ => XS.bipush X99.here hx rfl (hb hby d1_43) k₀
  show Owes _ _ _ _ (T99.setTop (mkF m 45 #[] [(.int (8 : Int32)), (.int (8 : Int32)), (.ref ro), (.ref ro)]))
  refine Owes.sB X99 hx hZ e99 B99 (i := 8) rfl (by decide) ⟨by decide, by decide⟩ (hb hby d1_45) ?_
  intro T100 h100 X100 e100 W100 B100
  have K100 := K99.wr W100 (Or.inr ge)
  have N100 := Fr.snoc X100 N99 gn
  clear B99 K99 N99
  show Owes _ _ _ _ (T100.setTop (mkF m 46 #[] [(.ref ro)]))
  refine Owes.go ?_ fun t₀ k₀ => XS.dup X100.here hx rfl (hb hby d1_46) rfl rfl k₀
  show Owes _ _ _ _ (T100.setTop (mkF m 47 #[] [(.ref ro), (.ref ro)]))
  refine Owes.go ?_ fun t₀ k₀ => XS.bipush X100.here hx rfl (hb hby d1_47) k₀
  show Owes _ _ _ _ (T100.setTop (mkF m 49 #[] [(.int (9 : Int32)), (.ref ro), (.ref ro)]))
  refine Owes.go ?_ fun t₀ k₀ => XS.bipush X100.here hx rfl (hb hby d1_49) k₀
  show Owes _ _ _ _ (T100.setTop (mkF m 51 #[] [(.int (9 : Int32)), (.int (9 : Int32)), (.ref ro), (.ref ro)]))
  refine Owes.sB X100 hx hZ e100 B100 (i := 9) rfl (by decide) ⟨by decide, by decide⟩ (hb hby d1_51) ?_
  intro T101 h101 X101 e101 W101 B101
  have K101 := K100.wr W101 (Or.inr ge)
  have N101 := Fr.snoc X101 N100 gn
  clear B100 K100 N100
  show Owes _ _ _ _ (T101.setTop (mkF m 52 #[] [(.ref ro)]))
  refine Owes.go ?_ fun t₀ k₀ => XS.dup X101.here hx rfl (hb hby d1_52) rfl rfl k₀
  show Owes _ _ _ _ (T101.setTop (mkF m 53 #[] [(.ref ro), (.ref ro)]))
  refine Owes.go ?_ fun t₀ k₀ => XS.bipush X101.here hx rfl (hb hby d1_53) k₀
  show Owes _ _ _ _ (T101.setTop (mkF m 55 #[] [(.int (10 : Int32)), (.ref ro), (.ref ro)]))
  refine Owes.go ?_ fun t₀ k₀ => XS.bipush X101.here hx rfl (hb hby d1_55) k₀
  show Owes _ _ _ _ (T101.setTop (mkF m 57 #[] [(.int (10 : Int32)), (.int (10 : Int32)), (.ref ro), (.ref ro)]))
  refine Owes.sB X101 hx hZ e101 B101 (i := 10) rfl (by decide) ⟨by decide, by decide⟩ (hb hby d1_57) ?_
  intro T102 h102 X102 e102 W102 B102
  have K102 := K101.wr W102 (Or.inr ge)
  have N102 := Fr.snoc X102 N101 gn
  clear B101 K101 N101
  show Owes _ _ _ _ (T102.setTop (mkF m 58 #[] [(.ref ro)]))
  refine Owes.go ?_ fun t₀ k₀ => XS.dup X102.here hx rfl (hb hby d1_58) rfl rfl k₀
  show Owes _ _ _ _ (T102.setTop (mkF m 59 #[] [(.ref ro), (.ref ro)]))
  refine Owes.go ?_ fun t₀ k₀ => XS.bipush X102.here hx rfl (hb hby d1_59) k₀
  show Owes _ _ _ _ (T102.setTop (mkF m 61 #[] [(.int (11 : Int32)), (.ref ro), (.ref ro)]))
  refine Owes.go ?_ fun t₀ k₀ => XS.bipush X102.here hx rfl (hb hby d1_61) k₀
  show Owes _ _ _ _ (T102.setTop (mkF m 63 #[] [(.int (11 : Int32)), (.int (11 : Int32)), (.ref ro), (.ref ro)]))
  refine Owes.sB X102 hx hZ e102 B102 (i := 11) rfl (by decide) ⟨by decide, by decide⟩ (hb hby d1_63) ?_
  intro T103 h103 X103 e103 W103 B103
  have K103 := K102.wr W103 (Or.inr ge)
  have N103 := Fr.snoc X103 N102 gn
  clear B102 K102 N102
  show Owes _ _ _ _ (T103.setTop (mkF m 64 #[] [(.ref ro)]))
  refine Owes.go ?_ fun t₀ k₀ => XS.dup X103.here hx rfl (hb hby d1_64) rfl rfl k₀
  show Owes _ _ _ _ (T103.setTop (mkF m 65 #[] [(.ref ro), (.ref ro)]))
  refine Owes.go ?_ fun t₀ k₀ => XS.bipush X103.here hx rfl (hb hby d1_65) k₀
  show Owes _ _ _ _ (T103.setTop (mkF m 67 #[] [(.int (12 : Int32)), (.ref ro), (.ref ro)]))
  refine Owes.go ?_ fun t₀ k₀ => XS.bipush X103.here hx rfl (hb hby d1_67) k₀
  show Owes _ _ _ _ (T103.setTop (mkF m 69 #[] [(.int (12 : Int32)), (.int (12 : Int32)), (.ref ro), (.ref ro)]))
  refine Owes.sB X103 hx hZ e103 B103 (i := 12) rfl (by decide) ⟨by decide, by decide⟩ (hb hby d1_69) ?_
  intro T104 h104 X104 e104 W104 B104
  have K104 := K103.wr W104 (Or.inr ge)
  have N104 := Fr.snoc X104 N103 gn
  clear B103 K103 N103
  show Owes _ _ _ _ (T104.setTop (mkF m 70 #[] [(.ref ro)]))
  refine Owes.go ?_ fun t₀ k₀ => XS.dup X104.here hx rfl (hb hby d1_70) rfl rfl k₀
  show Owes _ _ _ _ (T104.setTop (mkF m 71 #[] [(.ref ro), (.ref ro)]))
  refine Owes.go ?_ fun t₀ k₀ => XS.bipush X104.here hx rfl (hb hby d1_71) k₀
  show Owes _ _ _ _ (T104.setTop (mkF m 73 #[] [(.int (13 : Int32)), (.ref ro), (.ref ro)]))
  refine Owes.go ?_ fun t₀ k₀ => XS.bipush X104.here hx rfl (hb hby d1_73) k₀
  show Owes _ _ _ _ (T104.setTop (mkF m 75 #[] [(.int (13 : Int32)), (.int (13 : Int32)), (.ref ro), (.ref ro)]))
  refine Owes.sB X104 hx hZ e104 B104 (i := 13) rfl (by decide) ⟨by decide, by decide⟩ (hb hby d1_75) ?_
  intro T105 h105 X105 e105 W105 B105
  have K105 := K104.wr W105 (Or.inr ge)
  have N105 := Fr.snoc X105 N104 gn
  clear B104 K104 N104
  show Owes _ _ _ _ (T105.setTop (mkF m 76 #[] [(.ref ro)]))
  refine Owes.go ?_ fun t₀ k₀ => XS.dup X105.here hx rfl (hb hby d1_76) rfl rfl k₀
  show Owes _ _ _ _ (T105.setTop (mkF m 77 #[] [(.ref ro), (.ref ro)]))
  refine Owes.go ?_ fun t₀ k₀ => XS.bipush X105.here hx rfl (hb hby d1_77) k₀
  show Owes _ _ _ _ (T105.setTop (mkF m 79 #[] [(.int (14 : Int32)), (.ref ro), (.ref ro)]))
  refine Owes.go ?_ fun t₀ k₀ => XS.bipush X105.here hx rfl (hb hby d1_79) k₀
  show Owes _ _ _ _ (T105.setTop (mkF m 81 #[] [(.int (14 : Int32)), (.int (14 : Int32)), (.ref ro), (.ref ro)]))
  refine Owes.sB X105 hx hZ e105 B105 (i := 14) rfl (by decide) ⟨by decide, by decide⟩ (hb hby d1_81) ?_
  intro T106 h106 X106 e106 W106 B106
  have K106 := K105.wr W106 (Or.inr ge)
  have N106 := Fr.snoc X106 N105 gn
  clear B105 K105 N105
  show Owes _ _ _ _ (T106.setTop (mkF m 82 #[] [(.ref ro)]))
  refine Owes.go ?_ fun t₀ k₀ => XS.dup X106.here hx rfl (hb hby d1_82) rfl rfl k₀
  show Owes _ _ _ _ (T106.setTop (mkF m 83 #[] [(.ref ro), (.ref ro)]))
  refine Owes.go ?_ fun t₀ k₀ => XS.bipush X106.here hx rfl (hb hby d1_83) k₀
  show Owes _ _ _ _ (T106.setTop (mkF m 85 #[] [(.int (15 : Int32)), (.ref ro), (.ref ro)]))
  refine Owes.go ?_ fun t₀ k₀ => XS.bipush X106.here hx rfl (hb hby d1_85) k₀
  show Owes _ _ _ _ (T106.setTop (mkF m 87 #[] [(.int (15 : Int32)), (.int (15 : Int32)), (.ref ro), (.ref ro)]))
  refine Owes.sB X106 hx hZ e106 B106 (i := 15) rfl (by decide) ⟨by decide, by decide⟩ (hb hby d1_87) ?_
  intro T107 h107 X107 e107 W107 B107
  have K107 := K106.wr W107 (Or.inr ge)
  have N107 := Fr.snoc X107 N106 gn
  clear B106 K106 N106
  show Owes _ _ _ _ (T107.setTop (mkF m 88 #[] [(.ref ro)]))
  refine Owes.go ?_ fun t₀ k₀ => XS.dup X107.here hx rfl (hb hby d1_88) rfl rfl k₀
  show Owes _ _ _ _ (T107.setTop (mkF m 89 #[] [(.ref ro), (.ref ro)]))
  refine Owes.go ?_ fun t₀ k₀ => XS.bipush X107.here hx rfl (hb hby d1_89) k₀
  show Owes _ _ _ _ (T107.setTop (mkF m 91 #[] [(.int (16 : Int32)), (.ref ro), (.ref ro)]))
  refine Owes.go ?_ fun t₀ k₀ => XS.bipush X107.here hx rfl (hb hby d1_91) k₀
  show Owes _ _ _ _ (T107.setTop (mkF m 93 #[] [(.int (16 : Int32)), (.int (16 : Int32)), (.ref ro), (.ref ro)]))
  refine Owes.sB X107 hx hZ e107 B107 (i := 16) rfl (by decide) ⟨by decide, by decide⟩ (hb hby d1_93) ?_
  intro T108 h108 X108 e108 W108 B108
  have K108 := K107.wr W108 (Or.inr ge)
  have N108 := Fr.snoc X108 N107 gn
  clear B107 K107 N107
  show Owes _ _ _ _ (T108.setTop (mkF m 94 #[] [(.ref ro)]))
  refine Owes.go ?_ fun t₀ k₀ => XS.dup X108.here hx rfl (hb hby d1_94) rfl rfl k₀
  show Owes _ _ _ _ (T108.setTop (mkF m 95 #[] [(.ref ro), (.ref ro)]))
  refine Owes.go ?_ fun t₀ k₀ => XS.bipush X108.here hx rfl (hb hby d1_95) k₀
  show Owes _ _ _ _ (T108.setTop (mkF m 97 #[] [(.int (17 : Int32)), (.ref ro), (.ref ro)]))
  refine Owes.go ?_ fun t₀ k₀ => XS.bipush X108.here hx rfl (hb hby d1_97) k₀
  show Owes _ _ _ _ (T108.setTop (mkF m 99 #[] [(.int (17 : Int32)), (.int (17 : Int32)), (.ref ro), (.ref ro)]))
  refine Owes.sB X108 hx hZ e108 B108 (i := 17) rfl (by decide) ⟨by decide, by decide⟩ (hb hby d1_99) ?_
  intro T109 h109 X109 e109 W109 B109
  have K109 := K108.wr W109 (Or.inr ge)
  have N109 := Fr.snoc X109 N108 gn
  clear B108 K108 N108
  show Owes _ _ _ _ (T109.setTop (mkF m 100 #[] [(.ref ro)]))
  refine Owes.go ?_ fun t₀ k₀ => XS.dup X109.here hx rfl (hb hby d1_100) rfl rfl k₀
  show Owes _ _ _ _ (T109.setTop (mkF m 101 #[] [(.ref ro), (.ref ro)]))
  refine Owes.go ?_ fun t₀ k₀ => XS.bipush X109.here hx rfl (hb hby d1_101) k₀
  show Owes _ _ _ _ (T109.setTop (mkF m 103 #[] [(.int (18 : Int32)), (.ref ro), (.ref ro)]))
  refine Owes.go ?_ fun t₀ k₀ => XS.bipush X109.here hx rfl (hb hby d1_103) k₀
  show Owes _ _ _ _ (T109.setTop (mkF m 105 #[] [(.int (18 : Int32)), (.int (18 : Int32)), (.ref ro), (.ref ro)]))
  refine Owes.sB X109 hx hZ e109 B109 (i := 18) rfl (by decide) ⟨by decide, by decide⟩ (hb hby d1_105) ?_
  intro T110 h110 X110 e110 W110 B110
  have K110 := K109.wr W110 (Or.inr ge)
  have N110 := Fr.snoc X110 N109 gn
  clear B109 K109 N109
  show Owes _ _ _ _ (T110.setTop (mkF m 106 #[] [(.ref ro)]))
  refine Owes.go ?_ fun t₀ k₀ => XS.dup X110.here hx rfl (hb hby d1_106) rfl rfl k₀
  show Owes _ _ _ _ (T110.setTop (mkF m 107 #[] [(.ref ro), (.ref ro)]))
  refine Owes.go ?_ fun t₀ k₀ => XS.bipush X110.here hx rfl (hb hby d1_107) k₀
  show Owes _ _ _ _ (T110.setTop (mkF m 109 #[] [(.int (19 : Int32)), (.ref ro), (.ref ro)]))
  refine Owes.go ?_ fun t₀ k₀ => XS.bipush X110.here hx rfl (hb hby d1_109) k₀
  show Owes _ _ _ _ (T110.setTop (mkF m 111 #[] [(.int (19 : Int32)), (.int (19 : Int32)), (.ref ro), (.ref ro)]))
  refine Owes.sB X110 hx hZ e110 B110 (i := 19) rfl (by decide) ⟨by decide, by decide⟩ (hb hby d1_111) ?_
  intro T111 h111 X111 e111 W111 B111
  have K111 := K110.wr W111 (Or.inr ge)
  have N111 := Fr.snoc X111 N110 gn
  clear B110 K110 N110
  show Owes _ _ _ _ (T111.setTop (mkF m 112 #[] [(.ref ro)]))
  refine Owes.go ?_ fun t₀ k₀ => XS.dup X111.here hx rfl (hb hby d1_112) rfl rfl k₀
  show Owes _ _ _ _ (T111.setTop (mkF m 113 #[] [(.ref ro), (.ref ro)]))
  refine Owes.go ?_ fun t₀ k₀ => XS.bipush X111.here hx rfl (hb hby d1_113) k₀
  show Owes _ _ _ _ (T111.setTop (mkF m 115 #[] [(.int (20 : Int32)), (.ref ro), (.ref ro)]))
  refine Owes.go ?_ fun t₀ k₀ => XS.bipush X111.here hx rfl (hb hby d1_115) k₀
  show Owes _ _ _ _ (T111.setTop (mkF m 117 #[] [(.int (20 : Int32)), (.int (20 : Int32)), (.ref ro), (.ref ro)]))
  refine Owes.sB X111 hx hZ e111 B111 (i := 20) rfl (by decide) ⟨by decide, by decide⟩ (hb hby d1_117) ?_
  intro T112 h112 X112 e112 W112 B112
  have K112 := K111.wr W112 (Or.inr ge)
  have N112 := Fr.snoc X112 N111 gn
  clear B111 K111 N111
  show Owes _ _ _ _ (T112.setTop (mkF m 118 #[] [(.ref ro)]))
  refine Owes.go ?_ fun t₀ k₀ => XS.dup X112.here hx rfl (hb hby d1_118) rfl rfl k₀
  show Owes _ _ _ _ (T112.setTop (mkF m 119 #[] [(.ref ro), (.ref ro)]))
  refine Owes.go ?_ fun t₀ k₀ => XS.bipush X112.here hx rfl (hb hby d1_119) k₀
  show Owes _ _ _ _ (T112.setTop (mkF m 121 #[] [(.int (21 : Int32)), (.ref ro), (.ref ro)]))
  refine Owes.go ?_ fun t₀ k₀ => XS.bipush X112.here hx rfl (hb hby d1_121) k₀
  show Owes _ _ _ _ (T112.setTop (mkF m 123 #[] [(.int (21 : Int32)), (.int (21 : Int32)), (.ref ro), (.ref ro)]))
  refine Owes.sB X112 hx hZ e112 B112 (i := 21) rfl (by decide) ⟨by decide, by decide⟩ (hb hby d1_123) ?_
  intro T113 h113 X113 e113 W113 B113
  have K113 := K112.wr W113 (Or.inr ge)
  have N113 := Fr.snoc X113 N112 gn
  clear B112 K112 N112
  show Owes _ _ _ _ (T113.setTop (mkF m 124 #[] [(.ref ro)]))
  refine Owes.go ?_ fun t₀ k₀ => XS.dup X113.here hx rfl (hb hby d1_124) rfl rfl k₀
  show Owes _ _ _ _ (T113.setTop (mkF m 125 #[] [(.ref ro), (.ref ro)]))
  refine Owes.go ?_ fun t₀ k₀ => XS.bipush X113.here hx rfl (hb hby d1_125) k₀
  show Owes _ _ _ _ (T113.setTop (mkF m 127 #[] [(.int (22 : Int32)), (.ref ro), (.ref ro)]))
  refine Owes.go ?_ fun t₀ k₀ => XS.bipush X113.here hx rfl (hb hby d1_127) k₀
  show Owes _ _ _ _ (T113.setTop (mkF m 129 #[] [(.int (22 : Int32)), (.int (22 : Int32)), (.ref ro), (.ref ro)]))
  refine Owes.sB X113 hx hZ e113 B113 (i := 22) rfl (by decide) ⟨by decide, by decide⟩ (hb hby d1_129) ?_
  intro T114 h114 X114 e114 W114 B114
  have K114 := K113.wr W114 (Or.inr ge)
  have N114 := Fr.snoc X114 N113 gn
  clear B113 K113 N113
  show Owes _ _ _ _ (T114.setTop (mkF m 130 #[] [(.ref ro)]))
  refine Owes.go ?_ fun t₀ k₀ => XS.dup X114.here hx rfl (hb hby d1_130) rfl rfl k₀
  show Owes _ _ _ _ (T114.setTop (mkF m 131 #[] [(.ref ro), (.ref ro)]))
  refine Owes.go ?_ fun t₀ k₀ => XS.bipush X114.here hx rfl (hb hby d1_131) k₀
  show Owes _ _ _ _ (T114.setTop (mkF m 133 #[] [(.int (23 : Int32)), (.ref ro), (.ref ro)]))
  refine Owes.go ?_ fun t₀ k₀ => XS.bipush X114.here hx rfl (hb hby d1_133) k₀
  show Owes _ _ _ _ (T114.setTop (mkF m 135 #[] [(.int (23 : Int32)), (.int (23 : Int32)), (.ref ro), (.ref ro)]))
  refine Owes.sB X114 hx hZ e114 B114 (i := 23) rfl (by decide) ⟨by decide, by decide⟩ (hb hby d1_135) ?_
  intro T115 h115 X115 e115 W115 B115
  have K115 := K114.wr W115 (Or.inr ge)
  have N115 := Fr.snoc X115 N114 gn
  clear B114 K114 N114
  show Owes _ _ _ _ (T115.setTop (mkF m 136 #[] [(.ref ro)]))
  refine Owes.go ?_ fun t₀ k₀ => XS.dup X115.here hx rfl (hb hby d1_136) rfl rfl k₀
  show Owes _ _ _ _ (T115.setTop (mkF m 137 #[] [(.ref ro), (.ref ro)]))
  refine Owes.go ?_ fun t₀ k₀ => XS.bipush X115.here hx rfl (hb hby d1_137) k₀
  show Owes _ _ _ _ (T115.setTop (mkF m 139 #[] [(.int (24 : Int32)), (.ref ro), (.ref ro)]))
  refine Owes.go ?_ fun t₀ k₀ => XS.bipush X115.here hx rfl (hb hby d1_139) k₀
  show Owes _ _ _ _ (T115.setTop (mkF m 141 #[] [(.int (24 : Int32)), (.int (24 : Int32)), (.ref ro), (.ref ro)]))
  refine Owes.sB X115 hx hZ e115 B115 (i := 24) rfl (by decide) ⟨by decide, by decide⟩ (hb hby d1_141) ?_
  intro T116 h116 X116 e116 W116 B116
  have K116 := K115.wr W116 (Or.inr ge)
  have N116 := Fr.snoc X116 N115 gn
  clear B115 K115 N115
  show Owes _ _ _ _ (T116.setTop (mkF m 142 #[] [(.ref ro)]))
  refine Owes.go ?_ fun t₀ k₀ => XS.dup X116.here hx rfl (hb hby d1_142) rfl rfl k₀
  show Owes _ _ _ _ (T116.setTop (mkF m 143 #[] [(.ref ro), (.ref ro)]))
  refine Owes.go ?_ fun t₀ k₀ => XS.bipush X116.here hx rfl (hb hby d1_143) k₀
  show Owes _ _ _ _ (T116.setTop (mkF m 145 #[] [(.int (25 : Int32)), (.ref ro), (.ref ro)]))
  refine Owes.go ?_ fun t₀ k₀ => XS.bipush X116.here hx rfl (hb hby d1_145) k₀
  show Owes _ _ _ _ (T116.setTop (mkF m 147 #[] [(.int (25 : Int32)), (.int (25 : Int32)), (.ref ro), (.ref ro)]))
  refine Owes.sB X116 hx hZ e116 B116 (i := 25) rfl (by decide) ⟨by decide, by decide⟩ (hb hby d1_147) ?_
  intro T117 h117 X117 e117 W117 B117
  have K117 := K116.wr W117 (Or.inr ge)
  have N117 := Fr.snoc X117 N116 gn
  clear B116 K116 N116
  show Owes _ _ _ _ (T117.setTop (mkF m 148 #[] [(.ref ro)]))
  refine Owes.go ?_ fun t₀ k₀ => XS.dup X117.here hx rfl (hb hby d1_148) rfl rfl k₀
  show Owes _ _ _ _ (T117.setTop (mkF m 149 #[] [(.ref ro), (.ref ro)]))
  refine Owes.go ?_ fun t₀ k₀ => XS.bipush X117.here hx rfl (hb hby d1_149) k₀
  show Owes _ _ _ _ (T117.setTop (mkF m 151 #[] [(.int (26 : Int32)), (.ref ro), (.ref ro)]))
  refine Owes.go ?_ fun t₀ k₀ => XS.bipush X117.here hx rfl (hb hby d1_151) k₀
  show Owes _ _ _ _ (T117.setTop (mkF m 153 #[] [(.int (26 : Int32)), (.int (26 : Int32)), (.ref ro), (.ref ro)]))
  refine Owes.sB X117 hx hZ e117 B117 (i := 26) rfl (by decide) ⟨by decide, by decide⟩ (hb hby d1_153) ?_
  intro T118 h118 X118 e118 W118 B118
  have K118 := K117.wr W118 (Or.inr ge)
  have N118 := Fr.snoc X118 N117 gn
  clear B117 K117 N117
  show Owes _ _ _ _ (T118.setTop (mkF m 154 #[] [(.ref ro)]))
  refine Owes.go ?_ fun t₀ k₀ => XS.dup X118.here hx rfl (hb hby d1_154) rfl rfl k₀
  show Owes _ _ _ _ (T118.setTop (mkF m 155 #[] [(.ref ro), (.ref ro)]))
  refine Owes.go ?_ fun t₀ k₀ => XS.bipush X118.here hx rfl (hb hby d1_155) k₀
  show Owes _ _ _ _ (T118.setTop (mkF m 157 #[] [(.int (27 : Int32)), (.ref ro), (.ref ro)]))
  refine Owes.go ?_ fun t₀ k₀ => XS.bipush X118.here hx rfl (hb hby d1_157) k₀
  show Owes _ _ _ _ (T118.setTop (mkF m 159 #[] [(.int (27 : Int32)), (.int (27 : Int32)), (.ref ro), (.ref ro)]))
  refine Owes.sB X118 hx hZ e118 B118 (i := 27) rfl (by decide) ⟨by decide, by decide⟩ (hb hby d1_159) ?_
  intro T119 h119 X119 e119 W119 B119
  have K119 := K118.wr W119 (Or.inr ge)
  have N119 := Fr.snoc X119 N118 gn
  clear B118 K118 N118
  show Owes _ _ _ _ (T119.setTop (mkF m 160 #[] [(.ref ro)]))
  refine Owes.go ?_ fun t₀ k₀ => XS.dup X119.here hx rfl (hb hby d1_160) rfl rfl k₀
  show Owes _ _ _ _ (T119.setTop (mkF m 161 #[] [(.ref ro), (.ref ro)]))
  refine Owes.go ?_ fun t₀ k₀ => XS.bipush X119.here hx rfl (hb hby d1_161) k₀
  show Owes _ _ _ _ (T119.setTop (mkF m 163 #[] [(.int (28 : Int32)), (.ref ro), (.ref ro)]))
  refine Owes.go ?_ fun t₀ k₀ => XS.bipush X119.here hx rfl (hb hby d1_163) k₀
  show Owes _ _ _ _ (T119.setTop (mkF m 165 #[] [(.int (28 : Int32)), (.int (28 : Int32)), (.ref ro), (.ref ro)]))
  refine Owes.sB X119 hx hZ e119 B119 (i := 28) rfl (by decide) ⟨by decide, by decide⟩ (hb hby d1_165) ?_
  intro T120 h120 X120 e120 W120 B120
  have K120 := K119.wr W120 (Or.inr ge)
  have N120 := Fr.snoc X120 N119 gn
  clear B119 K119 N119
  show Owes _ _ _ _ (T120.setTop (mkF m 166 #[] [(.ref ro)]))
  refine Owes.go ?_ fun t₀ k₀ => XS.dup X120.here hx rfl (hb hby d1_166) rfl rfl k₀
  show Owes _ _ _ _ (T120.setTop (mkF m 167 #[] [(.ref ro), (.ref ro)]))
  refine Owes.go ?_ fun t₀ k₀ => XS.bipush X120.here hx rfl (hb hby d1_167) k₀
  show Owes _ _ _ _ (T120.setTop (mkF m 169 #[] [(.int (29 : Int32)), (.ref ro), (.ref ro)]))
  refine Owes.go ?_ fun t₀ k₀ => XS.bipush X120.here hx rfl (hb hby d1_169) k₀
  show Owes _ _ _ _ (T120.setTop (mkF m 171 #[] [(.int (29 : Int32)), (.int (29 : Int32)), (.ref ro), (.ref ro)]))
  refine Owes.sB X120 hx hZ e120 B120 (i := 29) rfl (by decide) ⟨by decide, by decide⟩ (hb hby d1_171) ?_
  intro T121 h121 X121 e121 W121 B121
  have K121 := K120.wr W121 (Or.inr ge)
  have N121 := Fr.snoc X121 N120 gn
  clear B120 K120 N120
  show Owes _ _ _ _ (T121.setTop (mkF m 172 #[] [(.ref ro)]))
  refine Owes.go ?_ fun t₀ k₀ => XS.dup X121.here hx rfl (hb hby d1_172) rfl rfl k₀
  show Owes _ _ _ _ (T121.setTop (mkF m 173 #[] [(.ref ro), (.ref ro)]))
  refine Owes.go ?_ fun t₀ k₀ => XS.bipush X121.here hx rfl (hb hby d1_173) k₀
  show Owes _ _ _ _ (T121.setTop (mkF m 175 #[] [(.int (30 : Int32)), (.ref ro), (.ref ro)]))
  refine Owes.go ?_ fun t₀ k₀ => XS.bipush X121.here hx rfl (hb hby d1_175) k₀
  show Owes _ _ _ _ (T121.setTop (mkF m 177 #[] [(.int (30 : Int32)), (.int (30 : Int32)), (.ref ro), (.ref ro)]))
  refine Owes.sB X121 hx hZ e121 B121 (i := 30) rfl (by decide) ⟨by decide, by decide⟩ (hb hby d1_177) ?_
  intro T122 h122 X122 e122 W122 B122
  have K122 := K121.wr W122 (Or.inr ge)
  have N122 := Fr.snoc X122 N121 gn
  clear B121 K121 N121
  show Owes _ _ _ _ (T122.setTop (mkF m 178 #[] [(.ref ro)]))
  refine Owes.go ?_ fun t₀ k₀ => XS.dup X122.here hx rfl (hb hby d1_178) rfl rfl k₀
  show Owes _ _ _ _ (T122.setTop (mkF m 179 #[] [(.ref ro), (.ref ro)]))
  refine Owes.go ?_ fun t₀ k₀ => XS.bipush X122.here hx rfl (hb hby d1_179) k₀
  show Owes _ _ _ _ (T122.setTop (mkF m 181 #[] [(.int (31 : Int32)), (.ref ro), (.ref ro)]))
  refine Owes.go ?_ fun t₀ k₀ => XS.bipush X122.here hx rfl (hb hby d1_181) k₀
  show Owes _ _ _ _ (T122.setTop (mkF m 183 #[] [(.int (31 : Int32)), (.int (31 : Int32)), (.ref ro), (.ref ro)]))
  refine Owes.sB X122 hx hZ e122 B122 (i := 31) rfl (by decide) ⟨by decide, by decide⟩ (hb hby d1_183) ?_
  intro T123 h123 X123 e123 W123 B123
  have K123 := K122.wr W123 (Or.inr ge)
  have N123 := Fr.snoc X123 N122 gn
  clear B122 K122 N122
  show Owes _ _ _ _ (T123.setTop (mkF m 184 #[] [(.ref ro)]))
  refine Owes.go ?_ fun t₀ k₀ => XS.dup X123.here hx rfl (hb hby d1_184) rfl rfl k₀
  show Owes _ _ _ _ (T123.setTop (mkF m 185 #[] [(.ref ro), (.ref ro)]))
  refine Owes.go ?_ fun t₀ k₀ => XS.bipush X123.here hx rfl (hb hby d1_185) k₀
  show Owes _ _ _ _ (T123.setTop (mkF m 187 #[] [(.int (32 : Int32)), (.ref ro), (.ref ro)]))
  refine Owes.go ?_ fun t₀ k₀ => XS.bipush X123.here hx rfl (hb hby d1_187) k₀
  show Owes _ _ _ _ (T123.setTop (mkF m 189 #[] [(.int (32 : Int32)), (.int (32 : Int32)), (.ref ro), (.ref ro)]))
  refine Owes.sB X123 hx hZ e123 B123 (i := 32) rfl (by decide) ⟨by decide, by decide⟩ (hb hby d1_189) ?_
  intro T124 h124 X124 e124 W124 B124
  have K124 := K123.wr W124 (Or.inr ge)
  have N124 := Fr.snoc X124 N123 gn
  clear B123 K123 N123
  show Owes _ _ _ _ (T124.setTop (mkF m 190 #[] [(.ref ro)]))
  refine Owes.go ?_ fun t₀ k₀ => XS.dup X124.here hx rfl (hb hby d1_190) rfl rfl k₀
  show Owes _ _ _ _ (T124.setTop (mkF m 191 #[] [(.ref ro), (.ref ro)]))
  refine Owes.go ?_ fun t₀ k₀ => XS.bipush X124.here hx rfl (hb hby d1_191) k₀
  show Owes _ _ _ _ (T124.setTop (mkF m 193 #[] [(.int (33 : Int32)), (.ref ro), (.ref ro)]))
  refine Owes.go ?_ fun t₀ k₀ => XS.bipush X124.here hx rfl (hb hby d1_193) k₀
  show Owes _ _ _ _ (T124.setTop (mkF m 195 #[] [(.int (33 : Int32)), (.int (33 : Int32)), (.ref ro), (.ref ro)]))
  refine Owes.sB X124 hx hZ e124 B124 (i := 33) rfl (by decide) ⟨by decide, by decide⟩ (hb hby d1_195) ?_
  intro T125 h125 X125 e125 W125 B125
  have K125 := K124.wr W125 (Or.inr ge)
  have N125 := Fr.snoc X125 N124 gn
  clear B124 K124 N124
  show Owes _ _ _ _ (T125.setTop (mkF m 196 #[] [(.ref ro)]))
  refine Owes.go ?_ fun t₀ k₀ => XS.dup X125.here hx rfl (hb hby d1_196) rfl rfl k₀
  show Owes _ _ _ _ (T125.setTop (mkF m 197 #[] [(.ref ro), (.ref ro)]))
  refine Owes.go ?_ fun t₀ k₀ => XS.bipush X125.here hx rfl (hb hby d1_197) k₀
  show Owes _ _ _ _ (T125.setTop (mkF m 199 #[] [(.int (34 : Int32)), (.ref ro), (.ref ro)]))
  refine Owes.go ?_ fun t₀ k₀ => XS.bipush X125.here hx rfl (hb hby d1_199) k₀
  show Owes _ _ _ _ (T125.setTop (mkF m 201 #[] [(.int (34 : Int32)), (.int (34 : Int32)), (.ref ro), (.ref ro)]))
  refine Owes.sB X125 hx hZ e125 B125 (i := 34) rfl (by decide) ⟨by decide, by decide⟩ (hb hby d1_201) ?_
  intro T126 h126 X126 e126 W126 B126
  have K126 := K125.wr W126 (Or.inr ge)
  have N126 := Fr.snoc X126 N125 gn
  clear B125 K125 N125
  show Owes _ _ _ _ (T126.setTop (mkF m 202 #[] [(.ref ro)]))
  refine Owes.go ?_ fun t₀ k₀ => XS.dup X126.here hx rfl (hb hby d1_202) rfl rfl k₀
  show Owes _ _ _ _ (T126.setTop (mkF m 203 #[] [(.ref ro), (.ref ro)]))
  refine Owes.go ?_ fun t₀ k₀ => XS.bipush X126.here hx rfl (hb hby d1_203) k₀
  show Owes _ _ _ _ (T126.setTop (mkF m 205 #[] [(.int (35 : Int32)), (.ref ro), (.ref ro)]))
  refine Owes.go ?_ fun t₀ k₀ => XS.bipush X126.here hx rfl (hb hby d1_205) k₀
  show Owes _ _ _ _ (T126.setTop (mkF m 207 #[] [(.int (35 : Int32)), (.int (35 : Int32)), (.ref ro), (.ref ro)]))
  refine Owes.sB X126 hx hZ e126 B126 (i := 35) rfl (by decide) ⟨by decide, by decide⟩ (hb hby d1_207) ?_
  intro T127 h127 X127 e127 W127 B127
  have K127 := K126.wr W127 (Or.inr ge)
  have N127 := Fr.snoc X127 N126 gn
  clear B126 K126 N126
  show Owes _ _ _ _ (T127.setTop (mkF m 208 #[] [(.ref ro)]))
  refine Owes.go ?_ fun t₀ k₀ => XS.dup X127.here hx rfl (hb hby d1_208) rfl rfl k₀
  show Owes _ _ _ _ (T127.setTop (mkF m 209 #[] [(.ref ro), (.ref ro)]))
  refine Owes.go ?_ fun t₀ k₀ => XS.bipush X127.here hx rfl (hb hby d1_209) k₀
  show Owes _ _ _ _ (T127.setTop (mkF m 211 #[] [(.int (36 : Int32)), (.ref ro), (.ref ro)]))
  refine Owes.go ?_ fun t₀ k₀ => XS.bipush X127.here hx rfl (hb hby d1_211) k₀
  show Owes _ _ _ _ (T127.setTop (mkF m 213 #[] [(.int (36 : Int32)), (.int (36 : Int32)), (.ref ro), (.ref ro)]))
  refine Owes.sB X127 hx hZ e127 B127 (i := 36) rfl (by decide) ⟨by decide, by decide⟩ (hb hby d1_213) ?_
  intro T128 h128 X128 e128 W128 B128
  have K128 := K127.wr W128 (Or.inr ge)
  have N128 := Fr.snoc X128 N127 gn
  clear B127 K127 N127
  show Owes _ _ _ _ (T128.setTop (mkF m 214 #[] [(.ref ro)]))
  refine Owes.go ?_ fun t₀ k₀ => XS.dup X128.here hx rfl (hb hby d1_214) rfl rfl k₀
  show Owes _ _ _ _ (T128.setTop (mkF m 215 #[] [(.ref ro), (.ref ro)]))
  refine Owes.go ?_ fun t₀ k₀ => XS.bipush X128.here hx rfl (hb hby d1_215) k₀
  show Owes _ _ _ _ (T128.setTop (mkF m 217 #[] [(.int (37 : Int32)), (.ref ro), (.ref ro)]))
  refine Owes.go ?_ fun t₀ k₀ => XS.bipush X128.here hx rfl (hb hby d1_217) k₀
  show Owes _ _ _ _ (T128.setTop (mkF m 219 #[] [(.int (37 : Int32)), (.int (37 : Int32)), (.ref ro), (.ref ro)]))
  refine Owes.sB X128 hx hZ e128 B128 (i := 37) rfl (by decide) ⟨by decide, by decide⟩ (hb hby d1_219) ?_
  intro T129 h129 X129 e129 W129 B129
  have K129 := K128.wr W129 (Or.inr ge)
  have N129 := Fr.snoc X129 N128 gn
  clear B128 K128 N128
  show Owes _ _ _ _ (T129.setTop (mkF m 220 #[] [(.ref ro)]))
  refine Owes.go ?_ fun t₀ k₀ => XS.dup X129.here hx rfl (hb hby d1_220) rfl rfl k₀
  show Owes _ _ _ _ (T129.setTop (mkF m 221 #[] [(.ref ro), (.ref ro)]))
  refine Owes.go ?_ fun t₀ k₀ => XS.bipush X129.here hx rfl (hb hby d1_221) k₀
  show Owes _ _ _ _ (T129.setTop (mkF m 223 #[] [(.int (38 : Int32)), (.ref ro), (.ref ro)]))
  refine Owes.go ?_ fun t₀ k₀ => XS.bipush X129.here hx rfl (hb hby d1_223) k₀
  show Owes _ _ _ _ (T129.setTop (mkF m 225 #[] [(.int (38 : Int32)), (.int (38 : Int32)), (.ref ro), (.ref ro)]))
  refine Owes.sB X129 hx hZ e129 B129 (i := 38) rfl (by decide) ⟨by decide, by decide⟩ (hb hby d1_225) ?_
  intro T130 h130 X130 e130 W130 B130
  have K130 := K129.wr W130 (Or.inr ge)
  have N130 := Fr.snoc X130 N129 gn
  clear B129 K129 N129
  show Owes _ _ _ _ (T130.setTop (mkF m 226 #[] [(.ref ro)]))
  refine Owes.go ?_ fun t₀ k₀ => XS.dup X130.here hx rfl (hb hby d1_226) rfl rfl k₀
  show Owes _ _ _ _ (T130.setTop (mkF m 227 #[] [(.ref ro), (.ref ro)]))
  refine Owes.go ?_ fun t₀ k₀ => XS.bipush X130.here hx rfl (hb hby d1_227) k₀
  show Owes _ _ _ _ (T130.setTop (mkF m 229 #[] [(.int (39 : Int32)), (.ref ro), (.ref ro)]))
  refine Owes.go ?_ fun t₀ k₀ => XS.bipush X130.here hx rfl (hb hby d1_229) k₀
  show Owes _ _ _ _ (T130.setTop (mkF m 231 #[] [(.int (39 : Int32)), (.int (39 : Int32)), (.ref ro), (.ref ro)]))
  refine Owes.sB X130 hx hZ e130 B130 (i := 39) rfl (by decide) ⟨by decide, by decide⟩ (hb hby d1_231) ?_
  intro T131 h131 X131 e131 W131 B131
  have K131 := K130.wr W131 (Or.inr ge)
  have N131 := Fr.snoc X131 N130 gn
  clear B130 K130 N130
  show Owes _ _ _ _ (T131.setTop (mkF m 232 #[] [(.ref ro)]))
  refine Owes.go ?_ fun t₀ k₀ => XS.dup X131.here hx rfl (hb hby d1_232) rfl rfl k₀
  show Owes _ _ _ _ (T131.setTop (mkF m 233 #[] [(.ref ro), (.ref ro)]))
  refine Owes.go ?_ fun t₀ k₀ => XS.bipush X131.here hx rfl (hb hby d1_233) k₀
  show Owes _ _ _ _ (T131.setTop (mkF m 235 #[] [(.int (40 : Int32)), (.ref ro), (.ref ro)]))
  refine Owes.go ?_ fun t₀ k₀ => XS.bipush X131.here hx rfl (hb hby d1_235) k₀
  show Owes _ _ _ _ (T131.setTop (mkF m 237 #[] [(.int (40 : Int32)), (.int (40 : Int32)), (.ref ro), (.ref ro)]))
  refine Owes.sB X131 hx hZ e131 B131 (i := 40) rfl (by decide) ⟨by decide, by decide⟩ (hb hby d1_237) ?_
  intro T132 h132 X132 e132 W132 B132
  have K132 := K131.wr W132 (Or.inr ge)
  have N132 := Fr.snoc X132 N131 gn
  clear B131 K131 N131
  show Owes _ _ _ _ (T132.setTop (mkF m 238 #[] [(.ref ro)]))
  refine Owes.go ?_ fun t₀ k₀ => XS.dup X132.here hx rfl (hb hby d1_238) rfl rfl k₀
  show Owes _ _ _ _ (T132.setTop (mkF m 239 #[] [(.ref ro), (.ref ro)]))
  refine Owes.go ?_ fun t₀ k₀ => XS.bipush X132.here hx rfl (hb hby d1_239) k₀
  show Owes _ _ _ _ (T132.setTop (mkF m 241 #[] [(.int (41 : Int32)), (.ref ro), (.ref ro)]))
  refine Owes.go ?_ fun t₀ k₀ => XS.bipush X132.here hx rfl (hb hby d1_241) k₀
  show Owes _ _ _ _ (T132.setTop (mkF m 243 #[] [(.int (41 : Int32)), (.int (41 : Int32)), (.ref ro), (.ref ro)]))
  refine Owes.sB X132 hx hZ e132 B132 (i := 41) rfl (by decide) ⟨by decide, by decide⟩ (hb hby d1_243) ?_
  intro T133 h133 X133 e133 W133 B133
  have K133 := K132.wr W133 (Or.inr ge)
  have N133 := Fr.snoc X133 N132 gn
  clear B132 K132 N132
  show Owes _ _ _ _ (T133.setTop (mkF m 244 #[] [(.ref ro)]))
  refine Owes.go ?_ fun t₀ k₀ => XS.dup X133.here hx rfl (hb hby d1_244) rfl rfl k₀
  show Owes _ _ _ _ (T133.setTop (mkF m 245 #[] [(.ref ro), (.ref ro)]))
  refine Owes.go ?_ fun t₀ k₀ => XS.bipush X133.here hx rfl (hb hby d1_245) k₀
  show Owes _ _ _ _ (T133.setTop (mkF m 247 #[] [(.int (42 : Int32)), (.ref ro), (.ref ro)]))
  refine Owes.go ?_ fun t₀ k₀ => XS.bipush X133.here hx rfl (hb hby d1_247) k₀
  show Owes _ _ _ _ (T133.setTop (mkF m 249 #[] [(.int (42 : Int32)), (.int (42 : Int32)), (.ref ro), (.ref ro)]))
  refine Owes.sB X133 hx hZ e133 B133 (i := 42) rfl (by decide) ⟨by decide, by decide⟩ (hb hby d1_249) ?_
  intro T134 h134 X134 e134 W134 B134
  have K134 := K133.wr W134 (Or.inr ge)
  have N134 := Fr.snoc X134 N133 gn
  clear B133 K133 N133
  show Owes _ _ _ _ (T134.setTop (mkF m 250 #[] [(.ref ro)]))
  refine Owes.go ?_ fun t₀ k₀ => XS.dup X134.here hx rfl (hb hby d1_250) rfl rfl k₀
  show Owes _ _ _ _ (T134.setTop (mkF m 251 #[] [(.ref ro), (.ref ro)]))
  refine Owes.go ?_ fun t₀ k₀ => XS.bipush X134.here hx rfl (hb hby d1_251) k₀
  show Owes _ _ _ _ (T134.setTop (mkF m 253 #[] [(.int (43 : Int32)), (.ref ro), (.ref ro)]))
  refine Owes.go ?_ fun t₀ k₀ => XS.bipush X134.here hx rfl (hb hby d1_253) k₀
  show Owes _ _ _ _ (T134.setTop (mkF m 255 #[] [(.int (43 : Int32)), (.int (43 : Int32)), (.ref ro), (.ref ro)]))
  refine Owes.sB X134 hx hZ e134 B134 (i := 43) rfl (by decide) ⟨by decide, by decide⟩ (hb hby d1_255) ?_
  intro T135 h135 X135 e135 W135 B135
  have K135 := K134.wr W135 (Or.inr ge)
  have N135 := Fr.snoc X135 N134 gn
  clear B134 K134 N134
  show Owes _ _ _ _ (T135.setTop (mkF m 256 #[] [(.ref ro)]))
  refine Owes.go ?_ fun t₀ k₀ => XS.dup X135.here hx rfl (hb hby d1_256) rfl rfl k₀
  show Owes _ _ _ _ (T135.setTop (mkF m 257 #[] [(.ref ro), (.ref ro)]))
  refine Owes.go ?_ fun t₀ k₀ => XS.bipush X135.here hx rfl (hb hby d1_257) k₀
  show Owes _ _ _ _ (T135.setTop (mkF m 259 #[] [(.int (44 : Int32)), (.ref ro), (.ref ro)]))
  refine Owes.go ?_ fun t₀ k₀ => XS.bipush X135.here hx rfl (hb hby d1_259) k₀
  show Owes _ _ _ _ (T135.setTop (mkF m 261 #[] [(.int (44 : Int32)), (.int (44 : Int32)), (.ref ro), (.ref ro)]))
  refine Owes.sB X135 hx hZ e135 B135 (i := 44) rfl (by decide) ⟨by decide, by decide⟩ (hb hby d1_261) ?_
  intro T136 h136 X136 e136 W136 B136
  have K136 := K135.wr W136 (Or.inr ge)
  have N136 := Fr.snoc X136 N135 gn
  clear B135 K135 N135
  show Owes _ _ _ _ (T136.setTop (mkF m 262 #[] [(.ref ro)]))
  refine Owes.go ?_ fun t₀ k₀ => XS.dup X136.here hx rfl (hb hby d1_262) rfl rfl k₀
  show Owes _ _ _ _ (T136.setTop (mkF m 263 #[] [(.ref ro), (.ref ro)]))
  refine Owes.go ?_ fun t₀ k₀ => XS.bipush X136.here hx rfl (hb hby d1_263) k₀
  show Owes _ _ _ _ (T136.setTop (mkF m 265 #[] [(.int (45 : Int32)), (.ref ro), (.ref ro)]))
  refine Owes.go ?_ fun t₀ k₀ => XS.bipush X136.here hx rfl (hb hby d1_265) k₀
  show Owes _ _ _ _ (T136.setTop (mkF m 267 #[] [(.int (45 : Int32)), (.int (45 : Int32)), (.ref ro), (.ref ro)]))
  refine Owes.sB X136 hx hZ e136 B136 (i := 45) rfl (by decide) ⟨by decide, by decide⟩ (hb hby d1_267) ?_
  intro T137 h137 X137 e137 W137 B137
  have K137 := K136.wr W137 (Or.inr ge)
  have N137 := Fr.snoc X137 N136 gn
  clear B136 K136 N136
  show Owes _ _ _ _ (T137.setTop (mkF m 268 #[] [(.ref ro)]))
  refine Owes.go ?_ fun t₀ k₀ => XS.dup X137.here hx rfl (hb hby d1_268) rfl rfl k₀
  show Owes _ _ _ _ (T137.setTop (mkF m 269 #[] [(.ref ro), (.ref ro)]))
  refine Owes.go ?_ fun t₀ k₀ => XS.bipush X137.here hx rfl (hb hby d1_269) k₀
  show Owes _ _ _ _ (T137.setTop (mkF m 271 #[] [(.int (46 : Int32)), (.ref ro), (.ref ro)]))
  refine Owes.go ?_ fun t₀ k₀ => XS.bipush X137.here hx rfl (hb hby d1_271) k₀
  show Owes _ _ _ _ (T137.setTop (mkF m 273 #[] [(.int (46 : Int32)), (.int (46 : Int32)), (.ref ro), (.ref ro)]))
  refine Owes.sB X137 hx hZ e137 B137 (i := 46) rfl (by decide) ⟨by decide, by decide⟩ (hb hby d1_273) ?_
  intro T138 h138 X138 e138 W138 B138
  have K138 := K137.wr W138 (Or.inr ge)
  have N138 := Fr.snoc X138 N137 gn
  clear B137 K137 N137
  show Owes _ _ _ _ (T138.setTop (mkF m 274 #[] [(.ref ro)]))
  refine Owes.go ?_ fun t₀ k₀ => XS.dup X138.here hx rfl (hb hby d1_274) rfl rfl k₀
  show Owes _ _ _ _ (T138.setTop (mkF m 275 #[] [(.ref ro), (.ref ro)]))
  refine Owes.go ?_ fun t₀ k₀ => XS.bipush X138.here hx rfl (hb hby d1_275) k₀
  show Owes _ _ _ _ (T138.setTop (mkF m 277 #[] [(.int (47 : Int32)), (.ref ro), (.ref ro)]))
  refine Owes.go ?_ fun t₀ k₀ => XS.bipush X138.here hx rfl (hb hby d1_277) k₀
  show Owes _ _ _ _ (T138.setTop (mkF m 279 #[] [(.int (47 : Int32)), (.int (47 : Int32)), (.ref ro), (.ref ro)]))
  refine Owes.sB X138 hx hZ e138 B138 (i := 47) rfl (by decide) ⟨by decide, by decide⟩ (hb hby d1_279) ?_
  intro T139 h139 X139 e139 W139 B139
  have K139 := K138.wr W139 (Or.inr ge)
  have N139 := Fr.snoc X139 N138 gn
  clear B138 K138 N138
  show Owes _ _ _ _ (T139.setTop (mkF m 280 #[] [(.ref ro)]))
  refine Owes.go ?_ fun t₀ k₀ => XS.dup X139.here hx rfl (hb hby d1_280) rfl rfl k₀
  show Owes _ _ _ _ (T139.setTop (mkF m 281 #[] [(.ref ro), (.ref ro)]))
  refine Owes.go ?_ fun t₀ k₀ => XS.bipush X139.here hx rfl (hb hby d1_281) k₀
  show Owes _ _ _ _ (T139.setTop (mkF m 283 #[] [(.int (48 : Int32)), (.ref ro), (.ref ro)]))
  refine Owes.go ?_ fun t₀ k₀ => XS.bipush X139.here hx rfl (hb hby d1_283) k₀
  show Owes _ _ _ _ (T139.setTop (mkF m 285 #[] [(.int (48 : Int32)), (.int (48 : Int32)), (.ref ro), (.ref ro)]))
  refine Owes.sB X139 hx hZ e139 B139 (i := 48) rfl (by decide) ⟨by decide, by decide⟩ (hb hby d1_285) ?_
  intro T140 h140 X140 e140 W140 B140
  have K140 := K139.wr W140 (Or.inr ge)
  have N140 := Fr.snoc X140 N139 gn
  clear B139 K139 N139
  show Owes _ _ _ _ (T140.setTop (mkF m 286 #[] [(.ref ro)]))
  refine Owes.go ?_ fun t₀ k₀ => XS.dup X140.here hx rfl (hb hby d1_286) rfl rfl k₀
  show Owes _ _ _ _ (T140.setTop (mkF m 287 #[] [(.ref ro), (.ref ro)]))
  refine Owes.go ?_ fun t₀ k₀ => XS.bipush X140.here hx rfl (hb hby d1_287) k₀
  show Owes _ _ _ _ (T140.setTop (mkF m 289 #[] [(.int (49 : Int32)), (.ref ro), (.ref ro)]))
  refine Owes.go ?_ fun t₀ k₀ => XS.bipush X140.here hx rfl (hb hby d1_289) k₀
  show Owes _ _ _ _ (T140.setTop (mkF m 291 #[] [(.int (49 : Int32)), (.int (49 : Int32)), (.ref ro), (.ref ro)]))
  refine Owes.sB X140 hx hZ e140 B140 (i := 49) rfl (by decide) ⟨by decide, by decide⟩ (hb hby d1_291) ?_
  intro T141 h141 X141 e141 W141 B141
  have K141 := K140.wr W141 (Or.inr ge)
  have N141 := Fr.snoc X141 N140 gn
  clear B140 K140 N140
  show Owes _ _ _ _ (T141.setTop (mkF m 292 #[] [(.ref ro)]))
  refine Owes.go ?_ fun t₀ k₀ => XS.dup X141.here hx rfl (hb hby d1_292) rfl rfl k₀
  show Owes _ _ _ _ (T141.setTop (mkF m 293 #[] [(.ref ro), (.ref ro)]))
  refine Owes.go ?_ fun t₀ k₀ => XS.bipush X141.here hx rfl (hb hby d1_293) k₀
  show Owes _ _ _ _ (T141.setTop (mkF m 295 #[] [(.int (50 : Int32)), (.ref ro), (.ref ro)]))
  refine Owes.go ?_ fun t₀ k₀ => XS.bipush X141.here hx rfl (hb hby d1_295) k₀
  show Owes _ _ _ _ (T141.setTop (mkF m 297 #[] [(.int (50 : Int32)), (.int (50 : Int32)), (.ref ro), (.ref ro)]))
  refine Owes.sB X141 hx hZ e141 B141 (i := 50) rfl (by decide) ⟨by decide, by decide⟩ (hb hby d1_297) ?_
  intro T142 h142 X142 e142 W142 B142
  have K142 := K141.wr W142 (Or.inr ge)
  have N142 := Fr.snoc X142 N141 gn
  clear B141 K141 N141
  show Owes _ _ _ _ (T142.setTop (mkF m 298 #[] [(.ref ro)]))
  refine Owes.go ?_ fun t₀ k₀ => XS.dup X142.here hx rfl (hb hby d1_298) rfl rfl k₀
  show Owes _ _ _ _ (T142.setTop (mkF m 299 #[] [(.ref ro), (.ref ro)]))
  refine Owes.go ?_ fun t₀ k₀ => XS.bipush X142.here hx rfl (hb hby d1_299) k₀
  show Owes _ _ _ _ (T142.setTop (mkF m 301 #[] [(.int (51 : Int32)), (.ref ro), (.ref ro)]))
  refine Owes.go ?_ fun t₀ k₀ => XS.bipush X142.here hx rfl (hb hby d1_301) k₀
  show Owes _ _ _ _ (T142.setTop (mkF m 303 #[] [(.int (51 : Int32)), (.int (51 : Int32)), (.ref ro), (.ref ro)]))
  refine Owes.sB X142 hx hZ e142 B142 (i := 51) rfl (by decide) ⟨by decide, by decide⟩ (hb hby d1_303) ?_
  intro T143 h143 X143 e143 W143 B143
  have K143 := K142.wr W143 (Or.inr ge)
  have N143 := Fr.snoc X143 N142 gn
  clear B142 K142 N142
  show Owes _ _ _ _ (T143.setTop (mkF m 304 #[] [(.ref ro)]))
  refine Owes.go ?_ fun t₀ k₀ => XS.dup X143.here hx rfl (hb hby d1_304) rfl rfl k₀
  show Owes _ _ _ _ (T143.setTop (mkF m 305 #[] [(.ref ro), (.ref ro)]))
  refine Owes.go ?_ fun t₀ k₀ => XS.bipush X143.here hx rfl (hb hby d1_305) k₀
  show Owes _ _ _ _ (T143.setTop (mkF m 307 #[] [(.int (52 : Int32)), (.ref ro), (.ref ro)]))
  refine Owes.go ?_ fun t₀ k₀ => XS.bipush X143.here hx rfl (hb hby d1_307) k₀
  show Owes _ _ _ _ (T143.setTop (mkF m 309 #[] [(.int (52 : Int32)), (.int (52 : Int32)), (.ref ro), (.ref ro)]))
  refine Owes.sB X143 hx hZ e143 B143 (i := 52) rfl (by decide) ⟨by decide, by decide⟩ (hb hby d1_309) ?_
  intro T144 h144 X144 e144 W144 B144
  have K144 := K143.wr W144 (Or.inr ge)
  have N144 := Fr.snoc X144 N143 gn
  clear B143 K143 N143
  show Owes _ _ _ _ (T144.setTop (mkF m 310 #[] [(.ref ro)]))
  refine Owes.go ?_ fun t₀ k₀ => XS.dup X144.here hx rfl (hb hby d1_310) rfl rfl k₀
  show Owes _ _ _ _ (T144.setTop (mkF m 311 #[] [(.ref ro), (.ref ro)]))
  refine Owes.go ?_ fun t₀ k₀ => XS.bipush X144.here hx rfl (hb hby d1_311) k₀
  show Owes _ _ _ _ (T144.setTop (mkF m 313 #[] [(.int (53 : Int32)), (.ref ro), (.ref ro)]))
  refine Owes.go ?_ fun t₀ k₀ => XS.bipush X144.here hx rfl (hb hby d1_313) k₀
  show Owes _ _ _ _ (T144.setTop (mkF m 315 #[] [(.int (53 : Int32)), (.int (53 : Int32)), (.ref ro), (.ref ro)]))
  refine Owes.sB X144 hx hZ e144 B144 (i := 53) rfl (by decide) ⟨by decide, by decide⟩ (hb hby d1_315) ?_
  intro T145 h145 X145 e145 W145 B145
  have K145 := K144.wr W145 (Or.inr ge)
  have N145 := Fr.snoc X145 N144 gn
  clear B144 K144 N144
  show Owes _ _ _ _ (T145.setTop (mkF m 316 #[] [(.ref ro)]))
  refine Owes.go ?_ fun t₀ k₀ => XS.dup X145.here hx rfl (hb hby d1_316) rfl rfl k₀
  show Owes _ _ _ _ (T145.setTop (mkF m 317 #[] [(.ref ro), (.ref ro)]))
  refine Owes.go ?_ fun t₀ k₀ => XS.bipush X145.here hx rfl (hb hby d1_317) k₀
  show Owes _ _ _ _ (T145.setTop (mkF m 319 #[] [(.int (54 : Int32)), (.ref ro), (.ref ro)]))
  refine Owes.go ?_ fun t₀ k₀ => XS.bipush X145.here hx rfl (hb hby d1_319) k₀
  show Owes _ _ _ _ (T145.setTop (mkF m 321 #[] [(.int (54 : Int32)), (.int (54 : Int32)), (.ref ro), (.ref ro)]))
  refine Owes.sB X145 hx hZ e145 B145 (i := 54) rfl (by decide) ⟨by decide, by decide⟩ (hb hby d1_321) ?_
  intro T146 h146 X146 e146 W146 B146
  have K146 := K145.wr W146 (Or.inr ge)
  have N146 := Fr.snoc X146 N145 gn
  clear B145 K145 N145
  show Owes _ _ _ _ (T146.setTop (mkF m 322 #[] [(.ref ro)]))
  refine Owes.go ?_ fun t₀ k₀ => XS.dup X146.here hx rfl (hb hby d1_322) rfl rfl k₀
  show Owes _ _ _ _ (T146.setTop (mkF m 323 #[] [(.ref ro), (.ref ro)]))
  refine Owes.go ?_ fun t₀ k₀ => XS.bipush X146.here hx rfl (hb hby d1_323) k₀
  show Owes _ _ _ _ (T146.setTop (mkF m 325 #[] [(.int (55 : Int32)), (.ref ro), (.ref ro)]))
  refine Owes.go ?_ fun t₀ k₀ => XS.bipush X146.here hx rfl (hb hby d1_325) k₀
  show Owes _ _ _ _ (T146.setTop (mkF m 327 #[] [(.int (55 : Int32)), (.int (55 : Int32)), (.ref ro), (.ref ro)]))
  refine Owes.sB X146 hx hZ e146 B146 (i := 55) rfl (by decide) ⟨by decide, by decide⟩ (hb hby d1_327) ?_
  intro T147 h147 X147 e147 W147 B147
  have K147 := K146.wr W147 (Or.inr ge)
  have N147 := Fr.snoc X147 N146 gn
  clear B146 K146 N146
  show Owes _ _ _ _ (T147.setTop (mkF m 328 #[] [(.ref ro)]))
  refine Owes.go ?_ fun t₀ k₀ => XS.dup X147.here hx rfl (hb hby d1_328) rfl rfl k₀
  show Owes _ _ _ _ (T147.setTop (mkF m 329 #[] [(.ref ro), (.ref ro)]))
  refine Owes.go ?_ fun t₀ k₀ => XS.bipush X147.here hx rfl (hb hby d1_329) k₀
  show Owes _ _ _ _ (T147.setTop (mkF m 331 #[] [(.int (56 : Int32)), (.ref ro), (.ref ro)]))
  refine Owes.go ?_ fun t₀ k₀ => XS.bipush X147.here hx rfl (hb hby d1_331) k₀
  show Owes _ _ _ _ (T147.setTop (mkF m 333 #[] [(.int (56 : Int32)), (.int (56 : Int32)), (.ref ro), (.ref ro)]))
  refine Owes.sB X147 hx hZ e147 B147 (i := 56) rfl (by decide) ⟨by decide, by decide⟩ (hb hby d1_333) ?_
  intro T148 h148 X148 e148 W148 B148
  have K148 := K147.wr W148 (Or.inr ge)
  have N148 := Fr.snoc X148 N147 gn
  clear B147 K147 N147
  show Owes _ _ _ _ (T148.setTop (mkF m 334 #[] [(.ref ro)]))
  refine Owes.go ?_ fun t₀ k₀ => XS.dup X148.here hx rfl (hb hby d1_334) rfl rfl k₀
  show Owes _ _ _ _ (T148.setTop (mkF m 335 #[] [(.ref ro), (.ref ro)]))
  refine Owes.go ?_ fun t₀ k₀ => XS.bipush X148.here hx rfl (hb hby d1_335) k₀
  show Owes _ _ _ _ (T148.setTop (mkF m 337 #[] [(.int (57 : Int32)), (.ref ro), (.ref ro)]))
  refine Owes.go ?_ fun t₀ k₀ => XS.bipush X148.here hx rfl (hb hby d1_337) k₀
  show Owes _ _ _ _ (T148.setTop (mkF m 339 #[] [(.int (57 : Int32)), (.int (57 : Int32)), (.ref ro), (.ref ro)]))
  refine Owes.sB X148 hx hZ e148 B148 (i := 57) rfl (by decide) ⟨by decide, by decide⟩ (hb hby d1_339) ?_
  intro T149 h149 X149 e149 W149 B149
  have K149 := K148.wr W149 (Or.inr ge)
  have N149 := Fr.snoc X149 N148 gn
  clear B148 K148 N148
  show Owes _ _ _ _ (T149.setTop (mkF m 340 #[] [(.ref ro)]))
  refine Owes.go ?_ fun t₀ k₀ => XS.dup X149.here hx rfl (hb hby d1_340) rfl rfl k₀
  show Owes _ _ _ _ (T149.setTop (mkF m 341 #[] [(.ref ro), (.ref ro)]))
  refine Owes.go ?_ fun t₀ k₀ => XS.bipush X149.here hx rfl (hb hby d1_341) k₀
  show Owes _ _ _ _ (T149.setTop (mkF m 343 #[] [(.int (58 : Int32)), (.ref ro), (.ref ro)]))
  refine Owes.go ?_ fun t₀ k₀ => XS.bipush X149.here hx rfl (hb hby d1_343) k₀
  show Owes _ _ _ _ (T149.setTop (mkF m 345 #[] [(.int (58 : Int32)), (.int (58 : Int32)), (.ref ro), (.ref ro)]))
  refine Owes.sB X149 hx hZ e149 B149 (i := 58) rfl (by decide) ⟨by decide, by decide⟩ (hb hby d1_345) ?_
  intro T150 h150 X150 e150 W150 B150
  have K150 := K149.wr W150 (Or.inr ge)
  have N150 := Fr.snoc X150 N149 gn
  clear B149 K149 N149
  show Owes _ _ _ _ (T150.setTop (mkF m 346 #[] [(.ref ro)]))
  refine Owes.go ?_ fun t₀ k₀ => XS.dup X150.here hx rfl (hb hby d1_346) rfl rfl k₀
  show Owes _ _ _ _ (T150.setTop (mkF m 347 #[] [(.ref ro), (.ref ro)]))
  refine Owes.go ?_ fun t₀ k₀ => XS.bipush X150.here hx rfl (hb hby d1_347) k₀
  show Owes _ _ _ _ (T150.setTop (mkF m 349 #[] [(.int (59 : Int32)), (.ref ro), (.ref ro)]))
  refine Owes.go ?_ fun t₀ k₀ => XS.bipush X150.here hx rfl (hb hby d1_349) k₀
  show Owes _ _ _ _ (T150.setTop (mkF m 351 #[] [(.int (59 : Int32)), (.int (59 : Int32)), (.ref ro), (.ref ro)]))
  refine Owes.sB X150 hx hZ e150 B150 (i := 59) rfl (by decide) ⟨by decide, by decide⟩ (hb hby d1_351) ?_
  intro T151 h151 X151 e151 W151 B151
  have K151 := K150.wr W151 (Or.inr ge)
  have N151 := Fr.snoc X151 N150 gn
  clear B150 K150 N150
  show Owes _ _ _ _ (T151.setTop (mkF m 352 #[] [(.ref ro)]))
  refine Owes.go ?_ fun t₀ k₀ => XS.dup X151.here hx rfl (hb hby d1_352) rfl rfl k₀
  show Owes _ _ _ _ (T151.setTop (mkF m 353 #[] [(.ref ro), (.ref ro)]))
  refine Owes.go ?_ fun t₀ k₀ => XS.bipush X151.here hx rfl (hb hby d1_353) k₀
  show Owes _ _ _ _ (T151.setTop (mkF m 355 #[] [(.int (60 : Int32)), (.ref ro), (.ref ro)]))
  refine Owes.go ?_ fun t₀ k₀ => XS.bipush X151.here hx rfl (hb hby d1_355) k₀
  show Owes _ _ _ _ (T151.setTop (mkF m 357 #[] [(.int (60 : Int32)), (.int (60 : Int32)), (.ref ro), (.ref ro)]))
  refine Owes.sB X151 hx hZ e151 B151 (i := 60) rfl (by decide) ⟨by decide, by decide⟩ (hb hby d1_357) ?_
  intro T152 h152 X152 e152 W152 B152
  have K152 := K151.wr W152 (Or.inr ge)
  have N152 := Fr.snoc X152 N151 gn
  clear B151 K151 N151
  show Owes _ _ _ _ (T152.setTop (mkF m 358 #[] [(.ref ro)]))
  refine Owes.go ?_ fun t₀ k₀ => XS.dup X152.here hx rfl (hb hby d1_358) rfl rfl k₀
  show Owes _ _ _ _ (T152.setTop (mkF m 359 #[] [(.ref ro), (.ref ro)]))
  refine Owes.go ?_ fun t₀ k₀ => XS.bipush X152.here hx rfl (hb hby d1_359) k₀
  show Owes _ _ _ _ (T152.setTop (mkF m 361 #[] [(.int (61 : Int32)), (.ref ro), (.ref ro)]))
  refine Owes.go ?_ fun t₀ k₀ => XS.bipush X152.here hx rfl (hb hby d1_361) k₀
  show Owes _ _ _ _ (T152.setTop (mkF m 363 #[] [(.int (61 : Int32)), (.int (61 : Int32)), (.ref ro), (.ref ro)]))
  refine Owes.sB X152 hx hZ e152 B152 (i := 61) rfl (by decide) ⟨by decide, by decide⟩ (hb hby d1_363) ?_
  intro T153 h153 X153 e153 W153 B153
  have K153 := K152.wr W153 (Or.inr ge)
  have N153 := Fr.snoc X153 N152 gn
  clear B152 K152 N152
  show Owes _ _ _ _ (T153.setTop (mkF m 364 #[] [(.ref ro)]))
  refine Owes.go ?_ fun t₀ k₀ => XS.dup X153.here hx rfl (hb hby d1_364) rfl rfl k₀
  show Owes _ _ _ _ (T153.setTop (mkF m 365 #[] [(.ref ro), (.ref ro)]))
  refine Owes.go ?_ fun t₀ k₀ => XS.bipush X153.here hx rfl (hb hby d1_365) k₀
  show Owes _ _ _ _ (T153.setTop (mkF m 367 #[] [(.int (62 : Int32)), (.ref ro), (.ref ro)]))
  refine Owes.go ?_ fun t₀ k₀ => XS.bipush X153.here hx rfl (hb hby d1_367) k₀
  show Owes _ _ _ _ (T153.setTop (mkF m 369 #[] [(.int (62 : Int32)), (.int (62 : Int32)), (.ref ro), (.ref ro)]))
  refine Owes.sB X153 hx hZ e153 B153 (i := 62) rfl (by decide) ⟨by decide, by decide⟩ (hb hby d1_369) ?_
  intro T154 h154 X154 e154 W154 B154
  have K154 := K153.wr W154 (Or.inr ge)
  have N154 := Fr.snoc X154 N153 gn
  clear B153 K153 N153
  show Owes _ _ _ _ (T154.setTop (mkF m 370 #[] [(.ref ro)]))
  refine Owes.go ?_ fun t₀ k₀ => XS.dup X154.here hx rfl (hb hby d1_370) rfl rfl k₀
  show Owes _ _ _ _ (T154.setTop (mkF m 371 #[] [(.ref ro), (.ref ro)]))
  refine Owes.go ?_ fun t₀ k₀ => XS.bipush X154.here hx rfl (hb hby d1_371) k₀
  show Owes _ _ _ _ (T154.setTop (mkF m 373 #[] [(.int (63 : Int32)), (.ref ro), (.ref ro)]))
  refine Owes.go ?_ fun t₀ k₀ => XS.bipush X154.here hx rfl (hb hby d1_373) k₀
  show Owes _ _ _ _ (T154.setTop (mkF m 375 #[] [(.int (63 : Int32)), (.int (63 : Int32)), (.ref ro), (.ref ro)]))
  refine Owes.sB X154 hx hZ e154 B154 (i := 63) rfl (by decide) ⟨by decide, by decide⟩ (hb hby d1_375) ?_
  intro T155 h155 X155 e155 W155 B155
  have K155 := K154.wr W155 (Or.inr ge)
  have N155 := Fr.snoc X155 N154 gn
  clear B154 K154 N154
  show Owes _ _ _ _ (T155.setTop (mkF m 376 #[] [(.ref ro)]))
  refine Owes.go ?_ fun t₀ k₀ => XS.dup X155.here hx rfl (hb hby d1_376) rfl rfl k₀
  show Owes _ _ _ _ (T155.setTop (mkF m 377 #[] [(.ref ro), (.ref ro)]))
  refine Owes.go ?_ fun t₀ k₀ => XS.bipush X155.here hx rfl (hb hby d1_377) k₀
  show Owes _ _ _ _ (T155.setTop (mkF m 379 #[] [(.int (64 : Int32)), (.ref ro), (.ref ro)]))
  refine Owes.go ?_ fun t₀ k₀ => XS.bipush X155.here hx rfl (hb hby d1_379) k₀
  show Owes _ _ _ _ (T155.setTop (mkF m 381 #[] [(.int (64 : Int32)), (.int (64 : Int32)), (.ref ro), (.ref ro)]))
  refine Owes.sB X155 hx hZ e155 B155 (i := 64) rfl (by decide) ⟨by decide, by decide⟩ (hb hby d1_381) ?_
  intro T156 h156 X156 e156 W156 B156
  have K156 := K155.wr W156 (Or.inr ge)
  have N156 := Fr.snoc X156 N155 gn
  clear B155 K155 N155
  show Owes _ _ _ _ (T156.setTop (mkF m 382 #[] [(.ref ro)]))
  exact Owes.retA X156 hx hlk hret rfl rfl rfl (hb hby d1_382) (by decide) (by decide) (by rw [e156]; exact ⟨ro, rfl, N156, K156, B156, gn⟩)
theorem d4_0 : decode jdk_29_method_65_code 0 = .ok (.iload_n 0, 1) := by decide +kernel
theorem d4_1 : decode jdk_29_method_65_code 1 = .ok (.iload_n 1, 1) := by decide +kernel
theorem d4_2 : decode jdk_29_method_65_code 2 = .ok (.if_icmp .lt 7, 3) := by decide +kernel
theorem d4_9 : decode jdk_29_method_65_code 9 = .ok (.iload_n 1, 1) := by decide +kernel
theorem d4_10 : decode jdk_29_method_65_code 10 = .ok (.ireturn, 1) := by decide +kernel
theorem d4_5 : decode jdk_29_method_65_code 5 = .ok (.iload_n 0, 1) := by decide +kernel
theorem d4_6 : decode jdk_29_method_65_code 6 = .ok (.goto 4, 3) := by decide +kernel
def f_max (p0 : Int32) (p1 : Int32)  : Int32 := (if p0 < p1 then p1 else p0)
theorem ef_4_f_max (m : MethodId) (p0 : Int32) (p1 : Int32) : entryFrame m #[(.int p0), (.int p1)] 2 = mkF m 0 #[.val (.int p0), .val (.int p1)] [] := by first | (simp [entryFrame, mkF, argsToLocals, Value.category]; done) | rfl
theorem pn_4 : plainFor (⟨"java/lang/Math", "max", "(II)I"⟩ : MethodName) = true := Jvm.Free.JP.mathPlain rfl (by decide +kernel)
set_option maxRecDepth 65536 in
set_option maxHeartbeats 40000000 in
theorem rm_f_max (l : Launch) (Z : State) (a0 : Array Value) (hw : ∀ d ∈ tables_1, d.before a0 Z = true) (ws : List Jvm.Cond) (p0 : Int32) (p1 : Int32) (h0 : Heap)  :
    OMet l (⟨"java/lang/Math", "max", "(II)I"⟩ : MethodName) jdk_29_method_65_code 2 (some .int) ws ({ frames := 0, cells := 0, slots := 0, locals := 0 } : Room) #[(.int p0), (.int p1)] Z h0 (fun v h L => v = some (Value.int (f_max p0 p1)) ∧ L = [] ∧ h = h0) := by
  refine OMet.of pn_4 (fun m => ef_4_f_max m p0 p1) ?_
  intro p e s m below meth c s₁ hx hby hml hown hnm hret hlk hZ X0 e0
  refine Owes.go ?_ fun t₀ k₀ => XS.iloadN X0.here hx rfl (hb hby d4_0) rfl k₀
  show Owes _ _ _ _ (s₁.setTop (mkF m 1 #[.val (.int p0), .val (.int p1)] [(.int p0)]))
  refine Owes.go ?_ fun t₀ k₀ => XS.iloadN X0.here hx rfl (hb hby d4_1) rfl k₀
  show Owes _ _ _ _ (s₁.setTop (mkF m 2 #[.val (.int p0), .val (.int p1)] [(.int p1), (.int p0)]))
  by_cases hc1 : p0 < p1
  · skip
    refine Owes.go ?_ fun t₀ k₀ => XS.icmpYes X0.here hx rfl (pc0 := 2) (pc' := 9) rfl (hb hby d4_2) rfl (tlt hc1).1 (by decide) (by decide) k₀
    show Owes _ _ _ _ (s₁.setTop (mkF m 9 #[.val (.int p0), .val (.int p1)] []))
    refine Owes.go ?_ fun t₀ k₀ => XS.iloadN X0.here hx rfl (hb hby d4_9) rfl k₀
    show Owes _ _ _ _ (s₁.setTop (mkF m 10 #[.val (.int p0), .val (.int p1)] [(.int p1)]))
    exact Owes.retI X0 hx hlk hret (hb hby d4_10) (by decide) (by decide) ⟨congrArg (fun z => some (Value.int z)) (by unfold f_max; rw [if_pos hc1]; first | done | rfl), rfl, e0⟩
  · skip
    refine Owes.go ?_ fun t₀ k₀ => XS.icmpNo X0.here hx rfl (hb hby d4_2) rfl (flt hc1).1 k₀
    show Owes _ _ _ _ (s₁.setTop (mkF m 5 #[.val (.int p0), .val (.int p1)] []))
    refine Owes.go ?_ fun t₀ k₀ => XS.iloadN X0.here hx rfl (hb hby d4_5) rfl k₀
    show Owes _ _ _ _ (s₁.setTop (mkF m 6 #[.val (.int p0), .val (.int p1)] [(.int p0)]))
    refine Owes.go ?_ fun t₀ k₀ => XS.goto X0.here hx rfl (pc0 := 6) (pc' := 10) rfl (hb hby d4_6) (by decide) (by decide) k₀
    show Owes _ _ _ _ (s₁.setTop (mkF m 10 #[.val (.int p0), .val (.int p1)] [(.int p0)]))
    exact Owes.retI X0 hx hlk hret (hb hby d4_10) (by decide) (by decide) ⟨congrArg (fun z => some (Value.int z)) (by unfold f_max; rw [if_neg hc1]; first | done | rfl), rfl, e0⟩
theorem own_b0 (kj kl : Nat → Nat) : ∀ i, i < 65 → (bitOf (fun _ => (0 : Int64)) i = true ↔ kj i < 0 ∧ ¬ kl i < 0) := fun i _ => by
  rw [show bitOf (fun _ => (0 : Int64)) i = false from bt_zero _]
  constructor
  · intro q; cases q
  · intro q; exact absurd q.1 (Nat.not_lt_zero _)
theorem own_n (p : Int32) : ∃ n : Nat, ((1 : Int32) + (p &&& (3 : Int32))).toInt = (n : Int) ∧ 1 ≤ n ∧ n ≤ 4 := by
  have h := c_mask p 3 2 (by decide) (by decide)
  have h1 := c_iadd 1 (p &&& 3)
  have r := rng32 (1 + (p &&& 3))
  rw [show (1 : Int32).toInt = 1 from rfl, h] at h1
  generalize (1 + (p &&& 3)).toInt = v at *
  refine ⟨v.toNat, by omega, by omega, by omega⟩
theorem own_nz {x : Int32} {n : Nat} (h : x.toInt = (n : Int)) (h1 : 1 ≤ n) : ¬ (x = (0 : Int32)) := fun q => by
  rw [q, show (0 : Int32).toInt = 0 from rfl] at h
  omega
theorem own_md (p : Int32) {x : Int32} {n : Nat} (h : x.toInt = (n : Int)) (h1 : 1 ≤ n) : 0 ≤ ((p &&& (3 : Int32)) % x).toInt ∧ ((p &&& (3 : Int32)) % x).toInt < (n : Int) := by
  have hm := c_mask p 3 2 (by decide) (by decide)
  have := (c_iremV (p &&& 3) x).1 (by omega) (by omega)
  rw [h] at this
  exact ⟨this.1, this.2.1⟩
theorem own_mm (p : Int32) {x : Int32} {n : Nat} (h : x.toInt = (n : Int)) (h1 : 1 ≤ n) : ∃ a : Nat, ((p &&& (2147483647 : Int32)) % x).toInt = (a : Int) ∧ a < n := by
  have hm := c_mask p 2147483647 31 (by decide) (by decide)
  have := (c_iremV (p &&& 2147483647) x).1 (by omega) (by omega)
  rw [h] at this
  generalize ((p &&& 2147483647) % x).toInt = v at *
  exact ⟨v.toNat, by omega, by omega⟩
theorem own_mx {x y : Int32} {a b n : Nat} (hx : x.toInt = (a : Int)) (hy : y.toInt = (b : Int)) (ha : a < n) (hb' : b < n) : ∃ c : Nat, (f_max x y).toInt = (c : Int) ∧ c < n ∧ a ≤ c := by
  unfold f_max
  by_cases q : x < y
  · rw [if_pos q]
    exact ⟨b, hy, hb', by rw [Int32.lt_iff_toInt_lt, hx, hy] at q; omega⟩
  · rw [if_neg q]
    exact ⟨a, hx, ha, Nat.le_refl _⟩
theorem pd_3 : parseMethodDescriptor "()[I" = some ⟨[], some (.array .int)⟩ := by decide +kernel
theorem pd_4 : parseMethodDescriptor "([I[I[II)V" = some ⟨[(.array .int), (.array .int), (.array .int), .int], none⟩ := by decide +kernel
theorem pd_5 : parseMethodDescriptor "(II)I" = some ⟨[.int, .int], some .int⟩ := by decide +kernel
theorem pd_6 : parseMethodDescriptor "(I)V" = some ⟨[.int], none⟩ := by decide +kernel
theorem pd_7 : parseMethodDescriptor "(Lcom/example/slotwright/slotwright/core/TriedSlots;[I[I[II)Z" = some ⟨[(.object "com/example/slotwright/slotwright/core/TriedSlots"), (.array .int), (.array .int), (.array .int), .int], some .boolean⟩ := by decide +kernel
def QL (n0 : Nat) (v : Option Value) (h : Heap) (L : List Loc) : Prop := v = some (.int 1) ∧ Fr n0 L
theorem ef_0 (m : MethodId) (p0 : Int32) (p1 : Int32) (p2 : Int32) (p3 : Int32) : entryFrame m #[(.int p0), (.int p1), (.int p2), (.int p3)] maxLocals = mkF m 0 #[.val (.int p0), .val (.int p1), .val (.int p2), .val (.int p3), .unset, .unset, .unset, .unset, .unset, .unset, .unset, .unset, .unset, .unset, .unset, .unset] [] := by first | (simp [entryFrame, mkF, argsToLocals, Value.category, maxLocals]; done) | rfl
theorem pn_0 : plainFor (⟨"com/example/slotwright/slotwright/core/TriedSlotsReachPinLaw", "law", "(IIII)Z"⟩ : MethodName) = true := plainFor_of_name (by first | (simp [plainName, overriddenIn]; done) | decide +kernel)
set_option maxRecDepth 65536 in
set_option maxHeartbeats 40000000 in
theorem rm0 (l : Launch) (Z : State) (a0 : Array Value) (hw : ∀ d ∈ tables_1, d.before a0 Z = true) (ws : List Jvm.Cond) (p0 : Int32) (p1 : Int32) (p2 : Int32) (p3 : Int32) (h0 : Heap) (n0 : Nat) (Z0 : n0 ≤ h0.size)  :
    OMet l x code maxLocals ret ws room_1 #[(.int p0), (.int p1), (.int p2), (.int p3)] Z h0 (QL n0) := by
  have N0 := Fr.nil n0
  refine OMet.of pn_0 (fun m => ef_0 m p0 p1 p2 p3) ?_
  intro p e s m below meth c s₁ hx hby hml hown hnm hret hlk hZ X0 e0
  refine Owes.go ?_ fun t₀ k₀ => XS.iconst X0.here hx rfl (hb hby at_0) k₀
  show Owes _ _ _ _ (s₁.setTop (mkF m 1 #[.val (.int p0), .val (.int p1), .val (.int p2), .val (.int p3), .unset, .unset, .unset, .unset, .unset, .unset, .unset, .unset, .unset, .unset, .unset, .unset] [(.int (1 : Int32))]))
  refine Owes.go ?_ fun t₀ k₀ => XS.iloadN X0.here hx rfl (hb hby at_1) rfl k₀
  show Owes _ _ _ _ (s₁.setTop (mkF m 2 #[.val (.int p0), .val (.int p1), .val (.int p2), .val (.int p3), .unset, .unset, .unset, .unset, .unset, .unset, .unset, .unset, .unset, .unset, .unset, .unset] [(.int p0), (.int (1 : Int32))]))
  refine Owes.go ?_ fun t₀ k₀ => XS.iconst X0.here hx rfl (hb hby at_2) k₀
  show Owes _ _ _ _ (s₁.setTop (mkF m 3 #[.val (.int p0), .val (.int p1), .val (.int p2), .val (.int p3), .unset, .unset, .unset, .unset, .unset, .unset, .unset, .unset, .unset, .unset, .unset, .unset] [(.int (3 : Int32)), (.int p0), (.int (1 : Int32))]))
  refine Owes.go ?_ fun t₀ k₀ => XS.iand X0.here hx rfl (hb hby at_3) rfl k₀
  show Owes _ _ _ _ (s₁.setTop (mkF m 4 #[.val (.int p0), .val (.int p1), .val (.int p2), .val (.int p3), .unset, .unset, .unset, .unset, .unset, .unset, .unset, .unset, .unset, .unset, .unset, .unset] [(.int (p0 &&& (3 : Int32))), (.int (1 : Int32))]))
  refine Owes.go ?_ fun t₀ k₀ => XS.iadd X0.here hx rfl (hb hby at_4) rfl k₀
  show Owes _ _ _ _ (s₁.setTop (mkF m 5 #[.val (.int p0), .val (.int p1), .val (.int p2), .val (.int p3), .unset, .unset, .unset, .unset, .unset, .unset, .unset, .unset, .unset, .unset, .unset, .unset] [(.int ((1 : Int32) + (p0 &&& (3 : Int32))))]))
  refine Owes.go ?_ fun t₀ k₀ => XS.istore X0.here hx rfl (hb hby at_5) rfl (l' := #[.val (.int p0), .val (.int p1), .val (.int p2), .val (.int p3), .val (.int ((1 : Int32) + (p0 &&& (3 : Int32)))), .unset, .unset, .unset, .unset, .unset, .unset, .unset, .unset, .unset, .unset, .unset]) rfl k₀
  show Owes _ _ _ _ (s₁.setTop (mkF m 7 #[.val (.int p0), .val (.int p1), .val (.int p2), .val (.int p3), .val (.int ((1 : Int32) + (p0 &&& (3 : Int32)))), .unset, .unset, .unset, .unset, .unset, .unset, .unset, .unset, .unset, .unset, .unset] []))
  obtain ⟨n, hn, hn1, hn4⟩ := own_n p0
  generalize ((1 : Int32) + (p0 &&& (3 : Int32))) = nI at *
  refine Owes.go ?_ fun t₀ k₀ => XS.iloadN X0.here hx rfl (hb hby at_7) rfl k₀
  show Owes _ _ _ _ (s₁.setTop (mkF m 8 #[.val (.int p0), .val (.int p1), .val (.int p2), .val (.int p3), .val (.int nI), .unset, .unset, .unset, .unset, .unset, .unset, .unset, .unset, .unset, .unset, .unset] [(.int p0)]))
  refine Owes.go ?_ fun t₀ k₀ => XS.iconst X0.here hx rfl (hb hby at_8) k₀
  show Owes _ _ _ _ (s₁.setTop (mkF m 9 #[.val (.int p0), .val (.int p1), .val (.int p2), .val (.int p3), .val (.int nI), .unset, .unset, .unset, .unset, .unset, .unset, .unset, .unset, .unset, .unset, .unset] [(.int (2 : Int32)), (.int p0)]))
  refine Owes.go ?_ fun t₀ k₀ => XS.iushr X0.here hx rfl (hb hby at_9) rfl k₀
  show Owes _ _ _ _ (s₁.setTop (mkF m 10 #[.val (.int p0), .val (.int p1), .val (.int p2), .val (.int p3), .val (.int nI), .unset, .unset, .unset, .unset, .unset, .unset, .unset, .unset, .unset, .unset, .unset] [(.int ((p0.toUInt32 >>> ((2 : Int32) &&& 31).toUInt32).toInt32))]))
  refine Owes.go ?_ fun t₀ k₀ => XS.bipush X0.here hx rfl (hb hby at_10) k₀
  show Owes _ _ _ _ (s₁.setTop (mkF m 12 #[.val (.int p0), .val (.int p1), .val (.int p2), .val (.int p3), .val (.int nI), .unset, .unset, .unset, .unset, .unset, .unset, .unset, .unset, .unset, .unset, .unset] [(.int (7 : Int32)), (.int ((p0.toUInt32 >>> ((2 : Int32) &&& 31).toUInt32).toInt32))]))
  refine Owes.go ?_ fun t₀ k₀ => XS.iand X0.here hx rfl (hb hby at_12) rfl k₀
  show Owes _ _ _ _ (s₁.setTop (mkF m 13 #[.val (.int p0), .val (.int p1), .val (.int p2), .val (.int p3), .val (.int nI), .unset, .unset, .unset, .unset, .unset, .unset, .unset, .unset, .unset, .unset, .unset] [(.int (((p0.toUInt32 >>> ((2 : Int32) &&& 31).toUInt32).toInt32) &&& (7 : Int32)))]))
  refine Owes.go ?_ fun t₀ k₀ => XS.bipush X0.here hx rfl (hb hby at_13) k₀
  show Owes _ _ _ _ (s₁.setTop (mkF m 15 #[.val (.int p0), .val (.int p1), .val (.int p2), .val (.int p3), .val (.int nI), .unset, .unset, .unset, .unset, .unset, .unset, .unset, .unset, .unset, .unset, .unset] [(.int (6 : Int32)), (.int (((p0.toUInt32 >>> ((2 : Int32) &&& 31).toUInt32).toInt32) &&& (7 : Int32)))]))
  refine Owes.go ?_ fun t₀ k₀ => Jvm.RoadKit.iremM X0 hx rfl (hb hby at_15) rfl (by decide : ¬ ((6 : Int32) = (0 : Int32))) k₀
  show Owes _ _ _ _ (s₁.setTop (mkF m 16 #[.val (.int p0), .val (.int p1), .val (.int p2), .val (.int p3), .val (.int nI), .unset, .unset, .unset, .unset, .unset, .unset, .unset, .unset, .unset, .unset, .unset] [(.int ((((p0.toUInt32 >>> ((2 : Int32) &&& 31).toUInt32).toInt32) &&& (7 : Int32)) % (6 : Int32)))]))
  refine Owes.go ?_ fun t₀ k₀ => XS.istore X0.here hx rfl (hb hby at_16) rfl (l' := #[.val (.int p0), .val (.int p1), .val (.int p2), .val (.int p3), .val (.int nI), .val (.int ((((p0.toUInt32 >>> ((2 : Int32) &&& 31).toUInt32).toInt32) &&& (7 : Int32)) % (6 : Int32))), .unset, .unset, .unset, .unset, .unset, .unset, .unset, .unset, .unset, .unset]) rfl k₀
  show Owes _ _ _ _ (s₁.setTop (mkF m 18 #[.val (.int p0), .val (.int p1), .val (.int p2), .val (.int p3), .val (.int nI), .val (.int ((((p0.toUInt32 >>> ((2 : Int32) &&& 31).toUInt32).toInt32) &&& (7 : Int32)) % (6 : Int32))), .unset, .unset, .unset, .unset, .unset, .unset, .unset, .unset, .unset, .unset] []))
  generalize ((((p0.toUInt32 >>> ((2 : Int32) &&& 31).toUInt32).toInt32) &&& (7 : Int32)) % (6 : Int32)) = pm at *
  refine Owes.callS X0 hx hZ hown (hw _ (List.mem_of_getElem? (i := 0) rfl)) (hw _ (List.mem_of_getElem? (i := 1) rfl)) (hw _ (List.mem_of_getElem? (i := 2) rfl)) (hw _ (List.mem_of_getElem? (i := 3) rfl)) (by decide) (argsL := []) (rest := []) (rm_ident l Z a0 hw [] h0 n0 Z0) e0 (by rw [hml]; rfl) pd_3 rfl rfl (hb hby at_18) (by decide) (Nat.le_of_ble_eq_true rfl) (by decide) (by decide) ?_
  rintro T157 v157 L157 X157 ⟨ro, rfl, N157, K157, B_ro, gn_ro⟩
  have NF157 := Fr.app N0 N157
  have ZZ157 : n0 ≤ T157.heap.size := Nat.le_trans Z0 K157.1
  show Owes _ _ _ _ (T157.setTop (mkF m 21 #[.val (.int p0), .val (.int p1), .val (.int p2), .val (.int p3), .val (.int nI), .val (.int pm), .unset, .unset, .unset, .unset, .unset, .unset, .unset, .unset, .unset, .unset] [(.ref ro)]))
  refine Owes.go ?_ fun t₀ k₀ => XS.astore X157.here hx rfl (hb hby at_21) rfl rfl (l' := #[.val (.int p0), .val (.int p1), .val (.int p2), .val (.int p3), .val (.int nI), .val (.int pm), .val (.ref ro), .unset, .unset, .unset, .unset, .unset, .unset, .unset, .unset, .unset]) rfl k₀
  show Owes _ _ _ _ (T157.setTop (mkF m 23 #[.val (.int p0), .val (.int p1), .val (.int p2), .val (.int p3), .val (.int nI), .val (.int pm), .val (.ref ro), .unset, .unset, .unset, .unset, .unset, .unset, .unset, .unset, .unset] []))
  have J133_158 : ∀ (sa : Int32) (sb : Int32) (sc : Int32), (0 ≤ sa.toInt ∧ sa.toInt < 65) → (0 ≤ sb.toInt ∧ sb.toInt < 65) → (0 ≤ sc.toInt ∧ sc.toInt < 65) → Owes p e below (EndN s (QL n0) room_1.cells room_1.slots) (T157.setTop (mkF m 133 #[.val (.int p0), .val (.int p1), .val (.int p2), .val (.int p3), .val (.int nI), .val (.int pm), .val (.ref ro), .val (.int sa), .val (.int sb), .val (.int sc), .unset, .unset, .unset, .unset, .unset, .unset] [])) := by
    intro sa sb sc hsa hsb hsc
    refine Owes.go ?_ fun t₀ k₀ => XS.aload X157.here hx rfl (hb hby at_133) rfl rfl k₀
    show Owes _ _ _ _ (T157.setTop (mkF m 135 #[.val (.int p0), .val (.int p1), .val (.int p2), .val (.int p3), .val (.int nI), .val (.int pm), .val (.ref ro), .val (.int sa), .val (.int sb), .val (.int sc), .unset, .unset, .unset, .unset, .unset, .unset] [(.ref ro)]))
    refine Owes.go ?_ fun t₀ k₀ => XS.iconst X157.here hx rfl (hb hby at_135) k₀
    show Owes _ _ _ _ (T157.setTop (mkF m 136 #[.val (.int p0), .val (.int p1), .val (.int p2), .val (.int p3), .val (.int nI), .val (.int pm), .val (.ref ro), .val (.int sa), .val (.int sb), .val (.int sc), .unset, .unset, .unset, .unset, .unset, .unset] [(.int (0 : Int32)), (.ref ro)]))
    refine Owes.go ?_ fun t₀ k₀ => XS.iload X157.here hx rfl (hb hby at_136) rfl k₀
    show Owes _ _ _ _ (T157.setTop (mkF m 138 #[.val (.int p0), .val (.int p1), .val (.int p2), .val (.int p3), .val (.int nI), .val (.int pm), .val (.ref ro), .val (.int sa), .val (.int sb), .val (.int sc), .unset, .unset, .unset, .unset, .unset, .unset] [(.int sa), (.int (0 : Int32)), (.ref ro)]))
    refine Owes.sB X157 hx hZ rfl B_ro (i := 0) rfl (by decide) hsa (hb hby at_138) ?_
    intro T159 h159 X159 e159 W159 B159
    have N159 := Fr.snoc X159 NF157 gn_ro
    have ZZ159 : n0 ≤ h159.size := Nat.le_trans ZZ157 (Nat.le_of_eq W159.size.symm)
    show Owes _ _ _ _ (T159.setTop (mkF m 139 #[.val (.int p0), .val (.int p1), .val (.int p2), .val (.int p3), .val (.int nI), .val (.int pm), .val (.ref ro), .val (.int sa), .val (.int sb), .val (.int sc), .unset, .unset, .unset, .unset, .unset, .unset] []))
    refine Owes.go ?_ fun t₀ k₀ => XS.aload X159.here hx rfl (hb hby at_139) rfl rfl k₀
    show Owes _ _ _ _ (T159.setTop (mkF m 141 #[.val (.int p0), .val (.int p1), .val (.int p2), .val (.int p3), .val (.int nI), .val (.int pm), .val (.ref ro), .val (.int sa), .val (.int sb), .val (.int sc), .unset, .unset, .unset, .unset, .unset, .unset] [(.ref ro)]))
    refine Owes.go ?_ fun t₀ k₀ => XS.bipush X159.here hx rfl (hb hby at_141) k₀
    show Owes _ _ _ _ (T159.setTop (mkF m 143 #[.val (.int p0), .val (.int p1), .val (.int p2), .val (.int p3), .val (.int nI), .val (.int pm), .val (.ref ro), .val (.int sa), .val (.int sb), .val (.int sc), .unset, .unset, .unset, .unset, .unset, .unset] [(.int (63 : Int32)), (.ref ro)]))
    refine Owes.go ?_ fun t₀ k₀ => XS.iload X159.here hx rfl (hb hby at_143) rfl k₀
    show Owes _ _ _ _ (T159.setTop (mkF m 145 #[.val (.int p0), .val (.int p1), .val (.int p2), .val (.int p3), .val (.int nI), .val (.int pm), .val (.ref ro), .val (.int sa), .val (.int sb), .val (.int sc), .unset, .unset, .unset, .unset, .unset, .unset] [(.int sb), (.int (63 : Int32)), (.ref ro)]))
    refine Owes.sB X159 hx hZ e159 B159 (i := 63) rfl (by decide) hsb (hb hby at_145) ?_
    intro T160 h160 X160 e160 W160 B160
    have N160 := Fr.snoc X160 N159 gn_ro
    have ZZ160 : n0 ≤ h160.size := Nat.le_trans ZZ159 (Nat.le_of_eq W160.size.symm)
    show Owes _ _ _ _ (T160.setTop (mkF m 146 #[.val (.int p0), .val (.int p1), .val (.int p2), .val (.int p3), .val (.int nI), .val (.int pm), .val (.ref ro), .val (.int sa), .val (.int sb), .val (.int sc), .unset, .unset, .unset, .unset, .unset, .unset] []))
    refine Owes.go ?_ fun t₀ k₀ => XS.aload X160.here hx rfl (hb hby at_146) rfl rfl k₀
    show Owes _ _ _ _ (T160.setTop (mkF m 148 #[.val (.int p0), .val (.int p1), .val (.int p2), .val (.int p3), .val (.int nI), .val (.int pm), .val (.ref ro), .val (.int sa), .val (.int sb), .val (.int sc), .unset, .unset, .unset, .unset, .unset, .unset] [(.ref ro)]))
    refine Owes.go ?_ fun t₀ k₀ => XS.bipush X160.here hx rfl (hb hby at_148) k₀
    show Owes _ _ _ _ (T160.setTop (mkF m 150 #[.val (.int p0), .val (.int p1), .val (.int p2), .val (.int p3), .val (.int nI), .val (.int pm), .val (.ref ro), .val (.int sa), .val (.int sb), .val (.int sc), .unset, .unset, .unset, .unset, .unset, .unset] [(.int (64 : Int32)), (.ref ro)]))
    refine Owes.go ?_ fun t₀ k₀ => XS.iload X160.here hx rfl (hb hby at_150) rfl k₀
    show Owes _ _ _ _ (T160.setTop (mkF m 152 #[.val (.int p0), .val (.int p1), .val (.int p2), .val (.int p3), .val (.int nI), .val (.int pm), .val (.ref ro), .val (.int sa), .val (.int sb), .val (.int sc), .unset, .unset, .unset, .unset, .unset, .unset] [(.int sc), (.int (64 : Int32)), (.ref ro)]))
    refine Owes.sB X160 hx hZ e160 B160 (i := 64) rfl (by decide) hsc (hb hby at_152) ?_
    intro T161 h161 X161 e161 W161 B161
    have N161 := Fr.snoc X161 N160 gn_ro
    have ZZ161 : n0 ≤ h161.size := Nat.le_trans ZZ160 (Nat.le_of_eq W161.size.symm)
    show Owes _ _ _ _ (T161.setTop (mkF m 153 #[.val (.int p0), .val (.int p1), .val (.int p2), .val (.int p3), .val (.int nI), .val (.int pm), .val (.ref ro), .val (.int sa), .val (.int sb), .val (.int sc), .unset, .unset, .unset, .unset, .unset, .unset] []))
    refine Owes.go ?_ fun t₀ k₀ => XS.bipush X161.here hx rfl (hb hby at_153) k₀
    show Owes _ _ _ _ (T161.setTop (mkF m 155 #[.val (.int p0), .val (.int p1), .val (.int p2), .val (.int p3), .val (.int nI), .val (.int pm), .val (.ref ro), .val (.int sa), .val (.int sb), .val (.int sc), .unset, .unset, .unset, .unset, .unset, .unset] [(.int (65 : Int32))]))
    refine Owes.newArr X161 hx hZ (aty := .int) (hw _ (List.mem_of_getElem? (i := 4) rfl)) e161 (n := 65) rfl (by decide) (by decide) (by decide) (ad := "[I") (by decide) (hb hby at_155) ?_
    intro T162 h162 X162 e162 E162 G162 EX162
    obtain ⟨rf, grf⟩ : ∃ z, z = h161.size := ⟨_, rfl⟩
    rw [← grf] at G162 EX162 ⊢
    have gn_rf : n0 ≤ rf := by rw [grf]; exact ZZ161
    have lt_ro_rf : ro < rf := by rw [grf]; exact (B161).lt
    have B_ro_162 := BA.ext B161 E162
    have B162 : BA Z h162 rf 65 (n : Int) := BA.new G162 (by omega)
    have ZZ162 := Nat.le_trans ZZ161 E162.1
    show Owes _ _ _ _ (T162.setTop (mkF m 157 #[.val (.int p0), .val (.int p1), .val (.int p2), .val (.int p3), .val (.int nI), .val (.int pm), .val (.ref ro), .val (.int sa), .val (.int sb), .val (.int sc), .unset, .unset, .unset, .unset, .unset, .unset] [(.ref rf)]))
    refine Owes.go ?_ fun t₀ k₀ => XS.astore X162.here hx rfl (hb hby at_157) rfl rfl (l' := #[.val (.int p0), .val (.int p1), .val (.int p2), .val (.int p3), .val (.int nI), .val (.int pm), .val (.ref ro), .val (.int sa), .val (.int sb), .val (.int sc), .val (.ref rf), .unset, .unset, .unset, .unset, .unset]) rfl k₀
    show Owes _ _ _ _ (T162.setTop (mkF m 159 #[.val (.int p0), .val (.int p1), .val (.int p2), .val (.int p3), .val (.int nI), .val (.int pm), .val (.ref ro), .val (.int sa), .val (.int sb), .val (.int sc), .val (.ref rf), .unset, .unset, .unset, .unset, .unset] []))
    refine Owes.go ?_ fun t₀ k₀ => XS.bipush X162.here hx rfl (hb hby at_159) k₀
    show Owes _ _ _ _ (T162.setTop (mkF m 161 #[.val (.int p0), .val (.int p1), .val (.int p2), .val (.int p3), .val (.int nI), .val (.int pm), .val (.ref ro), .val (.int sa), .val (.int sb), .val (.int sc), .val (.ref rf), .unset, .unset, .unset, .unset, .unset] [(.int (65 : Int32))]))
    refine Owes.newArr X162 hx hZ (aty := .int) (hw _ (List.mem_of_getElem? (i := 4) rfl)) e162 (n := 65) rfl (by decide) (by decide) (by decide) (ad := "[I") (by decide) (hb hby at_161) ?_
    intro T163 h163 X163 e163 E163 G163 EX163
    obtain ⟨rs, grs⟩ : ∃ z, z = h162.size := ⟨_, rfl⟩
    rw [← grs] at G163 EX163 ⊢
    have gn_rs : n0 ≤ rs := by rw [grs]; exact ZZ162
    have lt_ro_rs : ro < rs := by rw [grs]; exact (B_ro_162).lt
    have lt_rf_rs : rf < rs := by rw [grs]; exact (B162).lt
    have B_ro_163 := BA.ext B_ro_162 E163
    have B_rf_163 := BA.ext B162 E163
    have B163 : BA Z h163 rs 65 (n : Int) := BA.new G163 (by omega)
    have ZZ163 := Nat.le_trans ZZ162 E163.1
    show Owes _ _ _ _ (T163.setTop (mkF m 163 #[.val (.int p0), .val (.int p1), .val (.int p2), .val (.int p3), .val (.int nI), .val (.int pm), .val (.ref ro), .val (.int sa), .val (.int sb), .val (.int sc), .val (.ref rf), .unset, .unset, .unset, .unset, .unset] [(.ref rs)]))
    refine Owes.go ?_ fun t₀ k₀ => XS.astore X163.here hx rfl (hb hby at_163) rfl rfl (l' := #[.val (.int p0), .val (.int p1), .val (.int p2), .val (.int p3), .val (.int nI), .val (.int pm), .val (.ref ro), .val (.int sa), .val (.int sb), .val (.int sc), .val (.ref rf), .val (.ref rs), .unset, .unset, .unset, .unset]) rfl k₀
    show Owes _ _ _ _ (T163.setTop (mkF m 165 #[.val (.int p0), .val (.int p1), .val (.int p2), .val (.int p3), .val (.int nI), .val (.int pm), .val (.ref ro), .val (.int sa), .val (.int sb), .val (.int sc), .val (.ref rf), .val (.ref rs), .unset, .unset, .unset, .unset] []))
    refine Owes.go ?_ fun t₀ k₀ => XS.aload X163.here hx rfl (hb hby at_165) rfl rfl k₀
    show Owes _ _ _ _ (T163.setTop (mkF m 167 #[.val (.int p0), .val (.int p1), .val (.int p2), .val (.int p3), .val (.int nI), .val (.int pm), .val (.ref ro), .val (.int sa), .val (.int sb), .val (.int sc), .val (.ref rf), .val (.ref rs), .unset, .unset, .unset, .unset] [(.ref rf)]))
    refine Owes.go ?_ fun t₀ k₀ => XS.iconst X163.here hx rfl (hb hby at_167) k₀
    show Owes _ _ _ _ (T163.setTop (mkF m 168 #[.val (.int p0), .val (.int p1), .val (.int p2), .val (.int p3), .val (.int nI), .val (.int pm), .val (.ref ro), .val (.int sa), .val (.int sb), .val (.int sc), .val (.ref rf), .val (.ref rs), .unset, .unset, .unset, .unset] [(.int (0 : Int32)), (.ref rf)]))
    refine Owes.go ?_ fun t₀ k₀ => XS.iloadN X163.here hx rfl (hb hby at_168) rfl k₀
    show Owes _ _ _ _ (T163.setTop (mkF m 169 #[.val (.int p0), .val (.int p1), .val (.int p2), .val (.int p3), .val (.int nI), .val (.int pm), .val (.ref ro), .val (.int sa), .val (.int sb), .val (.int sc), .val (.ref rf), .val (.ref rs), .unset, .unset, .unset, .unset] [(.int p1), (.int (0 : Int32)), (.ref rf)]))
    refine Owes.go ?_ fun t₀ k₀ => XS.iconst X163.here hx rfl (hb hby at_169) k₀
    show Owes _ _ _ _ (T163.setTop (mkF m 170 #[.val (.int p0), .val (.int p1), .val (.int p2), .val (.int p3), .val (.int nI), .val (.int pm), .val (.ref ro), .val (.int sa), .val (.int sb), .val (.int sc), .val (.ref rf), .val (.ref rs), .unset, .unset, .unset, .unset] [(.int (3 : Int32)), (.int p1), (.int (0 : Int32)), (.ref rf)]))
    refine Owes.go ?_ fun t₀ k₀ => XS.iand X163.here hx rfl (hb hby at_170) rfl k₀
    show Owes _ _ _ _ (T163.setTop (mkF m 171 #[.val (.int p0), .val (.int p1), .val (.int p2), .val (.int p3), .val (.int nI), .val (.int pm), .val (.ref ro), .val (.int sa), .val (.int sb), .val (.int sc), .val (.ref rf), .val (.ref rs), .unset, .unset, .unset, .unset] [(.int (p1 &&& (3 : Int32))), (.int (0 : Int32)), (.ref rf)]))
    refine Owes.go ?_ fun t₀ k₀ => XS.iload X163.here hx rfl (hb hby at_171) rfl k₀
    show Owes _ _ _ _ (T163.setTop (mkF m 173 #[.val (.int p0), .val (.int p1), .val (.int p2), .val (.int p3), .val (.int nI), .val (.int pm), .val (.ref ro), .val (.int sa), .val (.int sb), .val (.int sc), .val (.ref rf), .val (.ref rs), .unset, .unset, .unset, .unset] [(.int nI), (.int (p1 &&& (3 : Int32))), (.int (0 : Int32)), (.ref rf)]))
    refine Owes.go ?_ fun t₀ k₀ => Jvm.RoadKit.iremM X163 hx rfl (hb hby at_173) rfl (own_nz hn hn1) k₀
    show Owes _ _ _ _ (T163.setTop (mkF m 174 #[.val (.int p0), .val (.int p1), .val (.int p2), .val (.int p3), .val (.int nI), .val (.int pm), .val (.ref ro), .val (.int sa), .val (.int sb), .val (.int sc), .val (.ref rf), .val (.ref rs), .unset, .unset, .unset, .unset] [(.int ((p1 &&& (3 : Int32)) % nI)), (.int (0 : Int32)), (.ref rf)]))
    refine Owes.sB X163 hx hZ e163 B_rf_163 (i := 0) rfl (by decide) (own_md _ hn hn1) (hb hby at_174) ?_
    intro T164 h164 X164 e164 W164 B164
    have B_ro_164 := BA.other B_ro_163 W164 (Nat.ne_of_lt lt_ro_rf)
    have B_rs_164 := BA.other B163 W164 (Ne.symm (Nat.ne_of_lt lt_rf_rs))
    have N164 := Fr.snoc X164 N161 gn_rf
    have ZZ164 : n0 ≤ h164.size := Nat.le_trans ZZ163 (Nat.le_of_eq W164.size.symm)
    show Owes _ _ _ _ (T164.setTop (mkF m 175 #[.val (.int p0), .val (.int p1), .val (.int p2), .val (.int p3), .val (.int nI), .val (.int pm), .val (.ref ro), .val (.int sa), .val (.int sb), .val (.int sc), .val (.ref rf), .val (.ref rs), .unset, .unset, .unset, .unset] []))
    refine Owes.go ?_ fun t₀ k₀ => XS.aload X164.here hx rfl (hb hby at_175) rfl rfl k₀
    show Owes _ _ _ _ (T164.setTop (mkF m 177 #[.val (.int p0), .val (.int p1), .val (.int p2), .val (.int p3), .val (.int nI), .val (.int pm), .val (.ref ro), .val (.int sa), .val (.int sb), .val (.int sc), .val (.ref rf), .val (.ref rs), .unset, .unset, .unset, .unset] [(.ref rs)]))
    refine Owes.go ?_ fun t₀ k₀ => XS.iconst X164.here hx rfl (hb hby at_177) k₀
    show Owes _ _ _ _ (T164.setTop (mkF m 178 #[.val (.int p0), .val (.int p1), .val (.int p2), .val (.int p3), .val (.int nI), .val (.int pm), .val (.ref ro), .val (.int sa), .val (.int sb), .val (.int sc), .val (.ref rf), .val (.ref rs), .unset, .unset, .unset, .unset] [(.int (0 : Int32)), (.ref rs)]))
    refine Owes.go ?_ fun t₀ k₀ => XS.iloadN X164.here hx rfl (hb hby at_178) rfl k₀
    show Owes _ _ _ _ (T164.setTop (mkF m 179 #[.val (.int p0), .val (.int p1), .val (.int p2), .val (.int p3), .val (.int nI), .val (.int pm), .val (.ref ro), .val (.int sa), .val (.int sb), .val (.int sc), .val (.ref rf), .val (.ref rs), .unset, .unset, .unset, .unset] [(.int p1), (.int (0 : Int32)), (.ref rs)]))
    refine Owes.go ?_ fun t₀ k₀ => XS.iconst X164.here hx rfl (hb hby at_179) k₀
    show Owes _ _ _ _ (T164.setTop (mkF m 180 #[.val (.int p0), .val (.int p1), .val (.int p2), .val (.int p3), .val (.int nI), .val (.int pm), .val (.ref ro), .val (.int sa), .val (.int sb), .val (.int sc), .val (.ref rf), .val (.ref rs), .unset, .unset, .unset, .unset] [(.int (2 : Int32)), (.int p1), (.int (0 : Int32)), (.ref rs)]))
    refine Owes.go ?_ fun t₀ k₀ => XS.iushr X164.here hx rfl (hb hby at_180) rfl k₀
    show Owes _ _ _ _ (T164.setTop (mkF m 181 #[.val (.int p0), .val (.int p1), .val (.int p2), .val (.int p3), .val (.int nI), .val (.int pm), .val (.ref ro), .val (.int sa), .val (.int sb), .val (.int sc), .val (.ref rf), .val (.ref rs), .unset, .unset, .unset, .unset] [(.int ((p1.toUInt32 >>> ((2 : Int32) &&& 31).toUInt32).toInt32)), (.int (0 : Int32)), (.ref rs)]))
    refine Owes.go ?_ fun t₀ k₀ => XS.iconst X164.here hx rfl (hb hby at_181) k₀
    show Owes _ _ _ _ (T164.setTop (mkF m 182 #[.val (.int p0), .val (.int p1), .val (.int p2), .val (.int p3), .val (.int nI), .val (.int pm), .val (.ref ro), .val (.int sa), .val (.int sb), .val (.int sc), .val (.ref rf), .val (.ref rs), .unset, .unset, .unset, .unset] [(.int (3 : Int32)), (.int ((p1.toUInt32 >>> ((2 : Int32) &&& 31).toUInt32).toInt32)), (.int (0 : Int32)), (.ref rs)]))
    refine Owes.go ?_ fun t₀ k₀ => XS.iand X164.here hx rfl (hb hby at_182) rfl k₀
    show Owes _ _ _ _ (T164.setTop (mkF m 183 #[.val (.int p0), .val (.int p1), .val (.int p2), .val (.int p3), .val (.int nI), .val (.int pm), .val (.ref ro), .val (.int sa), .val (.int sb), .val (.int sc), .val (.ref rf), .val (.ref rs), .unset, .unset, .unset, .unset] [(.int (((p1.toUInt32 >>> ((2 : Int32) &&& 31).toUInt32).toInt32) &&& (3 : Int32))), (.int (0 : Int32)), (.ref rs)]))
    refine Owes.go ?_ fun t₀ k₀ => XS.iload X164.here hx rfl (hb hby at_183) rfl k₀
    show Owes _ _ _ _ (T164.setTop (mkF m 185 #[.val (.int p0), .val (.int p1), .val (.int p2), .val (.int p3), .val (.int nI), .val (.int pm), .val (.ref ro), .val (.int sa), .val (.int sb), .val (.int sc), .val (.ref rf), .val (.ref rs), .unset, .unset, .unset, .unset] [(.int nI), (.int (((p1.toUInt32 >>> ((2 : Int32) &&& 31).toUInt32).toInt32) &&& (3 : Int32))), (.int (0 : Int32)), (.ref rs)]))
    refine Owes.go ?_ fun t₀ k₀ => Jvm.RoadKit.iremM X164 hx rfl (hb hby at_185) rfl (own_nz hn hn1) k₀
    show Owes _ _ _ _ (T164.setTop (mkF m 186 #[.val (.int p0), .val (.int p1), .val (.int p2), .val (.int p3), .val (.int nI), .val (.int pm), .val (.ref ro), .val (.int sa), .val (.int sb), .val (.int sc), .val (.ref rf), .val (.ref rs), .unset, .unset, .unset, .unset] [(.int ((((p1.toUInt32 >>> ((2 : Int32) &&& 31).toUInt32).toInt32) &&& (3 : Int32)) % nI)), (.int (0 : Int32)), (.ref rs)]))
    refine Owes.sB X164 hx hZ e164 B_rs_164 (i := 0) rfl (by decide) (own_md _ hn hn1) (hb hby at_186) ?_
    intro T165 h165 X165 e165 W165 B165
    have B_ro_165 := BA.other B_ro_164 W165 (Nat.ne_of_lt lt_ro_rs)
    have B_rf_165 := BA.other B164 W165 (Nat.ne_of_lt lt_rf_rs)
    have N165 := Fr.snoc X165 N164 gn_rs
    have ZZ165 : n0 ≤ h165.size := Nat.le_trans ZZ164 (Nat.le_of_eq W165.size.symm)
    show Owes _ _ _ _ (T165.setTop (mkF m 187 #[.val (.int p0), .val (.int p1), .val (.int p2), .val (.int p3), .val (.int nI), .val (.int pm), .val (.ref ro), .val (.int sa), .val (.int sb), .val (.int sc), .val (.ref rf), .val (.ref rs), .unset, .unset, .unset, .unset] []))
    refine Owes.go ?_ fun t₀ k₀ => XS.aload X165.here hx rfl (hb hby at_187) rfl rfl k₀
    show Owes _ _ _ _ (T165.setTop (mkF m 189 #[.val (.int p0), .val (.int p1), .val (.int p2), .val (.int p3), .val (.int nI), .val (.int pm), .val (.ref ro), .val (.int sa), .val (.int sb), .val (.int sc), .val (.ref rf), .val (.ref rs), .unset, .unset, .unset, .unset] [(.ref rf)]))
    refine Owes.go ?_ fun t₀ k₀ => XS.bipush X165.here hx rfl (hb hby at_189) k₀
    show Owes _ _ _ _ (T165.setTop (mkF m 191 #[.val (.int p0), .val (.int p1), .val (.int p2), .val (.int p3), .val (.int nI), .val (.int pm), .val (.ref ro), .val (.int sa), .val (.int sb), .val (.int sc), .val (.ref rf), .val (.ref rs), .unset, .unset, .unset, .unset] [(.int (63 : Int32)), (.ref rf)]))
    refine Owes.go ?_ fun t₀ k₀ => XS.iloadN X165.here hx rfl (hb hby at_191) rfl k₀
    show Owes _ _ _ _ (T165.setTop (mkF m 192 #[.val (.int p0), .val (.int p1), .val (.int p2), .val (.int p3), .val (.int nI), .val (.int pm), .val (.ref ro), .val (.int sa), .val (.int sb), .val (.int sc), .val (.ref rf), .val (.ref rs), .unset, .unset, .unset, .unset] [(.int p1), (.int (63 : Int32)), (.ref rf)]))
    refine Owes.go ?_ fun t₀ k₀ => XS.iconst X165.here hx rfl (hb hby at_192) k₀
    show Owes _ _ _ _ (T165.setTop (mkF m 193 #[.val (.int p0), .val (.int p1), .val (.int p2), .val (.int p3), .val (.int nI), .val (.int pm), .val (.ref ro), .val (.int sa), .val (.int sb), .val (.int sc), .val (.ref rf), .val (.ref rs), .unset, .unset, .unset, .unset] [(.int (4 : Int32)), (.int p1), (.int (63 : Int32)), (.ref rf)]))
    refine Owes.go ?_ fun t₀ k₀ => XS.iushr X165.here hx rfl (hb hby at_193) rfl k₀
    show Owes _ _ _ _ (T165.setTop (mkF m 194 #[.val (.int p0), .val (.int p1), .val (.int p2), .val (.int p3), .val (.int nI), .val (.int pm), .val (.ref ro), .val (.int sa), .val (.int sb), .val (.int sc), .val (.ref rf), .val (.ref rs), .unset, .unset, .unset, .unset] [(.int ((p1.toUInt32 >>> ((4 : Int32) &&& 31).toUInt32).toInt32)), (.int (63 : Int32)), (.ref rf)]))
    refine Owes.go ?_ fun t₀ k₀ => XS.iconst X165.here hx rfl (hb hby at_194) k₀
    show Owes _ _ _ _ (T165.setTop (mkF m 195 #[.val (.int p0), .val (.int p1), .val (.int p2), .val (.int p3), .val (.int nI), .val (.int pm), .val (.ref ro), .val (.int sa), .val (.int sb), .val (.int sc), .val (.ref rf), .val (.ref rs), .unset, .unset, .unset, .unset] [(.int (3 : Int32)), (.int ((p1.toUInt32 >>> ((4 : Int32) &&& 31).toUInt32).toInt32)), (.int (63 : Int32)), (.ref rf)]))
    refine Owes.go ?_ fun t₀ k₀ => XS.iand X165.here hx rfl (hb hby at_195) rfl k₀
    show Owes _ _ _ _ (T165.setTop (mkF m 196 #[.val (.int p0), .val (.int p1), .val (.int p2), .val (.int p3), .val (.int nI), .val (.int pm), .val (.ref ro), .val (.int sa), .val (.int sb), .val (.int sc), .val (.ref rf), .val (.ref rs), .unset, .unset, .unset, .unset] [(.int (((p1.toUInt32 >>> ((4 : Int32) &&& 31).toUInt32).toInt32) &&& (3 : Int32))), (.int (63 : Int32)), (.ref rf)]))
    refine Owes.go ?_ fun t₀ k₀ => XS.iload X165.here hx rfl (hb hby at_196) rfl k₀
    show Owes _ _ _ _ (T165.setTop (mkF m 198 #[.val (.int p0), .val (.int p1), .val (.int p2), .val (.int p3), .val (.int nI), .val (.int pm), .val (.ref ro), .val (.int sa), .val (.int sb), .val (.int sc), .val (.ref rf), .val (.ref rs), .unset, .unset, .unset, .unset] [(.int nI), (.int (((p1.toUInt32 >>> ((4 : Int32) &&& 31).toUInt32).toInt32) &&& (3 : Int32))), (.int (63 : Int32)), (.ref rf)]))
    refine Owes.go ?_ fun t₀ k₀ => Jvm.RoadKit.iremM X165 hx rfl (hb hby at_198) rfl (own_nz hn hn1) k₀
    show Owes _ _ _ _ (T165.setTop (mkF m 199 #[.val (.int p0), .val (.int p1), .val (.int p2), .val (.int p3), .val (.int nI), .val (.int pm), .val (.ref ro), .val (.int sa), .val (.int sb), .val (.int sc), .val (.ref rf), .val (.ref rs), .unset, .unset, .unset, .unset] [(.int ((((p1.toUInt32 >>> ((4 : Int32) &&& 31).toUInt32).toInt32) &&& (3 : Int32)) % nI)), (.int (63 : Int32)), (.ref rf)]))
    refine Owes.sB X165 hx hZ e165 B_rf_165 (i := 63) rfl (by decide) (own_md _ hn hn1) (hb hby at_199) ?_
    intro T166 h166 X166 e166 W166 B166
    have B_ro_166 := BA.other B_ro_165 W166 (Nat.ne_of_lt lt_ro_rf)
    have B_rs_166 := BA.other B165 W166 (Ne.symm (Nat.ne_of_lt lt_rf_rs))
    have N166 := Fr.snoc X166 N165 gn_rf
    have ZZ166 : n0 ≤ h166.size := Nat.le_trans ZZ165 (Nat.le_of_eq W166.size.symm)
    show Owes _ _ _ _ (T166.setTop (mkF m 200 #[.val (.int p0), .val (.int p1), .val (.int p2), .val (.int p3), .val (.int nI), .val (.int pm), .val (.ref ro), .val (.int sa), .val (.int sb), .val (.int sc), .val (.ref rf), .val (.ref rs), .unset, .unset, .unset, .unset] []))
    refine Owes.go ?_ fun t₀ k₀ => XS.aload X166.here hx rfl (hb hby at_200) rfl rfl k₀
    show Owes _ _ _ _ (T166.setTop (mkF m 202 #[.val (.int p0), .val (.int p1), .val (.int p2), .val (.int p3), .val (.int nI), .val (.int pm), .val (.ref ro), .val (.int sa), .val (.int sb), .val (.int sc), .val (.ref rf), .val (.ref rs), .unset, .unset, .unset, .unset] [(.ref rs)]))
    refine Owes.go ?_ fun t₀ k₀ => XS.bipush X166.here hx rfl (hb hby at_202) k₀
    show Owes _ _ _ _ (T166.setTop (mkF m 204 #[.val (.int p0), .val (.int p1), .val (.int p2), .val (.int p3), .val (.int nI), .val (.int pm), .val (.ref ro), .val (.int sa), .val (.int sb), .val (.int sc), .val (.ref rf), .val (.ref rs), .unset, .unset, .unset, .unset] [(.int (63 : Int32)), (.ref rs)]))
    refine Owes.go ?_ fun t₀ k₀ => XS.iloadN X166.here hx rfl (hb hby at_204) rfl k₀
    show Owes _ _ _ _ (T166.setTop (mkF m 205 #[.val (.int p0), .val (.int p1), .val (.int p2), .val (.int p3), .val (.int nI), .val (.int pm), .val (.ref ro), .val (.int sa), .val (.int sb), .val (.int sc), .val (.ref rf), .val (.ref rs), .unset, .unset, .unset, .unset] [(.int p1), (.int (63 : Int32)), (.ref rs)]))
    refine Owes.go ?_ fun t₀ k₀ => XS.bipush X166.here hx rfl (hb hby at_205) k₀
    show Owes _ _ _ _ (T166.setTop (mkF m 207 #[.val (.int p0), .val (.int p1), .val (.int p2), .val (.int p3), .val (.int nI), .val (.int pm), .val (.ref ro), .val (.int sa), .val (.int sb), .val (.int sc), .val (.ref rf), .val (.ref rs), .unset, .unset, .unset, .unset] [(.int (6 : Int32)), (.int p1), (.int (63 : Int32)), (.ref rs)]))
    refine Owes.go ?_ fun t₀ k₀ => XS.iushr X166.here hx rfl (hb hby at_207) rfl k₀
    show Owes _ _ _ _ (T166.setTop (mkF m 208 #[.val (.int p0), .val (.int p1), .val (.int p2), .val (.int p3), .val (.int nI), .val (.int pm), .val (.ref ro), .val (.int sa), .val (.int sb), .val (.int sc), .val (.ref rf), .val (.ref rs), .unset, .unset, .unset, .unset] [(.int ((p1.toUInt32 >>> ((6 : Int32) &&& 31).toUInt32).toInt32)), (.int (63 : Int32)), (.ref rs)]))
    refine Owes.go ?_ fun t₀ k₀ => XS.iconst X166.here hx rfl (hb hby at_208) k₀
    show Owes _ _ _ _ (T166.setTop (mkF m 209 #[.val (.int p0), .val (.int p1), .val (.int p2), .val (.int p3), .val (.int nI), .val (.int pm), .val (.ref ro), .val (.int sa), .val (.int sb), .val (.int sc), .val (.ref rf), .val (.ref rs), .unset, .unset, .unset, .unset] [(.int (3 : Int32)), (.int ((p1.toUInt32 >>> ((6 : Int32) &&& 31).toUInt32).toInt32)), (.int (63 : Int32)), (.ref rs)]))
    refine Owes.go ?_ fun t₀ k₀ => XS.iand X166.here hx rfl (hb hby at_209) rfl k₀
    show Owes _ _ _ _ (T166.setTop (mkF m 210 #[.val (.int p0), .val (.int p1), .val (.int p2), .val (.int p3), .val (.int nI), .val (.int pm), .val (.ref ro), .val (.int sa), .val (.int sb), .val (.int sc), .val (.ref rf), .val (.ref rs), .unset, .unset, .unset, .unset] [(.int (((p1.toUInt32 >>> ((6 : Int32) &&& 31).toUInt32).toInt32) &&& (3 : Int32))), (.int (63 : Int32)), (.ref rs)]))
    refine Owes.go ?_ fun t₀ k₀ => XS.iload X166.here hx rfl (hb hby at_210) rfl k₀
    show Owes _ _ _ _ (T166.setTop (mkF m 212 #[.val (.int p0), .val (.int p1), .val (.int p2), .val (.int p3), .val (.int nI), .val (.int pm), .val (.ref ro), .val (.int sa), .val (.int sb), .val (.int sc), .val (.ref rf), .val (.ref rs), .unset, .unset, .unset, .unset] [(.int nI), (.int (((p1.toUInt32 >>> ((6 : Int32) &&& 31).toUInt32).toInt32) &&& (3 : Int32))), (.int (63 : Int32)), (.ref rs)]))
    refine Owes.go ?_ fun t₀ k₀ => Jvm.RoadKit.iremM X166 hx rfl (hb hby at_212) rfl (own_nz hn hn1) k₀
    show Owes _ _ _ _ (T166.setTop (mkF m 213 #[.val (.int p0), .val (.int p1), .val (.int p2), .val (.int p3), .val (.int nI), .val (.int pm), .val (.ref ro), .val (.int sa), .val (.int sb), .val (.int sc), .val (.ref rf), .val (.ref rs), .unset, .unset, .unset, .unset] [(.int ((((p1.toUInt32 >>> ((6 : Int32) &&& 31).toUInt32).toInt32) &&& (3 : Int32)) % nI)), (.int (63 : Int32)), (.ref rs)]))
    refine Owes.sB X166 hx hZ e166 B_rs_166 (i := 63) rfl (by decide) (own_md _ hn hn1) (hb hby at_213) ?_
    intro T167 h167 X167 e167 W167 B167
    have B_ro_167 := BA.other B_ro_166 W167 (Nat.ne_of_lt lt_ro_rs)
    have B_rf_167 := BA.other B166 W167 (Nat.ne_of_lt lt_rf_rs)
    have N167 := Fr.snoc X167 N166 gn_rs
    have ZZ167 : n0 ≤ h167.size := Nat.le_trans ZZ166 (Nat.le_of_eq W167.size.symm)
    show Owes _ _ _ _ (T167.setTop (mkF m 214 #[.val (.int p0), .val (.int p1), .val (.int p2), .val (.int p3), .val (.int nI), .val (.int pm), .val (.ref ro), .val (.int sa), .val (.int sb), .val (.int sc), .val (.ref rf), .val (.ref rs), .unset, .unset, .unset, .unset] []))
    refine Owes.go ?_ fun t₀ k₀ => XS.aload X167.here hx rfl (hb hby at_214) rfl rfl k₀
    show Owes _ _ _ _ (T167.setTop (mkF m 216 #[.val (.int p0), .val (.int p1), .val (.int p2), .val (.int p3), .val (.int nI), .val (.int pm), .val (.ref ro), .val (.int sa), .val (.int sb), .val (.int sc), .val (.ref rf), .val (.ref rs), .unset, .unset, .unset, .unset] [(.ref rf)]))
    refine Owes.go ?_ fun t₀ k₀ => XS.bipush X167.here hx rfl (hb hby at_216) k₀
    show Owes _ _ _ _ (T167.setTop (mkF m 218 #[.val (.int p0), .val (.int p1), .val (.int p2), .val (.int p3), .val (.int nI), .val (.int pm), .val (.ref ro), .val (.int sa), .val (.int sb), .val (.int sc), .val (.ref rf), .val (.ref rs), .unset, .unset, .unset, .unset] [(.int (64 : Int32)), (.ref rf)]))
    refine Owes.go ?_ fun t₀ k₀ => XS.iloadN X167.here hx rfl (hb hby at_218) rfl k₀
    show Owes _ _ _ _ (T167.setTop (mkF m 219 #[.val (.int p0), .val (.int p1), .val (.int p2), .val (.int p3), .val (.int nI), .val (.int pm), .val (.ref ro), .val (.int sa), .val (.int sb), .val (.int sc), .val (.ref rf), .val (.ref rs), .unset, .unset, .unset, .unset] [(.int p1), (.int (64 : Int32)), (.ref rf)]))
    refine Owes.go ?_ fun t₀ k₀ => XS.bipush X167.here hx rfl (hb hby at_219) k₀
    show Owes _ _ _ _ (T167.setTop (mkF m 221 #[.val (.int p0), .val (.int p1), .val (.int p2), .val (.int p3), .val (.int nI), .val (.int pm), .val (.ref ro), .val (.int sa), .val (.int sb), .val (.int sc), .val (.ref rf), .val (.ref rs), .unset, .unset, .unset, .unset] [(.int (8 : Int32)), (.int p1), (.int (64 : Int32)), (.ref rf)]))
    refine Owes.go ?_ fun t₀ k₀ => XS.iushr X167.here hx rfl (hb hby at_221) rfl k₀
    show Owes _ _ _ _ (T167.setTop (mkF m 222 #[.val (.int p0), .val (.int p1), .val (.int p2), .val (.int p3), .val (.int nI), .val (.int pm), .val (.ref ro), .val (.int sa), .val (.int sb), .val (.int sc), .val (.ref rf), .val (.ref rs), .unset, .unset, .unset, .unset] [(.int ((p1.toUInt32 >>> ((8 : Int32) &&& 31).toUInt32).toInt32)), (.int (64 : Int32)), (.ref rf)]))
    refine Owes.go ?_ fun t₀ k₀ => XS.iconst X167.here hx rfl (hb hby at_222) k₀
    show Owes _ _ _ _ (T167.setTop (mkF m 223 #[.val (.int p0), .val (.int p1), .val (.int p2), .val (.int p3), .val (.int nI), .val (.int pm), .val (.ref ro), .val (.int sa), .val (.int sb), .val (.int sc), .val (.ref rf), .val (.ref rs), .unset, .unset, .unset, .unset] [(.int (3 : Int32)), (.int ((p1.toUInt32 >>> ((8 : Int32) &&& 31).toUInt32).toInt32)), (.int (64 : Int32)), (.ref rf)]))
    refine Owes.go ?_ fun t₀ k₀ => XS.iand X167.here hx rfl (hb hby at_223) rfl k₀
    show Owes _ _ _ _ (T167.setTop (mkF m 224 #[.val (.int p0), .val (.int p1), .val (.int p2), .val (.int p3), .val (.int nI), .val (.int pm), .val (.ref ro), .val (.int sa), .val (.int sb), .val (.int sc), .val (.ref rf), .val (.ref rs), .unset, .unset, .unset, .unset] [(.int (((p1.toUInt32 >>> ((8 : Int32) &&& 31).toUInt32).toInt32) &&& (3 : Int32))), (.int (64 : Int32)), (.ref rf)]))
    refine Owes.go ?_ fun t₀ k₀ => XS.iload X167.here hx rfl (hb hby at_224) rfl k₀
    show Owes _ _ _ _ (T167.setTop (mkF m 226 #[.val (.int p0), .val (.int p1), .val (.int p2), .val (.int p3), .val (.int nI), .val (.int pm), .val (.ref ro), .val (.int sa), .val (.int sb), .val (.int sc), .val (.ref rf), .val (.ref rs), .unset, .unset, .unset, .unset] [(.int nI), (.int (((p1.toUInt32 >>> ((8 : Int32) &&& 31).toUInt32).toInt32) &&& (3 : Int32))), (.int (64 : Int32)), (.ref rf)]))
    refine Owes.go ?_ fun t₀ k₀ => Jvm.RoadKit.iremM X167 hx rfl (hb hby at_226) rfl (own_nz hn hn1) k₀
    show Owes _ _ _ _ (T167.setTop (mkF m 227 #[.val (.int p0), .val (.int p1), .val (.int p2), .val (.int p3), .val (.int nI), .val (.int pm), .val (.ref ro), .val (.int sa), .val (.int sb), .val (.int sc), .val (.ref rf), .val (.ref rs), .unset, .unset, .unset, .unset] [(.int ((((p1.toUInt32 >>> ((8 : Int32) &&& 31).toUInt32).toInt32) &&& (3 : Int32)) % nI)), (.int (64 : Int32)), (.ref rf)]))
    refine Owes.sB X167 hx hZ e167 B_rf_167 (i := 64) rfl (by decide) (own_md _ hn hn1) (hb hby at_227) ?_
    intro T168 h168 X168 e168 W168 B168
    have B_ro_168 := BA.other B_ro_167 W168 (Nat.ne_of_lt lt_ro_rf)
    have B_rs_168 := BA.other B167 W168 (Ne.symm (Nat.ne_of_lt lt_rf_rs))
    have N168 := Fr.snoc X168 N167 gn_rf
    have ZZ168 : n0 ≤ h168.size := Nat.le_trans ZZ167 (Nat.le_of_eq W168.size.symm)
    show Owes _ _ _ _ (T168.setTop (mkF m 228 #[.val (.int p0), .val (.int p1), .val (.int p2), .val (.int p3), .val (.int nI), .val (.int pm), .val (.ref ro), .val (.int sa), .val (.int sb), .val (.int sc), .val (.ref rf), .val (.ref rs), .unset, .unset, .unset, .unset] []))
    refine Owes.go ?_ fun t₀ k₀ => XS.aload X168.here hx rfl (hb hby at_228) rfl rfl k₀
    show Owes _ _ _ _ (T168.setTop (mkF m 230 #[.val (.int p0), .val (.int p1), .val (.int p2), .val (.int p3), .val (.int nI), .val (.int pm), .val (.ref ro), .val (.int sa), .val (.int sb), .val (.int sc), .val (.ref rf), .val (.ref rs), .unset, .unset, .unset, .unset] [(.ref rs)]))
    refine Owes.go ?_ fun t₀ k₀ => XS.bipush X168.here hx rfl (hb hby at_230) k₀
    show Owes _ _ _ _ (T168.setTop (mkF m 232 #[.val (.int p0), .val (.int p1), .val (.int p2), .val (.int p3), .val (.int nI), .val (.int pm), .val (.ref ro), .val (.int sa), .val (.int sb), .val (.int sc), .val (.ref rf), .val (.ref rs), .unset, .unset, .unset, .unset] [(.int (64 : Int32)), (.ref rs)]))
    refine Owes.go ?_ fun t₀ k₀ => XS.iloadN X168.here hx rfl (hb hby at_232) rfl k₀
    show Owes _ _ _ _ (T168.setTop (mkF m 233 #[.val (.int p0), .val (.int p1), .val (.int p2), .val (.int p3), .val (.int nI), .val (.int pm), .val (.ref ro), .val (.int sa), .val (.int sb), .val (.int sc), .val (.ref rf), .val (.ref rs), .unset, .unset, .unset, .unset] [(.int p1), (.int (64 : Int32)), (.ref rs)]))
    refine Owes.go ?_ fun t₀ k₀ => XS.bipush X168.here hx rfl (hb hby at_233) k₀
    show Owes _ _ _ _ (T168.setTop (mkF m 235 #[.val (.int p0), .val (.int p1), .val (.int p2), .val (.int p3), .val (.int nI), .val (.int pm), .val (.ref ro), .val (.int sa), .val (.int sb), .val (.int sc), .val (.ref rf), .val (.ref rs), .unset, .unset, .unset, .unset] [(.int (10 : Int32)), (.int p1), (.int (64 : Int32)), (.ref rs)]))
    refine Owes.go ?_ fun t₀ k₀ => XS.iushr X168.here hx rfl (hb hby at_235) rfl k₀
    show Owes _ _ _ _ (T168.setTop (mkF m 236 #[.val (.int p0), .val (.int p1), .val (.int p2), .val (.int p3), .val (.int nI), .val (.int pm), .val (.ref ro), .val (.int sa), .val (.int sb), .val (.int sc), .val (.ref rf), .val (.ref rs), .unset, .unset, .unset, .unset] [(.int ((p1.toUInt32 >>> ((10 : Int32) &&& 31).toUInt32).toInt32)), (.int (64 : Int32)), (.ref rs)]))
    refine Owes.go ?_ fun t₀ k₀ => XS.iconst X168.here hx rfl (hb hby at_236) k₀
    show Owes _ _ _ _ (T168.setTop (mkF m 237 #[.val (.int p0), .val (.int p1), .val (.int p2), .val (.int p3), .val (.int nI), .val (.int pm), .val (.ref ro), .val (.int sa), .val (.int sb), .val (.int sc), .val (.ref rf), .val (.ref rs), .unset, .unset, .unset, .unset] [(.int (3 : Int32)), (.int ((p1.toUInt32 >>> ((10 : Int32) &&& 31).toUInt32).toInt32)), (.int (64 : Int32)), (.ref rs)]))
    refine Owes.go ?_ fun t₀ k₀ => XS.iand X168.here hx rfl (hb hby at_237) rfl k₀
    show Owes _ _ _ _ (T168.setTop (mkF m 238 #[.val (.int p0), .val (.int p1), .val (.int p2), .val (.int p3), .val (.int nI), .val (.int pm), .val (.ref ro), .val (.int sa), .val (.int sb), .val (.int sc), .val (.ref rf), .val (.ref rs), .unset, .unset, .unset, .unset] [(.int (((p1.toUInt32 >>> ((10 : Int32) &&& 31).toUInt32).toInt32) &&& (3 : Int32))), (.int (64 : Int32)), (.ref rs)]))
    refine Owes.go ?_ fun t₀ k₀ => XS.iload X168.here hx rfl (hb hby at_238) rfl k₀
    show Owes _ _ _ _ (T168.setTop (mkF m 240 #[.val (.int p0), .val (.int p1), .val (.int p2), .val (.int p3), .val (.int nI), .val (.int pm), .val (.ref ro), .val (.int sa), .val (.int sb), .val (.int sc), .val (.ref rf), .val (.ref rs), .unset, .unset, .unset, .unset] [(.int nI), (.int (((p1.toUInt32 >>> ((10 : Int32) &&& 31).toUInt32).toInt32) &&& (3 : Int32))), (.int (64 : Int32)), (.ref rs)]))
    refine Owes.go ?_ fun t₀ k₀ => Jvm.RoadKit.iremM X168 hx rfl (hb hby at_240) rfl (own_nz hn hn1) k₀
    show Owes _ _ _ _ (T168.setTop (mkF m 241 #[.val (.int p0), .val (.int p1), .val (.int p2), .val (.int p3), .val (.int nI), .val (.int pm), .val (.ref ro), .val (.int sa), .val (.int sb), .val (.int sc), .val (.ref rf), .val (.ref rs), .unset, .unset, .unset, .unset] [(.int ((((p1.toUInt32 >>> ((10 : Int32) &&& 31).toUInt32).toInt32) &&& (3 : Int32)) % nI)), (.int (64 : Int32)), (.ref rs)]))
    refine Owes.sB X168 hx hZ e168 B_rs_168 (i := 64) rfl (by decide) (own_md _ hn hn1) (hb hby at_241) ?_
    intro T169 h169 X169 e169 W169 B169
    have B_ro_169 := BA.other B_ro_168 W169 (Nat.ne_of_lt lt_ro_rs)
    have B_rf_169 := BA.other B168 W169 (Nat.ne_of_lt lt_rf_rs)
    have N169 := Fr.snoc X169 N168 gn_rs
    have ZZ169 : n0 ≤ h169.size := Nat.le_trans ZZ168 (Nat.le_of_eq W169.size.symm)
    show Owes _ _ _ _ (T169.setTop (mkF m 242 #[.val (.int p0), .val (.int p1), .val (.int p2), .val (.int p3), .val (.int nI), .val (.int pm), .val (.ref ro), .val (.int sa), .val (.int sb), .val (.int sc), .val (.ref rf), .val (.ref rs), .unset, .unset, .unset, .unset] []))
    refine Owes.newO X169 hx hZ hown (hw _ (List.mem_of_getElem? (i := 5) rfl)) (hw _ (List.mem_of_getElem? (i := 6) rfl)) (hw _ (List.mem_of_getElem? (i := 7) rfl)) e169 (hb hby at_242) (by decide) (by decide) ?_
    intro T170 h170 X170 e170 E170 A170 D170
    obtain ⟨r0, gr0⟩ : ∃ z, z = h169.size := ⟨_, rfl⟩
    rw [← gr0] at A170 ⊢
    have F_size : Fld Z h170 r0 "com/example/slotwright/slotwright/core/TriedSlots" "size" "I" (.int (0 : Int32)) := by rw [gr0]; exact D170 (Or.inr (hw _ (List.mem_of_getElem? (i := 17) rfl))) (ty := .int) (by decide)
    have F_tried : Fld Z h170 r0 "com/example/slotwright/slotwright/core/TriedSlots" "tried" "[J" .null := by rw [gr0]; exact D170 (Or.inr (hw _ (List.mem_of_getElem? (i := 20) rfl))) (ty := (.array .long)) (by decide)
    have F_joiningFrom : Fld Z h170 r0 "com/example/slotwright/slotwright/core/TriedSlots" "joiningFrom" "[I" .null := by rw [gr0]; exact D170 (Or.inr (hw _ (List.mem_of_getElem? (i := 22) rfl))) (ty := (.array .int)) (by decide)
    have F_joining : Fld Z h170 r0 "com/example/slotwright/slotwright/core/TriedSlots" "joining" "[I" .null := by rw [gr0]; exact D170 (Or.inr (hw _ (List.mem_of_getElem? (i := 26) rfl))) (ty := (.array .int)) (by decide)
    have F_leavingFrom : Fld Z h170 r0 "com/example/slotwright/slotwright/core/TriedSlots" "leavingFrom" "[I" .null := by rw [gr0]; exact D170 (Or.inr (hw _ (List.mem_of_getElem? (i := 24) rfl))) (ty := (.array .int)) (by decide)
    have F_leaving : Fld Z h170 r0 "com/example/slotwright/slotwright/core/TriedSlots" "leaving" "[I" .null := by rw [gr0]; exact D170 (Or.inr (hw _ (List.mem_of_getElem? (i := 28) rfl))) (ty := (.array .int)) (by decide)
    have F_reached : Fld Z h170 r0 "com/example/slotwright/slotwright/core/TriedSlots" "reached" "I" (.int (0 : Int32)) := by rw [gr0]; exact D170 (Or.inl (hw _ (List.mem_of_getElem? (i := 15) rfl))) (ty := .int) (by decide)
    have gn_r0 : n0 ≤ r0 := by rw [gr0]; exact ZZ169
    have lt_ro_r0 : ro < r0 := by rw [gr0]; exact (B_ro_169).lt
    have lt_rf_r0 : rf < r0 := by rw [gr0]; exact (B_rf_169).lt
    have lt_rs_r0 : rs < r0 := by rw [gr0]; exact (B169).lt
    have B_ro_170 := BA.ext B_ro_169 E170
    have B_rf_170 := BA.ext B_rf_169 E170
    have B_rs_170 := BA.ext B169 E170
    have ZZ170 := Nat.le_trans ZZ169 E170.1
    show Owes _ _ _ _ (T170.setTop (mkF m 245 #[.val (.int p0), .val (.int p1), .val (.int p2), .val (.int p3), .val (.int nI), .val (.int pm), .val (.ref ro), .val (.int sa), .val (.int sb), .val (.int sc), .val (.ref rf), .val (.ref rs), .unset, .unset, .unset, .unset] [(.ref r0)]))
    refine Owes.go ?_ fun t₀ k₀ => XS.dup X170.here hx rfl (hb hby at_245) rfl rfl k₀
    show Owes _ _ _ _ (T170.setTop (mkF m 246 #[.val (.int p0), .val (.int p1), .val (.int p2), .val (.int p3), .val (.int nI), .val (.int pm), .val (.ref ro), .val (.int sa), .val (.int sb), .val (.int sc), .val (.ref rf), .val (.ref rs), .unset, .unset, .unset, .unset] [(.ref r0), (.ref r0)]))
    refine Owes.go ?_ fun t₀ k₀ => XS.aload X170.here hx rfl (hb hby at_246) rfl rfl k₀
    show Owes _ _ _ _ (T170.setTop (mkF m 248 #[.val (.int p0), .val (.int p1), .val (.int p2), .val (.int p3), .val (.int nI), .val (.int pm), .val (.ref ro), .val (.int sa), .val (.int sb), .val (.int sc), .val (.ref rf), .val (.ref rs), .unset, .unset, .unset, .unset] [(.ref ro), (.ref r0), (.ref r0)]))
    refine Owes.go ?_ fun t₀ k₀ => XS.aload X170.here hx rfl (hb hby at_248) rfl rfl k₀
    show Owes _ _ _ _ (T170.setTop (mkF m 250 #[.val (.int p0), .val (.int p1), .val (.int p2), .val (.int p3), .val (.int nI), .val (.int pm), .val (.ref ro), .val (.int sa), .val (.int sb), .val (.int sc), .val (.ref rf), .val (.ref rs), .unset, .unset, .unset, .unset] [(.ref rf), (.ref ro), (.ref r0), (.ref r0)]))
    refine Owes.go ?_ fun t₀ k₀ => XS.aload X170.here hx rfl (hb hby at_250) rfl rfl k₀
    show Owes _ _ _ _ (T170.setTop (mkF m 252 #[.val (.int p0), .val (.int p1), .val (.int p2), .val (.int p3), .val (.int nI), .val (.int pm), .val (.ref ro), .val (.int sa), .val (.int sb), .val (.int sc), .val (.ref rf), .val (.ref rs), .unset, .unset, .unset, .unset] [(.ref rs), (.ref rf), (.ref ro), (.ref r0), (.ref r0)]))
    refine Owes.go ?_ fun t₀ k₀ => XS.iload X170.here hx rfl (hb hby at_252) rfl k₀
    show Owes _ _ _ _ (T170.setTop (mkF m 254 #[.val (.int p0), .val (.int p1), .val (.int p2), .val (.int p3), .val (.int nI), .val (.int pm), .val (.ref ro), .val (.int sa), .val (.int sb), .val (.int sc), .val (.ref rf), .val (.ref rs), .unset, .unset, .unset, .unset] [(.int nI), (.ref rs), (.ref rf), (.ref ro), (.ref r0), (.ref r0)]))
    obtain ⟨O, GO, hO⟩ := B_ro_170
    obtain ⟨Fa, GF, hF⟩ := B_rf_170
    obtain ⟨Sl, GS, hS⟩ := B_rs_170
    refine Owes.callC X170 hx hZ rfl hown (hw _ (List.mem_of_getElem? (i := 8) rfl)) (hw _ (List.mem_of_getElem? (i := 9) rfl)) (hw _ (List.mem_of_getElem? (i := 7) rfl)) (hw _ (List.mem_of_getElem? (i := 10) rfl)) (by decide) (a := r0) (argsL := [(.ref ro), (.ref rf), (.ref rs), (.int nI)]) (rest := [(.ref r0)]) (rm_init l Z a0 hw [] r0 ro rf rs nI h170 n0 ZZ170 gn_r0 A170 F_size F_tried F_joiningFrom F_joining F_leavingFrom F_leaving F_reached O Fa Sl GO GF GS n hO hF hS hn hn1 hn4) e170 (by rw [hml]; rfl) pd_4 rfl rfl (hb hby at_254) (by decide) (Nat.le_of_ble_eq_true rfl) (by decide) (by decide) ?_
    rintro T171 v171 L171 X171 ⟨rfl, N171, K171, tr, jf, jo, lf, le, gj, gl, JF, G, LF, H, F171, gtr, TB⟩
    have NF171 := Fr.app N169 N171
    replace GO := GO.keep K171 (own_ni1 (Nat.ne_of_lt lt_ro_r0))
    replace GF := GF.keep K171 (own_ni1 (Nat.ne_of_lt lt_rf_r0))
    replace GS := GS.keep K171 (own_ni1 (Nat.ne_of_lt lt_rs_r0))
    have hkl := fun i (hi : i < 65) => own_kJL (Sl := Sl) hn4 hO hF hi
    show Owes _ _ _ _ (T171.setTop (mkF m 257 #[.val (.int p0), .val (.int p1), .val (.int p2), .val (.int p3), .val (.int nI), .val (.int pm), .val (.ref ro), .val (.int sa), .val (.int sb), .val (.int sc), .val (.ref rf), .val (.ref rs), .unset, .unset, .unset, .unset] [(.ref r0)]))
    refine Owes.go ?_ fun t₀ k₀ => XS.astore X171.here hx rfl (hb hby at_257) rfl rfl (l' := #[.val (.int p0), .val (.int p1), .val (.int p2), .val (.int p3), .val (.int nI), .val (.int pm), .val (.ref ro), .val (.int sa), .val (.int sb), .val (.int sc), .val (.ref rf), .val (.ref rs), .val (.ref r0), .unset, .unset, .unset]) rfl k₀
    show Owes _ _ _ _ (T171.setTop (mkF m 259 #[.val (.int p0), .val (.int p1), .val (.int p2), .val (.int p3), .val (.int nI), .val (.int pm), .val (.ref ro), .val (.int sa), .val (.int sb), .val (.int sc), .val (.ref rf), .val (.ref rs), .val (.ref r0), .unset, .unset, .unset] []))
    refine Owes.go ?_ fun t₀ k₀ => XS.iloadN X171.here hx rfl (hb hby at_259) rfl k₀
    show Owes _ _ _ _ (T171.setTop (mkF m 260 #[.val (.int p0), .val (.int p1), .val (.int p2), .val (.int p3), .val (.int nI), .val (.int pm), .val (.ref ro), .val (.int sa), .val (.int sb), .val (.int sc), .val (.ref rf), .val (.ref rs), .val (.ref r0), .unset, .unset, .unset] [(.int p2)]))
    refine Owes.go ?_ fun t₀ k₀ => X171.ldcInt hx hown (mvT hZ (hw _ (List.mem_of_getElem? (i := 38) rfl))) (g := (mkF m 260 #[.val (.int p0), .val (.int p1), .val (.int p2), .val (.int p3), .val (.int nI), .val (.int pm), .val (.ref ro), .val (.int sa), .val (.int sb), .val (.int sc), .val (.ref rf), .val (.ref rs), .val (.ref r0), .unset, .unset, .unset] [(.int p2)])) rfl (hb hby at_260) _ k₀
    show Owes _ _ _ _ (T171.setTop (mkF m 262 #[.val (.int p0), .val (.int p1), .val (.int p2), .val (.int p3), .val (.int nI), .val (.int pm), .val (.ref ro), .val (.int sa), .val (.int sb), .val (.int sc), .val (.ref rf), .val (.ref rs), .val (.ref r0), .unset, .unset, .unset] [(.int (2147483647 : Int32)), (.int p2)]))
    refine Owes.go ?_ fun t₀ k₀ => XS.iand X171.here hx rfl (hb hby at_262) rfl k₀
    show Owes _ _ _ _ (T171.setTop (mkF m 263 #[.val (.int p0), .val (.int p1), .val (.int p2), .val (.int p3), .val (.int nI), .val (.int pm), .val (.ref ro), .val (.int sa), .val (.int sb), .val (.int sc), .val (.ref rf), .val (.ref rs), .val (.ref r0), .unset, .unset, .unset] [(.int (p2 &&& (2147483647 : Int32)))]))
    refine Owes.go ?_ fun t₀ k₀ => XS.iload X171.here hx rfl (hb hby at_263) rfl k₀
    show Owes _ _ _ _ (T171.setTop (mkF m 265 #[.val (.int p0), .val (.int p1), .val (.int p2), .val (.int p3), .val (.int nI), .val (.int pm), .val (.ref ro), .val (.int sa), .val (.int sb), .val (.int sc), .val (.ref rf), .val (.ref rs), .val (.ref r0), .unset, .unset, .unset] [(.int nI), (.int (p2 &&& (2147483647 : Int32)))]))
    refine Owes.go ?_ fun t₀ k₀ => Jvm.RoadKit.iremM X171 hx rfl (hb hby at_265) rfl (own_nz hn hn1) k₀
    show Owes _ _ _ _ (T171.setTop (mkF m 266 #[.val (.int p0), .val (.int p1), .val (.int p2), .val (.int p3), .val (.int nI), .val (.int pm), .val (.ref ro), .val (.int sa), .val (.int sb), .val (.int sc), .val (.ref rf), .val (.ref rs), .val (.ref r0), .unset, .unset, .unset] [(.int ((p2 &&& (2147483647 : Int32)) % nI))]))
    refine Owes.go ?_ fun t₀ k₀ => XS.istore X171.here hx rfl (hb hby at_266) rfl (l' := #[.val (.int p0), .val (.int p1), .val (.int p2), .val (.int p3), .val (.int nI), .val (.int pm), .val (.ref ro), .val (.int sa), .val (.int sb), .val (.int sc), .val (.ref rf), .val (.ref rs), .val (.ref r0), .val (.int ((p2 &&& (2147483647 : Int32)) % nI)), .unset, .unset]) rfl k₀
    show Owes _ _ _ _ (T171.setTop (mkF m 268 #[.val (.int p0), .val (.int p1), .val (.int p2), .val (.int p3), .val (.int nI), .val (.int pm), .val (.ref ro), .val (.int sa), .val (.int sb), .val (.int sc), .val (.ref rf), .val (.ref rs), .val (.ref r0), .val (.int ((p2 &&& (2147483647 : Int32)) % nI)), .unset, .unset] []))
    obtain ⟨a, ha, han⟩ := own_mm p2 hn hn1
    generalize ((p2 &&& (2147483647 : Int32)) % nI) = pA at *
    refine Owes.go ?_ fun t₀ k₀ => XS.iload X171.here hx rfl (hb hby at_268) rfl k₀
    show Owes _ _ _ _ (T171.setTop (mkF m 270 #[.val (.int p0), .val (.int p1), .val (.int p2), .val (.int p3), .val (.int nI), .val (.int pm), .val (.ref ro), .val (.int sa), .val (.int sb), .val (.int sc), .val (.ref rf), .val (.ref rs), .val (.ref r0), .val (.int pA), .unset, .unset] [(.int pA)]))
    refine Owes.go ?_ fun t₀ k₀ => XS.iloadN X171.here hx rfl (hb hby at_270) rfl k₀
    show Owes _ _ _ _ (T171.setTop (mkF m 271 #[.val (.int p0), .val (.int p1), .val (.int p2), .val (.int p3), .val (.int nI), .val (.int pm), .val (.ref ro), .val (.int sa), .val (.int sb), .val (.int sc), .val (.ref rf), .val (.ref rs), .val (.ref r0), .val (.int pA), .unset, .unset] [(.int p3), (.int pA)]))
    refine Owes.go ?_ fun t₀ k₀ => X171.ldcInt hx hown (mvT hZ (hw _ (List.mem_of_getElem? (i := 38) rfl))) (g := (mkF m 271 #[.val (.int p0), .val (.int p1), .val (.int p2), .val (.int p3), .val (.int nI), .val (.int pm), .val (.ref ro), .val (.int sa), .val (.int sb), .val (.int sc), .val (.ref rf), .val (.ref rs), .val (.ref r0), .val (.int pA), .unset, .unset] [(.int p3), (.int pA)])) rfl (hb hby at_271) _ k₀
    show Owes _ _ _ _ (T171.setTop (mkF m 273 #[.val (.int p0), .val (.int p1), .val (.int p2), .val (.int p3), .val (.int nI), .val (.int pm), .val (.ref ro), .val (.int sa), .val (.int sb), .val (.int sc), .val (.ref rf), .val (.ref rs), .val (.ref r0), .val (.int pA), .unset, .unset] [(.int (2147483647 : Int32)), (.int p3), (.int pA)]))
    refine Owes.go ?_ fun t₀ k₀ => XS.iand X171.here hx rfl (hb hby at_273) rfl k₀
    show Owes _ _ _ _ (T171.setTop (mkF m 274 #[.val (.int p0), .val (.int p1), .val (.int p2), .val (.int p3), .val (.int nI), .val (.int pm), .val (.ref ro), .val (.int sa), .val (.int sb), .val (.int sc), .val (.ref rf), .val (.ref rs), .val (.ref r0), .val (.int pA), .unset, .unset] [(.int (p3 &&& (2147483647 : Int32))), (.int pA)]))
    refine Owes.go ?_ fun t₀ k₀ => XS.iload X171.here hx rfl (hb hby at_274) rfl k₀
    show Owes _ _ _ _ (T171.setTop (mkF m 276 #[.val (.int p0), .val (.int p1), .val (.int p2), .val (.int p3), .val (.int nI), .val (.int pm), .val (.ref ro), .val (.int sa), .val (.int sb), .val (.int sc), .val (.ref rf), .val (.ref rs), .val (.ref r0), .val (.int pA), .unset, .unset] [(.int nI), (.int (p3 &&& (2147483647 : Int32))), (.int pA)]))
    refine Owes.go ?_ fun t₀ k₀ => Jvm.RoadKit.iremM X171 hx rfl (hb hby at_276) rfl (own_nz hn hn1) k₀
    show Owes _ _ _ _ (T171.setTop (mkF m 277 #[.val (.int p0), .val (.int p1), .val (.int p2), .val (.int p3), .val (.int nI), .val (.int pm), .val (.ref ro), .val (.int sa), .val (.int sb), .val (.int sc), .val (.ref rf), .val (.ref rs), .val (.ref r0), .val (.int pA), .unset, .unset] [(.int ((p3 &&& (2147483647 : Int32)) % nI)), (.int pA)]))
    refine Owes.callS X171 hx hZ hown (hw _ (List.mem_of_getElem? (i := 39) rfl)) (hw _ (List.mem_of_getElem? (i := 40) rfl)) (hw _ (List.mem_of_getElem? (i := 41) rfl)) (hw _ (List.mem_of_getElem? (i := 42) rfl)) (by decide) (argsL := [(.int pA), (.int ((p3 &&& (2147483647 : Int32)) % nI))]) (rest := []) (rm_f_max l Z a0 hw [] pA ((p3 &&& (2147483647 : Int32)) % nI) T171.heap ) rfl (by rw [hml]; rfl) pd_5 rfl rfl (hb hby at_277) (by decide) (Nat.le_of_ble_eq_true rfl) (by decide) (by decide) ?_
    rintro T172 _ _ X172 ⟨rfl, rfl, e172⟩
    rw [List.append_nil] at X172
    show Owes _ _ _ _ (T172.setTop (mkF m 280 #[.val (.int p0), .val (.int p1), .val (.int p2), .val (.int p3), .val (.int nI), .val (.int pm), .val (.ref ro), .val (.int sa), .val (.int sb), .val (.int sc), .val (.ref rf), .val (.ref rs), .val (.ref r0), .val (.int pA), .unset, .unset] [(.int (f_max pA ((p3 &&& (2147483647 : Int32)) % nI)))]))
    refine Owes.go ?_ fun t₀ k₀ => XS.istore X172.here hx rfl (hb hby at_280) rfl (l' := #[.val (.int p0), .val (.int p1), .val (.int p2), .val (.int p3), .val (.int nI), .val (.int pm), .val (.ref ro), .val (.int sa), .val (.int sb), .val (.int sc), .val (.ref rf), .val (.ref rs), .val (.ref r0), .val (.int pA), .val (.int (f_max pA ((p3 &&& (2147483647 : Int32)) % nI))), .unset]) rfl k₀
    show Owes _ _ _ _ (T172.setTop (mkF m 282 #[.val (.int p0), .val (.int p1), .val (.int p2), .val (.int p3), .val (.int nI), .val (.int pm), .val (.ref ro), .val (.int sa), .val (.int sb), .val (.int sc), .val (.ref rf), .val (.ref rs), .val (.ref r0), .val (.int pA), .val (.int (f_max pA ((p3 &&& (2147483647 : Int32)) % nI))), .unset] []))
    obtain ⟨b2, hb2, hbn2⟩ := own_mm p3 hn hn1
    obtain ⟨b', hb', hbn, hab⟩ := own_mx ha hb2 han hbn2
    generalize (f_max pA ((p3 &&& (2147483647 : Int32)) % nI)) = pB at *
    refine Owes.go ?_ fun t₀ k₀ => XS.aload X172.here hx rfl (hb hby at_282) rfl rfl k₀
    show Owes _ _ _ _ (T172.setTop (mkF m 284 #[.val (.int p0), .val (.int p1), .val (.int p2), .val (.int p3), .val (.int nI), .val (.int pm), .val (.ref ro), .val (.int sa), .val (.int sb), .val (.int sc), .val (.ref rf), .val (.ref rs), .val (.ref r0), .val (.int pA), .val (.int pB), .unset] [(.ref r0)]))
    refine Owes.go ?_ fun t₀ k₀ => XS.iload X172.here hx rfl (hb hby at_284) rfl k₀
    show Owes _ _ _ _ (T172.setTop (mkF m 286 #[.val (.int p0), .val (.int p1), .val (.int p2), .val (.int p3), .val (.int nI), .val (.int pm), .val (.ref ro), .val (.int sa), .val (.int sb), .val (.int sc), .val (.ref rf), .val (.ref rs), .val (.ref r0), .val (.int pA), .val (.int pB), .unset] [(.int pA), (.ref r0)]))
    refine Owes.callV X172 hx hZ hown (hw _ (List.mem_of_getElem? (i := 43) rfl)) (hw _ (List.mem_of_getElem? (i := 44) rfl)) (notFace_of_selects (args := #[]) (mvT hZ (hw _ (List.mem_of_getElem? (i := 46) rfl)))) (hw _ (List.mem_of_getElem? (i := 46) rfl)) (hw _ (List.mem_of_getElem? (i := 45) rfl)) (hw _ (List.mem_of_getElem? (i := 7) rfl)) (hw _ (List.mem_of_getElem? (i := 47) rfl)) (by decide) (a := r0) (argsL := [(.int pA)]) (rest := []) (rm_reach l Z a0 hw [] r0 pA T171.heap tr jf jo lf le n gj gl (fun _ => 0) JF G LF H (-1 : Int32) F171 n0 gtr gn_r0 (kJ O Fa Sl) (kL O Fa Sl n) TB hkl 0 rfl (own_b0 _ _) a ha han (by omega) hn4) e172 F171.1 (by rw [hml]; rfl) pd_6 rfl rfl (hb hby at_286) (by decide) (Nat.le_of_ble_eq_true rfl) (by decide) (by decide) ?_
    rintro T173 v173 L173 X173 ⟨rfl, N173, K173, T_173, F173, HB173⟩
    have NF173 := Fr.app NF171 N173
    replace GO := GO.keep K173 (own_ni2 (GA.ne GO F171.2.2.2.2.2.2.2.2.1 (by decide)) (Nat.ne_of_lt lt_ro_r0))
    replace GF := GF.keep K173 (own_ni2 (GA.ne GF F171.2.2.2.2.2.2.2.2.1 (by decide)) (Nat.ne_of_lt lt_rf_r0))
    replace GS := GS.keep K173 (own_ni2 (GA.ne GS F171.2.2.2.2.2.2.2.2.1 (by decide)) (Nat.ne_of_lt lt_rs_r0))
    show Owes _ _ _ _ (T173.setTop (mkF m 289 #[.val (.int p0), .val (.int p1), .val (.int p2), .val (.int p3), .val (.int nI), .val (.int pm), .val (.ref ro), .val (.int sa), .val (.int sb), .val (.int sc), .val (.ref rf), .val (.ref rs), .val (.ref r0), .val (.int pA), .val (.int pB), .unset] []))
    refine Owes.go ?_ fun t₀ k₀ => XS.aload X173.here hx rfl (hb hby at_289) rfl rfl k₀
    show Owes _ _ _ _ (T173.setTop (mkF m 291 #[.val (.int p0), .val (.int p1), .val (.int p2), .val (.int p3), .val (.int nI), .val (.int pm), .val (.ref ro), .val (.int sa), .val (.int sb), .val (.int sc), .val (.ref rf), .val (.ref rs), .val (.ref r0), .val (.int pA), .val (.int pB), .unset] [(.ref r0)]))
    refine Owes.go ?_ fun t₀ k₀ => XS.aload X173.here hx rfl (hb hby at_291) rfl rfl k₀
    show Owes _ _ _ _ (T173.setTop (mkF m 293 #[.val (.int p0), .val (.int p1), .val (.int p2), .val (.int p3), .val (.int nI), .val (.int pm), .val (.ref ro), .val (.int sa), .val (.int sb), .val (.int sc), .val (.ref rf), .val (.ref rs), .val (.ref r0), .val (.int pA), .val (.int pB), .unset] [(.ref ro), (.ref r0)]))
    refine Owes.go ?_ fun t₀ k₀ => XS.aload X173.here hx rfl (hb hby at_293) rfl rfl k₀
    show Owes _ _ _ _ (T173.setTop (mkF m 295 #[.val (.int p0), .val (.int p1), .val (.int p2), .val (.int p3), .val (.int nI), .val (.int pm), .val (.ref ro), .val (.int sa), .val (.int sb), .val (.int sc), .val (.ref rf), .val (.ref rs), .val (.ref r0), .val (.int pA), .val (.int pB), .unset] [(.ref rf), (.ref ro), (.ref r0)]))
    refine Owes.go ?_ fun t₀ k₀ => XS.aload X173.here hx rfl (hb hby at_295) rfl rfl k₀
    show Owes _ _ _ _ (T173.setTop (mkF m 297 #[.val (.int p0), .val (.int p1), .val (.int p2), .val (.int p3), .val (.int nI), .val (.int pm), .val (.ref ro), .val (.int sa), .val (.int sb), .val (.int sc), .val (.ref rf), .val (.ref rs), .val (.ref r0), .val (.int pA), .val (.int pB), .unset] [(.ref rs), (.ref rf), (.ref ro), (.ref r0)]))
    refine Owes.go ?_ fun t₀ k₀ => XS.iload X173.here hx rfl (hb hby at_297) rfl k₀
    show Owes _ _ _ _ (T173.setTop (mkF m 299 #[.val (.int p0), .val (.int p1), .val (.int p2), .val (.int p3), .val (.int nI), .val (.int pm), .val (.ref ro), .val (.int sa), .val (.int sb), .val (.int sc), .val (.ref rf), .val (.ref rs), .val (.ref r0), .val (.int pA), .val (.int pB), .unset] [(.int pA), (.ref rs), (.ref rf), (.ref ro), (.ref r0)]))
    refine Owes.callS X173 hx hZ hown (hw _ (List.mem_of_getElem? (i := 48) rfl)) (hw _ (List.mem_of_getElem? (i := 49) rfl)) (hw _ (List.mem_of_getElem? (i := 2) rfl)) (hw _ (List.mem_of_getElem? (i := 50) rfl)) (by decide) (argsL := [(.ref r0), (.ref ro), (.ref rf), (.ref rs), (.int pA)]) (rest := []) (rm_agrees l Z a0 hw [] r0 ro rf rs pA T173.heap tr jf jo lf le n gj gl T_173 JF G LF H pA F173 O Fa Sl GO GF GS hO a ha (fun i hi => (HB173 i hi).trans (own_on hn4 hO hF hi han))) rfl (by rw [hml]; rfl) pd_7 rfl rfl (hb hby at_299) (by decide) (Nat.le_of_ble_eq_true rfl) (by decide) (by decide) ?_
    rintro T174 _ _ X174 ⟨rfl, rfl, e174⟩
    rw [List.append_nil] at X174
    show Owes _ _ _ _ (T174.setTop (mkF m 302 #[.val (.int p0), .val (.int p1), .val (.int p2), .val (.int p3), .val (.int nI), .val (.int pm), .val (.ref ro), .val (.int sa), .val (.int sb), .val (.int sc), .val (.ref rf), .val (.ref rs), .val (.ref r0), .val (.int pA), .val (.int pB), .unset] [(.int (1 : Int32))]))
    refine Owes.go ?_ fun t₀ k₀ => XS.istore X174.here hx rfl (hb hby at_302) rfl (l' := #[.val (.int p0), .val (.int p1), .val (.int p2), .val (.int p3), .val (.int nI), .val (.int pm), .val (.ref ro), .val (.int sa), .val (.int sb), .val (.int sc), .val (.ref rf), .val (.ref rs), .val (.ref r0), .val (.int pA), .val (.int pB), .val (.int (1 : Int32))]) rfl k₀
    show Owes _ _ _ _ (T174.setTop (mkF m 304 #[.val (.int p0), .val (.int p1), .val (.int p2), .val (.int p3), .val (.int nI), .val (.int pm), .val (.ref ro), .val (.int sa), .val (.int sb), .val (.int sc), .val (.ref rf), .val (.ref rs), .val (.ref r0), .val (.int pA), .val (.int pB), .val (.int (1 : Int32))] []))
    refine Owes.go ?_ fun t₀ k₀ => XS.aload X174.here hx rfl (hb hby at_304) rfl rfl k₀
    show Owes _ _ _ _ (T174.setTop (mkF m 306 #[.val (.int p0), .val (.int p1), .val (.int p2), .val (.int p3), .val (.int nI), .val (.int pm), .val (.ref ro), .val (.int sa), .val (.int sb), .val (.int sc), .val (.ref rf), .val (.ref rs), .val (.ref r0), .val (.int pA), .val (.int pB), .val (.int (1 : Int32))] [(.ref r0)]))
    refine Owes.go ?_ fun t₀ k₀ => XS.iload X174.here hx rfl (hb hby at_306) rfl k₀
    show Owes _ _ _ _ (T174.setTop (mkF m 308 #[.val (.int p0), .val (.int p1), .val (.int p2), .val (.int p3), .val (.int nI), .val (.int pm), .val (.ref ro), .val (.int sa), .val (.int sb), .val (.int sc), .val (.ref rf), .val (.ref rs), .val (.ref r0), .val (.int pA), .val (.int pB), .val (.int (1 : Int32))] [(.int pB), (.ref r0)]))
    refine Owes.callV X174 hx hZ hown (hw _ (List.mem_of_getElem? (i := 43) rfl)) (hw _ (List.mem_of_getElem? (i := 44) rfl)) (notFace_of_selects (args := #[]) (mvT hZ (hw _ (List.mem_of_getElem? (i := 46) rfl)))) (hw _ (List.mem_of_getElem? (i := 46) rfl)) (hw _ (List.mem_of_getElem? (i := 45) rfl)) (hw _ (List.mem_of_getElem? (i := 7) rfl)) (hw _ (List.mem_of_getElem? (i := 47) rfl)) (by decide) (a := r0) (argsL := [(.int pB)]) (rest := []) (rm_reach l Z a0 hw [] r0 pB T173.heap tr jf jo lf le n gj gl T_173 JF G LF H pA F173 n0 gtr gn_r0 (kJ O Fa Sl) (kL O Fa Sl n) TB hkl (a + 1) (by rw [ha]; omega) HB173 b' hb' hbn (by omega) hn4) e174 F173.1 (by rw [hml]; rfl) pd_6 rfl rfl (hb hby at_308) (by decide) (Nat.le_of_ble_eq_true rfl) (by decide) (by decide) ?_
    rintro T175 v175 L175 X175 ⟨rfl, N175, K175, T_175, F175, HB175⟩
    have NF175 := Fr.app NF173 N175
    replace GO := GO.keep K175 (own_ni2 (GA.ne GO F173.2.2.2.2.2.2.2.2.1 (by decide)) (Nat.ne_of_lt lt_ro_r0))
    replace GF := GF.keep K175 (own_ni2 (GA.ne GF F173.2.2.2.2.2.2.2.2.1 (by decide)) (Nat.ne_of_lt lt_rf_r0))
    replace GS := GS.keep K175 (own_ni2 (GA.ne GS F173.2.2.2.2.2.2.2.2.1 (by decide)) (Nat.ne_of_lt lt_rs_r0))
    show Owes _ _ _ _ (T175.setTop (mkF m 311 #[.val (.int p0), .val (.int p1), .val (.int p2), .val (.int p3), .val (.int nI), .val (.int pm), .val (.ref ro), .val (.int sa), .val (.int sb), .val (.int sc), .val (.ref rf), .val (.ref rs), .val (.ref r0), .val (.int pA), .val (.int pB), .val (.int (1 : Int32))] []))
    refine Owes.go ?_ fun t₀ k₀ => XS.iload X175.here hx rfl (hb hby at_311) rfl k₀
    show Owes _ _ _ _ (T175.setTop (mkF m 313 #[.val (.int p0), .val (.int p1), .val (.int p2), .val (.int p3), .val (.int nI), .val (.int pm), .val (.ref ro), .val (.int sa), .val (.int sb), .val (.int sc), .val (.ref rf), .val (.ref rs), .val (.ref r0), .val (.int pA), .val (.int pB), .val (.int (1 : Int32))] [(.int (1 : Int32))]))
    refine Owes.go ?_ fun t₀ k₀ => XS.ifNo X175.here hx rfl (hb hby at_313) rfl ((if0 _ _).trans (feq (by decide : ¬ ((1 : Int32) = (0 : Int32)))).1) k₀
    show Owes _ _ _ _ (T175.setTop (mkF m 316 #[.val (.int p0), .val (.int p1), .val (.int p2), .val (.int p3), .val (.int nI), .val (.int pm), .val (.ref ro), .val (.int sa), .val (.int sb), .val (.int sc), .val (.ref rf), .val (.ref rs), .val (.ref r0), .val (.int pA), .val (.int pB), .val (.int (1 : Int32))] []))
    refine Owes.go ?_ fun t₀ k₀ => XS.aload X175.here hx rfl (hb hby at_316) rfl rfl k₀
    show Owes _ _ _ _ (T175.setTop (mkF m 318 #[.val (.int p0), .val (.int p1), .val (.int p2), .val (.int p3), .val (.int nI), .val (.int pm), .val (.ref ro), .val (.int sa), .val (.int sb), .val (.int sc), .val (.ref rf), .val (.ref rs), .val (.ref r0), .val (.int pA), .val (.int pB), .val (.int (1 : Int32))] [(.ref r0)]))
    refine Owes.go ?_ fun t₀ k₀ => XS.aload X175.here hx rfl (hb hby at_318) rfl rfl k₀
    show Owes _ _ _ _ (T175.setTop (mkF m 320 #[.val (.int p0), .val (.int p1), .val (.int p2), .val (.int p3), .val (.int nI), .val (.int pm), .val (.ref ro), .val (.int sa), .val (.int sb), .val (.int sc), .val (.ref rf), .val (.ref rs), .val (.ref r0), .val (.int pA), .val (.int pB), .val (.int (1 : Int32))] [(.ref ro), (.ref r0)]))
    refine Owes.go ?_ fun t₀ k₀ => XS.aload X175.here hx rfl (hb hby at_320) rfl rfl k₀
    show Owes _ _ _ _ (T175.setTop (mkF m 322 #[.val (.int p0), .val (.int p1), .val (.int p2), .val (.int p3), .val (.int nI), .val (.int pm), .val (.ref ro), .val (.int sa), .val (.int sb), .val (.int sc), .val (.ref rf), .val (.ref rs), .val (.ref r0), .val (.int pA), .val (.int pB), .val (.int (1 : Int32))] [(.ref rf), (.ref ro), (.ref r0)]))
    refine Owes.go ?_ fun t₀ k₀ => XS.aload X175.here hx rfl (hb hby at_322) rfl rfl k₀
    show Owes _ _ _ _ (T175.setTop (mkF m 324 #[.val (.int p0), .val (.int p1), .val (.int p2), .val (.int p3), .val (.int nI), .val (.int pm), .val (.ref ro), .val (.int sa), .val (.int sb), .val (.int sc), .val (.ref rf), .val (.ref rs), .val (.ref r0), .val (.int pA), .val (.int pB), .val (.int (1 : Int32))] [(.ref rs), (.ref rf), (.ref ro), (.ref r0)]))
    refine Owes.go ?_ fun t₀ k₀ => XS.iload X175.here hx rfl (hb hby at_324) rfl k₀
    show Owes _ _ _ _ (T175.setTop (mkF m 326 #[.val (.int p0), .val (.int p1), .val (.int p2), .val (.int p3), .val (.int nI), .val (.int pm), .val (.ref ro), .val (.int sa), .val (.int sb), .val (.int sc), .val (.ref rf), .val (.ref rs), .val (.ref r0), .val (.int pA), .val (.int pB), .val (.int (1 : Int32))] [(.int pB), (.ref rs), (.ref rf), (.ref ro), (.ref r0)]))
    refine Owes.callS X175 hx hZ hown (hw _ (List.mem_of_getElem? (i := 48) rfl)) (hw _ (List.mem_of_getElem? (i := 49) rfl)) (hw _ (List.mem_of_getElem? (i := 2) rfl)) (hw _ (List.mem_of_getElem? (i := 50) rfl)) (by decide) (argsL := [(.ref r0), (.ref ro), (.ref rf), (.ref rs), (.int pB)]) (rest := []) (rm_agrees l Z a0 hw [] r0 ro rf rs pB T175.heap tr jf jo lf le n gj gl T_175 JF G LF H pB F175 O Fa Sl GO GF GS hO b' hb' (fun i hi => (HB175 i hi).trans (own_on hn4 hO hF hi hbn))) rfl (by rw [hml]; rfl) pd_7 rfl rfl (hb hby at_326) (by decide) (Nat.le_of_ble_eq_true rfl) (by decide) (by decide) ?_
    rintro T176 _ _ X176 ⟨rfl, rfl, e176⟩
    rw [List.append_nil] at X176
    show Owes _ _ _ _ (T176.setTop (mkF m 329 #[.val (.int p0), .val (.int p1), .val (.int p2), .val (.int p3), .val (.int nI), .val (.int pm), .val (.ref ro), .val (.int sa), .val (.int sb), .val (.int sc), .val (.ref rf), .val (.ref rs), .val (.ref r0), .val (.int pA), .val (.int pB), .val (.int (1 : Int32))] [(.int (1 : Int32))]))
    refine Owes.go ?_ fun t₀ k₀ => XS.ifNo X176.here hx rfl (hb hby at_329) rfl ((if0 _ _).trans (feq (by decide : ¬ ((1 : Int32) = (0 : Int32)))).1) k₀
    show Owes _ _ _ _ (T176.setTop (mkF m 332 #[.val (.int p0), .val (.int p1), .val (.int p2), .val (.int p3), .val (.int nI), .val (.int pm), .val (.ref ro), .val (.int sa), .val (.int sb), .val (.int sc), .val (.ref rf), .val (.ref rs), .val (.ref r0), .val (.int pA), .val (.int pB), .val (.int (1 : Int32))] []))
    refine Owes.go ?_ fun t₀ k₀ => XS.iconst X176.here hx rfl (hb hby at_332) k₀
    show Owes _ _ _ _ (T176.setTop (mkF m 333 #[.val (.int p0), .val (.int p1), .val (.int p2), .val (.int p3), .val (.int nI), .val (.int pm), .val (.ref ro), .val (.int sa), .val (.int sb), .val (.int sc), .val (.ref rf), .val (.ref rs), .val (.ref r0), .val (.int pA), .val (.int pB), .val (.int (1 : Int32))] [(.int (1 : Int32))]))
    refine Owes.go ?_ fun t₀ k₀ => XS.goto X176.here hx rfl (pc0 := 333) (pc' := 337) rfl (hb hby at_333) (by decide) (by decide) k₀
    show Owes _ _ _ _ (T176.setTop (mkF m 337 #[.val (.int p0), .val (.int p1), .val (.int p2), .val (.int p3), .val (.int nI), .val (.int pm), .val (.ref ro), .val (.int sa), .val (.int sb), .val (.int sc), .val (.ref rf), .val (.ref rs), .val (.ref r0), .val (.int pA), .val (.int pB), .val (.int (1 : Int32))] [(.int (1 : Int32))]))
    exact Owes.retN X176 hx hlk hret (by simp) (hb hby at_337) (by decide) (by decide) ⟨rfl, NF175⟩
  refine Owes.go ?_ fun t₀ k₀ => XS.iload X157.here hx rfl (hb hby at_23) rfl k₀
  show Owes _ _ _ _ (T157.setTop (mkF m 25 #[.val (.int p0), .val (.int p1), .val (.int p2), .val (.int p3), .val (.int nI), .val (.int pm), .val (.ref ro), .unset, .unset, .unset, .unset, .unset, .unset, .unset, .unset, .unset] [(.int pm)]))
  by_cases hc1 : pm = (0 : Int32)
  · skip
    refine Owes.go ?_ fun t₀ k₀ => XS.ifNo X157.here hx rfl (hb hby at_25) rfl ((if0 _ _).trans (teq hc1).2) k₀
    show Owes _ _ _ _ (T157.setTop (mkF m 28 #[.val (.int p0), .val (.int p1), .val (.int p2), .val (.int p3), .val (.int nI), .val (.int pm), .val (.ref ro), .unset, .unset, .unset, .unset, .unset, .unset, .unset, .unset, .unset] []))
    refine Owes.go ?_ fun t₀ k₀ => XS.iconst X157.here hx rfl (hb hby at_28) k₀
    show Owes _ _ _ _ (T157.setTop (mkF m 29 #[.val (.int p0), .val (.int p1), .val (.int p2), .val (.int p3), .val (.int nI), .val (.int pm), .val (.ref ro), .unset, .unset, .unset, .unset, .unset, .unset, .unset, .unset, .unset] [(.int (0 : Int32))]))
    refine Owes.go ?_ fun t₀ k₀ => XS.istore X157.here hx rfl (hb hby at_29) rfl (l' := #[.val (.int p0), .val (.int p1), .val (.int p2), .val (.int p3), .val (.int nI), .val (.int pm), .val (.ref ro), .val (.int (0 : Int32)), .unset, .unset, .unset, .unset, .unset, .unset, .unset, .unset]) rfl k₀
    show Owes _ _ _ _ (T157.setTop (mkF m 31 #[.val (.int p0), .val (.int p1), .val (.int p2), .val (.int p3), .val (.int nI), .val (.int pm), .val (.ref ro), .val (.int (0 : Int32)), .unset, .unset, .unset, .unset, .unset, .unset, .unset, .unset] []))
    refine Owes.go ?_ fun t₀ k₀ => XS.bipush X157.here hx rfl (hb hby at_31) k₀
    show Owes _ _ _ _ (T157.setTop (mkF m 33 #[.val (.int p0), .val (.int p1), .val (.int p2), .val (.int p3), .val (.int nI), .val (.int pm), .val (.ref ro), .val (.int (0 : Int32)), .unset, .unset, .unset, .unset, .unset, .unset, .unset, .unset] [(.int (63 : Int32))]))
    refine Owes.go ?_ fun t₀ k₀ => XS.istore X157.here hx rfl (hb hby at_33) rfl (l' := #[.val (.int p0), .val (.int p1), .val (.int p2), .val (.int p3), .val (.int nI), .val (.int pm), .val (.ref ro), .val (.int (0 : Int32)), .val (.int (63 : Int32)), .unset, .unset, .unset, .unset, .unset, .unset, .unset]) rfl k₀
    show Owes _ _ _ _ (T157.setTop (mkF m 35 #[.val (.int p0), .val (.int p1), .val (.int p2), .val (.int p3), .val (.int nI), .val (.int pm), .val (.ref ro), .val (.int (0 : Int32)), .val (.int (63 : Int32)), .unset, .unset, .unset, .unset, .unset, .unset, .unset] []))
    refine Owes.go ?_ fun t₀ k₀ => XS.bipush X157.here hx rfl (hb hby at_35) k₀
    show Owes _ _ _ _ (T157.setTop (mkF m 37 #[.val (.int p0), .val (.int p1), .val (.int p2), .val (.int p3), .val (.int nI), .val (.int pm), .val (.ref ro), .val (.int (0 : Int32)), .val (.int (63 : Int32)), .unset, .unset, .unset, .unset, .unset, .unset, .unset] [(.int (64 : Int32))]))
    refine Owes.go ?_ fun t₀ k₀ => XS.istore X157.here hx rfl (hb hby at_37) rfl (l' := #[.val (.int p0), .val (.int p1), .val (.int p2), .val (.int p3), .val (.int nI), .val (.int pm), .val (.ref ro), .val (.int (0 : Int32)), .val (.int (63 : Int32)), .val (.int (64 : Int32)), .unset, .unset, .unset, .unset, .unset, .unset]) rfl k₀
    show Owes _ _ _ _ (T157.setTop (mkF m 39 #[.val (.int p0), .val (.int p1), .val (.int p2), .val (.int p3), .val (.int nI), .val (.int pm), .val (.ref ro), .val (.int (0 : Int32)), .val (.int (63 : Int32)), .val (.int (64 : Int32)), .unset, .unset, .unset, .unset, .unset, .unset] []))
    refine Owes.go ?_ fun t₀ k₀ => XS.goto X157.here hx rfl (pc0 := 39) (pc' := 133) rfl (hb hby at_39) (by decide) (by decide) k₀
    show Owes _ _ _ _ (T157.setTop (mkF m 133 #[.val (.int p0), .val (.int p1), .val (.int p2), .val (.int p3), .val (.int nI), .val (.int pm), .val (.ref ro), .val (.int (0 : Int32)), .val (.int (63 : Int32)), .val (.int (64 : Int32)), .unset, .unset, .unset, .unset, .unset, .unset] []))
    exact J133_158 (0 : Int32) (63 : Int32) (64 : Int32) ⟨by decide, by decide⟩ ⟨by decide, by decide⟩ ⟨by decide, by decide⟩
  · skip
    refine Owes.go ?_ fun t₀ k₀ => XS.ifYes X157.here hx rfl (pc0 := 25) (pc' := 42) rfl (hb hby at_25) rfl ((if0 _ _).trans (feq hc1).2) (by decide) (by decide) k₀
    show Owes _ _ _ _ (T157.setTop (mkF m 42 #[.val (.int p0), .val (.int p1), .val (.int p2), .val (.int p3), .val (.int nI), .val (.int pm), .val (.ref ro), .unset, .unset, .unset, .unset, .unset, .unset, .unset, .unset, .unset] []))
    refine Owes.go ?_ fun t₀ k₀ => XS.iload X157.here hx rfl (hb hby at_42) rfl k₀
    show Owes _ _ _ _ (T157.setTop (mkF m 44 #[.val (.int p0), .val (.int p1), .val (.int p2), .val (.int p3), .val (.int nI), .val (.int pm), .val (.ref ro), .unset, .unset, .unset, .unset, .unset, .unset, .unset, .unset, .unset] [(.int pm)]))
    refine Owes.go ?_ fun t₀ k₀ => XS.iconst X157.here hx rfl (hb hby at_44) k₀
    show Owes _ _ _ _ (T157.setTop (mkF m 45 #[.val (.int p0), .val (.int p1), .val (.int p2), .val (.int p3), .val (.int nI), .val (.int pm), .val (.ref ro), .unset, .unset, .unset, .unset, .unset, .unset, .unset, .unset, .unset] [(.int (1 : Int32)), (.int pm)]))
    by_cases hc2 : pm = (1 : Int32)
    · skip
      refine Owes.go ?_ fun t₀ k₀ => XS.icmpNo X157.here hx rfl (hb hby at_45) rfl (teq hc2).2 k₀
      show Owes _ _ _ _ (T157.setTop (mkF m 48 #[.val (.int p0), .val (.int p1), .val (.int p2), .val (.int p3), .val (.int nI), .val (.int pm), .val (.ref ro), .unset, .unset, .unset, .unset, .unset, .unset, .unset, .unset, .unset] []))
      refine Owes.go ?_ fun t₀ k₀ => XS.iconst X157.here hx rfl (hb hby at_48) k₀
      show Owes _ _ _ _ (T157.setTop (mkF m 49 #[.val (.int p0), .val (.int p1), .val (.int p2), .val (.int p3), .val (.int nI), .val (.int pm), .val (.ref ro), .unset, .unset, .unset, .unset, .unset, .unset, .unset, .unset, .unset] [(.int (0 : Int32))]))
      refine Owes.go ?_ fun t₀ k₀ => XS.istore X157.here hx rfl (hb hby at_49) rfl (l' := #[.val (.int p0), .val (.int p1), .val (.int p2), .val (.int p3), .val (.int nI), .val (.int pm), .val (.ref ro), .val (.int (0 : Int32)), .unset, .unset, .unset, .unset, .unset, .unset, .unset, .unset]) rfl k₀
      show Owes _ _ _ _ (T157.setTop (mkF m 51 #[.val (.int p0), .val (.int p1), .val (.int p2), .val (.int p3), .val (.int nI), .val (.int pm), .val (.ref ro), .val (.int (0 : Int32)), .unset, .unset, .unset, .unset, .unset, .unset, .unset, .unset] []))
      refine Owes.go ?_ fun t₀ k₀ => XS.bipush X157.here hx rfl (hb hby at_51) k₀
      show Owes _ _ _ _ (T157.setTop (mkF m 53 #[.val (.int p0), .val (.int p1), .val (.int p2), .val (.int p3), .val (.int nI), .val (.int pm), .val (.ref ro), .val (.int (0 : Int32)), .unset, .unset, .unset, .unset, .unset, .unset, .unset, .unset] [(.int (64 : Int32))]))
      refine Owes.go ?_ fun t₀ k₀ => XS.istore X157.here hx rfl (hb hby at_53) rfl (l' := #[.val (.int p0), .val (.int p1), .val (.int p2), .val (.int p3), .val (.int nI), .val (.int pm), .val (.ref ro), .val (.int (0 : Int32)), .val (.int (64 : Int32)), .unset, .unset, .unset, .unset, .unset, .unset, .unset]) rfl k₀
      show Owes _ _ _ _ (T157.setTop (mkF m 55 #[.val (.int p0), .val (.int p1), .val (.int p2), .val (.int p3), .val (.int nI), .val (.int pm), .val (.ref ro), .val (.int (0 : Int32)), .val (.int (64 : Int32)), .unset, .unset, .unset, .unset, .unset, .unset, .unset] []))
      refine Owes.go ?_ fun t₀ k₀ => XS.bipush X157.here hx rfl (hb hby at_55) k₀
      show Owes _ _ _ _ (T157.setTop (mkF m 57 #[.val (.int p0), .val (.int p1), .val (.int p2), .val (.int p3), .val (.int nI), .val (.int pm), .val (.ref ro), .val (.int (0 : Int32)), .val (.int (64 : Int32)), .unset, .unset, .unset, .unset, .unset, .unset, .unset] [(.int (63 : Int32))]))
      refine Owes.go ?_ fun t₀ k₀ => XS.istore X157.here hx rfl (hb hby at_57) rfl (l' := #[.val (.int p0), .val (.int p1), .val (.int p2), .val (.int p3), .val (.int nI), .val (.int pm), .val (.ref ro), .val (.int (0 : Int32)), .val (.int (64 : Int32)), .val (.int (63 : Int32)), .unset, .unset, .unset, .unset, .unset, .unset]) rfl k₀
      show Owes _ _ _ _ (T157.setTop (mkF m 59 #[.val (.int p0), .val (.int p1), .val (.int p2), .val (.int p3), .val (.int nI), .val (.int pm), .val (.ref ro), .val (.int (0 : Int32)), .val (.int (64 : Int32)), .val (.int (63 : Int32)), .unset, .unset, .unset, .unset, .unset, .unset] []))
      refine Owes.go ?_ fun t₀ k₀ => XS.goto X157.here hx rfl (pc0 := 59) (pc' := 133) rfl (hb hby at_59) (by decide) (by decide) k₀
      show Owes _ _ _ _ (T157.setTop (mkF m 133 #[.val (.int p0), .val (.int p1), .val (.int p2), .val (.int p3), .val (.int nI), .val (.int pm), .val (.ref ro), .val (.int (0 : Int32)), .val (.int (64 : Int32)), .val (.int (63 : Int32)), .unset, .unset, .unset, .unset, .unset, .unset] []))
      exact J133_158 (0 : Int32) (64 : Int32) (63 : Int32) ⟨by decide, by decide⟩ ⟨by decide, by decide⟩ ⟨by decide, by decide⟩
    · skip
      refine Owes.go ?_ fun t₀ k₀ => XS.icmpYes X157.here hx rfl (pc0 := 45) (pc' := 62) rfl (hb hby at_45) rfl (feq hc2).2 (by decide) (by decide) k₀
      show Owes _ _ _ _ (T157.setTop (mkF m 62 #[.val (.int p0), .val (.int p1), .val (.int p2), .val (.int p3), .val (.int nI), .val (.int pm), .val (.ref ro), .unset, .unset, .unset, .unset, .unset, .unset, .unset, .unset, .unset] []))
      refine Owes.go ?_ fun t₀ k₀ => XS.iload X157.here hx rfl (hb hby at_62) rfl k₀
      show Owes _ _ _ _ (T157.setTop (mkF m 64 #[.val (.int p0), .val (.int p1), .val (.int p2), .val (.int p3), .val (.int nI), .val (.int pm), .val (.ref ro), .unset, .unset, .unset, .unset, .unset, .unset, .unset, .unset, .unset] [(.int pm)]))
      refine Owes.go ?_ fun t₀ k₀ => XS.iconst X157.here hx rfl (hb hby at_64) k₀
      show Owes _ _ _ _ (T157.setTop (mkF m 65 #[.val (.int p0), .val (.int p1), .val (.int p2), .val (.int p3), .val (.int nI), .val (.int pm), .val (.ref ro), .unset, .unset, .unset, .unset, .unset, .unset, .unset, .unset, .unset] [(.int (2 : Int32)), (.int pm)]))
      by_cases hc3 : pm = (2 : Int32)
      · skip
        refine Owes.go ?_ fun t₀ k₀ => XS.icmpNo X157.here hx rfl (hb hby at_65) rfl (teq hc3).2 k₀
        show Owes _ _ _ _ (T157.setTop (mkF m 68 #[.val (.int p0), .val (.int p1), .val (.int p2), .val (.int p3), .val (.int nI), .val (.int pm), .val (.ref ro), .unset, .unset, .unset, .unset, .unset, .unset, .unset, .unset, .unset] []))
        refine Owes.go ?_ fun t₀ k₀ => XS.bipush X157.here hx rfl (hb hby at_68) k₀
        show Owes _ _ _ _ (T157.setTop (mkF m 70 #[.val (.int p0), .val (.int p1), .val (.int p2), .val (.int p3), .val (.int nI), .val (.int pm), .val (.ref ro), .unset, .unset, .unset, .unset, .unset, .unset, .unset, .unset, .unset] [(.int (63 : Int32))]))
        refine Owes.go ?_ fun t₀ k₀ => XS.istore X157.here hx rfl (hb hby at_70) rfl (l' := #[.val (.int p0), .val (.int p1), .val (.int p2), .val (.int p3), .val (.int nI), .val (.int pm), .val (.ref ro), .val (.int (63 : Int32)), .unset, .unset, .unset, .unset, .unset, .unset, .unset, .unset]) rfl k₀
        show Owes _ _ _ _ (T157.setTop (mkF m 72 #[.val (.int p0), .val (.int p1), .val (.int p2), .val (.int p3), .val (.int nI), .val (.int pm), .val (.ref ro), .val (.int (63 : Int32)), .unset, .unset, .unset, .unset, .unset, .unset, .unset, .unset] []))
        refine Owes.go ?_ fun t₀ k₀ => XS.iconst X157.here hx rfl (hb hby at_72) k₀
        show Owes _ _ _ _ (T157.setTop (mkF m 73 #[.val (.int p0), .val (.int p1), .val (.int p2), .val (.int p3), .val (.int nI), .val (.int pm), .val (.ref ro), .val (.int (63 : Int32)), .unset, .unset, .unset, .unset, .unset, .unset, .unset, .unset] [(.int (0 : Int32))]))
        refine Owes.go ?_ fun t₀ k₀ => XS.istore X157.here hx rfl (hb hby at_73) rfl (l' := #[.val (.int p0), .val (.int p1), .val (.int p2), .val (.int p3), .val (.int nI), .val (.int pm), .val (.ref ro), .val (.int (63 : Int32)), .val (.int (0 : Int32)), .unset, .unset, .unset, .unset, .unset, .unset, .unset]) rfl k₀
        show Owes _ _ _ _ (T157.setTop (mkF m 75 #[.val (.int p0), .val (.int p1), .val (.int p2), .val (.int p3), .val (.int nI), .val (.int pm), .val (.ref ro), .val (.int (63 : Int32)), .val (.int (0 : Int32)), .unset, .unset, .unset, .unset, .unset, .unset, .unset] []))
        refine Owes.go ?_ fun t₀ k₀ => XS.bipush X157.here hx rfl (hb hby at_75) k₀
        show Owes _ _ _ _ (T157.setTop (mkF m 77 #[.val (.int p0), .val (.int p1), .val (.int p2), .val (.int p3), .val (.int nI), .val (.int pm), .val (.ref ro), .val (.int (63 : Int32)), .val (.int (0 : Int32)), .unset, .unset, .unset, .unset, .unset, .unset, .unset] [(.int (64 : Int32))]))
        refine Owes.go ?_ fun t₀ k₀ => XS.istore X157.here hx rfl (hb hby at_77) rfl (l' := #[.val (.int p0), .val (.int p1), .val (.int p2), .val (.int p3), .val (.int nI), .val (.int pm), .val (.ref ro), .val (.int (63 : Int32)), .val (.int (0 : Int32)), .val (.int (64 : Int32)), .unset, .unset, .unset, .unset, .unset, .unset]) rfl k₀
        show Owes _ _ _ _ (T157.setTop (mkF m 79 #[.val (.int p0), .val (.int p1), .val (.int p2), .val (.int p3), .val (.int nI), .val (.int pm), .val (.ref ro), .val (.int (63 : Int32)), .val (.int (0 : Int32)), .val (.int (64 : Int32)), .unset, .unset, .unset, .unset, .unset, .unset] []))
        refine Owes.go ?_ fun t₀ k₀ => XS.goto X157.here hx rfl (pc0 := 79) (pc' := 133) rfl (hb hby at_79) (by decide) (by decide) k₀
        show Owes _ _ _ _ (T157.setTop (mkF m 133 #[.val (.int p0), .val (.int p1), .val (.int p2), .val (.int p3), .val (.int nI), .val (.int pm), .val (.ref ro), .val (.int (63 : Int32)), .val (.int (0 : Int32)), .val (.int (64 : Int32)), .unset, .unset, .unset, .unset, .unset, .unset] []))
        exact J133_158 (63 : Int32) (0 : Int32) (64 : Int32) ⟨by decide, by decide⟩ ⟨by decide, by decide⟩ ⟨by decide, by decide⟩
      · skip
        refine Owes.go ?_ fun t₀ k₀ => XS.icmpYes X157.here hx rfl (pc0 := 65) (pc' := 82) rfl (hb hby at_65) rfl (feq hc3).2 (by decide) (by decide) k₀
        show Owes _ _ _ _ (T157.setTop (mkF m 82 #[.val (.int p0), .val (.int p1), .val (.int p2), .val (.int p3), .val (.int nI), .val (.int pm), .val (.ref ro), .unset, .unset, .unset, .unset, .unset, .unset, .unset, .unset, .unset] []))
        refine Owes.go ?_ fun t₀ k₀ => XS.iload X157.here hx rfl (hb hby at_82) rfl k₀
        show Owes _ _ _ _ (T157.setTop (mkF m 84 #[.val (.int p0), .val (.int p1), .val (.int p2), .val (.int p3), .val (.int nI), .val (.int pm), .val (.ref ro), .unset, .unset, .unset, .unset, .unset, .unset, .unset, .unset, .unset] [(.int pm)]))
        refine Owes.go ?_ fun t₀ k₀ => XS.iconst X157.here hx rfl (hb hby at_84) k₀
        show Owes _ _ _ _ (T157.setTop (mkF m 85 #[.val (.int p0), .val (.int p1), .val (.int p2), .val (.int p3), .val (.int nI), .val (.int pm), .val (.ref ro), .unset, .unset, .unset, .unset, .unset, .unset, .unset, .unset, .unset] [(.int (3 : Int32)), (.int pm)]))
        by_cases hc4 : pm = (3 : Int32)
        · skip
          refine Owes.go ?_ fun t₀ k₀ => XS.icmpNo X157.here hx rfl (hb hby at_85) rfl (teq hc4).2 k₀
          show Owes _ _ _ _ (T157.setTop (mkF m 88 #[.val (.int p0), .val (.int p1), .val (.int p2), .val (.int p3), .val (.int nI), .val (.int pm), .val (.ref ro), .unset, .unset, .unset, .unset, .unset, .unset, .unset, .unset, .unset] []))
          refine Owes.go ?_ fun t₀ k₀ => XS.bipush X157.here hx rfl (hb hby at_88) k₀
          show Owes _ _ _ _ (T157.setTop (mkF m 90 #[.val (.int p0), .val (.int p1), .val (.int p2), .val (.int p3), .val (.int nI), .val (.int pm), .val (.ref ro), .unset, .unset, .unset, .unset, .unset, .unset, .unset, .unset, .unset] [(.int (63 : Int32))]))
          refine Owes.go ?_ fun t₀ k₀ => XS.istore X157.here hx rfl (hb hby at_90) rfl (l' := #[.val (.int p0), .val (.int p1), .val (.int p2), .val (.int p3), .val (.int nI), .val (.int pm), .val (.ref ro), .val (.int (63 : Int32)), .unset, .unset, .unset, .unset, .unset, .unset, .unset, .unset]) rfl k₀
          show Owes _ _ _ _ (T157.setTop (mkF m 92 #[.val (.int p0), .val (.int p1), .val (.int p2), .val (.int p3), .val (.int nI), .val (.int pm), .val (.ref ro), .val (.int (63 : Int32)), .unset, .unset, .unset, .unset, .unset, .unset, .unset, .unset] []))
          refine Owes.go ?_ fun t₀ k₀ => XS.bipush X157.here hx rfl (hb hby at_92) k₀
          show Owes _ _ _ _ (T157.setTop (mkF m 94 #[.val (.int p0), .val (.int p1), .val (.int p2), .val (.int p3), .val (.int nI), .val (.int pm), .val (.ref ro), .val (.int (63 : Int32)), .unset, .unset, .unset, .unset, .unset, .unset, .unset, .unset] [(.int (64 : Int32))]))
          refine Owes.go ?_ fun t₀ k₀ => XS.istore X157.here hx rfl (hb hby at_94) rfl (l' := #[.val (.int p0), .val (.int p1), .val (.int p2), .val (.int p3), .val (.int nI), .val (.int pm), .val (.ref ro), .val (.int (63 : Int32)), .val (.int (64 : Int32)), .unset, .unset, .unset, .unset, .unset, .unset, .unset]) rfl k₀
          show Owes _ _ _ _ (T157.setTop (mkF m 96 #[.val (.int p0), .val (.int p1), .val (.int p2), .val (.int p3), .val (.int nI), .val (.int pm), .val (.ref ro), .val (.int (63 : Int32)), .val (.int (64 : Int32)), .unset, .unset, .unset, .unset, .unset, .unset, .unset] []))
          refine Owes.go ?_ fun t₀ k₀ => XS.iconst X157.here hx rfl (hb hby at_96) k₀
          show Owes _ _ _ _ (T157.setTop (mkF m 97 #[.val (.int p0), .val (.int p1), .val (.int p2), .val (.int p3), .val (.int nI), .val (.int pm), .val (.ref ro), .val (.int (63 : Int32)), .val (.int (64 : Int32)), .unset, .unset, .unset, .unset, .unset, .unset, .unset] [(.int (0 : Int32))]))
          refine Owes.go ?_ fun t₀ k₀ => XS.istore X157.here hx rfl (hb hby at_97) rfl (l' := #[.val (.int p0), .val (.int p1), .val (.int p2), .val (.int p3), .val (.int nI), .val (.int pm), .val (.ref ro), .val (.int (63 : Int32)), .val (.int (64 : Int32)), .val (.int (0 : Int32)), .unset, .unset, .unset, .unset, .unset, .unset]) rfl k₀
          show Owes _ _ _ _ (T157.setTop (mkF m 99 #[.val (.int p0), .val (.int p1), .val (.int p2), .val (.int p3), .val (.int nI), .val (.int pm), .val (.ref ro), .val (.int (63 : Int32)), .val (.int (64 : Int32)), .val (.int (0 : Int32)), .unset, .unset, .unset, .unset, .unset, .unset] []))
          refine Owes.go ?_ fun t₀ k₀ => XS.goto X157.here hx rfl (pc0 := 99) (pc' := 133) rfl (hb hby at_99) (by decide) (by decide) k₀
          show Owes _ _ _ _ (T157.setTop (mkF m 133 #[.val (.int p0), .val (.int p1), .val (.int p2), .val (.int p3), .val (.int nI), .val (.int pm), .val (.ref ro), .val (.int (63 : Int32)), .val (.int (64 : Int32)), .val (.int (0 : Int32)), .unset, .unset, .unset, .unset, .unset, .unset] []))
          exact J133_158 (63 : Int32) (64 : Int32) (0 : Int32) ⟨by decide, by decide⟩ ⟨by decide, by decide⟩ ⟨by decide, by decide⟩
        · skip
          refine Owes.go ?_ fun t₀ k₀ => XS.icmpYes X157.here hx rfl (pc0 := 85) (pc' := 102) rfl (hb hby at_85) rfl (feq hc4).2 (by decide) (by decide) k₀
          show Owes _ _ _ _ (T157.setTop (mkF m 102 #[.val (.int p0), .val (.int p1), .val (.int p2), .val (.int p3), .val (.int nI), .val (.int pm), .val (.ref ro), .unset, .unset, .unset, .unset, .unset, .unset, .unset, .unset, .unset] []))
          refine Owes.go ?_ fun t₀ k₀ => XS.iload X157.here hx rfl (hb hby at_102) rfl k₀
          show Owes _ _ _ _ (T157.setTop (mkF m 104 #[.val (.int p0), .val (.int p1), .val (.int p2), .val (.int p3), .val (.int nI), .val (.int pm), .val (.ref ro), .unset, .unset, .unset, .unset, .unset, .unset, .unset, .unset, .unset] [(.int pm)]))
          refine Owes.go ?_ fun t₀ k₀ => XS.iconst X157.here hx rfl (hb hby at_104) k₀
          show Owes _ _ _ _ (T157.setTop (mkF m 105 #[.val (.int p0), .val (.int p1), .val (.int p2), .val (.int p3), .val (.int nI), .val (.int pm), .val (.ref ro), .unset, .unset, .unset, .unset, .unset, .unset, .unset, .unset, .unset] [(.int (4 : Int32)), (.int pm)]))
          by_cases hc5 : pm = (4 : Int32)
          · skip
            refine Owes.go ?_ fun t₀ k₀ => XS.icmpNo X157.here hx rfl (hb hby at_105) rfl (teq hc5).2 k₀
            show Owes _ _ _ _ (T157.setTop (mkF m 108 #[.val (.int p0), .val (.int p1), .val (.int p2), .val (.int p3), .val (.int nI), .val (.int pm), .val (.ref ro), .unset, .unset, .unset, .unset, .unset, .unset, .unset, .unset, .unset] []))
            refine Owes.go ?_ fun t₀ k₀ => XS.bipush X157.here hx rfl (hb hby at_108) k₀
            show Owes _ _ _ _ (T157.setTop (mkF m 110 #[.val (.int p0), .val (.int p1), .val (.int p2), .val (.int p3), .val (.int nI), .val (.int pm), .val (.ref ro), .unset, .unset, .unset, .unset, .unset, .unset, .unset, .unset, .unset] [(.int (64 : Int32))]))
            refine Owes.go ?_ fun t₀ k₀ => XS.istore X157.here hx rfl (hb hby at_110) rfl (l' := #[.val (.int p0), .val (.int p1), .val (.int p2), .val (.int p3), .val (.int nI), .val (.int pm), .val (.ref ro), .val (.int (64 : Int32)), .unset, .unset, .unset, .unset, .unset, .unset, .unset, .unset]) rfl k₀
            show Owes _ _ _ _ (T157.setTop (mkF m 112 #[.val (.int p0), .val (.int p1), .val (.int p2), .val (.int p3), .val (.int nI), .val (.int pm), .val (.ref ro), .val (.int (64 : Int32)), .unset, .unset, .unset, .unset, .unset, .unset, .unset, .unset] []))
            refine Owes.go ?_ fun t₀ k₀ => XS.iconst X157.here hx rfl (hb hby at_112) k₀
            show Owes _ _ _ _ (T157.setTop (mkF m 113 #[.val (.int p0), .val (.int p1), .val (.int p2), .val (.int p3), .val (.int nI), .val (.int pm), .val (.ref ro), .val (.int (64 : Int32)), .unset, .unset, .unset, .unset, .unset, .unset, .unset, .unset] [(.int (0 : Int32))]))
            refine Owes.go ?_ fun t₀ k₀ => XS.istore X157.here hx rfl (hb hby at_113) rfl (l' := #[.val (.int p0), .val (.int p1), .val (.int p2), .val (.int p3), .val (.int nI), .val (.int pm), .val (.ref ro), .val (.int (64 : Int32)), .val (.int (0 : Int32)), .unset, .unset, .unset, .unset, .unset, .unset, .unset]) rfl k₀
            show Owes _ _ _ _ (T157.setTop (mkF m 115 #[.val (.int p0), .val (.int p1), .val (.int p2), .val (.int p3), .val (.int nI), .val (.int pm), .val (.ref ro), .val (.int (64 : Int32)), .val (.int (0 : Int32)), .unset, .unset, .unset, .unset, .unset, .unset, .unset] []))
            refine Owes.go ?_ fun t₀ k₀ => XS.bipush X157.here hx rfl (hb hby at_115) k₀
            show Owes _ _ _ _ (T157.setTop (mkF m 117 #[.val (.int p0), .val (.int p1), .val (.int p2), .val (.int p3), .val (.int nI), .val (.int pm), .val (.ref ro), .val (.int (64 : Int32)), .val (.int (0 : Int32)), .unset, .unset, .unset, .unset, .unset, .unset, .unset] [(.int (63 : Int32))]))
            refine Owes.go ?_ fun t₀ k₀ => XS.istore X157.here hx rfl (hb hby at_117) rfl (l' := #[.val (.int p0), .val (.int p1), .val (.int p2), .val (.int p3), .val (.int nI), .val (.int pm), .val (.ref ro), .val (.int (64 : Int32)), .val (.int (0 : Int32)), .val (.int (63 : Int32)), .unset, .unset, .unset, .unset, .unset, .unset]) rfl k₀
            show Owes _ _ _ _ (T157.setTop (mkF m 119 #[.val (.int p0), .val (.int p1), .val (.int p2), .val (.int p3), .val (.int nI), .val (.int pm), .val (.ref ro), .val (.int (64 : Int32)), .val (.int (0 : Int32)), .val (.int (63 : Int32)), .unset, .unset, .unset, .unset, .unset, .unset] []))
            refine Owes.go ?_ fun t₀ k₀ => XS.goto X157.here hx rfl (pc0 := 119) (pc' := 133) rfl (hb hby at_119) (by decide) (by decide) k₀
            show Owes _ _ _ _ (T157.setTop (mkF m 133 #[.val (.int p0), .val (.int p1), .val (.int p2), .val (.int p3), .val (.int nI), .val (.int pm), .val (.ref ro), .val (.int (64 : Int32)), .val (.int (0 : Int32)), .val (.int (63 : Int32)), .unset, .unset, .unset, .unset, .unset, .unset] []))
            exact J133_158 (64 : Int32) (0 : Int32) (63 : Int32) ⟨by decide, by decide⟩ ⟨by decide, by decide⟩ ⟨by decide, by decide⟩
          · skip
            refine Owes.go ?_ fun t₀ k₀ => XS.icmpYes X157.here hx rfl (pc0 := 105) (pc' := 122) rfl (hb hby at_105) rfl (feq hc5).2 (by decide) (by decide) k₀
            show Owes _ _ _ _ (T157.setTop (mkF m 122 #[.val (.int p0), .val (.int p1), .val (.int p2), .val (.int p3), .val (.int nI), .val (.int pm), .val (.ref ro), .unset, .unset, .unset, .unset, .unset, .unset, .unset, .unset, .unset] []))
            refine Owes.go ?_ fun t₀ k₀ => XS.bipush X157.here hx rfl (hb hby at_122) k₀
            show Owes _ _ _ _ (T157.setTop (mkF m 124 #[.val (.int p0), .val (.int p1), .val (.int p2), .val (.int p3), .val (.int nI), .val (.int pm), .val (.ref ro), .unset, .unset, .unset, .unset, .unset, .unset, .unset, .unset, .unset] [(.int (64 : Int32))]))
            refine Owes.go ?_ fun t₀ k₀ => XS.istore X157.here hx rfl (hb hby at_124) rfl (l' := #[.val (.int p0), .val (.int p1), .val (.int p2), .val (.int p3), .val (.int nI), .val (.int pm), .val (.ref ro), .val (.int (64 : Int32)), .unset, .unset, .unset, .unset, .unset, .unset, .unset, .unset]) rfl k₀
            show Owes _ _ _ _ (T157.setTop (mkF m 126 #[.val (.int p0), .val (.int p1), .val (.int p2), .val (.int p3), .val (.int nI), .val (.int pm), .val (.ref ro), .val (.int (64 : Int32)), .unset, .unset, .unset, .unset, .unset, .unset, .unset, .unset] []))
            refine Owes.go ?_ fun t₀ k₀ => XS.bipush X157.here hx rfl (hb hby at_126) k₀
            show Owes _ _ _ _ (T157.setTop (mkF m 128 #[.val (.int p0), .val (.int p1), .val (.int p2), .val (.int p3), .val (.int nI), .val (.int pm), .val (.ref ro), .val (.int (64 : Int32)), .unset, .unset, .unset, .unset, .unset, .unset, .unset, .unset] [(.int (63 : Int32))]))
            refine Owes.go ?_ fun t₀ k₀ => XS.istore X157.here hx rfl (hb hby at_128) rfl (l' := #[.val (.int p0), .val (.int p1), .val (.int p2), .val (.int p3), .val (.int nI), .val (.int pm), .val (.ref ro), .val (.int (64 : Int32)), .val (.int (63 : Int32)), .unset, .unset, .unset, .unset, .unset, .unset, .unset]) rfl k₀
            show Owes _ _ _ _ (T157.setTop (mkF m 130 #[.val (.int p0), .val (.int p1), .val (.int p2), .val (.int p3), .val (.int nI), .val (.int pm), .val (.ref ro), .val (.int (64 : Int32)), .val (.int (63 : Int32)), .unset, .unset, .unset, .unset, .unset, .unset, .unset] []))
            refine Owes.go ?_ fun t₀ k₀ => XS.iconst X157.here hx rfl (hb hby at_130) k₀
            show Owes _ _ _ _ (T157.setTop (mkF m 131 #[.val (.int p0), .val (.int p1), .val (.int p2), .val (.int p3), .val (.int nI), .val (.int pm), .val (.ref ro), .val (.int (64 : Int32)), .val (.int (63 : Int32)), .unset, .unset, .unset, .unset, .unset, .unset, .unset] [(.int (0 : Int32))]))
            refine Owes.go ?_ fun t₀ k₀ => XS.istore X157.here hx rfl (hb hby at_131) rfl (l' := #[.val (.int p0), .val (.int p1), .val (.int p2), .val (.int p3), .val (.int nI), .val (.int pm), .val (.ref ro), .val (.int (64 : Int32)), .val (.int (63 : Int32)), .val (.int (0 : Int32)), .unset, .unset, .unset, .unset, .unset, .unset]) rfl k₀
            show Owes _ _ _ _ (T157.setTop (mkF m 133 #[.val (.int p0), .val (.int p1), .val (.int p2), .val (.int p3), .val (.int nI), .val (.int pm), .val (.ref ro), .val (.int (64 : Int32)), .val (.int (63 : Int32)), .val (.int (0 : Int32)), .unset, .unset, .unset, .unset, .unset, .unset] []))
            exact J133_158 (64 : Int32) (63 : Int32) (0 : Int32) ⟨by decide, by decide⟩ ⟨by decide, by decide⟩ ⟨by decide, by decide⟩
set_option maxRecDepth 65536 in
set_option maxHeartbeats 40000000 in
theorem comes_1 {Post : Tables → Env → Array Value → State → Outcome → State → Prop} (hpost : ∀ tb e args s v u, (limb_1_1.after args s (.returned v) u = true ∧ limb_1_2.after args s (.returned v) u = true ∧ True) → FrameEnd s (.returned v) u (Jvm.fieldLocs frame_1_writes args s ++ Jvm.arrayLocs frame_1_arrays args s ++ Jvm.staticLocs frame_1_statics s) 32 832 → Post tb e args s (.returned v) u) :
    ArmFor flags0 classFile x code maxLocals ret World_1 tables_1 room_1 Calls_1 rest_1 Pre_1 Post := by
  intro l hfl _ _ p e ha hc hk s m args below hf hA hF happ hP
  obtain ⟨hcalls, hrest, hpre⟩ := hP
  obtain ⟨-, -, -, hnamed, -, -, -, hat⟩ := (Spec.applies_iff hf).mp happ
  obtain ⟨hg, hn⟩ := and_e (Cond.before_iff.mp (show (Jvm.Cond.and given_1 narrow_1).before args s = true from hpre))
  obtain ⟨g1, g2⟩ := and_e hg
  obtain ⟨g3, g4⟩ := and_e g2
  obtain ⟨g5, g6⟩ := and_e g4
  obtain ⟨g7, g8⟩ := and_e g6
  obtain ⟨w0, w1, w2, w3, rfl⟩ : ∃ w0 w1 w2 w3 : Value, args = #[w0, w1, w2, w3] := by
    have hs : args.size = 4 := by simpa [Cond.value, given_1] using g1
    obtain ⟨L⟩ := args
    match L, hs with
    | [w0, w1, w2, w3], _ => exact ⟨w0, w1, w2, w3, rfl⟩
  have hw := fun d (hd : d ∈ tables_1) => atoms_spec (ws := Jvm.Cond.code x code maxLocals ret :: tables_1) hat d (List.mem_cons_of_mem _ hd)
  have hfit : Fit s := fun {y c} hc i hi => by
    obtain ⟨ha, rfl⟩ := Array.getElem?_eq_some_iff.mp hc
    have q := List.all_eq_true.mp ((Array.all_eq_true_iff_forall_mem.mp hF) _ (Array.getElem_mem ha)) i (List.mem_range.mpr hi)
    simpa [Array.getElem?_eq_getElem hi] using q
  obtain ⟨i0, ei0⟩ := is_v g3
  obtain rfl : w0 = (.int i0) := Option.some.inj ei0
  obtain ⟨i1, ei1⟩ := is_v g5
  obtain rfl : w1 = (.int i1) := Option.some.inj ei1
  obtain ⟨i2, ei2⟩ := is_v g7
  obtain rfl : w2 = (.int i2) := Option.some.inj ei2
  obtain ⟨i3, ei3⟩ := is_v g8
  obtain rfl : w3 = (.int i3) := Option.some.inj ei3
  obtain ⟨n, o, h1, h2, h3, _, L, rfl, ⟨rfl, N⟩, hq⟩ := rm0 l s _ hw tables_1 i0 i1 i2 i3 s.heap s.heap.size (Nat.le_refl _)  p e ha hc hk s m _ below hf ((Spec.applies_iff_loose hf).mp happ).1 ⟨rfl, State.Warmed39.refl s, rfl⟩ trivial
  refine ⟨n, _, h1, h2, h3, hpost _ _ _ _ _ _ ⟨Cond.after_iff.mpr rfl, Cond.after_iff.mpr (eq_i res_at (Term.int_eval (1)) rfl), trivial⟩ ⟨hq.1, hq.2.1, (hq.2.2.sift fun y hy => Or.inr (N y hy)).mono (by decide) (by decide)⟩⟩
theorem main_1_1 : Claimed_1_1 := comes_1 fun _ _ _ _ _ _ h hF => ⟨h.1, hF⟩
theorem main_1_2 : Claimed_1_2 := comes_1 fun _ _ _ _ _ _ h hF => ⟨h.2.1, hF⟩
end Jvm.Pilot.@@N@@
namespace Jvm.Pilot.@@N@@
open Jvm Jvm.ClassFile Sem Op Lib Jvm.Free Jvm.Stand Jvm.Pilot.@@N@@.Jvm.D
/-! MADE BY PROGRAM (witnessworld.py) out of the Statement's table words and the real class files: 18 classes; the members and pool entries that the words name. The judged class is class 1, her method 1. -/
namespace start1
open Jvm.ClassFile
def u (s : String) : CpInfo := .utf8 (stringToUtf16 s)
/-- a pool by its gaps: so many unusable entries, then the entry; so many at the end -/
def gap : Nat → List CpInfo → List CpInfo
  | 0, r => r
  | n + 1, r => .unusable :: gap n r
def poolList (es : List (Nat × CpInfo)) (last : Nat) : List CpInfo := es.foldr (fun e r => gap e.1 (e.2 :: r)) (gap last [])
def pool (es : List (Nat × CpInfo)) (last : Nat) : Array CpInfo := ⟨poolList es last⟩
def fileOf (pool : Array CpInfo) (this : Nat) (attrs : Array Attribute := #[]) (ms : Array MethodInfo := #[]) (fl : Nat := 33) (sup : Nat := 0) (ifs : Array Nat := #[]) (fds : Array FieldInfo := #[]) : ClassFile where
  minorVersion := 0
  majorVersion := 65
  constantPool := pool
  accessFlags := fl
  thisClass := this
  superClass := sup
  interfaces := ifs
  fields := fds
  methods := ms
  attributes := attrs
def plain (name : String) (sup : Option ClassId) : Class where
  name := name
  kind := .ordinary
  loader := none
  accessFlags := 33
  super := sup
  interfaces := #[]
  cf := none
  fields := #[]
  methods := #[]
  instanceTypes := #[]
  staticTypes := #[]
  resolved := #[]
  callSites := []
  init := .initialized
  statics := none
  mirror := none

def pool0 : Array CpInfo := pool [(5, u "<init>"), (0, u "()V"), (1, .class_ 10), (1, u "java/lang/Object"), (85, u "clone"), (0, u "()Ljava/lang/Object;")] 26

def k0c0 : Code := { maxStack := 0, maxLocals := 1, code := object_method_1_code, exceptionTable := #[], attributes := #[] }
def k0m0 : Method := { name := "<init>", desc := "()V", sig := { parameters := [], returnType := none }, accessFlags := 1, code := some k0c0 }
def k0m1 : Method := { name := "clone", desc := "()Ljava/lang/Object;", sig := { parameters := [], returnType := some (.object "java/lang/Object") }, accessFlags := 260, code := none }
/-- java/lang/Object -/
def k0 : Class := { plain "java/lang/Object" none with
  accessFlags := 33
  interfaces := #[]
  cf := some (fileOf pool0 8 #[] #[{ accessFlags := 1, nameIndex := 5, descriptorIndex := 6, attributes := #[] }, { accessFlags := 260, nameIndex := 96, descriptorIndex := 97, attributes := #[] }] 33 0 #[] #[])
  fields := #[]
  methods := #[k0m0, k0m1]
  instanceTypes := #[]
  staticTypes := #[]
  resolved := Array.replicate 124 none
  statics := none }

def pool1 : Array CpInfo := pool [(2, .class_ 4), (1, u "java/lang/Object"), (0, u "<init>"), (0, u "()V"), (0, .methodref 8 9), (0, .class_ 10), (0, .nameAndType 11 12), (0, u "com/example/slotwright/slotwright/core/TriedSlotsReachPinLaw"), (0, u "identity"), (0, u "()[I"), (0, .class_ 14), (0, u "com/example/slotwright/slotwright/core/TriedSlots"), (0, .methodref 13 16), (0, .nameAndType 5 17), (0, u "([I[I[II)V"), (0, .integer 2147483647), (0, .methodref 20 21), (0, .class_ 22), (0, .nameAndType 23 24), (0, u "java/lang/Math"), (0, u "max"), (0, u "(II)I"), (0, .methodref 13 26), (0, .nameAndType 27 28), (0, u "reach"), (0, u "(I)V"), (0, .methodref 8 30), (0, .nameAndType 31 32), (0, u "agrees"), (0, u "(Lcom/example/slotwright/slotwright/core/TriedSlots;[I[I[II)Z"), (0, .methodref 13 34), (0, .nameAndType 35 36), (0, u "next"), (0, u "(I)I"), (0, .methodref 8 38), (0, .nameAndType 39 40), (0, u "gives"), (0, u "([I[III)Z"), (2, u "law"), (0, u "(IIII)Z")] 5

def k1m0 : Method := { name := "<init>", desc := "()V", sig := { parameters := [], returnType := none }, accessFlags := 1, code := none }
def k1c1 : Code := { maxStack := 6, maxLocals := 16, code := code, exceptionTable := #[], attributes := #[] }
def k1m1 : Method := { name := "law", desc := "(IIII)Z", sig := { parameters := [.int, .int, .int, .int], returnType := some .boolean }, accessFlags := 9, code := some k1c1 }
def k1c2 : Code := { maxStack := 3, maxLocals := 4, code := method_3_code, exceptionTable := #[], attributes := #[] }
def k1m2 : Method := { name := "gives", desc := "([I[III)Z", sig := { parameters := [(.array .int), (.array .int), .int, .int], returnType := some .boolean }, accessFlags := 10, code := some k1c2 }
def k1c3 : Code := { maxStack := 5, maxLocals := 8, code := method_4_code, exceptionTable := #[], attributes := #[] }
def k1m3 : Method := { name := "agrees", desc := "(Lcom/example/slotwright/slotwright/core/TriedSlots;[I[I[II)Z", sig := { parameters := [(.object "com/example/slotwright/slotwright/core/TriedSlots"), (.array .int), (.array .int), (.array .int), .int], returnType := some .boolean }, accessFlags := 10, code := some k1c3 }
def k1c4 : Code := { maxStack := 4, maxLocals := 0, code := method_5_code, exceptionTable := #[], attributes := #[] }
def k1m4 : Method := { name := "identity", desc := "()[I", sig := { parameters := [], returnType := some (.array .int) }, accessFlags := 10, code := some k1c4 }
/-- com/example/slotwright/slotwright/core/TriedSlotsReachPinLaw -/
def k1 : Class := { plain "com/example/slotwright/slotwright/core/TriedSlotsReachPinLaw" (some 0) with
  accessFlags := 49
  interfaces := #[]
  cf := some (fileOf pool1 8 #[] #[{ accessFlags := 1, nameIndex := 5, descriptorIndex := 6, attributes := #[] }, { accessFlags := 9, nameIndex := 43, descriptorIndex := 44, attributes := #[] }, { accessFlags := 10, nameIndex := 39, descriptorIndex := 40, attributes := #[] }, { accessFlags := 10, nameIndex := 31, descriptorIndex := 32, attributes := #[] }, { accessFlags := 10, nameIndex := 11, descriptorIndex := 12, attributes := #[] }] 49 2 #[] #[])
  fields := #[]
  methods := #[k1m0, k1m1, k1m2, k1m3, k1m4]
  instanceTypes := #[]
  staticTypes := #[]
  resolved := Array.replicate 50 none
  statics := none }

def pool2 : Array CpInfo := pool [(1, .methodref 2 3), (0, .class_ 4), (0, .nameAndType 5 6), (0, u "java/lang/Object"), (0, u "<init>"), (0, u "()V"), (0, .fieldref 8 9), (0, .class_ 10), (0, .nameAndType 11 12), (0, u "com/example/slotwright/slotwright/core/TriedSlots"), (0, u "reached"), (0, u "I"), (0, .fieldref 8 14), (0, .nameAndType 15 12), (0, u "size"), (0, .class_ 17), (0, u "java/lang/Long"), (0, .fieldref 8 19), (0, .nameAndType 20 21), (0, u "tried"), (0, u "[J"), (0, .fieldref 8 23), (0, .nameAndType 24 25), (0, u "joiningFrom"), (0, u "[I"), (0, .fieldref 8 27), (0, .nameAndType 28 25), (0, u "leavingFrom"), (0, .fieldref 8 30), (0, .nameAndType 31 25), (0, u "joining"), (0, .fieldref 8 33), (0, .nameAndType 34 25), (0, u "leaving"), (0, .methodref 36 37), (0, .class_ 25), (0, .nameAndType 38 39), (0, u "clone"), (0, u "()Ljava/lang/Object;"), (0, .long 18446744073709551615), (1, .methodref 16 43), (0, .nameAndType 44 45), (0, u "numberOfTrailingZeros"), (0, u "(J)I"), (0, u "([I[I[II)V"), (3, u "reach"), (0, u "(I)V"), (0, u "next"), (0, u "(I)I")] 2

def k2c0 : Code := { maxStack := 6, maxLocals := 12, code := prog_143_method_1_code, exceptionTable := #[], attributes := #[] }
def k2m0 : Method := { name := "<init>", desc := "([I[I[II)V", sig := { parameters := [(.array .int), (.array .int), (.array .int), .int], returnType := none }, accessFlags := 0, code := some k2c0 }
def k2c1 : Code := { maxStack := 8, maxLocals := 4, code := prog_143_method_2_code, exceptionTable := #[], attributes := #[] }
def k2m1 : Method := { name := "reach", desc := "(I)V", sig := { parameters := [.int], returnType := none }, accessFlags := 0, code := some k2c1 }
def k2c2 : Code := { maxStack := 5, maxLocals := 5, code := prog_143_method_3_code, exceptionTable := #[], attributes := #[] }
def k2m2 : Method := { name := "next", desc := "(I)I", sig := { parameters := [.int], returnType := some .int }, accessFlags := 0, code := some k2c2 }
/-- com/example/slotwright/slotwright/core/TriedSlots -/
def k2 : Class := { plain "com/example/slotwright/slotwright/core/TriedSlots" (some 0) with
  accessFlags := 48
  interfaces := #[]
  cf := some (fileOf pool2 8 #[] #[{ accessFlags := 0, nameIndex := 5, descriptorIndex := 46, attributes := #[] }, { accessFlags := 0, nameIndex := 50, descriptorIndex := 51, attributes := #[] }, { accessFlags := 0, nameIndex := 52, descriptorIndex := 53, attributes := #[] }] 48 2 #[] #[{ accessFlags := 18, nameIndex := 15, descriptorIndex := 12, attributes := #[] }, { accessFlags := 18, nameIndex := 20, descriptorIndex := 21, attributes := #[] }, { accessFlags := 18, nameIndex := 24, descriptorIndex := 25, attributes := #[] }, { accessFlags := 18, nameIndex := 31, descriptorIndex := 25, attributes := #[] }, { accessFlags := 18, nameIndex := 28, descriptorIndex := 25, attributes := #[] }, { accessFlags := 18, nameIndex := 34, descriptorIndex := 25, attributes := #[] }, { accessFlags := 2, nameIndex := 11, descriptorIndex := 12, attributes := #[] }])
  fields := #[{ name := "size", type := .int, accessFlags := 18, slot := 0, constantValue := 0 }, { name := "tried", type := (.array .long), accessFlags := 18, slot := 1, constantValue := 0 }, { name := "joiningFrom", type := (.array .int), accessFlags := 18, slot := 2, constantValue := 0 }, { name := "joining", type := (.array .int), accessFlags := 18, slot := 3, constantValue := 0 }, { name := "leavingFrom", type := (.array .int), accessFlags := 18, slot := 4, constantValue := 0 }, { name := "leaving", type := (.array .int), accessFlags := 18, slot := 5, constantValue := 0 }, { name := "reached", type := .int, accessFlags := 2, slot := 6, constantValue := 0 }]
  methods := #[k2m0, k2m1, k2m2]
  instanceTypes := #[.int, (.array .long), (.array .int), (.array .int), (.array .int), (.array .int), .int]
  staticTypes := #[]
  resolved := Array.replicate 56 none
  statics := none }

def pool3 : Array CpInfo := pool [(1, .class_ 2), (0, u "java/lang/Cloneable"), (0, .class_ 4), (0, u "java/lang/Object")] 2

/-- java/lang/Cloneable -/
def k3 : Class := { plain "java/lang/Cloneable" (some 0) with
  accessFlags := 1537
  interfaces := #[]
  cf := some (fileOf pool3 1 #[] #[] 1537 3 #[] #[])
  fields := #[]
  methods := #[]
  instanceTypes := #[]
  staticTypes := #[]
  resolved := Array.replicate 7 none
  statics := none }

def pool4 : Array CpInfo := pool [(1, .class_ 2), (0, u "java/lang/Math"), (1, .class_ 6), (1, u "java/lang/Object"), (0, u "<init>"), (0, u "()V"), (89, .class_ 100), (1, u "java/lang/Math$RandomNumberGeneratorHolder"), (71, u "negativeZeroFloatBits"), (0, u "J"), (2, u "negativeZeroDoubleBits"), (21, u "max"), (46, u "$assertionsDisabled"), (0, u "Z"), (88, u "(II)I"), (2, u "twoToTheDoubleScaleDown"), (0, u "D"), (4, u "twoToTheDoubleScaleUp"), (9, u "E"), (3, u "PI"), (2, u "TAU"), (2, u "DEGREES_TO_RADIANS"), (0, u "RADIANS_TO_DEGREES")] 94

def k4m0 : Method := { name := "<init>", desc := "()V", sig := { parameters := [], returnType := none }, accessFlags := 2, code := none }
def k4c1 : Code := { maxStack := 2, maxLocals := 2, code := jdk_29_method_65_code, exceptionTable := #[], attributes := #[] }
def k4m1 : Method := { name := "max", desc := "(II)I", sig := { parameters := [.int, .int], returnType := some .int }, accessFlags := 9, code := some k4c1 }
/-- java/lang/Math -/
def k4 : Class := { plain "java/lang/Math" (some 0) with
  accessFlags := 49
  interfaces := #[]
  cf := some (fileOf pool4 1 #[.nestMembers #[98]] #[{ accessFlags := 2, nameIndex := 7, descriptorIndex := 8, attributes := #[] }, { accessFlags := 9, nameIndex := 198, descriptorIndex := 335, attributes := #[] }] 49 4 #[] #[{ accessFlags := 25, nameIndex := 354, descriptorIndex := 339, attributes := #[] }, { accessFlags := 25, nameIndex := 358, descriptorIndex := 339, attributes := #[] }, { accessFlags := 25, nameIndex := 361, descriptorIndex := 339, attributes := #[] }, { accessFlags := 26, nameIndex := 364, descriptorIndex := 339, attributes := #[] }, { accessFlags := 26, nameIndex := 365, descriptorIndex := 339, attributes := #[] }, { accessFlags := 26, nameIndex := 172, descriptorIndex := 173, attributes := #[] }, { accessFlags := 26, nameIndex := 176, descriptorIndex := 173, attributes := #[] }, { accessFlags := 8, nameIndex := 344, descriptorIndex := 339, attributes := #[] }, { accessFlags := 8, nameIndex := 338, descriptorIndex := 339, attributes := #[] }, { accessFlags := 4120, nameIndex := 245, descriptorIndex := 246, attributes := #[] }])
  fields := #[{ name := "E", type := .double, accessFlags := 25, slot := 0, constantValue := 0 }, { name := "PI", type := .double, accessFlags := 25, slot := 1, constantValue := 0 }, { name := "TAU", type := .double, accessFlags := 25, slot := 2, constantValue := 0 }, { name := "DEGREES_TO_RADIANS", type := .double, accessFlags := 26, slot := 3, constantValue := 0 }, { name := "RADIANS_TO_DEGREES", type := .double, accessFlags := 26, slot := 4, constantValue := 0 }, { name := "negativeZeroFloatBits", type := .long, accessFlags := 26, slot := 5, constantValue := 0 }, { name := "negativeZeroDoubleBits", type := .long, accessFlags := 26, slot := 6, constantValue := 0 }, { name := "twoToTheDoubleScaleUp", type := .double, accessFlags := 8, slot := 7, constantValue := 0 }, { name := "twoToTheDoubleScaleDown", type := .double, accessFlags := 8, slot := 8, constantValue := 0 }, { name := "$assertionsDisabled", type := .boolean, accessFlags := 4120, slot := 9, constantValue := 0 }]
  methods := #[k4m0, k4m1]
  instanceTypes := #[]
  staticTypes := #[.double, .double, .double, .double, .double, .long, .long, .double, .double, .boolean]
  resolved := Array.replicate 460 none
  statics := none }

def pool5 : Array CpInfo := pool [(1, .class_ 2), (0, u "java/io/Serializable"), (0, .class_ 4), (0, u "java/lang/Object")] 2

/-- java/io/Serializable -/
def k5 : Class := { plain "java/io/Serializable" (some 0) with
  accessFlags := 1537
  interfaces := #[]
  cf := some (fileOf pool5 1 #[] #[] 1537 3 #[] #[])
  fields := #[]
  methods := #[]
  instanceTypes := #[]
  staticTypes := #[]
  resolved := Array.replicate 7 none
  statics := none }

def pool6 : Array CpInfo := pool [(2, .class_ 4), (1, u "java/lang/Object"), (0, u "<init>"), (0, u "()V"), (1, .class_ 10), (1, u "java/lang/Number"), (2, .class_ 14), (0, u "java/io/Serializable"), (0, u "serialVersionUID"), (0, u "J")] 20

def k6m0 : Method := { name := "<init>", desc := "()V", sig := { parameters := [], returnType := none }, accessFlags := 1, code := none }
/-- java/lang/Number -/
def k6 : Class := { plain "java/lang/Number" (some 0) with
  accessFlags := 1057
  interfaces := #[5]
  cf := some (fileOf pool6 8 #[] #[{ accessFlags := 1, nameIndex := 5, descriptorIndex := 6, attributes := #[] }] 1057 2 #[13] #[{ accessFlags := 26, nameIndex := 15, descriptorIndex := 16, attributes := #[] }])
  fields := #[{ name := "serialVersionUID", type := .long, accessFlags := 26, slot := 0, constantValue := 0 }]
  methods := #[k6m0]
  instanceTypes := #[]
  staticTypes := #[.long]
  resolved := Array.replicate 37 none
  statics := none }

def pool7 : Array CpInfo := pool [(1, .class_ 2), (0, u "java/lang/Comparable"), (0, .class_ 4), (0, u "java/lang/Object")] 7

/-- java/lang/Comparable -/
def k7 : Class := { plain "java/lang/Comparable" (some 0) with
  accessFlags := 1537
  interfaces := #[]
  cf := some (fileOf pool7 1 #[] #[] 1537 3 #[] #[])
  fields := #[]
  methods := #[]
  instanceTypes := #[]
  staticTypes := #[]
  resolved := Array.replicate 12 none
  statics := none }

def pool8 : Array CpInfo := pool [(1, .class_ 2), (0, u "java/lang/constant/Constable"), (0, .class_ 4), (0, u "java/lang/Object")] 6

/-- java/lang/constant/Constable -/
def k8 : Class := { plain "java/lang/constant/Constable" (some 0) with
  accessFlags := 1537
  interfaces := #[]
  cf := some (fileOf pool8 1 #[] #[] 1537 3 #[] #[])
  fields := #[]
  methods := #[]
  instanceTypes := #[]
  staticTypes := #[]
  resolved := Array.replicate 11 none
  statics := none }

def pool9 : Array CpInfo := pool [(1, .class_ 2), (0, u "java/lang/constant/ConstantDesc"), (0, .class_ 4), (0, u "java/lang/Object")] 32

/-- java/lang/constant/ConstantDesc -/
def k9 : Class := { plain "java/lang/constant/ConstantDesc" (some 0) with
  accessFlags := 1537
  interfaces := #[]
  cf := some (fileOf pool9 1 #[] #[] 1537 3 #[] #[])
  fields := #[]
  methods := #[]
  instanceTypes := #[]
  staticTypes := #[]
  resolved := Array.replicate 37 none
  statics := none }

def pool10 : Array CpInfo := pool [(1, .class_ 2), (0, u "java/lang/Long"), (15, .class_ 20), (1, u "java/lang/Integer"), (80, u "(J)I"), (133, .class_ 237), (1, u "java/lang/Long$LongCache"), (33, .class_ 272), (0, u "java/lang/Number"), (2, u "value"), (0, u "J"), (33, u "(I)I"), (0, .methodref 18 312), (0, .nameAndType 313 310), (0, u "numberOfTrailingZeros"), (47, u "TYPE"), (0, u "Ljava/lang/Class;"), (0, .class_ 364), (0, u "java/lang/Comparable"), (0, .class_ 366), (0, u "java/lang/constant/Constable"), (0, .class_ 368), (0, u "java/lang/constant/ConstantDesc"), (0, u "MIN_VALUE"), (1, u "MAX_VALUE"), (4, u "SIZE"), (0, u "I"), (1, u "BYTES"), (1, u "serialVersionUID")] 142

def k10c0 : Code := { maxStack := 4, maxLocals := 3, code := jdk_35_method_49_code, exceptionTable := #[], attributes := #[] }
def k10m0 : Method := { name := "numberOfTrailingZeros", desc := "(J)I", sig := { parameters := [.long], returnType := some .int }, accessFlags := 9, code := some k10c0 }
/-- java/lang/Long -/
def k10 : Class := { plain "java/lang/Long" (some 6) with
  accessFlags := 49
  interfaces := #[7, 8, 9]
  cf := some (fileOf pool10 1 #[.nestMembers #[235]] #[{ accessFlags := 9, nameIndex := 313, descriptorIndex := 101, attributes := #[] }] 49 271 #[363, 365, 367] #[{ accessFlags := 25, nameIndex := 369, descriptorIndex := 276, attributes := #[] }, { accessFlags := 25, nameIndex := 371, descriptorIndex := 276, attributes := #[] }, { accessFlags := 25, nameIndex := 361, descriptorIndex := 362, attributes := #[] }, { accessFlags := 18, nameIndex := 275, descriptorIndex := 276, attributes := #[] }, { accessFlags := 25, nameIndex := 376, descriptorIndex := 377, attributes := #[] }, { accessFlags := 25, nameIndex := 379, descriptorIndex := 377, attributes := #[] }, { accessFlags := 26, nameIndex := 381, descriptorIndex := 276, attributes := #[] }])
  fields := #[{ name := "MIN_VALUE", type := .long, accessFlags := 25, slot := 0, constantValue := 0 }, { name := "MAX_VALUE", type := .long, accessFlags := 25, slot := 1, constantValue := 0 }, { name := "TYPE", type := (.object "java/lang/Class"), accessFlags := 25, slot := 2, constantValue := 0 }, { name := "value", type := .long, accessFlags := 18, slot := 0, constantValue := 0 }, { name := "SIZE", type := .int, accessFlags := 25, slot := 3, constantValue := 0 }, { name := "BYTES", type := .int, accessFlags := 25, slot := 4, constantValue := 0 }, { name := "serialVersionUID", type := .long, accessFlags := 26, slot := 5, constantValue := 0 }]
  methods := #[k10m0]
  instanceTypes := #[.long]
  staticTypes := #[.long, .long, (.object "java/lang/Class"), .int, .int, .long]
  resolved := Array.replicate 524 none
  statics := none }

def pool11 : Array CpInfo := pool [(1, .class_ 2), (0, u "java/lang/Integer"), (16, u "digits"), (0, u "[C"), (33, u "(I)I"), (30, u "DigitOnes"), (0, u "[B"), (2, u "DigitTens"), (99, .class_ 190), (0, u "java/lang/Integer$IntegerCache"), (3, u "I"), (8, .class_ 204), (0, u "java/lang/Number"), (2, u "value"), (56, .integer 65536), (37, u "TYPE"), (0, u "Ljava/lang/Class;"), (0, .class_ 305), (0, u "java/lang/Comparable"), (0, .class_ 307), (0, u "java/lang/constant/Constable"), (0, .class_ 309), (0, u "java/lang/constant/ConstantDesc"), (0, u "MIN_VALUE"), (1, u "MAX_VALUE"), (3, u "SIZE"), (1, u "BYTES"), (1, u "serialVersionUID"), (0, u "J"), (84, u "numberOfTrailingZeros")] 46

def k11c0 : Code := { maxStack := 3, maxLocals := 2, code := jdk_33_method_48_code, exceptionTable := #[], attributes := #[] }
def k11m0 : Method := { name := "numberOfTrailingZeros", desc := "(I)I", sig := { parameters := [.int], returnType := some .int }, accessFlags := 9, code := some k11c0 }
/-- java/lang/Integer -/
def k11 : Class := { plain "java/lang/Integer" (some 6) with
  accessFlags := 49
  interfaces := #[7, 8, 9]
  cf := some (fileOf pool11 1 #[.nestMembers #[189]] #[{ accessFlags := 9, nameIndex := 406, descriptorIndex := 54, attributes := #[] }] 49 203 #[304, 306, 308] #[{ accessFlags := 25, nameIndex := 310, descriptorIndex := 194, attributes := #[] }, { accessFlags := 25, nameIndex := 312, descriptorIndex := 194, attributes := #[] }, { accessFlags := 25, nameIndex := 302, descriptorIndex := 303, attributes := #[] }, { accessFlags := 24, nameIndex := 19, descriptorIndex := 20, attributes := #[] }, { accessFlags := 24, nameIndex := 89, descriptorIndex := 86, attributes := #[] }, { accessFlags := 24, nameIndex := 85, descriptorIndex := 86, attributes := #[] }, { accessFlags := 18, nameIndex := 207, descriptorIndex := 194, attributes := #[] }, { accessFlags := 25, nameIndex := 316, descriptorIndex := 194, attributes := #[] }, { accessFlags := 25, nameIndex := 318, descriptorIndex := 194, attributes := #[] }, { accessFlags := 26, nameIndex := 320, descriptorIndex := 321, attributes := #[] }])
  fields := #[{ name := "MIN_VALUE", type := .int, accessFlags := 25, slot := 0, constantValue := 0 }, { name := "MAX_VALUE", type := .int, accessFlags := 25, slot := 1, constantValue := 0 }, { name := "TYPE", type := (.object "java/lang/Class"), accessFlags := 25, slot := 2, constantValue := 0 }, { name := "digits", type := (.array .char), accessFlags := 24, slot := 3, constantValue := 0 }, { name := "DigitTens", type := (.array .byte), accessFlags := 24, slot := 4, constantValue := 0 }, { name := "DigitOnes", type := (.array .byte), accessFlags := 24, slot := 5, constantValue := 0 }, { name := "value", type := .int, accessFlags := 18, slot := 0, constantValue := 0 }, { name := "SIZE", type := .int, accessFlags := 25, slot := 6, constantValue := 0 }, { name := "BYTES", type := .int, accessFlags := 25, slot := 7, constantValue := 0 }, { name := "serialVersionUID", type := .long, accessFlags := 26, slot := 8, constantValue := 0 }]
  methods := #[k11m0]
  instanceTypes := #[.int]
  staticTypes := #[.int, .int, (.object "java/lang/Class"), (.array .char), (.array .byte), (.array .byte), .int, .int, .long]
  resolved := Array.replicate 453 none
  statics := none }

/-- the primitive byte -/
def k12 : Class := { plain "byte" none with kind := .primitive 'B', accessFlags := 0x411 }
/-- [B -/
def k13 : Class := { plain "[B" (some 0) with kind := .array 12 .byte, interfaces := #[3, 5], accessFlags := 1041 }

/-- the primitive int -/
def k14 : Class := { plain "int" none with kind := .primitive 'I', accessFlags := 0x411 }
/-- [I -/
def k15 : Class := { plain "[I" (some 0) with kind := .array 14 .int, interfaces := #[3, 5], accessFlags := 1041 }

/-- the primitive long -/
def k16 : Class := { plain "long" none with kind := .primitive 'J', accessFlags := 0x411 }
/-- [J -/
def k17 : Class := { plain "[J" (some 0) with kind := .array 16 .long, interfaces := #[3, 5], accessFlags := 1041 }

def heap : Heap := #[]
def classes : Array Class := #[k0, k1, k2, k3, k4, k5, k6, k7, k8, k9, k10, k11, k12, k13, k14, k15, k16, k17]
def interned : List (Array UInt16 × Addr) := []
def slotsUsed : Nat := 0
def theMethod : MethodId := ⟨1, 1⟩
def args0 : Array Value := #[.int 5, .int 7, .int 3, .int 4]
def aboutOver (below : List Frame) : State where
  vm := { classes := classes, interned := interned.toArray }
  heap := heap
  slotsUsed := slotsUsed
  threads := #[{ frames := .invoking theMethod args0 :: below }]
def below0 : List Frame := [.native { method := ⟨0, 0⟩, args := #[] }]
def about1 : State := aboutOver below0
def p0 : Program := .bare "" "" ""
def e0 : Env := launch0.env 0 0 0
theorem w_frames : about1.frames = Frame.invoking theMethod args0 :: below0 := rfl
set_option maxRecDepth 65536 in
theorem w_args : argsFit about1.vm theMethod args0 = true := by decide +kernel
set_option maxRecDepth 65536 in
theorem w_heap : heapFits about1 = true := by decide +kernel
set_option maxRecDepth 65536 in
theorem w_runnable : about1.curStatus? = some .runnable := by decide +kernel
set_option maxRecDepth 65536 in
theorem w_alone : about1.alone = true := by decide +kernel
set_option maxRecDepth 65536 in
theorem w_named : about1.methodNamed? x = some theMethod := by decide +kernel
set_option maxRecDepth 65536 in
theorem w_hears : about1.hears theMethod below0 = true := by decide +kernel
set_option maxRecDepth 65536 in
theorem w_ripe : about1.ripe theMethod args0 below0 = true := by decide +kernel
theorem w_running : about1.status = .running := rfl
set_option maxRecDepth 65536 in
theorem w_room : about1.hasRoom e0.platform room_1 = true :=
  launch0.hasRoom_least _ room_1 (by decide +kernel) (by decide +kernel) (by decide +kernel) (by decide +kernel) (by decide +kernel) (by decide +kernel)
theorem allAtoms_all (ts : List Jvm.Cond) (a : Array Jvm.Value) (st : Jvm.State) : (allAtoms ts).before a st = ts.all (fun c => c.before a st) := by
  induction ts with
  | nil => rfl
  | cons c t ih =>
    show (Jvm.Cond.and c (allAtoms t)).before a st = _
    rw [Jvm.Cond.before_and, ih, List.all_cons]
def words1 : List Jvm.Cond := Jvm.Cond.code x code maxLocals ret :: tables_1
/-- a 'code' word, met by the world's own term for the bytes: nothing is compared byte by byte -/
theorem code_word {y : MethodName} {bytes : ByteArray} {mx : Nat} {rt : Option FieldType} {a : Array Value} {s : State} {m : MethodId} {meth : Method} {c : Code} (h1 : s.methodNamed? y = some m) (h2 : s.vm.method? m = some meth) (h3 : meth.code = some c) (h4 : c.code = bytes)
    (h5 : (c.maxLocals == mx && c.exceptionTable.isEmpty && decide (c.maxStack ≤ mostOperands) && decide (meth.sig.returnType = rt) && !meth.locks && decide (parseMethodDescriptor y.desc = some meth.sig)) = true) : (Jvm.Cond.code y bytes mx rt).before a s = true := by
  simp only [Bool.and_eq_true, beq_iff_eq, Bool.not_eq_true', decide_eq_true_eq] at h5
  obtain ⟨⟨⟨⟨⟨g1, g2⟩, g3⟩, g4⟩, g5⟩, g6⟩ := h5
  simp [Cond.before, Cond.holds, Cond.value, h1, h2, h3, h4, g1, g2, g3, g4, g5, g6]
def isCode : Jvm.Cond → Bool
  | .code _ _ _ _ => true
  | _ => false
theorem all_split {L : List Jvm.Cond} {P : Jvm.Cond → Bool} (h1 : L.all (fun c => isCode c || P c) = true) (h2 : ∀ c ∈ L.filter isCode, P c = true) : L.all P = true := by
  refine List.all_eq_true.mpr fun c hc => ?_
  have h := List.all_eq_true.mp h1 c hc
  rcases Bool.eq_false_or_eq_true (isCode c) with hi | hi
  · exact h2 c (List.mem_filter.mpr ⟨hc, hi⟩)
  · simpa [hi] using h
set_option maxRecDepth 65536 in
theorem w_c0 : (Jvm.Cond.code x code maxLocals ret).before args0 about1 = true := code_word (m := ⟨1, 1⟩) (meth := k1m1) (c := k1c1) (by decide +kernel) rfl rfl rfl (by decide +kernel)
set_option maxRecDepth 65536 in
theorem w_c1 : (Jvm.Cond.code ({ cls := "com/example/slotwright/slotwright/core/TriedSlotsReachPinLaw", name := "identity", desc := "()[I" } : Jvm.MethodName) method_5_code (0 : Nat) (Option.some (Jvm.ClassFile.FieldType.array Jvm.ClassFile.FieldType.int))).before args0 about1 = true := code_word (m := ⟨1, 4⟩) (meth := k1m4) (c := k1c4) (by decide +kernel) rfl rfl rfl (by decide +kernel)
set_option maxRecDepth 65536 in
theorem w_c2 : (Jvm.Cond.code ({ cls := "com/example/slotwright/slotwright/core/TriedSlots", name := "<init>", desc := "([I[I[II)V" } : Jvm.MethodName) prog_143_method_1_code (12 : Nat) (Option.none : Option Jvm.ClassFile.FieldType)).before args0 about1 = true := code_word (m := ⟨2, 0⟩) (meth := k2m0) (c := k2c0) (by decide +kernel) rfl rfl rfl (by decide +kernel)
set_option maxRecDepth 65536 in
theorem w_c3 : (Jvm.Cond.code ({ cls := "java/lang/Object", name := "<init>", desc := "()V" } : Jvm.MethodName) object_method_1_code (1 : Nat) (Option.none : Option Jvm.ClassFile.FieldType)).before args0 about1 = true := code_word (m := ⟨0, 0⟩) (meth := k0m0) (c := k0c0) (by decide +kernel) rfl rfl rfl (by decide +kernel)
set_option maxRecDepth 65536 in
theorem w_c4 : (Jvm.Cond.code ({ cls := "java/lang/Math", name := "max", desc := "(II)I" } : Jvm.MethodName) jdk_29_method_65_code (2 : Nat) (Option.some Jvm.ClassFile.FieldType.int)).before args0 about1 = true := code_word (m := ⟨4, 1⟩) (meth := k4m1) (c := k4c1) (by decide +kernel) rfl rfl rfl (by decide +kernel)
set_option maxRecDepth 65536 in
theorem w_c5 : (Jvm.Cond.code ({ cls := "com/example/slotwright/slotwright/core/TriedSlots", name := "reach", desc := "(I)V" } : Jvm.MethodName) prog_143_method_2_code (4 : Nat) (Option.none : Option Jvm.ClassFile.FieldType)).before args0 about1 = true := code_word (m := ⟨2, 1⟩) (meth := k2m1) (c := k2c1) (by decide +kernel) rfl rfl rfl (by decide +kernel)
set_option maxRecDepth 65536 in
theorem w_c6 : (Jvm.Cond.code ({ cls := "com/example/slotwright/slotwright/core/TriedSlotsReachPinLaw", name := "agrees", desc := "(Lcom/example/slotwright/slotwright/core/TriedSlots;[I[I[II)Z" } : Jvm.MethodName) method_4_code (8 : Nat) (Option.some Jvm.ClassFile.FieldType.boolean)).before args0 about1 = true := code_word (m := ⟨1, 3⟩) (meth := k1m3) (c := k1c3) (by decide +kernel) rfl rfl rfl (by decide +kernel)
set_option maxRecDepth 65536 in
theorem w_c7 : (Jvm.Cond.code ({ cls := "com/example/slotwright/slotwright/core/TriedSlots", name := "next", desc := "(I)I" } : Jvm.MethodName) prog_143_method_3_code (5 : Nat) (Option.some Jvm.ClassFile.FieldType.int)).before args0 about1 = true := code_word (m := ⟨2, 2⟩) (meth := k2m2) (c := k2c2) (by decide +kernel) rfl rfl rfl (by decide +kernel)
set_option maxRecDepth 65536 in
theorem w_c8 : (Jvm.Cond.code ({ cls := "java/lang/Long", name := "numberOfTrailingZeros", desc := "(J)I" } : Jvm.MethodName) jdk_35_method_49_code (3 : Nat) (Option.some Jvm.ClassFile.FieldType.int)).before args0 about1 = true := code_word (m := ⟨10, 0⟩) (meth := k10m0) (c := k10c0) (by decide +kernel) rfl rfl rfl (by decide +kernel)
set_option maxRecDepth 65536 in
theorem w_c9 : (Jvm.Cond.code ({ cls := "java/lang/Integer", name := "numberOfTrailingZeros", desc := "(I)I" } : Jvm.MethodName) jdk_33_method_48_code (2 : Nat) (Option.some Jvm.ClassFile.FieldType.int)).before args0 about1 = true := code_word (m := ⟨11, 0⟩) (meth := k11m0) (c := k11c0) (by decide +kernel) rfl rfl rfl (by decide +kernel)
set_option maxRecDepth 65536 in
theorem w_c10 : (Jvm.Cond.code ({ cls := "com/example/slotwright/slotwright/core/TriedSlotsReachPinLaw", name := "gives", desc := "([I[III)Z" } : Jvm.MethodName) method_3_code (4 : Nat) (Option.some Jvm.ClassFile.FieldType.boolean)).before args0 about1 = true := code_word (m := ⟨1, 2⟩) (meth := k1m2) (c := k1c2) (by decide +kernel) rfl rfl rfl (by decide +kernel)
def codes1 : List Jvm.Cond := [Jvm.Cond.code x code maxLocals ret, Jvm.Cond.code ({ cls := "com/example/slotwright/slotwright/core/TriedSlotsReachPinLaw", name := "identity", desc := "()[I" } : Jvm.MethodName) method_5_code (0 : Nat) (Option.some (Jvm.ClassFile.FieldType.array Jvm.ClassFile.FieldType.int)), Jvm.Cond.code ({ cls := "com/example/slotwright/slotwright/core/TriedSlots", name := "<init>", desc := "([I[I[II)V" } : Jvm.MethodName) prog_143_method_1_code (12 : Nat) (Option.none : Option Jvm.ClassFile.FieldType), Jvm.Cond.code ({ cls := "java/lang/Object", name := "<init>", desc := "()V" } : Jvm.MethodName) object_method_1_code (1 : Nat) (Option.none : Option Jvm.ClassFile.FieldType), Jvm.Cond.code ({ cls := "java/lang/Math", name := "max", desc := "(II)I" } : Jvm.MethodName) jdk_29_method_65_code (2 : Nat) (Option.some Jvm.ClassFile.FieldType.int), Jvm.Cond.code ({ cls := "com/example/slotwright/slotwright/core/TriedSlots", name := "reach", desc := "(I)V" } : Jvm.MethodName) prog_143_method_2_code (4 : Nat) (Option.none : Option Jvm.ClassFile.FieldType), Jvm.Cond.code ({ cls := "com/example/slotwright/slotwright/core/TriedSlotsReachPinLaw", name := "agrees", desc := "(Lcom/example/slotwright/slotwright/core/TriedSlots;[I[I[II)Z" } : Jvm.MethodName) method_4_code (8 : Nat) (Option.some Jvm.ClassFile.FieldType.boolean), Jvm.Cond.code ({ cls := "com/example/slotwright/slotwright/core/TriedSlots", name := "next", desc := "(I)I" } : Jvm.MethodName) prog_143_method_3_code (5 : Nat) (Option.some Jvm.ClassFile.FieldType.int), Jvm.Cond.code ({ cls := "java/lang/Long", name := "numberOfTrailingZeros", desc := "(J)I" } : Jvm.MethodName) jdk_35_method_49_code (3 : Nat) (Option.some Jvm.ClassFile.FieldType.int), Jvm.Cond.code ({ cls := "java/lang/Integer", name := "numberOfTrailingZeros", desc := "(I)I" } : Jvm.MethodName) jdk_33_method_48_code (2 : Nat) (Option.some Jvm.ClassFile.FieldType.int), Jvm.Cond.code ({ cls := "com/example/slotwright/slotwright/core/TriedSlotsReachPinLaw", name := "gives", desc := "([I[III)Z" } : Jvm.MethodName) method_3_code (4 : Nat) (Option.some Jvm.ClassFile.FieldType.boolean)]
set_option maxRecDepth 65536 in
theorem codes_eq : words1.filter isCode = codes1 := rfl
theorem w_codes : ∀ c ∈ words1.filter isCode, c.before args0 about1 = true := by
  rw [codes_eq]
  intro c hc
  simp only [codes1, List.mem_cons, List.not_mem_nil, or_false] at hc
  rcases hc with rfl | rfl | rfl | rfl | rfl | rfl | rfl | rfl | rfl | rfl | rfl
  · exact w_c0
  · exact w_c1
  · exact w_c2
  · exact w_c3
  · exact w_c4
  · exact w_c5
  · exact w_c6
  · exact w_c7
  · exact w_c8
  · exact w_c9
  · exact w_c10
set_option maxRecDepth 65536 in
theorem w_t1 : (words1.take 24).all (fun c => isCode c || c.before args0 about1) = true := by decide +kernel
set_option maxRecDepth 65536 in
theorem w_t2 : ((words1.drop 24).take 24).all (fun c => isCode c || c.before args0 about1) = true := by decide +kernel
set_option maxRecDepth 65536 in
theorem w_t3 : ((words1.drop 24).drop 24).all (fun c => isCode c || c.before args0 about1) = true := by decide +kernel
theorem w_tables : (allAtoms (Jvm.Cond.code x code maxLocals ret :: tables_1)).before args0 about1 = true := by
  rw [allAtoms_all]
  show words1.all (fun c => c.before args0 about1) = true
  refine all_split ?_ w_codes
  rw [← List.take_append_drop 24 words1, List.all_append, w_t1, ← List.take_append_drop 24 (words1.drop 24), List.all_append, w_t2, w_t3]
  rfl
set_option maxRecDepth 65536 in
theorem w_case : (Jvm.Cond.and given_1 narrow_1).before args0 about1 = true := by decide +kernel
theorem w_applies : (headSpec (Jvm.Cond.code x code maxLocals ret :: tables_1) room_1).applies x e0.platform about1 = true :=
  (Spec.applies_iff w_frames).mpr ⟨w_running, w_runnable, w_alone, w_named, w_hears, w_ripe, w_room, w_tables⟩
theorem atStart : AtStart classFile x code maxLocals ret World_1 tables_1 room_1 Calls_1 rest_1 Pre_1 launch0 p0 e0 about1 theMethod args0 below0 :=
  ⟨lists_1, trivial, launch0.admits_env _ _ _, launch0.least_env, fairChoices_fair.cas, fairChoices_fair.clock, w_frames, w_args, w_heap, w_applies, trivial, trivial, w_case⟩
end start1
theorem witness_1 : WitnessClaimed_1 := ⟨start1.p0, start1.e0, start1.about1, start1.theMethod, start1.args0, start1.below0, start1.atStart⟩
end Jvm.Pilot.@@N@@
