import JvmDerived
import JvmDerived.Pilot.@@N@@Statement
import JvmDerived.Pilot.@@N@@Code
set_option linter.unusedVariables false
set_option linter.unusedSimpArgs false
set_option maxRecDepth 65536
namespace Jvm.Pilot.@@N@@
open Jvm Jvm.ClassFile Sem Op Lib Jvm.Free Jvm.Stand Jvm.LawKit Jvm.RoadKit Bundle Jvm.Pilot.@@N@@.Jvm.D
section Own
variable {p : Program} {l : Launch} {e : Env} {R : Room} {s : State} {m : MethodId} {args : Array Value} {below : List Frame} {meth : Method} {c : Code} {T : State} {locs : List Loc} {cells slots : Nat} {Z : State} {a0 : Array Value} {h : Heap}
variable {Q : Option Value → Heap → List Loc → Prop} {F : Outcome → State → Prop} {C N : Nat} {A B : State}
/-- how a body ends: it returns v, Q holds of what it returned, of the heap and of the places written; nothing else is written (EndW: String constants may have been interned) -/
def EndN (s : State) (Q : Option Value → Heap → List Loc → Prop) (C N : Nat) (o : Outcome) (t : State) : Prop := ∃ v L, o = .returned v ∧ Q v t.heap L ∧ FrameEnd s o t L C N
/-- what a body owes from a point of its walk: it comes to its end, and F holds there -/
def Owes (p : Program) (e : Env) (below : List Frame) (F : Outcome → State → Prop) (A : State) : Prop :=
  ∃ s₂ o, Steps p.tables e below A s₂ ∧ s₂.status = .running ∧ Ended s₂ below o ∧ F o s₂
theorem Owes.go (k : Owes p e below F B) (f : ∀ t, Steps p.tables e below B t → Steps p.tables e below A t) : Owes p e below F A := by
  obtain ⟨s₂, o, h1, r⟩ := k
  exact ⟨s₂, o, f _ h1, r⟩
theorem Owes.tr (k : Owes p e below F B) (st : Steps p.tables e below A B) : Owes p e below F A := by
  obtain ⟨s₂, o, h1, r⟩ := k
  exact ⟨s₂, o, st.trans h1, r⟩
theorem Owes.mono {Q' : Option Value → Heap → List Loc → Prop} (k : Owes p e below (EndN s Q C N) A) (f : ∀ v h L, Q v h L → Q' v h L) : Owes p e below (EndN s Q' C N) A := by
  obtain ⟨s₂, o, h1, h2, h3, v, L, h4, h5, h6⟩ := k
  exact ⟨s₂, o, h1, h2, h3, v, L, h4, f _ _ _ h5, h6⟩
/-- a body's contract at given arguments and a given heap -/
def OMet (l : Launch) (y : MethodName) (bytes : ByteArray) (maxL : Nat) (ret : Option FieldType) (ws : List Jvm.Cond) (rm : Room) (as' : Array Value) (Z : State) (h0 : Heap) (Q : Option Value → Heap → List Loc → Prop) : Prop :=
  MetFree l y (head1 (Jvm.Cond.code y bytes maxL ret :: ws) rm) (fun a U => a = as' ∧ Z.Warmed39 U.vm ∧ U.heap = h0) (fun _ _ _ _ _ => True) (fun _ U o U' => ∃ v L, o = .returned v ∧ Q v U'.heap L ∧ FrameEnd U o U' L rm.cells rm.slots)
theorem OMet.of {y : MethodName} {bytes : ByteArray} {maxL : Nat} {ret : Option FieldType} {ws : List Jvm.Cond} {rm : Room} {as' : Array Value} {h0 : Heap} (hpl : plainFor y = true) {Ls : Array Slot} (ef : ∀ m, entryFrame m as' maxL = mkF m 0 Ls [])
    (body : ∀ (p : Program) (e : Env) (s : State) (m : MethodId) (below : List Frame) (meth : Method) (c : Code) (s₁ : State), p.tables.exec = Jvm.exec → c.code = bytes → c.maxLocals = maxL → s.vm.findClass y.cls = some m.cls → meth.name = y.name → meth.sig.returnType = ret → meth.locks = false → Z.Warmed39 s.vm →
      Stand p l e rm s m as' below meth c s₁ [] 0 0 → s₁.heap = h0 → Owes p e below (EndN s Q rm.cells rm.slots) (s₁.setTop (mkF m 0 Ls []))) : OMet l y bytes maxL ret ws rm as' Z h0 Q := by
  refine MetFree.of_bodySF hpl hisR ?_
  intro p e s m args below meth c s₁ Bd hml0 hP hK
  obtain ⟨rfl, hZ, hh⟩ := hP
  have hlk : meth.locks = false := BodyLoose.notSynchronized Bd
  have X0 : Stand p l e rm s m args below meth c s₁ [] 0 0 := Stand.of_body Bd
  have e0 : s₁.heap = h0 := by rw [← hh, Bd.state]; rfl
  obtain ⟨s₂, o, h1, h2, h3, h4⟩ := body p e s m below meth c s₁ Bd.exec Bd.bytes hml0 (findClass_of_methodNamed Bd.named) (name_of_methodNamed Bd.named Bd.method).1 Bd.returns hlk hZ X0 e0
  exact ⟨s₂, o, castTop (ef m) h1, h2, h3, h4⟩
theorem OMet.mono {y : MethodName} {bytes : ByteArray} {maxL : Nat} {ret : Option FieldType} {ws : List Jvm.Cond} {rm : Room} {as' : Array Value} {h0 : Heap} {Q' : Option Value → Heap → List Loc → Prop} (M : OMet l y bytes maxL ret ws rm as' Z h0 Q) (f : ∀ v h L, Q v h L → Q' v h L) : OMet l y bytes maxL ret ws rm as' Z h0 Q' := by
  intro p e ha hc hk s m args below hf happ hP hK
  obtain ⟨n, o, h1, h2, h3, v, L, h4, h5, h6⟩ := M p e ha hc hk s m args below hf happ hP hK
  exact ⟨n, o, h1, h2, h3, v, L, h4, f _ _ _ h5, h6⟩
theorem own_end (X : Stand p l e R s m args below meth c T locs cells slots) (hlk : meth.locks = false) {v : Option Value} (hv : meth.sig.returnType = none → v = none) (hc : cells ≤ C) (hs : slots ≤ N) (hq : Q v T.heap locs) {A : State}
    (hst : ∀ fs : List Frame, (∀ (f : JFrame) (acts : List Action), f.method = m → f.locked = none → f.entered = [] → (doReturn e (T.setTop f) acts v).1 = T.setFrames fs) → Steps p.tables e below A (T.setFrames fs)) : Owes p e below (EndN s Q C N) A := by
  obtain ⟨fs, hr, hrun, hended, hW, hsame⟩ := X.leave hv hlk
  exact ⟨_, _, hst fs hr, hrun, hended, v, locs, rfl, hq, ⟨_, rfl⟩, hW, hsame.mono hc hs⟩
theorem Owes.retN (X : Stand p l e R s m args below meth c T locs cells slots) (hx : p.tables.exec = Jvm.exec) (hlk : meth.locks = false) {pc : Nat} {Ls : Array Slot} {z : Int32} {t : FieldType} {rest : List Value} (hret : meth.sig.returnType = some t) (ht : t = .boolean ∨ t = .byte ∨ t = .char ∨ t = .short)
    (hd : decode c.code pc = .ok (.ireturn, 1)) (hc : cells ≤ C) (hs : slots ≤ N) (hq : Q (some (.int (nar t z))) T.heap locs) : Owes p e below (EndN s Q C N) (T.setTop (mkF m pc Ls (.int z :: rest))) :=
  own_end X hlk (fun h => by rw [hret] at h; cases h) hc hs hq fun fs hr => Jvm.RoadKit.retN X hx hret ht hd hr
theorem Owes.retI (X : Stand p l e R s m args below meth c T locs cells slots) (hx : p.tables.exec = Jvm.exec) (hlk : meth.locks = false) {pc : Nat} {Ls : Array Slot} {z : Int32} {rest : List Value} (hret : meth.sig.returnType = some .int)
    (hd : decode c.code pc = .ok (.ireturn, 1)) (hc : cells ≤ C) (hs : slots ≤ N) (hq : Q (some (.int z)) T.heap locs) : Owes p e below (EndN s Q C N) (T.setTop (mkF m pc Ls (.int z :: rest))) :=
  own_end X hlk (fun h => by rw [hret] at h; cases h) hc hs hq fun fs hr => Jvm.RoadKit.retOut X hx hret rfl (Or.inl ⟨rfl, Or.inl rfl, _, rfl⟩) hd hr
theorem Owes.retJ (X : Stand p l e R s m args below meth c T locs cells slots) (hx : p.tables.exec = Jvm.exec) (hlk : meth.locks = false) {pc : Nat} {Ls : Array Slot} {z : Int64} {rest : List Value} (hret : meth.sig.returnType = some .long)
    (hd : decode c.code pc = .ok (.lreturn, 1)) (hc : cells ≤ C) (hs : slots ≤ N) (hq : Q (some (.long z)) T.heap locs) : Owes p e below (EndN s Q C N) (T.setTop (mkF m pc Ls (.long z :: rest))) :=
  own_end X hlk (fun h => by rw [hret] at h; cases h) hc hs hq fun fs hr => Jvm.RoadKit.retOut X hx hret rfl (Or.inr (Or.inl ⟨rfl, rfl, _, rfl⟩)) hd hr
theorem Owes.retA (X : Stand p l e R s m args below meth c T locs cells slots) (hx : p.tables.exec = Jvm.exec) (hlk : meth.locks = false) {pc : Nat} {Ls : Array Slot} {w : Value} {t : FieldType} {rest : List Value} (hret : meth.sig.returnType = some t) (ht : t.isReference = true) (hn : narrow t w = w) (hw : w.isRef = true)
    (hd : decode c.code pc = .ok (.areturn, 1)) (hc : cells ≤ C) (hs : slots ≤ N) (hq : Q (some w) T.heap locs) : Owes p e below (EndN s Q C N) (T.setTop (mkF m pc Ls (w :: rest))) :=
  own_end X hlk (fun h => by rw [hret] at h; cases h) hc hs hq fun fs hr => Jvm.RoadKit.retOut X hx hret hn (Or.inr (Or.inr (Or.inr (Or.inr ⟨rfl, ht, hw⟩)))) hd hr
theorem Owes.retV (X : Stand p l e R s m args below meth c T locs cells slots) (hx : p.tables.exec = Jvm.exec) (hlk : meth.locks = false) {pc : Nat} {Ls : Array Slot} (hret : meth.sig.returnType = none)
    (hd : decode c.code pc = .ok (.return_, 1)) (hc : cells ≤ C) (hs : slots ≤ N) (hq : Q none T.heap locs) : Owes p e below (EndN s Q C N) (T.setTop (mkF m pc Ls [])) :=
  own_end X hlk (fun _ => rfl) hc hs hq fun fs hr => X.returnOut hx hret hd hr
/-- a static method by its contract -/
theorem Owes.callS (X : Stand p l e R s m args below meth c T locs cells slots) (hx : p.tables.exec = Jvm.exec) (hZ : Z.Warmed39 s.vm) {own : String} {index : Nat} {y : MethodName} {bytes : ByteArray} {maxL : Nat} {ret : Option FieldType} {rm : Room}
    (hown : s.vm.findClass own = some m.cls) (w1 : (Cond.methodLink own index y).before a0 Z = true) (w2 : (Cond.static y).before a0 Z = true) (w3 : (Cond.initialized y.cls).before a0 Z = true) (w4 : (Cond.code y bytes maxL ret).before a0 Z = true)
    (hy : y.cls ≠ "java/lang/invoke/MethodHandle" ∧ y.cls ≠ "java/lang/invoke/VarHandle") {pc : Nat} {Ls : Array Slot} {argsL rest : List Value} {Q' : Option Value → Heap → List Loc → Prop} (M : OMet l y bytes maxL ret [] rm argsL.toArray Z h Q') (eT : T.heap = h) (hsize : Ls.size = c.maxLocals)
    {ps : List FieldType} {rt : Option FieldType} (hpd : parseMethodDescriptor y.desc = some ⟨ps, rt⟩) (hln : argsL.length = ps.length) {st : List Value} (hst : st = argsL.reverse ++ rest) (hd : decode c.code pc = .ok (.invokestatic index, 3))
    (hf : rm.frames + 1 ≤ R.frames) (hl : (rest.map fun v => v.category).sum + (maxL + 11) + rm.locals ≤ R.locals) (hcl : cells + rm.cells ≤ R.cells) (hsl : slots + rm.slots ≤ R.slots)
    (k : ∀ (T' : State) (v : Option Value) (L : List Loc), Stand p l e R s m args below meth c T' (locs ++ L) (cells + rm.cells) (slots + rm.slots) → Q' v T'.heap L → Owes p e below F (T'.setTop (mkF m (pc + 3) Ls (v.toList ++ rest)))) :
    Owes p e below F (T.setTop (mkF m pc Ls st)) := by
  subst hst
  obtain ⟨v, _, ⟨T3, L3, k3, n3⟩, -, X3, ⟨Lc3, hQ3, l3, y3, z3⟩, st3⟩ := Jvm.LawKit.callS X hx (y := y) hown (mvT hZ w1) (mvT hZ w2) (mvT hZ w3) (mvT hZ w4) hy (backOf (W := (rest.map fun v => v.category).sum) M hZ w4 w3 hf hl) (g := mkF m pc Ls (argsL.reverse ++ rest)) rfl hsize (argsL := argsL) (rest := rest) (lenOf hpd hln) rfl (by show 2 * 0 + _ ≤ _; omega) hd (fun _ _ => ⟨rfl, eT, hcl, hsl⟩)
  dsimp only [Pt.U, Pt.locs, Pt.cells, Pt.slots] at X3 l3 y3 z3 st3 hQ3
  subst l3 y3 z3
  exact (k T3 v Lc3 X3 hQ3).go st3
/-- a constructor by its contract -/
theorem Owes.callC (X : Stand p l e R s m args below meth c T locs cells slots) (hx : p.tables.exec = Jvm.exec) (hZ : Z.Warmed39 s.vm) {own : String} {index : Nat} {y : MethodName} {bytes : ByteArray} {maxL : Nat} {rm : Room} (hy1 : y.name = "<init>")
    (hown : s.vm.findClass own = some m.cls) (w1 : (Cond.methodLink own index y).before a0 Z = true) (w2 : (Cond.instanceMethod y).before a0 Z = true) (w3 : (Cond.initialized y.cls).before a0 Z = true) (w4 : (Cond.code y bytes maxL none).before a0 Z = true)
    (hy : y.cls ≠ "java/lang/invoke/MethodHandle" ∧ y.cls ≠ "java/lang/invoke/VarHandle") {pc : Nat} {Ls : Array Slot} {a : Addr} {argsL rest : List Value} {Q' : Option Value → Heap → List Loc → Prop} (M : OMet l y bytes maxL none [] rm (.ref a :: argsL).toArray Z h Q') (eT : T.heap = h) (hsize : Ls.size = c.maxLocals)
    {ps : List FieldType} {rt : Option FieldType} (hpd : parseMethodDescriptor y.desc = some ⟨ps, rt⟩) (hln : argsL.length = ps.length) {st : List Value} (hst : st = argsL.reverse ++ .ref a :: rest) (hd : decode c.code pc = .ok (.invokespecial index, 3))
    (hf : rm.frames + 1 ≤ R.frames) (hl : (rest.map fun v => v.category).sum + (maxL + 11) + rm.locals ≤ R.locals) (hcl : cells + rm.cells ≤ R.cells) (hsl : slots + rm.slots ≤ R.slots)
    (k : ∀ (T' : State) (v : Option Value) (L : List Loc), Stand p l e R s m args below meth c T' (locs ++ L) (cells + rm.cells) (slots + rm.slots) → Q' v T'.heap L → Owes p e below F (T'.setTop (mkF m (pc + 3) Ls (v.toList ++ rest)))) :
    Owes p e below F (T.setTop (mkF m pc Ls st)) := by
  subst hst
  obtain ⟨v, _, ⟨T3, L3, k3, n3⟩, -, X3, ⟨Lc3, hQ3, l3, y3, z3⟩, st3⟩ := X.specialBack hx (y := y) hy1 hown (mvT hZ w1) (mvT hZ w2) (mvT hZ w4) hy (backOf (W := (rest.map fun v => v.category).sum) M hZ w4 w3 hf hl) (g := mkF m pc Ls (argsL.reverse ++ .ref a :: rest)) rfl hsize (Steps.refl _) (a := a) (argsL := argsL) (rest := rest) (lenOf hpd hln) rfl (by show 2 * 0 + _ ≤ _; omega) hd (fun _ _ => ⟨rfl, eT, hcl, hsl⟩)
  dsimp only [Pt.U, Pt.locs, Pt.cells, Pt.slots] at X3 l3 y3 z3 st3 hQ3
  subst l3 y3 z3
  exact (k T3 v Lc3 X3 hQ3).tr st3
/-- an instance method by the contract of the body that the receiver's class selects -/
theorem Owes.callV (X : Stand p l e R s m args below meth c T locs cells slots) (hx : p.tables.exec = Jvm.exec) (hZ : Z.Warmed39 s.vm) {own CR : String} {index : Nat} {y z : MethodName} {bytes : ByteArray} {maxL : Nat} {ret : Option FieldType} {rm : Room}
    (hown : s.vm.findClass own = some m.cls) (w1 : (Cond.methodLink own index y).before a0 Z = true) (w2 : (Cond.declares y).before a0 Z = true) (hnf : NotFace s y) (w5 : (Cond.selects CR y z).before a0 Z = true) (w6 : (Cond.instanceMethod z).before a0 Z = true) (w3 : (Cond.initialized z.cls).before a0 Z = true) (w4 : (Cond.code z bytes maxL ret).before a0 Z = true)
    (hy : y.cls ≠ "java/lang/invoke/MethodHandle" ∧ y.cls ≠ "java/lang/invoke/VarHandle") {pc : Nat} {Ls : Array Slot} {a : Addr} {argsL rest : List Value} {Q' : Option Value → Heap → List Loc → Prop} (M : OMet l z bytes maxL ret [] rm (.ref a :: argsL).toArray Z h Q') (eT : T.heap = h) (E : Exa Z h a CR) (hsize : Ls.size = c.maxLocals)
    {ps : List FieldType} {rt : Option FieldType} (hpd : parseMethodDescriptor y.desc = some ⟨ps, rt⟩) (hln : argsL.length = ps.length) {st : List Value} (hst : st = argsL.reverse ++ .ref a :: rest) (hd : decode c.code pc = .ok (.invokevirtual index, 3))
    (hf : rm.frames + 1 ≤ R.frames) (hl : (rest.map fun v => v.category).sum + (maxL + 11) + rm.locals ≤ R.locals) (hcl : cells + rm.cells ≤ R.cells) (hsl : slots + rm.slots ≤ R.slots)
    (k : ∀ (T' : State) (v : Option Value) (L : List Loc), Stand p l e R s m args below meth c T' (locs ++ L) (cells + rm.cells) (slots + rm.slots) → Q' v T'.heap L → Owes p e below F (T'.setTop (mkF m (pc + 3) Ls (v.toList ++ rest)))) :
    Owes p e below F (T.setTop (mkF m pc Ls st)) := by
  subst hst
  obtain ⟨cq, kq, qa, qb, qc⟩ := isOf hZ eT E
  obtain ⟨v, _, ⟨T3, L3, k3, n3⟩, -, X3, ⟨Lc3, hQ3, l3, y3, z3⟩, st3⟩ := X.virtualBack hx (y := y) (z := z) hown (mvT hZ w1) (mvT hZ w2) hnf (mvT hZ w5) (mvT hZ w6) hy (backOf (W := (rest.map fun v => v.category).sum) M hZ w4 w3 hf hl) qa qc (g := mkF m pc Ls (argsL.reverse ++ .ref a :: rest)) rfl hsize (Steps.refl _) (argsL := argsL) (rest := rest) (lenOf hpd hln) rfl (by show 2 * 0 + _ ≤ _; omega) hd (fun _ _ => ⟨rfl, eT, hcl, hsl⟩)
  dsimp only [Pt.U, Pt.locs, Pt.cells, Pt.slots] at X3 l3 y3 z3 st3 hQ3
  subst l3 y3 z3
  exact (k T3 v Lc3 X3 hQ3).tr st3
/-- a private method by its contract -/
theorem Owes.callP (X : Stand p l e R s m args below meth c T locs cells slots) (hx : p.tables.exec = Jvm.exec) (hZ : Z.Warmed39 s.vm) {own CR : String} {index : Nat} {y : MethodName} {bytes : ByteArray} {maxL : Nat} {ret : Option FieldType} {rm : Room}
    (hown : s.vm.findClass own = some m.cls) (w1 : (Cond.methodLink own index y).before a0 Z = true) (w2 : (Cond.instanceMethod y).before a0 Z = true) (w5 : (Cond.selects y.cls y y).before a0 Z = true) (w6 : (Cond.privateMethod y).before a0 Z = true) (w3 : (Cond.initialized y.cls).before a0 Z = true) (w4 : (Cond.code y bytes maxL ret).before a0 Z = true)
    (hy : y.cls ≠ "java/lang/invoke/MethodHandle" ∧ y.cls ≠ "java/lang/invoke/VarHandle") {pc : Nat} {Ls : Array Slot} {a : Addr} {argsL rest : List Value} {Q' : Option Value → Heap → List Loc → Prop} (M : OMet l y bytes maxL ret [] rm (.ref a :: argsL).toArray Z h Q') (eT : T.heap = h) (E : Exa Z h a CR) (hsize : Ls.size = c.maxLocals)
    {ps : List FieldType} {rt : Option FieldType} (hpd : parseMethodDescriptor y.desc = some ⟨ps, rt⟩) (hln : argsL.length = ps.length) {st : List Value} (hst : st = argsL.reverse ++ .ref a :: rest) (hd : decode c.code pc = .ok (.invokevirtual index, 3))
    (hf : rm.frames + 1 ≤ R.frames) (hl : (rest.map fun v => v.category).sum + (maxL + 11) + rm.locals ≤ R.locals) (hcl : cells + rm.cells ≤ R.cells) (hsl : slots + rm.slots ≤ R.slots)
    (k : ∀ (T' : State) (v : Option Value) (L : List Loc), Stand p l e R s m args below meth c T' (locs ++ L) (cells + rm.cells) (slots + rm.slots) → Q' v T'.heap L → Owes p e below F (T'.setTop (mkF m (pc + 3) Ls (v.toList ++ rest)))) :
    Owes p e below F (T.setTop (mkF m pc Ls st)) := by
  subst hst
  obtain ⟨cq, q1, q2⟩ := E.cell
  obtain ⟨v, _, ⟨T3, L3, k3, n3⟩, -, X3, ⟨Lc3, hQ3, l3, y3, z3⟩, st3⟩ := X.privateBack hx (y := y) hown (mvT hZ w1) (mvT hZ w2) (mvT hZ w5) (Cond.privateMethod_at (mvP hZ w6 (args := #[]))) (mvT hZ w4) hy (backOf (W := (rest.map fun v => v.category).sum) M hZ w4 w3 hf hl) (g := mkF m pc Ls (argsL.reverse ++ .ref a :: rest)) rfl hsize (Steps.refl _) (a := a) (by rw [eT]; exact q1) q2 (argsL := argsL) (rest := rest) (lenOf hpd hln) rfl (by show 2 * 0 + _ ≤ _; omega) hd (fun _ _ => ⟨rfl, eT, hcl, hsl⟩)
  dsimp only [Pt.U, Pt.locs, Pt.cells, Pt.slots] at X3 l3 y3 z3 st3 hQ3
  subst l3 y3 z3
  exact (k T3 v Lc3 X3 hQ3).tr st3
theorem own_st {c2 s2 : Nat} (X : Stand p l e R s m args below meth c T locs cells slots) (hc : cells = c2) (hs : slots = s2) : Stand p l e R s m args below meth c T locs c2 s2 := by subst hc hs; exact X
theorem Owes.initO (X : Stand p l e R s m args below meth c T locs cells slots) (hx : p.tables.exec = Jvm.exec) (hZ : Z.Warmed39 s.vm) {own : String} {index : Nat} (hown : s.vm.findClass own = some m.cls) (w1 : (Cond.methodLink own index Lib.objectInit).before a0 Z = true) (w2 : (Cond.instanceMethod Lib.objectInit).before a0 Z = true) (w3 : (Cond.code Lib.objectInit ⟨#[0xb1]⟩ 1 none).before a0 Z = true) (eT : T.heap = h)
    {pc : Nat} {Ls : Array Slot} {a : Addr} {rest : List Value} (hsize : Ls.size = c.maxLocals) (hd : decode c.code pc = .ok (.invokespecial index, 3)) (hf : 1 ≤ R.frames) (hl : (rest.map fun v => v.category).sum + 12 ≤ R.locals)
    (k : ∀ T' : State, Stand p l e R s m args below meth c T' locs cells slots → T'.heap = h → Owes p e below F (T'.setTop (mkF m (pc + 3) Ls rest))) : Owes p e below F (T.setTop (mkF m pc Ls (.ref a :: rest))) := by
  obtain ⟨T', X', e', st⟩ := Jvm.RoadKit.initO X hx hZ hown w1 w2 w3 eT (g := mkF m pc Ls (.ref a :: rest)) rfl hsize rfl hd hf (W := (rest.map fun v => v.category).sum) (by show 2 * 0 + _ ≤ _; omega) hl
  exact (k T' X' e').go st
theorem Owes.newO (X : Stand p l e R s m args below meth c T locs cells slots) (hx : p.tables.exec = Jvm.exec) (hZ : Z.Warmed39 s.vm) {own CC : String} {index n : Nat} (hown : s.vm.findClass own = some m.cls) (w : (Cond.classLink own index CC).before a0 Z = true) (wi : (Cond.instantiable CC n).before a0 Z = true) (wz : (Cond.initialized CC).before a0 Z = true) (eT : T.heap = h)
    {pc : Nat} {Ls : Array Slot} {rest : List Value} (hd : decode c.code pc = .ok (.new index, 3)) (hcl : cells + 1 ≤ R.cells) (hsl : slots + n ≤ R.slots)
    (k : ∀ (T' : State) (h' : Heap), Stand p l e R s m args below meth c T' locs (cells + 1) (slots + n) → T'.heap = h' → Ext h h' → Exa Z h' h.size CC → (∀ {O nm d : String} {ty : FieldType}, Laid Z a0 CC O nm d → parseFieldDescriptor d = some ty → Fld Z h' h.size O nm d (defaultValue ty)) → Owes p e below F (T'.setTop (mkF m (pc + 3) Ls (.ref h.size :: rest)))) : Owes p e below F (T.setTop (mkF m pc Ls rest)) := by
  obtain ⟨T', h', X', e', E, A, D, -, st⟩ := Jvm.RoadKit.newO X hx hZ hown w wi wz eT (g := mkF m pc Ls rest) rfl hd hcl hsl
  exact (k T' h' X' e' E A D).go st
theorem Owes.putF (X : Stand p l e R s m args below meth c T locs cells slots) (hx : p.tables.exec = Jvm.exec) (hZ : Z.Warmed39 s.vm) {own R0 O n d host CC : String} {index kk : Nat} {ty : FieldType} (hown : s.vm.findClass own = some m.cls) (w : (Cond.fieldLink own index R0 n d).before a0 Z = true ∨ (Cond.fieldLinkNest own index R0 n d host).before a0 Z = true) (via : Via Z R0 O n d) (eT : T.heap = h)
    {a : Addr} {v old : Value} (Fd : Fld Z h a O n d old) (E : Exa Z h a CC) (L : (Cond.lays CC O n d).before a0 Z = true ∨ ((Cond.laysFinal CC O n d).before a0 Z = true ∧ own = O ∧ meth.name = "<init>")) (wi : (Cond.instantiable CC kk).before a0 Z = true) (hty : parseFieldDescriptor d = some ty) (hn : narrow ty v = v) (hf : fits ty v = true)
    {pc : Nat} {Ls : Array Slot} {rest : List Value} (hd : decode c.code pc = .ok (.putfield index, 3))
    (k : ∀ (T' : State) (h' : Heap), Stand p l e R s m args below meth c T' (locs ++ [⟨a, Jvm.RoadKit.slotOf Z O n d⟩]) cells slots → T'.heap = h' → Wr h h' a (Jvm.RoadKit.slotOf Z O n d) v → Owes p e below F (T'.setTop (mkF m (pc + 3) Ls rest))) : Owes p e below F (T.setTop (mkF m pc Ls (v :: .ref a :: rest))) := by
  obtain ⟨T', h', X', e', W, st⟩ := Jvm.RoadKit.putF X hx hZ hown w via eT Fd E L wi hty hn hf (g := mkF m pc Ls (v :: .ref a :: rest)) rfl rfl hd
  exact (k T' h' X' e' W).go st
theorem Owes.alen (X : Stand p l e R s m args below meth c T locs cells slots) (hx : p.tables.exec = Jvm.exec) (hZ : Z.Warmed39 s.vm) (eT : T.heap = h) {a : Addr} {cl : Cell} {ty : FieldType} (A : Arr Z h a cl ty) {z : Int32} (hn : cl.slots.size.toInt32 = z) {pc : Nat} {Ls : Array Slot} {rest : List Value}
    (hd : decode c.code pc = .ok (.arraylength, 1)) (k : Owes p e below F (T.setTop (mkF m (pc + 1) Ls (.int z :: rest)))) : Owes p e below F (T.setTop (mkF m pc Ls (.ref a :: rest))) := by
  subst hn
  exact k.go fun t q => X.arraylength hx (by rw [eT]; exact A.1) (State.isArrayOf_alike hZ.alike A.2.1) (g := mkF m pc Ls (.ref a :: rest)) rfl rfl hd _ q
theorem Owes.aldI (X : Stand p l e R s m args below meth c T locs cells slots) (hx : p.tables.exec = Jvm.exec) (hZ : Z.Warmed39 s.vm) (eT : T.heap = h) {a : Addr} {cl : Cell} (A : Arr Z h a cl .int) {j : Int32} {v : Value} (hin : ¬ (j < 0 ∨ cl.slots.size ≤ j.toNatClampNeg)) (hat : cl.slots[j.toNatClampNeg]? = some v) {pc : Nat} {Ls : Array Slot} {rest : List Value}
    (hd : decode c.code pc = .ok (.iaload, 1)) (k : Owes p e below F (T.setTop (mkF m (pc + 1) Ls (v :: rest)))) : Owes p e below F (T.setTop (mkF m pc Ls (.int j :: .ref a :: rest))) :=
  k.go fun t q => X.iaload hx (by rw [eT]; exact A.1) (State.isArrayOf_alike hZ.alike A.2.1) A.2.2 hin hat (g := mkF m pc Ls (.int j :: .ref a :: rest)) rfl rfl hd _ q
theorem Owes.aldJ (X : Stand p l e R s m args below meth c T locs cells slots) (hx : p.tables.exec = Jvm.exec) (hZ : Z.Warmed39 s.vm) (eT : T.heap = h) {a : Addr} {cl : Cell} (A : Arr Z h a cl .long) {j : Int32} {v : Value} (hin : ¬ (j < 0 ∨ cl.slots.size ≤ j.toNatClampNeg)) (hat : cl.slots[j.toNatClampNeg]? = some v) {pc : Nat} {Ls : Array Slot} {rest : List Value}
    (hd : decode c.code pc = .ok (.laload, 1)) (k : Owes p e below F (T.setTop (mkF m (pc + 1) Ls (v :: rest)))) : Owes p e below F (T.setTop (mkF m pc Ls (.int j :: .ref a :: rest))) :=
  k.go fun t q => X.laload hx (by rw [eT]; exact A.1) (State.isArrayOf_alike hZ.alike A.2.1) A.2.2 hin hat (g := mkF m pc Ls (.int j :: .ref a :: rest)) rfl rfl hd _ q
theorem Owes.aldC (X : Stand p l e R s m args below meth c T locs cells slots) (hx : p.tables.exec = Jvm.exec) (hZ : Z.Warmed39 s.vm) (eT : T.heap = h) {a : Addr} {cl : Cell} (A : Arr Z h a cl .char) {j : Int32} {v : Value} (hin : ¬ (j < 0 ∨ cl.slots.size ≤ j.toNatClampNeg)) (hat : cl.slots[j.toNatClampNeg]? = some v) {pc : Nat} {Ls : Array Slot} {rest : List Value}
    (hd : decode c.code pc = .ok (.caload, 1)) (k : Owes p e below F (T.setTop (mkF m (pc + 1) Ls (v :: rest)))) : Owes p e below F (T.setTop (mkF m pc Ls (.int j :: .ref a :: rest))) :=
  k.go fun t q => X.caload hx (by rw [eT]; exact A.1) (State.isArrayOf_alike hZ.alike A.2.1) A.2.2 hin hat (g := mkF m pc Ls (.int j :: .ref a :: rest)) rfl rfl hd _ q
theorem Owes.aldZ (X : Stand p l e R s m args below meth c T locs cells slots) (hx : p.tables.exec = Jvm.exec) (hZ : Z.Warmed39 s.vm) (eT : T.heap = h) {a : Addr} {cl : Cell} (A : Arr Z h a cl .boolean) {j : Int32} {v : Value} (hin : ¬ (j < 0 ∨ cl.slots.size ≤ j.toNatClampNeg)) (hat : cl.slots[j.toNatClampNeg]? = some v) {pc : Nat} {Ls : Array Slot} {rest : List Value}
    (hd : decode c.code pc = .ok (.baload, 1)) (k : Owes p e below F (T.setTop (mkF m (pc + 1) Ls (v :: rest)))) : Owes p e below F (T.setTop (mkF m pc Ls (.int j :: .ref a :: rest))) :=
  k.go fun t q => X.baloadBooleans hx (by rw [eT]; exact A.1) (State.isArrayOf_alike hZ.alike A.2.1) A.2.2 hin hat (g := mkF m pc Ls (.int j :: .ref a :: rest)) rfl rfl hd _ q
theorem Owes.aldB (X : Stand p l e R s m args below meth c T locs cells slots) (hx : p.tables.exec = Jvm.exec) (hZ : Z.Warmed39 s.vm) (eT : T.heap = h) {a : Addr} {cl : Cell} (A : Arr Z h a cl .byte) {j : Int32} {v : Value} (hin : ¬ (j < 0 ∨ cl.slots.size ≤ j.toNatClampNeg)) (hat : cl.slots[j.toNatClampNeg]? = some v) {pc : Nat} {Ls : Array Slot} {rest : List Value}
    (hd : decode c.code pc = .ok (.baload, 1)) (k : Owes p e below F (T.setTop (mkF m (pc + 1) Ls (v :: rest)))) : Owes p e below F (T.setTop (mkF m pc Ls (.int j :: .ref a :: rest))) :=
  k.go fun t q => X.baloadBytes hx (by rw [eT]; exact A.1) (State.isArrayOf_alike hZ.alike A.2.1) A.2.2 hin hat (g := mkF m pc Ls (.int j :: .ref a :: rest)) rfl rfl hd _ q
theorem Owes.aldR (X : Stand p l e R s m args below meth c T locs cells slots) (hx : p.tables.exec = Jvm.exec) (hZ : Z.Warmed39 s.vm) (eT : T.heap = h) {a : Addr} {cl : Cell} {ty : FieldType} (A : Arr Z h a cl ty) (hty : ty.isReference = true) {j : Int32} {v : Value} (hin : ¬ (j < 0 ∨ cl.slots.size ≤ j.toNatClampNeg)) (hat : cl.slots[j.toNatClampNeg]? = some v) {pc : Nat} {Ls : Array Slot} {rest : List Value}
    (hd : decode c.code pc = .ok (.aaload, 1)) (k : Owes p e below F (T.setTop (mkF m (pc + 1) Ls (v :: rest)))) : Owes p e below F (T.setTop (mkF m pc Ls (.int j :: .ref a :: rest))) :=
  k.go fun t q => X.aaload hx (by rw [eT]; exact A.1) (State.isArrayOf_alike hZ.alike A.2.1) hty A.2.2 hin hat (g := mkF m pc Ls (.int j :: .ref a :: rest)) rfl rfl hd _ q
theorem own_eqI {first : State} {o : Option Outcome} {idx : List Nat} {t : Term} {k : Int32} (q : (Cond.eq t (.int k)).value args first o s idx = some true) : t.eval args first o idx s = some (.int k) := by
  simp only [Cond.value, Term.eval] at q
  cases hv : t.eval args first o idx s with
  | none => simp [hv] at q
  | some v => cases v <;> simp_all
end Own
section OwnArr
variable {p : Program} {l : Launch} {e : Env} {R : Room} {s : State} {m : MethodId} {args : Array Value} {below : List Frame} {meth : Method} {c : Code} {T : State} {locs : List Loc} {cells slots : Nat} {Z : State} {a0 : Array Value} {h h' : Heap}
variable {Q : Option Value → Heap → List Loc → Prop} {F : Outcome → State → Prop} {C N : Nat} {A B : State}
theorem own_nat {j : Int32} {i : Nat} (q : j.toInt = (i : Int)) : ¬ j < 0 ∧ j.toNatClampNeg = i := by
  constructor
  · rw [Int32.lt_iff_toInt_lt, q, show (0 : Int32).toInt = 0 from by decide]; omega
  · rw [Int32.toNatClampNeg, q]; omega
theorem own_nth {j : Int32} {i n : Nat} {cl : Cell} (q : j.toInt = (i : Int)) (hi : i < n) (S : cl.slots.size = n) : ¬ (j < 0 ∨ cl.slots.size ≤ j.toNatClampNeg) := by
  obtain ⟨q1, q2⟩ := own_nat q
  rintro (z | z)
  · exact q1 z
  · rw [q2, S] at z; omega
/-- an array with components of type ty: n places, the place i holds w i -/
def GA (Z : State) (h : Heap) (a : Addr) (ty : FieldType) (n : Nat) (w : Nat → Value) : Prop := ∃ c : Cell, Arr Z h a c ty ∧ c.slots.size = n ∧ ∀ i, i < n → c.slots[i]? = some (w i)
def upd {α : Type} (w : Nat → α) (i : Nat) (v : α) : Nat → α := fun k => if k = i then v else w k
theorem upd_same {α : Type} (w : Nat → α) (i : Nat) (v : α) : upd w i v i = v := if_pos rfl
theorem upd_ne {α : Type} (w : Nat → α) {i k : Nat} (v : α) (q : k ≠ i) : upd w i v k = w k := if_neg q
theorem GA.lt {a : Addr} {ty : FieldType} {n : Nat} {w : Nat → Value} (G0 : GA Z h a ty n w) : a < h.size := by obtain ⟨c, A, -⟩ := G0; exact A.lt
theorem GA.ext {a : Addr} {ty : FieldType} {n : Nat} {w : Nat → Value} (G0 : GA Z h a ty n w) (E : Ext h h') : GA Z h' a ty n w := by obtain ⟨c, A, r⟩ := G0; exact ⟨c, A.ext E, r⟩
theorem GA.other {a b : Addr} {ty : FieldType} {n sl : Nat} {w : Nat → Value} {v : Value} (G0 : GA Z h b ty n w) (W : Wr h h' a sl v) (q : b ≠ a) : GA Z h' b ty n w := by obtain ⟨c, A, r⟩ := G0; exact ⟨c, A.other W q, r⟩
theorem GA.keep {a : Addr} {ty : FieldType} {n : Nat} {w : Nat → Value} {ws : List Addr} (G0 : GA Z h a ty n w) (K : Keep h h' ws) (q : a ∉ ws) : GA Z h' a ty n w := by obtain ⟨c, A, r⟩ := G0; exact ⟨c, ⟨K.2.1 a c A.1 q, A.2⟩, r⟩
theorem GA.congr {a : Addr} {ty : FieldType} {n : Nat} {w w' : Nat → Value} (G0 : GA Z h a ty n w) (q : ∀ i, i < n → w i = w' i) : GA Z h a ty n w' := by obtain ⟨c, A, S, r⟩ := G0; exact ⟨c, A, S, fun i hi => by rw [← q i hi]; exact r i hi⟩
theorem GA.set {a : Addr} {ty : FieldType} {n i : Nat} {w : Nat → Value} {v : Value} (G0 : GA Z h a ty n w) (W : Wr h h' a i v) : GA Z h' a ty n (upd w i v) := by
  obtain ⟨c, A, S, r⟩ := G0
  refine ⟨_, A.same W, by rw [sz_set]; exact S, fun k hk => ?_⟩
  by_cases q : k = i
  · subst q
    rw [upd_same]
    simp [Cell.setSlot, S, hk]
  · rw [upd_ne _ _ q, ← r k hk]
    exact Array.getElem?_setIfInBounds_ne (Ne.symm q)
theorem GA.new {a : Addr} {ty : FieldType} {k : ClassId} {z : Int32} {n : Nat} (A : Arr Z h a (newA k ty z) ty) (q : z.toInt = (n : Int)) : GA Z h a ty n (fun _ => defaultValue ty) := by
  have e := (own_nat q).2
  refine ⟨_, A, by rw [sz_new]; exact e, fun i hi => ?_⟩
  simp [newA, e, hi]
theorem GA.ne {a b : Addr} {ty : FieldType} {n n' : Nat} {w w' : Nat → Value} {ty' : FieldType} (G0 : GA Z h a ty n w) (G : GA Z h b ty' n' w') (q : ty ≠ ty') : a ≠ b := fun z => by
  subst z
  obtain ⟨c, A, -⟩ := G0
  obtain ⟨c', A', -⟩ := G
  cases A.1.symm.trans A'.1
  obtain ⟨-, k, h1, comp, h2⟩ := A.2.1
  obtain ⟨-, k', h1', comp', h2'⟩ := A'.2.1
  cases h1.symm.trans h1'
  rw [h2] at h2'
  cases h2'
  exact q rfl
theorem GA.ne_obj {a b : Addr} {ty : FieldType} {n k : Nat} {w : Nat → Value} {CC : String} (E : Exa Z h a CC) (wi : (Cond.instantiable CC k).before a0 Z = true) (G0 : GA Z h b ty n w) : a ≠ b := by
  obtain ⟨c, A, -⟩ := G0
  exact ne_arr E wi A
theorem Owes.gI (X : Stand p l e R s m args below meth c T locs cells slots) (hx : p.tables.exec = Jvm.exec) (hZ : Z.Warmed39 s.vm) (eT : T.heap = h) {a : Addr} {n : Nat} {w : Nat → Value} (A : GA Z h a .int n w) {j : Int32} {i : Nat} {v : Value} (hj : j.toInt = (i : Int)) (hi : i < n) (hv : w i = v) {pc : Nat} {Ls : Array Slot} {rest : List Value}
    (hd : decode c.code pc = .ok (.iaload, 1)) (k : Owes p e below F (T.setTop (mkF m (pc + 1) Ls (v :: rest)))) : Owes p e below F (T.setTop (mkF m pc Ls (.int j :: .ref a :: rest))) := by
  obtain ⟨cl, A1, S, V⟩ := A
  exact Owes.aldI X hx hZ eT A1 (own_nth hj hi S) (by rw [(own_nat hj).2, ← hv]; exact V i hi) hd k
theorem Owes.gJ (X : Stand p l e R s m args below meth c T locs cells slots) (hx : p.tables.exec = Jvm.exec) (hZ : Z.Warmed39 s.vm) (eT : T.heap = h) {a : Addr} {n : Nat} {w : Nat → Value} (A : GA Z h a .long n w) {j : Int32} {i : Nat} {v : Value} (hj : j.toInt = (i : Int)) (hi : i < n) (hv : w i = v) {pc : Nat} {Ls : Array Slot} {rest : List Value}
    (hd : decode c.code pc = .ok (.laload, 1)) (k : Owes p e below F (T.setTop (mkF m (pc + 1) Ls (v :: rest)))) : Owes p e below F (T.setTop (mkF m pc Ls (.int j :: .ref a :: rest))) := by
  obtain ⟨cl, A1, S, V⟩ := A
  exact Owes.aldJ X hx hZ eT A1 (own_nth hj hi S) (by rw [(own_nat hj).2, ← hv]; exact V i hi) hd k
theorem Owes.gC (X : Stand p l e R s m args below meth c T locs cells slots) (hx : p.tables.exec = Jvm.exec) (hZ : Z.Warmed39 s.vm) (eT : T.heap = h) {a : Addr} {n : Nat} {w : Nat → Value} (A : GA Z h a .char n w) {j : Int32} {i : Nat} {v : Value} (hj : j.toInt = (i : Int)) (hi : i < n) (hv : w i = v) {pc : Nat} {Ls : Array Slot} {rest : List Value}
    (hd : decode c.code pc = .ok (.caload, 1)) (k : Owes p e below F (T.setTop (mkF m (pc + 1) Ls (v :: rest)))) : Owes p e below F (T.setTop (mkF m pc Ls (.int j :: .ref a :: rest))) := by
  obtain ⟨cl, A1, S, V⟩ := A
  exact Owes.aldC X hx hZ eT A1 (own_nth hj hi S) (by rw [(own_nat hj).2, ← hv]; exact V i hi) hd k
theorem Owes.gZ (X : Stand p l e R s m args below meth c T locs cells slots) (hx : p.tables.exec = Jvm.exec) (hZ : Z.Warmed39 s.vm) (eT : T.heap = h) {a : Addr} {n : Nat} {w : Nat → Value} (A : GA Z h a .boolean n w) {j : Int32} {i : Nat} {v : Value} (hj : j.toInt = (i : Int)) (hi : i < n) (hv : w i = v) {pc : Nat} {Ls : Array Slot} {rest : List Value}
    (hd : decode c.code pc = .ok (.baload, 1)) (k : Owes p e below F (T.setTop (mkF m (pc + 1) Ls (v :: rest)))) : Owes p e below F (T.setTop (mkF m pc Ls (.int j :: .ref a :: rest))) := by
  obtain ⟨cl, A1, S, V⟩ := A
  exact Owes.aldZ X hx hZ eT A1 (own_nth hj hi S) (by rw [(own_nat hj).2, ← hv]; exact V i hi) hd k
theorem Owes.gB (X : Stand p l e R s m args below meth c T locs cells slots) (hx : p.tables.exec = Jvm.exec) (hZ : Z.Warmed39 s.vm) (eT : T.heap = h) {a : Addr} {n : Nat} {w : Nat → Value} (A : GA Z h a .byte n w) {j : Int32} {i : Nat} {v : Value} (hj : j.toInt = (i : Int)) (hi : i < n) (hv : w i = v) {pc : Nat} {Ls : Array Slot} {rest : List Value}
    (hd : decode c.code pc = .ok (.baload, 1)) (k : Owes p e below F (T.setTop (mkF m (pc + 1) Ls (v :: rest)))) : Owes p e below F (T.setTop (mkF m pc Ls (.int j :: .ref a :: rest))) := by
  obtain ⟨cl, A1, S, V⟩ := A
  exact Owes.aldB X hx hZ eT A1 (own_nth hj hi S) (by rw [(own_nat hj).2, ← hv]; exact V i hi) hd k
theorem Owes.gR (X : Stand p l e R s m args below meth c T locs cells slots) (hx : p.tables.exec = Jvm.exec) (hZ : Z.Warmed39 s.vm) (eT : T.heap = h) {a : Addr} {n : Nat} {ty : FieldType} {w : Nat → Value} (A : GA Z h a ty n w) (hty : ty.isReference = true) {j : Int32} {i : Nat} {v : Value} (hj : j.toInt = (i : Int)) (hi : i < n) (hv : w i = v) {pc : Nat} {Ls : Array Slot} {rest : List Value}
    (hd : decode c.code pc = .ok (.aaload, 1)) (k : Owes p e below F (T.setTop (mkF m (pc + 1) Ls (v :: rest)))) : Owes p e below F (T.setTop (mkF m pc Ls (.int j :: .ref a :: rest))) := by
  obtain ⟨cl, A1, S, V⟩ := A
  exact Owes.aldR X hx hZ eT A1 hty (own_nth hj hi S) (by rw [(own_nat hj).2, ← hv]; exact V i hi) hd k
theorem Owes.glen (X : Stand p l e R s m args below meth c T locs cells slots) (hx : p.tables.exec = Jvm.exec) (hZ : Z.Warmed39 s.vm) (eT : T.heap = h) {a : Addr} {n : Nat} {ty : FieldType} {w : Nat → Value} (A : GA Z h a ty n w) {z : Int32} (hz : z.toInt = (n : Int)) {pc : Nat} {Ls : Array Slot} {rest : List Value}
    (hd : decode c.code pc = .ok (.arraylength, 1)) (k : Owes p e below F (T.setTop (mkF m (pc + 1) Ls (.int z :: rest)))) : Owes p e below F (T.setTop (mkF m pc Ls (.ref a :: rest))) := by
  obtain ⟨cl, A1, S, V⟩ := A
  exact Owes.alen X hx hZ eT A1 (len_of (by rw [S, (own_nat hz).2]) (own_nat hz).1) hd k
theorem Owes.sI (X : Stand p l e R s m args below meth c T locs cells slots) (hx : p.tables.exec = Jvm.exec) (hZ : Z.Warmed39 s.vm) (eT : T.heap = h) {a : Addr} {n : Nat} {w : Nat → Value} (A : GA Z h a .int n w) {j : Int32} {i : Nat} (hj : j.toInt = (i : Int)) (hi : i < n) {x : Int32} {pc : Nat} {Ls : Array Slot} {rest : List Value}
    (hd : decode c.code pc = .ok (.iastore, 1)) (k : ∀ (T' : State) (h' : Heap), Stand p l e R s m args below meth c T' (locs ++ [⟨a, i⟩]) cells slots → T'.heap = h' → Wr h h' a i (.int x) → GA Z h' a .int n (upd w i (.int x)) → Owes p e below F (T'.setTop (mkF m (pc + 1) Ls rest))) : Owes p e below F (T.setTop (mkF m pc Ls (.int x :: .int j :: .ref a :: rest))) := by
  have A0 := A
  obtain ⟨cl, A1, S, V⟩ := A
  obtain ⟨T', h', X', e', W, st⟩ := stI X hx hZ eT A1 (j := j) (x := x) (own_nth hj hi S) (g := mkF m pc Ls (.int x :: .int j :: .ref a :: rest)) rfl rfl hd
  rw [(own_nat hj).2] at X' W
  exact (k T' h' X' e' W (A0.set W)).go st
theorem Owes.sJ (X : Stand p l e R s m args below meth c T locs cells slots) (hx : p.tables.exec = Jvm.exec) (hZ : Z.Warmed39 s.vm) (eT : T.heap = h) {a : Addr} {n : Nat} {w : Nat → Value} (A : GA Z h a .long n w) {j : Int32} {i : Nat} (hj : j.toInt = (i : Int)) (hi : i < n) {x : Int64} {pc : Nat} {Ls : Array Slot} {rest : List Value}
    (hd : decode c.code pc = .ok (.lastore, 1)) (k : ∀ (T' : State) (h' : Heap), Stand p l e R s m args below meth c T' (locs ++ [⟨a, i⟩]) cells slots → T'.heap = h' → Wr h h' a i (.long x) → GA Z h' a .long n (upd w i (.long x)) → Owes p e below F (T'.setTop (mkF m (pc + 1) Ls rest))) : Owes p e below F (T.setTop (mkF m pc Ls (.long x :: .int j :: .ref a :: rest))) := by
  have A0 := A
  obtain ⟨cl, A1, S, V⟩ := A
  obtain ⟨T', h', X', e', W, st⟩ := stJ X hx hZ eT A1 (j := j) (x := x) (own_nth hj hi S) (g := mkF m pc Ls (.long x :: .int j :: .ref a :: rest)) rfl rfl hd
  rw [(own_nat hj).2] at X' W
  exact (k T' h' X' e' W (A0.set W)).go st
theorem Owes.sR (X : Stand p l e R s m args below meth c T locs cells slots) (hx : p.tables.exec = Jvm.exec) (hZ : Z.Warmed39 s.vm) (eT : T.heap = h) {a : Addr} {n : Nat} {ty : FieldType} {w : Nat → Value} (A : GA Z h a ty n w) (hty : ty.isReference = true) {j : Int32} {i : Nat} (hj : j.toInt = (i : Int)) (hi : i < n) {v : Value} (SF : Sto Z h a v) {pc : Nat} {Ls : Array Slot} {rest : List Value}
    (hd : decode c.code pc = .ok (.aastore, 1)) (k : ∀ (T' : State) (h' : Heap), Stand p l e R s m args below meth c T' (locs ++ [⟨a, i⟩]) cells slots → T'.heap = h' → Wr h h' a i v → GA Z h' a ty n (upd w i v) → Owes p e below F (T'.setTop (mkF m (pc + 1) Ls rest))) : Owes p e below F (T.setTop (mkF m pc Ls (v :: .int j :: .ref a :: rest))) := by
  have A0 := A
  obtain ⟨cl, A1, S, V⟩ := A
  obtain ⟨T', h', X', e', W, st⟩ := stR X hx hZ eT A1 (j := j) (v := v) (own_nth hj hi S) hty SF (g := mkF m pc Ls (v :: .int j :: .ref a :: rest)) rfl rfl hd
  rw [(own_nat hj).2] at X' W
  exact (k T' h' X' e' W (A0.set W)).go st
theorem Owes.newArr (X : Stand p l e R s m args below meth c T locs cells slots) (hx : p.tables.exec = Jvm.exec) (hZ : Z.Warmed39 s.vm) {aty : ArrayType} (w : (Cond.arrayClass (newarray.typeOf aty)).before a0 Z = true) (eT : T.heap = h) {z : Int32} {n : Nat} (hz : z.toInt = (n : Int)) (hb : n * 8 ≤ 536870912) (hcl : cells + 1 ≤ R.cells) (hsl : slots + n ≤ R.slots) {ad : String} (had : "[" ++ (newarray.typeOf aty).toString = ad) {pc : Nat} {Ls : Array Slot} {rest : List Value}
    (hd : decode c.code pc = .ok (.newarray aty, 2)) (k : ∀ (T' : State) (h' : Heap), Stand p l e R s m args below meth c T' locs (cells + 1) (slots + n) → T'.heap = h' → Ext h h' → GA Z h' h.size (newarray.typeOf aty) n (fun _ => defaultValue (newarray.typeOf aty)) → Exa Z h' h.size ad → Owes p e below F (T'.setTop (mkF m (pc + 2) Ls (.ref h.size :: rest)))) : Owes p e below F (T.setTop (mkF m pc Ls (.int z :: rest))) := by
  obtain ⟨T', h', cA, X', e', E, A1, EX, st⟩ := newPE X hx hZ w eT (g := mkF m pc Ls (.int z :: rest)) rfl hd (n := z) rfl (own_nat hz).1 (cap := n) (Nat.le_of_eq (own_nat hz).2) hb hcl hsl had
  exact (k T' h' X' e' E (GA.new A1 hz) EX).go st
theorem Owes.newArrA (X : Stand p l e R s m args below meth c T locs cells slots) (hx : p.tables.exec = Jvm.exec) (hZ : Z.Warmed39 s.vm) {own CC : String} {ty : FieldType} {index : Nat} (hown : s.vm.findClass own = some m.cls) (hC : (FieldType.array ty).toString = CC) (w1 : (Cond.classLink own index CC).before a0 Z = true) (w2 : (Cond.arrayOver (.array ty)).before a0 Z = true) (eT : T.heap = h) {z : Int32} {n : Nat} (hz : z.toInt = (n : Int)) (hb : n * 8 ≤ 536870912) (hcl : cells + 1 ≤ R.cells) (hsl : slots + n ≤ R.slots) {pc : Nat} {Ls : Array Slot} {rest : List Value}
    (hd : decode c.code pc = .ok (.anewarray index, 3)) (k : ∀ (T' : State) (h' : Heap) (cA : ClassId), Stand p l e R s m args below meth c T' locs (cells + 1) (slots + n) → T'.heap = h' → Ext h h' → Arr Z h' h.size (newA cA (.array ty) z) (.array ty) → OvrA Z cA ty CC → Owes p e below F (T'.setTop (mkF m (pc + 3) Ls (.ref h.size :: rest)))) : Owes p e below F (T.setTop (mkF m pc Ls (.int z :: rest))) := by
  obtain ⟨T', h', cA, X', e', E, A1, EX, O, st⟩ := newRA X hx hZ hown hC w1 w2 eT (g := mkF m pc Ls (.int z :: rest)) rfl hd (n := z) rfl (own_nat hz).1 (cap := n) (Nat.le_of_eq (own_nat hz).2) hb hcl hsl rfl
  exact (k T' h' cA X' e' E A1 O).go st
/-- the same, and the array's own class -/
def GC (Z : State) (h : Heap) (a : Addr) (ty : FieldType) (n : Nat) (w : Nat → Value) (kc : ClassId) : Prop := ∃ c : Cell, Arr Z h a c ty ∧ c.cls = kc ∧ c.slots.size = n ∧ ∀ i, i < n → c.slots[i]? = some (w i)
theorem GC.ga {a : Addr} {ty : FieldType} {n : Nat} {w : Nat → Value} {kc : ClassId} (G0 : GC Z h a ty n w kc) : GA Z h a ty n w := by obtain ⟨c, A, -, r⟩ := G0; exact ⟨c, A, r⟩
theorem GC.ext {a : Addr} {ty : FieldType} {n : Nat} {w : Nat → Value} {kc : ClassId} (G0 : GC Z h a ty n w kc) (E : Ext h h') : GC Z h' a ty n w kc := by obtain ⟨c, A, r⟩ := G0; exact ⟨c, A.ext E, r⟩
theorem GC.other {a b : Addr} {ty : FieldType} {n sl : Nat} {w : Nat → Value} {v : Value} {kc : ClassId} (G0 : GC Z h b ty n w kc) (W : Wr h h' a sl v) (q : b ≠ a) : GC Z h' b ty n w kc := by obtain ⟨c, A, r⟩ := G0; exact ⟨c, A.other W q, r⟩
theorem GC.congr {a : Addr} {ty : FieldType} {n : Nat} {w w' : Nat → Value} {kc : ClassId} (G0 : GC Z h a ty n w kc) (q : ∀ i, i < n → w i = w' i) : GC Z h a ty n w' kc := by obtain ⟨c, A, K, S, r⟩ := G0; exact ⟨c, A, K, S, fun i hi => by rw [← q i hi]; exact r i hi⟩
theorem GC.set {a : Addr} {ty : FieldType} {n i : Nat} {w : Nat → Value} {v : Value} {kc : ClassId} (G0 : GC Z h a ty n w kc) (W : Wr h h' a i v) : GC Z h' a ty n (upd w i v) kc := by
  obtain ⟨c, A, K, S, r⟩ := G0
  refine ⟨_, A.same W, K, by rw [sz_set]; exact S, fun k hk => ?_⟩
  by_cases q : k = i
  · subst q
    rw [upd_same]
    simp [Cell.setSlot, S, hk]
  · rw [upd_ne _ _ q, ← r k hk]
    exact Array.getElem?_setIfInBounds_ne (Ne.symm q)
theorem GC.new {a : Addr} {ty : FieldType} {k : ClassId} {z : Int32} {n : Nat} (A : Arr Z h a (newA k ty z) ty) (q : z.toInt = (n : Int)) : GC Z h a ty n (fun _ => defaultValue ty) k := by
  have e := (own_nat q).2
  refine ⟨_, A, rfl, by rw [sz_new]; exact e, fun i hi => ?_⟩
  simp [newA, e, hi]
theorem GC.sto {a y : Addr} {ty t0 : FieldType} {n : Nat} {w : Nat → Value} {kc : ClassId} {CC : String} (G0 : GC Z h a t0 n w kc) (O : OvrA Z kc ty CC) (I : Ins Z h y CC true) : Sto Z h a (.ref y) := by
  obtain ⟨c, A, K, -⟩ := G0
  exact Sto.ofVA A K O I
end OwnArr

section OwnBits
def bt (w : Int64) (b : Nat) : Bool := w.toBitVec.getLsbD b
theorem bt_zero (b : Nat) : bt 0 b = false := by simp [bt]
theorem bt_ext {x y : Int64} (h : ∀ b, b < 64 → bt x b = bt y b) : x = y := Int64.toBitVec_inj.mp (BitVec.eq_of_getLsbD_eq h)
theorem bt_ne0 {x : Int64} (h : ¬ x = 0) : ∃ b, b < 64 ∧ bt x b = true := by
  apply Classical.byContradiction
  intro q
  apply h
  apply bt_ext
  intro b hb
  rw [bt_zero]
  cases hv : bt x b
  · rfl
  · exact absurd ⟨b, hb, hv⟩ q
theorem bt_eq0 {x : Int64} (h : x = 0) (b : Nat) : bt x b = false := by rw [h, bt_zero]
theorem bt_and (x y : Int64) (b : Nat) : bt (x &&& y) b = (bt x b && bt y b) := by simp [bt]
theorem bt_or (x y : Int64) (b : Nat) : bt (x ||| y) b = (bt x b || bt y b) := by simp [bt]
theorem bt_xor (x y : Int64) (b : Nat) : bt (x ^^^ y) b = (bt x b ^^ bt y b) := by simp [bt]
theorem bt_m1 (b : Nat) (hb : b < 64) : bt (-1) b = true := (by decide +kernel : ∀ b : Fin 64, bt (-1) b.1 = true) ⟨b, hb⟩
theorem bt_1 (b : Nat) : bt 1 b = decide (b = 0) := by
  by_cases hb : b < 64
  · exact (by decide +kernel : ∀ b : Fin 64, bt 1 b.1 = decide (b.1 = 0)) ⟨b, hb⟩
  · have : ¬ b = 0 := by omega
    simp only [this, decide_false]
    exact BitVec.getLsbD_of_ge _ _ (by omega)
theorem i32_nat {q : Int32} {i : Nat} (h : q.toInt = (i : Int)) : q.toBitVec.toNat = i := by
  have h1 : q.toBitVec.toInt = (i : Int) := h
  have h2 := q.toBitVec.isLt
  rw [BitVec.toInt_eq_toNat_cond] at h1
  split at h1 <;> omega
theorem bt_shl (x : Int64) (q : Int32) (i : Nat) (h : q.toInt = (i : Int)) (b : Nat) (hb : b < 64) : bt (x <<< (q &&& 0x3f).toInt64) b = (decide (i % 64 ≤ b) && bt x (b - i % 64)) := by
  have e : q.toBitVec.toNat % 64 = i % 64 := by rw [i32_nat h]
  show (x.toBitVec <<< ((q &&& 0x3f).toInt64.toBitVec.smod 64)).getLsbD b = _
  rw [BitVec.shiftLeft_eq', (sm64 q _ e).1, smod64 _ (sm64 q _ e).2, BitVec.getLsbD_shiftLeft]
  by_cases c : i % 64 ≤ b
  · simp [c, hb, bt, Nat.not_lt.mpr c]
  · simp [c, hb, Nat.lt_of_not_le c]
theorem bt_ushr (x : Int64) (q : Int32) (i : Nat) (h : q.toInt = (i : Int)) (b : Nat) : bt ((x.toUInt64 >>> (q &&& 0x3f).toInt64.toUInt64).toInt64) b = bt x (i % 64 + b) := by
  have e : q.toBitVec.toNat % 64 = i % 64 := by rw [i32_nat h]
  have h5 := (sm64 q _ e).2
  show (x.toBitVec >>> ((q &&& 0x3f).toInt64.toBitVec % 64)).getLsbD b = _
  rw [BitVec.ushiftRight_eq', BitVec.getLsbD_ushiftRight, BitVec.toNat_umod, (sm64 q _ e).1, BitVec.toNat_ofNat]
  have : i % 64 % 2 ^ 64 % (64 : BitVec 64).toNat = i % 64 := by show i % 64 % 2 ^ 64 % 64 = _; omega
  rw [this]; rfl
/-- the word with just the bit i % 64 -/
theorem bt_one_shl (q : Int32) (i : Nat) (h : q.toInt = (i : Int)) (b : Nat) (hb : b < 64) : bt ((1 : Int64) <<< (q &&& 0x3f).toInt64) b = decide (b = i % 64) := by
  rw [bt_shl _ q i h b hb, bt_1]
  by_cases c : b = i % 64
  · simp [c]
  · by_cases d : i % 64 ≤ b
    · have : ¬ b - i % 64 = 0 := by omega
      simp [c, this]
    · simp [c, d]
theorem bt_m1_shl (q : Int32) (i : Nat) (h : q.toInt = (i : Int)) (b : Nat) (hb : b < 64) : bt ((-1 : Int64) <<< (q &&& 0x3f).toInt64) b = decide (i % 64 ≤ b) := by
  rw [bt_shl _ q i h b hb, bt_m1 _ (by omega)]; simp
theorem bt_m1_ushr (q : Int32) (i : Nat) (hi : i < 64) (h : q.toInt = ((63 - i : Nat) : Int)) (b : Nat) (hb : b < 64) : bt (((-1 : Int64).toUInt64 >>> (q &&& 0x3f).toInt64.toUInt64).toInt64) b = decide (b ≤ i) := by
  rw [bt_ushr _ q _ h, Nat.mod_eq_of_lt (show 63 - i < 64 by omega)]
  by_cases c : b ≤ i
  · simp only [c, decide_true]
    exact bt_m1 _ (by omega)
  · simp only [c, decide_false]
    exact BitVec.getLsbD_of_ge _ _ (by omega)
/-- the lowest bit's mask -/
theorem own_low (x : Int32) (t : Nat) (ht : t < 32) (h1 : x.toBitVec.getLsbD t = true) (h2 : ∀ b, b < t → x.toBitVec.getLsbD b = false) : ((x ^^^ (-1 : Int32)) &&& (x - (1 : Int32))) = Int32.ofNat (2 ^ t - 1) := by
  apply Int32.toBitVec_inj.mp
  show (x.toBitVec ^^^ (-1 : Int32).toBitVec) &&& (x.toBitVec - (1 : Int32).toBitVec) = BitVec.ofNat 32 (2 ^ t - 1)
  generalize x.toBitVec = y at *
  have hlt := y.isLt
  have b1 : y.toNat.testBit t = true := h1
  have b2 : ∀ b, b < t → y.toNat.testBit b = false := h2
  have m0 : y.toNat % 2 ^ t = 0 := by
    apply Nat.eq_of_testBit_eq
    intro j
    rw [Nat.testBit_mod_two_pow, Nat.zero_testBit]
    by_cases c : j < t
    · simp [c, b2 j c]
    · simp [c]
  have hd : y.toNat / 2 ^ t % 2 = 1 := by
    rw [Nat.testBit_eq_decide_div_mod_eq] at b1
    exact of_decide_eq_true b1
  have hp : 0 < 2 ^ t := Nat.two_pow_pos t
  have e1 : y.toNat = 2 ^ (t + 1) * (y.toNat / 2 ^ t / 2) + 2 ^ t := by
    have q1 := Nat.div_add_mod y.toNat (2 ^ t)
    have q2 := Nat.div_add_mod (y.toNat / 2 ^ t) 2
    rw [m0] at q1
    rw [hd] at q2
    rw [Nat.pow_succ]
    generalize y.toNat / 2 ^ t = a at *
    have q3 : 2 ^ t * 2 * (a / 2) + 2 ^ t = 2 ^ t * (2 * (a / 2) + 1) := by rw [Nat.mul_add, Nat.mul_one, Nat.mul_assoc]
    rw [q3, q2]; omega
  generalize y.toNat / 2 ^ t / 2 = hi at *
  have hle : 2 ^ t < 2 ^ (t + 1) := by rw [Nat.pow_succ]; omega
  have e2 : (y - (1 : Int32).toBitVec).toNat = 2 ^ (t + 1) * hi + (2 ^ t - 1) := by
    rw [BitVec.toNat_sub, show (1 : Int32).toBitVec.toNat = 1 by decide]
    omega
  apply BitVec.eq_of_getLsbD_eq
  intro j hj
  rw [BitVec.getLsbD_and, BitVec.getLsbD_xor, show (-1 : Int32).toBitVec.getLsbD j = true from (by decide +kernel : ∀ j : Fin 32, (-1 : Int32).toBitVec.getLsbD j.1 = true) ⟨j, hj⟩]
  have l1 : y.getLsbD j = y.toNat.testBit j := rfl
  have l2 : (y - (1 : Int32).toBitVec).getLsbD j = (y - (1 : Int32).toBitVec).toNat.testBit j := rfl
  rw [l1, l2, e2, e1, Nat.testBit_two_pow_mul_add _ hle, Nat.testBit_two_pow_mul_add _ (show 2 ^ t - 1 < 2 ^ (t + 1) by omega), BitVec.getLsbD_ofNat]
  rw [Nat.testBit_two_pow, Nat.testBit_two_pow_sub_one]
  by_cases c : j < t + 1
  · by_cases d : t = j
    · subst d; simp
    · have : j < t := by omega
      simp [c, d, this, hj]
  · have : ¬ j < t := by omega
    simp [c, this]
end OwnBits

section OwnRank
theorem dk_succ (x k : Nat) : x / 64 ^ (k + 1) = x / 64 ^ k / 64 := by rw [Nat.pow_succ, Nat.div_div_eq_div_mul]
theorem dk_mono {x y a b : Nat} (h : x / 64 ^ a = y / 64 ^ a) (hab : a ≤ b) : x / 64 ^ b = y / 64 ^ b := by
  obtain ⟨c, rfl⟩ := Nat.le.dest hab
  rw [Nat.pow_add, ← Nat.div_div_eq_div_mul, ← Nat.div_div_eq_div_mul, h]
/-- the words of level k tell of the members M -/
def LV (M : Nat → Prop) (k len : Nat) (f : Nat → Int64) : Prop := ∀ i, i < len → ∀ b, b < 64 → (bt (f i) b = true ↔ ∃ x, M x ∧ x / 64 ^ k = 64 * i + b)
theorem LV.empty (k len : Nat) : LV (fun _ => False) k len (fun _ => 0) := fun i _ b _ => by
  rw [bt_zero]
  exact ⟨fun h => Bool.noConfusion h, fun ⟨_, h, _⟩ => h.elim⟩
theorem LV.congr {M M' : Nat → Prop} {k len : Nat} {f : Nat → Int64} (H : LV M k len f) (q : ∀ x, M x ↔ M' x) : LV M' k len f := fun i hi b hb => by
  rw [H i hi b hb]
  exact ⟨fun ⟨x, h1, h2⟩ => ⟨x, (q x).mp h1, h2⟩, fun ⟨x, h1, h2⟩ => ⟨x, (q x).mpr h1, h2⟩⟩
theorem LV.add {M : Nat → Prop} {k len : Nat} {f : Nat → Int64} (H : LV M k len f) (n : Nat) (at_ : Int32) (ha : at_.toInt = ((n / 64 ^ k : Nat) : Int)) :
    LV (fun x => M x ∨ x = n) k len (upd f (n / 64 ^ k / 64) (f (n / 64 ^ k / 64) ||| ((1 : Int64) <<< (at_ &&& 0x3f).toInt64))) := fun i hi b hb => by
  generalize hA : n / 64 ^ k = A at *
  by_cases q : i = A / 64
  · subst q
    rw [upd_same, bt_or, bt_one_shl _ _ ha b hb]
    constructor
    · intro z
      rcases Bool.or_eq_true_iff.mp z with z | z
      · obtain ⟨x, h1, h2⟩ := (H _ hi b hb).mp z
        exact ⟨x, Or.inl h1, h2⟩
      · have z := of_decide_eq_true z
        exact ⟨n, Or.inr rfl, by rw [hA]; omega⟩
    · rintro ⟨x, h1 | rfl, h2⟩
      · rw [(H _ hi b hb).mpr ⟨x, h1, h2⟩]; rfl
      · rw [hA] at h2
        have : b = A % 64 := by omega
        simp [this]
  · rw [upd_ne _ _ q, H i hi b hb]
    constructor
    · rintro ⟨x, h1, h2⟩; exact ⟨x, Or.inl h1, h2⟩
    · rintro ⟨x, h1 | rfl, h2⟩
      · exact ⟨x, h1, h2⟩
      · rw [hA] at h2; exact absurd (by omega) q
/-- a word that held a member: the levels above tell of it already -/
theorem LV.up {M : Nat → Prop} {k len : Nat} {f : Nat → Int64} (H : LV M k len f) {n : Nat} (hi : n / 64 ^ k / 64 < len) (hne : ¬ f (n / 64 ^ k / 64) = 0) : ∃ x, M x ∧ x / 64 ^ (k + 1) = n / 64 ^ (k + 1) := by
  obtain ⟨b, hb, z⟩ := bt_ne0 hne
  obtain ⟨x, h1, h2⟩ := (H _ hi b hb).mp z
  exact ⟨x, h1, by rw [dk_succ, dk_succ, h2]; omega⟩
theorem LV.more {M : Nat → Prop} {j len k : Nat} {f : Nat → Int64} {n : Nat} (H : LV M j len f) (hj : k ≤ j) (q : ∃ x, M x ∧ x / 64 ^ k = n / 64 ^ k) : LV (fun x => M x ∨ x = n) j len f := fun i hi b hb => by
  rw [H i hi b hb]
  constructor
  · rintro ⟨x, h1, h2⟩; exact ⟨x, Or.inl h1, h2⟩
  · rintro ⟨x, h1 | rfl, h2⟩
    · exact ⟨x, h1, h2⟩
    · obtain ⟨x', h3, h4⟩ := q
      exact ⟨x', h3, (dk_mono h4 hj).trans h2⟩
theorem LV.del {M : Nat → Prop} {k len : Nat} {f : Nat → Int64} (H : LV M k len f) (n : Nat) (at_ : Int32) (ha : at_.toInt = ((n / 64 ^ k : Nat) : Int)) (hno : ∀ x, M x → x ≠ n → x / 64 ^ k ≠ n / 64 ^ k) :
    LV (fun x => M x ∧ x ≠ n) k len (upd f (n / 64 ^ k / 64) (f (n / 64 ^ k / 64) &&& (((1 : Int64) <<< (at_ &&& 0x3f).toInt64) ^^^ (-1 : Int64)))) := fun i hi b hb => by
  generalize hA : n / 64 ^ k = A at *
  by_cases q : i = A / 64
  · subst q
    rw [upd_same, bt_and, bt_xor, bt_one_shl _ _ ha b hb, bt_m1 b hb]
    constructor
    · intro z
      obtain ⟨z1, z2⟩ := Bool.and_eq_true_iff.mp z
      have z3 : ¬ b = A % 64 := by
        intro w
        simp [w] at z2
      obtain ⟨x, h1, h2⟩ := (H _ hi b hb).mp z1
      exact ⟨x, ⟨h1, fun w => by subst w; rw [hA] at h2; omega⟩, h2⟩
    · rintro ⟨x, ⟨h1, h3⟩, h2⟩
      have z1 := (H _ hi b hb).mpr ⟨x, h1, h2⟩
      have z3 : ¬ b = A % 64 := fun w => hno x h1 h3 (by rw [h2]; omega)
      rw [z1]; simp [z3]
  · rw [upd_ne _ _ q, H i hi b hb]
    constructor
    · rintro ⟨x, h1, h2⟩; exact ⟨x, ⟨h1, fun w => by subst w; rw [hA] at h2; exact absurd (by omega) q⟩, h2⟩
    · rintro ⟨x, ⟨h1, _⟩, h2⟩; exact ⟨x, h1, h2⟩
theorem LV.less {M : Nat → Prop} {j len k : Nat} {f : Nat → Int64} {n : Nat} (H : LV M j len f) (hj : k ≤ j) (q : ∃ x, (M x ∧ x ≠ n) ∧ x / 64 ^ k = n / 64 ^ k) : LV (fun x => M x ∧ x ≠ n) j len f := fun i hi b hb => by
  rw [H i hi b hb]
  constructor
  · rintro ⟨x, h1, h2⟩
    by_cases w : x = n
    · subst w
      obtain ⟨x', h3, h4⟩ := q
      exact ⟨x', h3, (dk_mono h4 hj).trans h2⟩
    · exact ⟨x, ⟨h1, w⟩, h2⟩
  · rintro ⟨x, ⟨h1, _⟩, h2⟩; exact ⟨x, h1, h2⟩
/-- an empty word: nobody is there -/
theorem LV.none {M : Nat → Prop} {k len : Nat} {f : Nat → Int64} (H : LV M k len f) {n : Nat} (hi : n / 64 ^ k / 64 < len) (hz : f (n / 64 ^ k / 64) = 0) (x : Nat) (hx : M x) : x / 64 ^ (k + 1) ≠ n / 64 ^ (k + 1) := fun w => by
  rw [dk_succ, dk_succ] at w
  have := (H _ hi (x / 64 ^ k % 64) (by omega)).mpr ⟨x, hx, by omega⟩
  rw [bt_eq0 hz] at this
  cases this
/-- up the levels: every member from 'from' on lies at or above A at level k, and whatever lies there is such a member -/
def Up (M : Nat → Prop) (fr k A : Nat) : Prop := (∀ x, M x → fr ≤ x → A ≤ x / 64 ^ k) ∧ ∀ x, M x → A ≤ x / 64 ^ k → fr ≤ x
theorem Up.start (M : Nat → Prop) (fr : Nat) : Up M fr 0 fr := ⟨fun x _ h => by simpa using h, fun x _ h => by simpa using h⟩
theorem Up.next {M : Nat → Prop} {fr k A len : Nat} {f : Nat → Int64} (U : Up M fr k A) (H : LV M k len f) (hi : A / 64 < len) (q : Int32) (hq : q.toInt = (A : Int)) (hz : f (A / 64) &&& ((-1 : Int64) <<< (q &&& 0x3f).toInt64) = 0) : Up M fr (k + 1) (A / 64 + 1) := by
  have hno : ∀ x, M x → A ≤ x / 64 ^ k → A / 64 + 1 ≤ x / 64 ^ k / 64 := by
    intro x hx hA
    apply Classical.byContradiction
    intro hc
    have e : x / 64 ^ k / 64 = A / 64 := by omega
    have hb : x / 64 ^ k % 64 < 64 := by omega
    have h1 := (H _ hi _ hb).mpr ⟨x, hx, by omega⟩
    have h2 := bt_eq0 hz (x / 64 ^ k % 64)
    rw [bt_and, h1, bt_m1_shl _ _ hq _ hb] at h2
    have : A % 64 ≤ x / 64 ^ k % 64 := by omega
    simp [this] at h2
  refine ⟨fun x hx hf => ?_, fun x hx hA => U.2 x hx ?_⟩
  · rw [dk_succ]; exact hno x hx (U.1 x hx hf)
  · rw [dk_succ] at hA; omega
/-- the least member from 'from' on, seen at level k -/
def Dn (M : Nat → Prop) (fr k y : Nat) : Prop := (∃ x, M x ∧ x / 64 ^ k = y) ∧ (∀ x, M x → fr ≤ x → y ≤ x / 64 ^ k) ∧ ∀ x, M x → x / 64 ^ k = y → fr ≤ x
/-- t is the lowest bit of w -/
def Low (w : Int64) (t : Nat) : Prop := t < 64 ∧ bt w t = true ∧ ∀ b, b < t → bt w b = false
theorem Low.ex {w : Int64} (h : ¬ w = 0) : ∃ t, Low w t := by
  obtain ⟨b, hb, hv⟩ := bt_ne0 h
  induction b using Nat.strongRecOn with
  | ind b ih =>
    by_cases q : ∃ b', b' < b ∧ bt w b' = true
    · obtain ⟨b', h1, h2⟩ := q
      exact ih b' h1 (by omega) h2
    · refine ⟨b, hb, hv, fun b' h' => ?_⟩
      cases hx : bt w b'
      · rfl
      · exact absurd ⟨b', h', hx⟩ q
theorem Up.found {M : Nat → Prop} {fr k A len t : Nat} {f : Nat → Int64} (U : Up M fr k A) (H : LV M k len f) (hi : A / 64 < len) (q : Int32) (hq : q.toInt = (A : Int)) (ht : Low (f (A / 64) &&& ((-1 : Int64) <<< (q &&& 0x3f).toInt64)) t) : Dn M fr k (A - A % 64 + t) := by
  obtain ⟨t1, t2, t3⟩ := ht
  rw [bt_and, bt_m1_shl _ _ hq _ t1] at t2
  obtain ⟨t4, t5⟩ := Bool.and_eq_true_iff.mp t2
  have t5 := of_decide_eq_true t5
  obtain ⟨x0, h1, h2⟩ := (H _ hi t t1).mp t4
  have e : A - A % 64 = 64 * (A / 64) := by omega
  rw [e]
  refine ⟨⟨x0, h1, h2⟩, fun x hx hf => ?_, fun x hx hxe => U.2 x hx (by omega)⟩
  have hA := U.1 x hx hf
  apply Classical.byContradiction
  intro hc
  have e2 : x / 64 ^ k / 64 = A / 64 := by omega
  have hb : x / 64 ^ k % 64 < 64 := by omega
  have h3 := (H _ hi _ hb).mpr ⟨x, hx, by omega⟩
  have h4 := t3 (x / 64 ^ k % 64) (by omega)
  rw [bt_and, h3, bt_m1_shl _ _ hq _ hb] at h4
  have : A % 64 ≤ x / 64 ^ k % 64 := by omega
  simp [this] at h4
theorem Dn.down {M : Nat → Prop} {fr k y len t : Nat} {f : Nat → Int64} (D : Dn M fr (k + 1) y) (H : LV M k len f) (hi : y < len) (ht : Low (f y) t) : Dn M fr k (64 * y + t) := by
  obtain ⟨d1, d2, d3⟩ := D
  obtain ⟨t1, t2, t3⟩ := ht
  obtain ⟨x0, h1, h2⟩ := (H _ hi t t1).mp t2
  refine ⟨⟨x0, h1, h2⟩, fun x hx hf => ?_, fun x hx hxe => d3 x hx (by rw [dk_succ]; omega)⟩
  have h3 := d2 x hx hf
  rw [dk_succ] at h3
  apply Classical.byContradiction
  intro hc
  have hb : x / 64 ^ k % 64 < 64 := by omega
  have h4 := (H _ hi _ hb).mpr ⟨x, hx, by omega⟩
  have h5 := t3 (x / 64 ^ k % 64) (by omega)
  rw [h4] at h5; cases h5
theorem Dn.word {M : Nat → Prop} {fr k y len : Nat} {f : Nat → Int64} (D : Dn M fr (k + 1) y) (H : LV M k len f) (hi : y < len) : ¬ f y = 0 := fun hz => by
  obtain ⟨x, h1, h2⟩ := D.1
  rw [dk_succ] at h2
  have h4 := (H _ hi (x / 64 ^ k % 64) (by omega)).mpr ⟨x, h1, by omega⟩
  rw [bt_eq0 hz] at h4; cases h4
/-- what 'next' answers -/
def NextIs (M : Nat → Prop) (fr : Nat) (r : Int) : Prop := (r = -1 ∧ ∀ x, M x → ¬ fr ≤ x) ∨ ∃ y : Nat, r = (y : Int) ∧ M y ∧ fr ≤ y ∧ ∀ x, M x → fr ≤ x → y ≤ x
theorem Dn.last {M : Nat → Prop} {fr y : Nat} (D : Dn M fr 0 y) : NextIs M fr (y : Int) := by
  obtain ⟨⟨x, h1, h2⟩, d2, d3⟩ := D
  simp only [Nat.pow_zero, Nat.div_one] at *
  subst h2
  exact Or.inr ⟨x, rfl, h1, d3 x h1 rfl, d2⟩
theorem NextIs.one {M : Nat → Prop} {fr : Nat} {r r' : Int} (h : NextIs M fr r) (h' : NextIs M fr r') : r = r' := by
  rcases h with ⟨rfl, h1⟩ | ⟨y, rfl, h1, h2, h3⟩ <;> rcases h' with ⟨rfl, h1'⟩ | ⟨y', rfl, h1', h2', h3'⟩
  · rfl
  · exact absurd h2' (h1 _ h1')
  · exact absurd h2 (h1' _ h1)
  · have := h3 _ h1' h2'
    have := h3' _ h1 h2
    omega
/-- the mirror: the greatest member up to 'upTo' (A at level k; -1: nothing is left) -/
def UpP (M : Nat → Prop) (fr : Int) (k : Nat) (A : Int) : Prop := (∀ x : Nat, M x → (x : Int) ≤ fr → ((x / 64 ^ k : Nat) : Int) ≤ A) ∧ ∀ x : Nat, M x → ((x / 64 ^ k : Nat) : Int) ≤ A → (x : Int) ≤ fr
theorem UpP.start (M : Nat → Prop) (fr : Int) : UpP M fr 0 fr := ⟨fun x _ h => by simpa using h, fun x _ h => by simpa using h⟩
theorem UpP.next {M : Nat → Prop} {fr : Int} {k A len : Nat} {f : Nat → Int64} (U : UpP M fr k (A : Int)) (H : LV M k len f) (hi : A / 64 < len) (q : Int32) (hq : q.toInt = ((63 - A % 64 : Nat) : Int)) (hz : f (A / 64) &&& (((-1 : Int64).toUInt64 >>> (q &&& 0x3f).toInt64.toUInt64).toInt64) = 0) : UpP M fr (k + 1) (((A / 64 : Nat) : Int) - 1) := by
  have hno : ∀ x, M x → x / 64 ^ k ≤ A → x / 64 ^ k / 64 + 1 ≤ A / 64 := by
    intro x hx hA
    apply Classical.byContradiction
    intro hc
    have e : x / 64 ^ k / 64 = A / 64 := by omega
    have hb : x / 64 ^ k % 64 < 64 := by omega
    have h1 := (H _ hi _ hb).mpr ⟨x, hx, by omega⟩
    have h2 := bt_eq0 hz (x / 64 ^ k % 64)
    rw [bt_and, h1, bt_m1_ushr _ (A % 64) (by omega) hq _ hb] at h2
    have : x / 64 ^ k % 64 ≤ A % 64 := by omega
    simp [this] at h2
  refine ⟨fun x hx hf => ?_, fun x hx hA => U.2 x hx ?_⟩
  · have := hno x hx (by have := U.1 x hx hf; omega)
    rw [dk_succ]; omega
  · rw [dk_succ] at hA; omega
def DnP (M : Nat → Prop) (fr : Int) (k y : Nat) : Prop := (∃ x, M x ∧ x / 64 ^ k = y) ∧ (∀ x : Nat, M x → (x : Int) ≤ fr → x / 64 ^ k ≤ y) ∧ ∀ x : Nat, M x → x / 64 ^ k = y → (x : Int) ≤ fr
def High (w : Int64) (t : Nat) : Prop := t < 64 ∧ bt w t = true ∧ ∀ b, t < b → b < 64 → bt w b = false
theorem High.ex {w : Int64} (h : ¬ w = 0) : ∃ t, High w t := by
  obtain ⟨b, hb, hv⟩ := bt_ne0 h
  generalize hn : 64 - b = n
  induction n using Nat.strongRecOn generalizing b with
  | ind n ih =>
    by_cases q : ∃ b', b < b' ∧ b' < 64 ∧ bt w b' = true
    · obtain ⟨b', h1, h2, h3⟩ := q
      exact ih (64 - b') (by omega) b' h2 h3 rfl
    · refine ⟨b, hb, hv, fun b' h' h'' => ?_⟩
      cases hx : bt w b'
      · rfl
      · exact absurd ⟨b', h', h'', hx⟩ q
theorem UpP.found {M : Nat → Prop} {fr : Int} {k A len t : Nat} {f : Nat → Int64} (U : UpP M fr k (A : Int)) (H : LV M k len f) (hi : A / 64 < len) (q : Int32) (hq : q.toInt = ((63 - A % 64 : Nat) : Int)) (ht : High (f (A / 64) &&& (((-1 : Int64).toUInt64 >>> (q &&& 0x3f).toInt64.toUInt64).toInt64)) t) : DnP M fr k (A - A % 64 + t) := by
  obtain ⟨t1, t2, t3⟩ := ht
  rw [bt_and, bt_m1_ushr _ (A % 64) (by omega) hq _ t1] at t2
  obtain ⟨t4, t5⟩ := Bool.and_eq_true_iff.mp t2
  have t5 := of_decide_eq_true t5
  obtain ⟨x0, h1, h2⟩ := (H _ hi t t1).mp t4
  have e : A - A % 64 = 64 * (A / 64) := by omega
  rw [e]
  refine ⟨⟨x0, h1, h2⟩, fun x hx hf => ?_, fun x hx hxe => U.2 x hx (by omega)⟩
  have hA := U.1 x hx hf
  apply Classical.byContradiction
  intro hc
  have e2 : x / 64 ^ k / 64 = A / 64 := by omega
  have hb : x / 64 ^ k % 64 < 64 := by omega
  have h3 := (H _ hi _ hb).mpr ⟨x, hx, by omega⟩
  have h4 := t3 (x / 64 ^ k % 64) (by omega) hb
  rw [bt_and, h3, bt_m1_ushr _ (A % 64) (by omega) hq _ hb] at h4
  have : x / 64 ^ k % 64 ≤ A % 64 := by omega
  simp [this] at h4
theorem DnP.down {M : Nat → Prop} {fr : Int} {k y len t : Nat} {f : Nat → Int64} (D : DnP M fr (k + 1) y) (H : LV M k len f) (hi : y < len) (ht : High (f y) t) : DnP M fr k (64 * y + t) := by
  obtain ⟨d1, d2, d3⟩ := D
  obtain ⟨t1, t2, t3⟩ := ht
  obtain ⟨x0, h1, h2⟩ := (H _ hi t t1).mp t2
  refine ⟨⟨x0, h1, h2⟩, fun x hx hf => ?_, fun x hx hxe => d3 x hx (by rw [dk_succ]; omega)⟩
  have h3 := d2 x hx hf
  rw [dk_succ] at h3
  apply Classical.byContradiction
  intro hc
  have hb : x / 64 ^ k % 64 < 64 := by omega
  have h4 := (H _ hi _ hb).mpr ⟨x, hx, by omega⟩
  have h5 := t3 (x / 64 ^ k % 64) (by omega) hb
  rw [h4] at h5; cases h5
theorem DnP.word {M : Nat → Prop} {fr : Int} {k y len : Nat} {f : Nat → Int64} (D : DnP M fr (k + 1) y) (H : LV M k len f) (hi : y < len) : ¬ f y = 0 := fun hz => by
  obtain ⟨x, h1, h2⟩ := D.1
  rw [dk_succ] at h2
  have h4 := (H _ hi (x / 64 ^ k % 64) (by omega)).mpr ⟨x, h1, by omega⟩
  rw [bt_eq0 hz] at h4; cases h4
def PrevIs (M : Nat → Prop) (fr : Int) (r : Int) : Prop := (r = -1 ∧ ∀ x : Nat, M x → ¬ (x : Int) ≤ fr) ∨ ∃ y : Nat, r = (y : Int) ∧ M y ∧ (y : Int) ≤ fr ∧ ∀ x : Nat, M x → (x : Int) ≤ fr → x ≤ y
theorem DnP.last {M : Nat → Prop} {fr : Int} {y : Nat} (D : DnP M fr 0 y) : PrevIs M fr (y : Int) := by
  obtain ⟨⟨x, h1, h2⟩, d2, d3⟩ := D
  simp only [Nat.pow_zero, Nat.div_one] at *
  subst h2
  exact Or.inr ⟨x, rfl, h1, d3 x h1 rfl, d2⟩
theorem PrevIs.one {M : Nat → Prop} {fr : Int} {r r' : Int} (h : PrevIs M fr r) (h' : PrevIs M fr r') : r = r' := by
  rcases h with ⟨rfl, h1⟩ | ⟨y, rfl, h1, h2, h3⟩ <;> rcases h' with ⟨rfl, h1'⟩ | ⟨y', rfl, h1', h2', h3'⟩
  · rfl
  · exact absurd h2' (h1 _ h1')
  · exact absurd h2 (h1' _ h1)
  · have := h3 _ h1' h2'
    have := h3' _ h1 h2
    omega
theorem own_lti {x y : Int32} {a b : Nat} (hx : x.toInt = (a : Int)) (hy : y.toInt = (b : Int)) (h : a < b) : x < y := by rw [Int32.lt_iff_toInt_lt, hx, hy]; omega
theorem own_nlti {x y : Int32} {a b : Nat} (hx : x.toInt = (a : Int)) (hy : y.toInt = (b : Int)) (h : ¬ a < b) : ¬ x < y := by rw [Int32.lt_iff_toInt_lt, hx, hy]; omega
theorem own_eqi {x y : Int32} {a b : Nat} (hx : x.toInt = (a : Int)) (hy : y.toInt = (b : Int)) (h : a = b) : x = y := Int32.toInt_inj.mp (by rw [hx, hy, h])
theorem own_nei {x y : Int32} {a b : Nat} (hx : x.toInt = (a : Int)) (hy : y.toInt = (b : Int)) (h : ¬ a = b) : ¬ x = y := fun q => h (by subst q; omega)
theorem own_inc {x : Int32} {a : Nat} (hx : x.toInt = (a : Int)) (h : a < 2147483647) : (x + (1 : Int32)).toInt = ((a + 1 : Nat) : Int) := by
  have h1 := c_iadd x 1
  have r := rng32 (x + 1)
  rw [show (1 : Int32).toInt = 1 from rfl] at h1
  omega
theorem own_dec {x : Int32} {a : Nat} (hx : x.toInt = ((a + 1 : Nat) : Int)) : (x + (-1 : Int32)).toInt = (a : Int) := by
  have h1 := c_iadd x (-1)
  have r := rng32 (x + (-1))
  rw [show (-1 : Int32).toInt = -1 from rfl] at h1
  have r2 := rng32 x
  omega
theorem own_sh6 {x : Int32} {a : Nat} (hx : x.toInt = (a : Int)) : ((x.toUInt32 >>> ((6 : Int32) &&& 31).toUInt32).toInt32).toInt = ((a / 64 : Nat) : Int) := by
  have h := c_iushr x 6 6 (by decide) (by decide)
  have r := rng32 x
  rw [h, hx]
  omega
theorem own_ofNat {n : Nat} (h : n < 2147483648) : (Int32.ofNat n).toInt = (n : Int) := Int32.toInt_ofNat_of_lt (by omega)
end OwnRank

theorem d8_0 : decode jdk_33_method_48_code 0 = .ok (.iload_n 0, 1) := by decide +kernel
theorem d8_1 : decode jdk_33_method_48_code 1 = .ok (.iconst (-1), 1) := by decide +kernel
theorem d8_2 : decode jdk_33_method_48_code 2 = .ok (.ixor, 1) := by decide +kernel
theorem d8_3 : decode jdk_33_method_48_code 3 = .ok (.iload_n 0, 1) := by decide +kernel
theorem d8_4 : decode jdk_33_method_48_code 4 = .ok (.iconst 1, 1) := by decide +kernel
theorem d8_5 : decode jdk_33_method_48_code 5 = .ok (.isub, 1) := by decide +kernel
theorem d8_6 : decode jdk_33_method_48_code 6 = .ok (.iand, 1) := by decide +kernel
theorem d8_7 : decode jdk_33_method_48_code 7 = .ok (.istore_n 0, 1) := by decide +kernel
theorem d8_8 : decode jdk_33_method_48_code 8 = .ok (.iload_n 0, 1) := by decide +kernel
theorem d8_9 : decode jdk_33_method_48_code 9 = .ok (.ifCond .gt 8, 3) := by decide +kernel
theorem d8_17 : decode jdk_33_method_48_code 17 = .ok (.iconst 1, 1) := by decide +kernel
theorem d8_18 : decode jdk_33_method_48_code 18 = .ok (.istore_n 1, 1) := by decide +kernel
theorem d8_19 : decode jdk_33_method_48_code 19 = .ok (.iload_n 0, 1) := by decide +kernel
theorem d8_20 : decode jdk_33_method_48_code 20 = .ok (.ldc_w 264, 3) := by decide +kernel
theorem d8_23 : decode jdk_33_method_48_code 23 = .ok (.if_icmp .le 11, 3) := by decide +kernel
theorem d8_26 : decode jdk_33_method_48_code 26 = .ok (.iinc 1 16, 3) := by decide +kernel
theorem d8_29 : decode jdk_33_method_48_code 29 = .ok (.iload_n 0, 1) := by decide +kernel
theorem d8_30 : decode jdk_33_method_48_code 30 = .ok (.bipush 16, 2) := by decide +kernel
theorem d8_32 : decode jdk_33_method_48_code 32 = .ok (.iushr, 1) := by decide +kernel
theorem d8_33 : decode jdk_33_method_48_code 33 = .ok (.istore_n 0, 1) := by decide +kernel
theorem d8_34 : decode jdk_33_method_48_code 34 = .ok (.iload_n 0, 1) := by decide +kernel
theorem d8_35 : decode jdk_33_method_48_code 35 = .ok (.sipush 256, 3) := by decide +kernel
theorem d8_38 : decode jdk_33_method_48_code 38 = .ok (.if_icmp .le 11, 3) := by decide +kernel
theorem d8_41 : decode jdk_33_method_48_code 41 = .ok (.iinc 1 8, 3) := by decide +kernel
theorem d8_44 : decode jdk_33_method_48_code 44 = .ok (.iload_n 0, 1) := by decide +kernel
theorem d8_45 : decode jdk_33_method_48_code 45 = .ok (.bipush 8, 2) := by decide +kernel
theorem d8_47 : decode jdk_33_method_48_code 47 = .ok (.iushr, 1) := by decide +kernel
theorem d8_48 : decode jdk_33_method_48_code 48 = .ok (.istore_n 0, 1) := by decide +kernel
theorem d8_49 : decode jdk_33_method_48_code 49 = .ok (.iload_n 0, 1) := by decide +kernel
theorem d8_50 : decode jdk_33_method_48_code 50 = .ok (.bipush 16, 2) := by decide +kernel
theorem d8_52 : decode jdk_33_method_48_code 52 = .ok (.if_icmp .le 10, 3) := by decide +kernel
theorem d8_55 : decode jdk_33_method_48_code 55 = .ok (.iinc 1 4, 3) := by decide +kernel
theorem d8_58 : decode jdk_33_method_48_code 58 = .ok (.iload_n 0, 1) := by decide +kernel
theorem d8_59 : decode jdk_33_method_48_code 59 = .ok (.iconst 4, 1) := by decide +kernel
theorem d8_60 : decode jdk_33_method_48_code 60 = .ok (.iushr, 1) := by decide +kernel
theorem d8_61 : decode jdk_33_method_48_code 61 = .ok (.istore_n 0, 1) := by decide +kernel
theorem d8_62 : decode jdk_33_method_48_code 62 = .ok (.iload_n 0, 1) := by decide +kernel
theorem d8_63 : decode jdk_33_method_48_code 63 = .ok (.iconst 4, 1) := by decide +kernel
theorem d8_64 : decode jdk_33_method_48_code 64 = .ok (.if_icmp .le 10, 3) := by decide +kernel
theorem d8_67 : decode jdk_33_method_48_code 67 = .ok (.iinc 1 2, 3) := by decide +kernel
theorem d8_70 : decode jdk_33_method_48_code 70 = .ok (.iload_n 0, 1) := by decide +kernel
theorem d8_71 : decode jdk_33_method_48_code 71 = .ok (.iconst 2, 1) := by decide +kernel
theorem d8_72 : decode jdk_33_method_48_code 72 = .ok (.iushr, 1) := by decide +kernel
theorem d8_73 : decode jdk_33_method_48_code 73 = .ok (.istore_n 0, 1) := by decide +kernel
theorem d8_74 : decode jdk_33_method_48_code 74 = .ok (.iload_n 1, 1) := by decide +kernel
theorem d8_75 : decode jdk_33_method_48_code 75 = .ok (.iload_n 0, 1) := by decide +kernel
theorem d8_76 : decode jdk_33_method_48_code 76 = .ok (.iconst 1, 1) := by decide +kernel
theorem d8_77 : decode jdk_33_method_48_code 77 = .ok (.iushr, 1) := by decide +kernel
theorem d8_78 : decode jdk_33_method_48_code 78 = .ok (.iadd, 1) := by decide +kernel
theorem d8_79 : decode jdk_33_method_48_code 79 = .ok (.ireturn, 1) := by decide +kernel
theorem d8_12 : decode jdk_33_method_48_code 12 = .ok (.iload_n 0, 1) := by decide +kernel
theorem d8_13 : decode jdk_33_method_48_code 13 = .ok (.bipush 32, 2) := by decide +kernel
theorem d8_15 : decode jdk_33_method_48_code 15 = .ok (.iand, 1) := by decide +kernel
theorem d8_16 : decode jdk_33_method_48_code 16 = .ok (.ireturn, 1) := by decide +kernel
def f_ntzI (p0 : Int32)  : Int32 := (if (0 : Int32) < ((p0 ^^^ (-1 : Int32)) &&& (p0 - (1 : Int32))) then (if (65536 : Int32) < ((p0 ^^^ (-1 : Int32)) &&& (p0 - (1 : Int32))) then (if (256 : Int32) < ((((p0 ^^^ (-1 : Int32)) &&& (p0 - (1 : Int32))).toUInt32 >>> ((16 : Int32) &&& 31).toUInt32).toInt32) then (if (16 : Int32) < ((((((p0 ^^^ (-1 : Int32)) &&& (p0 - (1 : Int32))).toUInt32 >>> ((16 : Int32) &&& 31).toUInt32).toInt32).toUInt32 >>> ((8 : Int32) &&& 31).toUInt32).toInt32) then (if (4 : Int32) < ((((((((p0 ^^^ (-1 : Int32)) &&& (p0 - (1 : Int32))).toUInt32 >>> ((16 : Int32) &&& 31).toUInt32).toInt32).toUInt32 >>> ((8 : Int32) &&& 31).toUInt32).toInt32).toUInt32 >>> ((4 : Int32) &&& 31).toUInt32).toInt32) then ((((((1 : Int32) + (16 : Int32)) + (8 : Int32)) + (4 : Int32)) + (2 : Int32)) + ((((((((((((p0 ^^^ (-1 : Int32)) &&& (p0 - (1 : Int32))).toUInt32 >>> ((16 : Int32) &&& 31).toUInt32).toInt32).toUInt32 >>> ((8 : Int32) &&& 31).toUInt32).toInt32).toUInt32 >>> ((4 : Int32) &&& 31).toUInt32).toInt32).toUInt32 >>> ((2 : Int32) &&& 31).toUInt32).toInt32).toUInt32 >>> ((1 : Int32) &&& 31).toUInt32).toInt32)) else (((((1 : Int32) + (16 : Int32)) + (8 : Int32)) + (4 : Int32)) + ((((((((((p0 ^^^ (-1 : Int32)) &&& (p0 - (1 : Int32))).toUInt32 >>> ((16 : Int32) &&& 31).toUInt32).toInt32).toUInt32 >>> ((8 : Int32) &&& 31).toUInt32).toInt32).toUInt32 >>> ((4 : Int32) &&& 31).toUInt32).toInt32).toUInt32 >>> ((1 : Int32) &&& 31).toUInt32).toInt32))) else (if (4 : Int32) < ((((((p0 ^^^ (-1 : Int32)) &&& (p0 - (1 : Int32))).toUInt32 >>> ((16 : Int32) &&& 31).toUInt32).toInt32).toUInt32 >>> ((8 : Int32) &&& 31).toUInt32).toInt32) then (((((1 : Int32) + (16 : Int32)) + (8 : Int32)) + (2 : Int32)) + ((((((((((p0 ^^^ (-1 : Int32)) &&& (p0 - (1 : Int32))).toUInt32 >>> ((16 : Int32) &&& 31).toUInt32).toInt32).toUInt32 >>> ((8 : Int32) &&& 31).toUInt32).toInt32).toUInt32 >>> ((2 : Int32) &&& 31).toUInt32).toInt32).toUInt32 >>> ((1 : Int32) &&& 31).toUInt32).toInt32)) else ((((1 : Int32) + (16 : Int32)) + (8 : Int32)) + ((((((((p0 ^^^ (-1 : Int32)) &&& (p0 - (1 : Int32))).toUInt32 >>> ((16 : Int32) &&& 31).toUInt32).toInt32).toUInt32 >>> ((8 : Int32) &&& 31).toUInt32).toInt32).toUInt32 >>> ((1 : Int32) &&& 31).toUInt32).toInt32)))) else (if (16 : Int32) < ((((p0 ^^^ (-1 : Int32)) &&& (p0 - (1 : Int32))).toUInt32 >>> ((16 : Int32) &&& 31).toUInt32).toInt32) then (if (4 : Int32) < ((((((p0 ^^^ (-1 : Int32)) &&& (p0 - (1 : Int32))).toUInt32 >>> ((16 : Int32) &&& 31).toUInt32).toInt32).toUInt32 >>> ((4 : Int32) &&& 31).toUInt32).toInt32) then (((((1 : Int32) + (16 : Int32)) + (4 : Int32)) + (2 : Int32)) + ((((((((((p0 ^^^ (-1 : Int32)) &&& (p0 - (1 : Int32))).toUInt32 >>> ((16 : Int32) &&& 31).toUInt32).toInt32).toUInt32 >>> ((4 : Int32) &&& 31).toUInt32).toInt32).toUInt32 >>> ((2 : Int32) &&& 31).toUInt32).toInt32).toUInt32 >>> ((1 : Int32) &&& 31).toUInt32).toInt32)) else ((((1 : Int32) + (16 : Int32)) + (4 : Int32)) + ((((((((p0 ^^^ (-1 : Int32)) &&& (p0 - (1 : Int32))).toUInt32 >>> ((16 : Int32) &&& 31).toUInt32).toInt32).toUInt32 >>> ((4 : Int32) &&& 31).toUInt32).toInt32).toUInt32 >>> ((1 : Int32) &&& 31).toUInt32).toInt32))) else (if (4 : Int32) < ((((p0 ^^^ (-1 : Int32)) &&& (p0 - (1 : Int32))).toUInt32 >>> ((16 : Int32) &&& 31).toUInt32).toInt32) then ((((1 : Int32) + (16 : Int32)) + (2 : Int32)) + ((((((((p0 ^^^ (-1 : Int32)) &&& (p0 - (1 : Int32))).toUInt32 >>> ((16 : Int32) &&& 31).toUInt32).toInt32).toUInt32 >>> ((2 : Int32) &&& 31).toUInt32).toInt32).toUInt32 >>> ((1 : Int32) &&& 31).toUInt32).toInt32)) else (((1 : Int32) + (16 : Int32)) + ((((((p0 ^^^ (-1 : Int32)) &&& (p0 - (1 : Int32))).toUInt32 >>> ((16 : Int32) &&& 31).toUInt32).toInt32).toUInt32 >>> ((1 : Int32) &&& 31).toUInt32).toInt32))))) else (if (256 : Int32) < ((p0 ^^^ (-1 : Int32)) &&& (p0 - (1 : Int32))) then (if (16 : Int32) < ((((p0 ^^^ (-1 : Int32)) &&& (p0 - (1 : Int32))).toUInt32 >>> ((8 : Int32) &&& 31).toUInt32).toInt32) then (if (4 : Int32) < ((((((p0 ^^^ (-1 : Int32)) &&& (p0 - (1 : Int32))).toUInt32 >>> ((8 : Int32) &&& 31).toUInt32).toInt32).toUInt32 >>> ((4 : Int32) &&& 31).toUInt32).toInt32) then (((((1 : Int32) + (8 : Int32)) + (4 : Int32)) + (2 : Int32)) + ((((((((((p0 ^^^ (-1 : Int32)) &&& (p0 - (1 : Int32))).toUInt32 >>> ((8 : Int32) &&& 31).toUInt32).toInt32).toUInt32 >>> ((4 : Int32) &&& 31).toUInt32).toInt32).toUInt32 >>> ((2 : Int32) &&& 31).toUInt32).toInt32).toUInt32 >>> ((1 : Int32) &&& 31).toUInt32).toInt32)) else ((((1 : Int32) + (8 : Int32)) + (4 : Int32)) + ((((((((p0 ^^^ (-1 : Int32)) &&& (p0 - (1 : Int32))).toUInt32 >>> ((8 : Int32) &&& 31).toUInt32).toInt32).toUInt32 >>> ((4 : Int32) &&& 31).toUInt32).toInt32).toUInt32 >>> ((1 : Int32) &&& 31).toUInt32).toInt32))) else (if (4 : Int32) < ((((p0 ^^^ (-1 : Int32)) &&& (p0 - (1 : Int32))).toUInt32 >>> ((8 : Int32) &&& 31).toUInt32).toInt32) then ((((1 : Int32) + (8 : Int32)) + (2 : Int32)) + ((((((((p0 ^^^ (-1 : Int32)) &&& (p0 - (1 : Int32))).toUInt32 >>> ((8 : Int32) &&& 31).toUInt32).toInt32).toUInt32 >>> ((2 : Int32) &&& 31).toUInt32).toInt32).toUInt32 >>> ((1 : Int32) &&& 31).toUInt32).toInt32)) else (((1 : Int32) + (8 : Int32)) + ((((((p0 ^^^ (-1 : Int32)) &&& (p0 - (1 : Int32))).toUInt32 >>> ((8 : Int32) &&& 31).toUInt32).toInt32).toUInt32 >>> ((1 : Int32) &&& 31).toUInt32).toInt32)))) else (if (16 : Int32) < ((p0 ^^^ (-1 : Int32)) &&& (p0 - (1 : Int32))) then (if (4 : Int32) < ((((p0 ^^^ (-1 : Int32)) &&& (p0 - (1 : Int32))).toUInt32 >>> ((4 : Int32) &&& 31).toUInt32).toInt32) then ((((1 : Int32) + (4 : Int32)) + (2 : Int32)) + ((((((((p0 ^^^ (-1 : Int32)) &&& (p0 - (1 : Int32))).toUInt32 >>> ((4 : Int32) &&& 31).toUInt32).toInt32).toUInt32 >>> ((2 : Int32) &&& 31).toUInt32).toInt32).toUInt32 >>> ((1 : Int32) &&& 31).toUInt32).toInt32)) else (((1 : Int32) + (4 : Int32)) + ((((((p0 ^^^ (-1 : Int32)) &&& (p0 - (1 : Int32))).toUInt32 >>> ((4 : Int32) &&& 31).toUInt32).toInt32).toUInt32 >>> ((1 : Int32) &&& 31).toUInt32).toInt32))) else (if (4 : Int32) < ((p0 ^^^ (-1 : Int32)) &&& (p0 - (1 : Int32))) then (((1 : Int32) + (2 : Int32)) + ((((((p0 ^^^ (-1 : Int32)) &&& (p0 - (1 : Int32))).toUInt32 >>> ((2 : Int32) &&& 31).toUInt32).toInt32).toUInt32 >>> ((1 : Int32) &&& 31).toUInt32).toInt32)) else ((1 : Int32) + ((((p0 ^^^ (-1 : Int32)) &&& (p0 - (1 : Int32))).toUInt32 >>> ((1 : Int32) &&& 31).toUInt32).toInt32)))))) else (((p0 ^^^ (-1 : Int32)) &&& (p0 - (1 : Int32))) &&& (32 : Int32)))
theorem ef_8_f_ntzI (m : MethodId) (p0 : Int32) : entryFrame m #[(.int p0)] 2 = mkF m 0 #[.val (.int p0), .unset] [] := by first | (simp [entryFrame, mkF, argsToLocals, Value.category]; done) | rfl
theorem pn_8 : plainFor (⟨"java/lang/Integer", "numberOfTrailingZeros", "(I)I"⟩ : MethodName) = true := plainFor_of_name (by first | (simp [plainName, overriddenIn]; done) | decide +kernel)
set_option maxRecDepth 65536 in
set_option maxHeartbeats 40000000 in
theorem rm_f_ntzI (l : Launch) (Z : State) (a0 : Array Value) (hw : ∀ d ∈ tables_1, d.before a0 Z = true) (ws : List Jvm.Cond) (p0 : Int32) (h0 : Heap)  :
    OMet l (⟨"java/lang/Integer", "numberOfTrailingZeros", "(I)I"⟩ : MethodName) jdk_33_method_48_code 2 (some .int) ws ({ frames := 0, cells := 0, slots := 0, locals := 0 } : Room) #[(.int p0)] Z h0 (fun v h L => v = some (Value.int (f_ntzI p0)) ∧ L = [] ∧ h = h0) := by
  refine OMet.of pn_8 (fun m => ef_8_f_ntzI m p0) ?_
  intro p e s m below meth c s₁ hx hby hml hown hnm hret hlk hZ X0 e0
  refine Owes.go ?_ fun t₀ k₀ => XS.iloadN X0.here hx rfl (hb hby d8_0) rfl k₀
  show Owes _ _ _ _ (s₁.setTop (mkF m 1 #[.val (.int p0), .unset] [(.int p0)]))
  refine Owes.go ?_ fun t₀ k₀ => XS.iconst X0.here hx rfl (hb hby d8_1) k₀
  show Owes _ _ _ _ (s₁.setTop (mkF m 2 #[.val (.int p0), .unset] [(.int (-1 : Int32)), (.int p0)]))
  refine Owes.go ?_ fun t₀ k₀ => XS.ixor X0.here hx rfl (hb hby d8_2) rfl k₀
  show Owes _ _ _ _ (s₁.setTop (mkF m 3 #[.val (.int p0), .unset] [(.int (p0 ^^^ (-1 : Int32)))]))
  refine Owes.go ?_ fun t₀ k₀ => XS.iloadN X0.here hx rfl (hb hby d8_3) rfl k₀
  show Owes _ _ _ _ (s₁.setTop (mkF m 4 #[.val (.int p0), .unset] [(.int p0), (.int (p0 ^^^ (-1 : Int32)))]))
  refine Owes.go ?_ fun t₀ k₀ => XS.iconst X0.here hx rfl (hb hby d8_4) k₀
  show Owes _ _ _ _ (s₁.setTop (mkF m 5 #[.val (.int p0), .unset] [(.int (1 : Int32)), (.int p0), (.int (p0 ^^^ (-1 : Int32)))]))
  refine Owes.go ?_ fun t₀ k₀ => XS.isub X0.here hx rfl (hb hby d8_5) rfl k₀
  show Owes _ _ _ _ (s₁.setTop (mkF m 6 #[.val (.int p0), .unset] [(.int (p0 - (1 : Int32))), (.int (p0 ^^^ (-1 : Int32)))]))
  refine Owes.go ?_ fun t₀ k₀ => XS.iand X0.here hx rfl (hb hby d8_6) rfl k₀
  show Owes _ _ _ _ (s₁.setTop (mkF m 7 #[.val (.int p0), .unset] [(.int ((p0 ^^^ (-1 : Int32)) &&& (p0 - (1 : Int32))))]))
  refine Owes.go ?_ fun t₀ k₀ => XS.istoreN X0.here hx rfl (hb hby d8_7) rfl (l' := #[.val (.int ((p0 ^^^ (-1 : Int32)) &&& (p0 - (1 : Int32)))), .unset]) rfl k₀
  show Owes _ _ _ _ (s₁.setTop (mkF m 8 #[.val (.int ((p0 ^^^ (-1 : Int32)) &&& (p0 - (1 : Int32)))), .unset] []))
  refine Owes.go ?_ fun t₀ k₀ => XS.iloadN X0.here hx rfl (hb hby d8_8) rfl k₀
  show Owes _ _ _ _ (s₁.setTop (mkF m 9 #[.val (.int ((p0 ^^^ (-1 : Int32)) &&& (p0 - (1 : Int32)))), .unset] [(.int ((p0 ^^^ (-1 : Int32)) &&& (p0 - (1 : Int32))))]))
  by_cases hc1 : (0 : Int32) < ((p0 ^^^ (-1 : Int32)) &&& (p0 - (1 : Int32)))
  · skip
    refine Owes.go ?_ fun t₀ k₀ => XS.ifYes X0.here hx rfl (pc0 := 9) (pc' := 17) rfl (hb hby d8_9) rfl ((if0 _ _).trans (tlt hc1).2.2.1) (by decide) (by decide) k₀
    show Owes _ _ _ _ (s₁.setTop (mkF m 17 #[.val (.int ((p0 ^^^ (-1 : Int32)) &&& (p0 - (1 : Int32)))), .unset] []))
    refine Owes.go ?_ fun t₀ k₀ => XS.iconst X0.here hx rfl (hb hby d8_17) k₀
    show Owes _ _ _ _ (s₁.setTop (mkF m 18 #[.val (.int ((p0 ^^^ (-1 : Int32)) &&& (p0 - (1 : Int32)))), .unset] [(.int (1 : Int32))]))
    refine Owes.go ?_ fun t₀ k₀ => XS.istoreN X0.here hx rfl (hb hby d8_18) rfl (l' := #[.val (.int ((p0 ^^^ (-1 : Int32)) &&& (p0 - (1 : Int32)))), .val (.int (1 : Int32))]) rfl k₀
    show Owes _ _ _ _ (s₁.setTop (mkF m 19 #[.val (.int ((p0 ^^^ (-1 : Int32)) &&& (p0 - (1 : Int32)))), .val (.int (1 : Int32))] []))
    refine Owes.go ?_ fun t₀ k₀ => XS.iloadN X0.here hx rfl (hb hby d8_19) rfl k₀
    show Owes _ _ _ _ (s₁.setTop (mkF m 20 #[.val (.int ((p0 ^^^ (-1 : Int32)) &&& (p0 - (1 : Int32)))), .val (.int (1 : Int32))] [(.int ((p0 ^^^ (-1 : Int32)) &&& (p0 - (1 : Int32))))]))
    refine Owes.go ?_ fun t₀ k₀ => X0.ldcwInt hx hown (mvT hZ (hw _ (List.mem_of_getElem? (i := 54) rfl))) (g := (mkF m 20 #[.val (.int ((p0 ^^^ (-1 : Int32)) &&& (p0 - (1 : Int32)))), .val (.int (1 : Int32))] [(.int ((p0 ^^^ (-1 : Int32)) &&& (p0 - (1 : Int32))))])) rfl (hb hby d8_20) _ k₀
    show Owes _ _ _ _ (s₁.setTop (mkF m 23 #[.val (.int ((p0 ^^^ (-1 : Int32)) &&& (p0 - (1 : Int32)))), .val (.int (1 : Int32))] [(.int (65536 : Int32)), (.int ((p0 ^^^ (-1 : Int32)) &&& (p0 - (1 : Int32))))]))
    by_cases hc2 : (65536 : Int32) < ((p0 ^^^ (-1 : Int32)) &&& (p0 - (1 : Int32)))
    · skip
      refine Owes.go ?_ fun t₀ k₀ => XS.icmpNo X0.here hx rfl (hb hby d8_23) rfl (tlt hc2).2.2.2 k₀
      show Owes _ _ _ _ (s₁.setTop (mkF m 26 #[.val (.int ((p0 ^^^ (-1 : Int32)) &&& (p0 - (1 : Int32)))), .val (.int (1 : Int32))] []))
      refine Owes.go ?_ fun t₀ k₀ => XS.iinc X0.here hx rfl (hb hby d8_26) rfl (l' := #[.val (.int ((p0 ^^^ (-1 : Int32)) &&& (p0 - (1 : Int32)))), .val (.int ((1 : Int32) + (16 : Int32)))]) rfl k₀
      show Owes _ _ _ _ (s₁.setTop (mkF m 29 #[.val (.int ((p0 ^^^ (-1 : Int32)) &&& (p0 - (1 : Int32)))), .val (.int ((1 : Int32) + (16 : Int32)))] []))
      refine Owes.go ?_ fun t₀ k₀ => XS.iloadN X0.here hx rfl (hb hby d8_29) rfl k₀
      show Owes _ _ _ _ (s₁.setTop (mkF m 30 #[.val (.int ((p0 ^^^ (-1 : Int32)) &&& (p0 - (1 : Int32)))), .val (.int ((1 : Int32) + (16 : Int32)))] [(.int ((p0 ^^^ (-1 : Int32)) &&& (p0 - (1 : Int32))))]))
      refine Owes.go ?_ fun t₀ k₀ => XS.bipush X0.here hx rfl (hb hby d8_30) k₀
      show Owes _ _ _ _ (s₁.setTop (mkF m 32 #[.val (.int ((p0 ^^^ (-1 : Int32)) &&& (p0 - (1 : Int32)))), .val (.int ((1 : Int32) + (16 : Int32)))] [(.int (16 : Int32)), (.int ((p0 ^^^ (-1 : Int32)) &&& (p0 - (1 : Int32))))]))
      refine Owes.go ?_ fun t₀ k₀ => XS.iushr X0.here hx rfl (hb hby d8_32) rfl k₀
      show Owes _ _ _ _ (s₁.setTop (mkF m 33 #[.val (.int ((p0 ^^^ (-1 : Int32)) &&& (p0 - (1 : Int32)))), .val (.int ((1 : Int32) + (16 : Int32)))] [(.int ((((p0 ^^^ (-1 : Int32)) &&& (p0 - (1 : Int32))).toUInt32 >>> ((16 : Int32) &&& 31).toUInt32).toInt32))]))
      refine Owes.go ?_ fun t₀ k₀ => XS.istoreN X0.here hx rfl (hb hby d8_33) rfl (l' := #[.val (.int ((((p0 ^^^ (-1 : Int32)) &&& (p0 - (1 : Int32))).toUInt32 >>> ((16 : Int32) &&& 31).toUInt32).toInt32)), .val (.int ((1 : Int32) + (16 : Int32)))]) rfl k₀
      show Owes _ _ _ _ (s₁.setTop (mkF m 34 #[.val (.int ((((p0 ^^^ (-1 : Int32)) &&& (p0 - (1 : Int32))).toUInt32 >>> ((16 : Int32) &&& 31).toUInt32).toInt32)), .val (.int ((1 : Int32) + (16 : Int32)))] []))
      refine Owes.go ?_ fun t₀ k₀ => XS.iloadN X0.here hx rfl (hb hby d8_34) rfl k₀
      show Owes _ _ _ _ (s₁.setTop (mkF m 35 #[.val (.int ((((p0 ^^^ (-1 : Int32)) &&& (p0 - (1 : Int32))).toUInt32 >>> ((16 : Int32) &&& 31).toUInt32).toInt32)), .val (.int ((1 : Int32) + (16 : Int32)))] [(.int ((((p0 ^^^ (-1 : Int32)) &&& (p0 - (1 : Int32))).toUInt32 >>> ((16 : Int32) &&& 31).toUInt32).toInt32))]))
      refine Owes.go ?_ fun t₀ k₀ => XS.sipush X0.here hx rfl (hb hby d8_35) k₀
      show Owes _ _ _ _ (s₁.setTop (mkF m 38 #[.val (.int ((((p0 ^^^ (-1 : Int32)) &&& (p0 - (1 : Int32))).toUInt32 >>> ((16 : Int32) &&& 31).toUInt32).toInt32)), .val (.int ((1 : Int32) + (16 : Int32)))] [(.int (256 : Int32)), (.int ((((p0 ^^^ (-1 : Int32)) &&& (p0 - (1 : Int32))).toUInt32 >>> ((16 : Int32) &&& 31).toUInt32).toInt32))]))
      by_cases hc3 : (256 : Int32) < ((((p0 ^^^ (-1 : Int32)) &&& (p0 - (1 : Int32))).toUInt32 >>> ((16 : Int32) &&& 31).toUInt32).toInt32)
      · skip
        refine Owes.go ?_ fun t₀ k₀ => XS.icmpNo X0.here hx rfl (hb hby d8_38) rfl (tlt hc3).2.2.2 k₀
        show Owes _ _ _ _ (s₁.setTop (mkF m 41 #[.val (.int ((((p0 ^^^ (-1 : Int32)) &&& (p0 - (1 : Int32))).toUInt32 >>> ((16 : Int32) &&& 31).toUInt32).toInt32)), .val (.int ((1 : Int32) + (16 : Int32)))] []))
        refine Owes.go ?_ fun t₀ k₀ => XS.iinc X0.here hx rfl (hb hby d8_41) rfl (l' := #[.val (.int ((((p0 ^^^ (-1 : Int32)) &&& (p0 - (1 : Int32))).toUInt32 >>> ((16 : Int32) &&& 31).toUInt32).toInt32)), .val (.int (((1 : Int32) + (16 : Int32)) + (8 : Int32)))]) rfl k₀
        show Owes _ _ _ _ (s₁.setTop (mkF m 44 #[.val (.int ((((p0 ^^^ (-1 : Int32)) &&& (p0 - (1 : Int32))).toUInt32 >>> ((16 : Int32) &&& 31).toUInt32).toInt32)), .val (.int (((1 : Int32) + (16 : Int32)) + (8 : Int32)))] []))
        refine Owes.go ?_ fun t₀ k₀ => XS.iloadN X0.here hx rfl (hb hby d8_44) rfl k₀
        show Owes _ _ _ _ (s₁.setTop (mkF m 45 #[.val (.int ((((p0 ^^^ (-1 : Int32)) &&& (p0 - (1 : Int32))).toUInt32 >>> ((16 : Int32) &&& 31).toUInt32).toInt32)), .val (.int (((1 : Int32) + (16 : Int32)) + (8 : Int32)))] [(.int ((((p0 ^^^ (-1 : Int32)) &&& (p0 - (1 : Int32))).toUInt32 >>> ((16 : Int32) &&& 31).toUInt32).toInt32))]))
        refine Owes.go ?_ fun t₀ k₀ => XS.bipush X0.here hx rfl (hb hby d8_45) k₀
        show Owes _ _ _ _ (s₁.setTop (mkF m 47 #[.val (.int ((((p0 ^^^ (-1 : Int32)) &&& (p0 - (1 : Int32))).toUInt32 >>> ((16 : Int32) &&& 31).toUInt32).toInt32)), .val (.int (((1 : Int32) + (16 : Int32)) + (8 : Int32)))] [(.int (8 : Int32)), (.int ((((p0 ^^^ (-1 : Int32)) &&& (p0 - (1 : Int32))).toUInt32 >>> ((16 : Int32) &&& 31).toUInt32).toInt32))]))
        refine Owes.go ?_ fun t₀ k₀ => XS.iushr X0.here hx rfl (hb hby d8_47) rfl k₀
        show Owes _ _ _ _ (s₁.setTop (mkF m 48 #[.val (.int ((((p0 ^^^ (-1 : Int32)) &&& (p0 - (1 : Int32))).toUInt32 >>> ((16 : Int32) &&& 31).toUInt32).toInt32)), .val (.int (((1 : Int32) + (16 : Int32)) + (8 : Int32)))] [(.int ((((((p0 ^^^ (-1 : Int32)) &&& (p0 - (1 : Int32))).toUInt32 >>> ((16 : Int32) &&& 31).toUInt32).toInt32).toUInt32 >>> ((8 : Int32) &&& 31).toUInt32).toInt32))]))
        refine Owes.go ?_ fun t₀ k₀ => XS.istoreN X0.here hx rfl (hb hby d8_48) rfl (l' := #[.val (.int ((((((p0 ^^^ (-1 : Int32)) &&& (p0 - (1 : Int32))).toUInt32 >>> ((16 : Int32) &&& 31).toUInt32).toInt32).toUInt32 >>> ((8 : Int32) &&& 31).toUInt32).toInt32)), .val (.int (((1 : Int32) + (16 : Int32)) + (8 : Int32)))]) rfl k₀
        show Owes _ _ _ _ (s₁.setTop (mkF m 49 #[.val (.int ((((((p0 ^^^ (-1 : Int32)) &&& (p0 - (1 : Int32))).toUInt32 >>> ((16 : Int32) &&& 31).toUInt32).toInt32).toUInt32 >>> ((8 : Int32) &&& 31).toUInt32).toInt32)), .val (.int (((1 : Int32) + (16 : Int32)) + (8 : Int32)))] []))
        refine Owes.go ?_ fun t₀ k₀ => XS.iloadN X0.here hx rfl (hb hby d8_49) rfl k₀
        show Owes _ _ _ _ (s₁.setTop (mkF m 50 #[.val (.int ((((((p0 ^^^ (-1 : Int32)) &&& (p0 - (1 : Int32))).toUInt32 >>> ((16 : Int32) &&& 31).toUInt32).toInt32).toUInt32 >>> ((8 : Int32) &&& 31).toUInt32).toInt32)), .val (.int (((1 : Int32) + (16 : Int32)) + (8 : Int32)))] [(.int ((((((p0 ^^^ (-1 : Int32)) &&& (p0 - (1 : Int32))).toUInt32 >>> ((16 : Int32) &&& 31).toUInt32).toInt32).toUInt32 >>> ((8 : Int32) &&& 31).toUInt32).toInt32))]))
        refine Owes.go ?_ fun t₀ k₀ => XS.bipush X0.here hx rfl (hb hby d8_50) k₀
        show Owes _ _ _ _ (s₁.setTop (mkF m 52 #[.val (.int ((((((p0 ^^^ (-1 : Int32)) &&& (p0 - (1 : Int32))).toUInt32 >>> ((16 : Int32) &&& 31).toUInt32).toInt32).toUInt32 >>> ((8 : Int32) &&& 31).toUInt32).toInt32)), .val (.int (((1 : Int32) + (16 : Int32)) + (8 : Int32)))] [(.int (16 : Int32)), (.int ((((((p0 ^^^ (-1 : Int32)) &&& (p0 - (1 : Int32))).toUInt32 >>> ((16 : Int32) &&& 31).toUInt32).toInt32).toUInt32 >>> ((8 : Int32) &&& 31).toUInt32).toInt32))]))
        by_cases hc4 : (16 : Int32) < ((((((p0 ^^^ (-1 : Int32)) &&& (p0 - (1 : Int32))).toUInt32 >>> ((16 : Int32) &&& 31).toUInt32).toInt32).toUInt32 >>> ((8 : Int32) &&& 31).toUInt32).toInt32)
        · skip
          refine Owes.go ?_ fun t₀ k₀ => XS.icmpNo X0.here hx rfl (hb hby d8_52) rfl (tlt hc4).2.2.2 k₀
          show Owes _ _ _ _ (s₁.setTop (mkF m 55 #[.val (.int ((((((p0 ^^^ (-1 : Int32)) &&& (p0 - (1 : Int32))).toUInt32 >>> ((16 : Int32) &&& 31).toUInt32).toInt32).toUInt32 >>> ((8 : Int32) &&& 31).toUInt32).toInt32)), .val (.int (((1 : Int32) + (16 : Int32)) + (8 : Int32)))] []))
          refine Owes.go ?_ fun t₀ k₀ => XS.iinc X0.here hx rfl (hb hby d8_55) rfl (l' := #[.val (.int ((((((p0 ^^^ (-1 : Int32)) &&& (p0 - (1 : Int32))).toUInt32 >>> ((16 : Int32) &&& 31).toUInt32).toInt32).toUInt32 >>> ((8 : Int32) &&& 31).toUInt32).toInt32)), .val (.int ((((1 : Int32) + (16 : Int32)) + (8 : Int32)) + (4 : Int32)))]) rfl k₀
          show Owes _ _ _ _ (s₁.setTop (mkF m 58 #[.val (.int ((((((p0 ^^^ (-1 : Int32)) &&& (p0 - (1 : Int32))).toUInt32 >>> ((16 : Int32) &&& 31).toUInt32).toInt32).toUInt32 >>> ((8 : Int32) &&& 31).toUInt32).toInt32)), .val (.int ((((1 : Int32) + (16 : Int32)) + (8 : Int32)) + (4 : Int32)))] []))
          refine Owes.go ?_ fun t₀ k₀ => XS.iloadN X0.here hx rfl (hb hby d8_58) rfl k₀
          show Owes _ _ _ _ (s₁.setTop (mkF m 59 #[.val (.int ((((((p0 ^^^ (-1 : Int32)) &&& (p0 - (1 : Int32))).toUInt32 >>> ((16 : Int32) &&& 31).toUInt32).toInt32).toUInt32 >>> ((8 : Int32) &&& 31).toUInt32).toInt32)), .val (.int ((((1 : Int32) + (16 : Int32)) + (8 : Int32)) + (4 : Int32)))] [(.int ((((((p0 ^^^ (-1 : Int32)) &&& (p0 - (1 : Int32))).toUInt32 >>> ((16 : Int32) &&& 31).toUInt32).toInt32).toUInt32 >>> ((8 : Int32) &&& 31).toUInt32).toInt32))]))
          refine Owes.go ?_ fun t₀ k₀ => XS.iconst X0.here hx rfl (hb hby d8_59) k₀
          show Owes _ _ _ _ (s₁.setTop (mkF m 60 #[.val (.int ((((((p0 ^^^ (-1 : Int32)) &&& (p0 - (1 : Int32))).toUInt32 >>> ((16 : Int32) &&& 31).toUInt32).toInt32).toUInt32 >>> ((8 : Int32) &&& 31).toUInt32).toInt32)), .val (.int ((((1 : Int32) + (16 : Int32)) + (8 : Int32)) + (4 : Int32)))] [(.int (4 : Int32)), (.int ((((((p0 ^^^ (-1 : Int32)) &&& (p0 - (1 : Int32))).toUInt32 >>> ((16 : Int32) &&& 31).toUInt32).toInt32).toUInt32 >>> ((8 : Int32) &&& 31).toUInt32).toInt32))]))
          refine Owes.go ?_ fun t₀ k₀ => XS.iushr X0.here hx rfl (hb hby d8_60) rfl k₀
          show Owes _ _ _ _ (s₁.setTop (mkF m 61 #[.val (.int ((((((p0 ^^^ (-1 : Int32)) &&& (p0 - (1 : Int32))).toUInt32 >>> ((16 : Int32) &&& 31).toUInt32).toInt32).toUInt32 >>> ((8 : Int32) &&& 31).toUInt32).toInt32)), .val (.int ((((1 : Int32) + (16 : Int32)) + (8 : Int32)) + (4 : Int32)))] [(.int ((((((((p0 ^^^ (-1 : Int32)) &&& (p0 - (1 : Int32))).toUInt32 >>> ((16 : Int32) &&& 31).toUInt32).toInt32).toUInt32 >>> ((8 : Int32) &&& 31).toUInt32).toInt32).toUInt32 >>> ((4 : Int32) &&& 31).toUInt32).toInt32))]))
          refine Owes.go ?_ fun t₀ k₀ => XS.istoreN X0.here hx rfl (hb hby d8_61) rfl (l' := #[.val (.int ((((((((p0 ^^^ (-1 : Int32)) &&& (p0 - (1 : Int32))).toUInt32 >>> ((16 : Int32) &&& 31).toUInt32).toInt32).toUInt32 >>> ((8 : Int32) &&& 31).toUInt32).toInt32).toUInt32 >>> ((4 : Int32) &&& 31).toUInt32).toInt32)), .val (.int ((((1 : Int32) + (16 : Int32)) + (8 : Int32)) + (4 : Int32)))]) rfl k₀
          show Owes _ _ _ _ (s₁.setTop (mkF m 62 #[.val (.int ((((((((p0 ^^^ (-1 : Int32)) &&& (p0 - (1 : Int32))).toUInt32 >>> ((16 : Int32) &&& 31).toUInt32).toInt32).toUInt32 >>> ((8 : Int32) &&& 31).toUInt32).toInt32).toUInt32 >>> ((4 : Int32) &&& 31).toUInt32).toInt32)), .val (.int ((((1 : Int32) + (16 : Int32)) + (8 : Int32)) + (4 : Int32)))] []))
          refine Owes.go ?_ fun t₀ k₀ => XS.iloadN X0.here hx rfl (hb hby d8_62) rfl k₀
          show Owes _ _ _ _ (s₁.setTop (mkF m 63 #[.val (.int ((((((((p0 ^^^ (-1 : Int32)) &&& (p0 - (1 : Int32))).toUInt32 >>> ((16 : Int32) &&& 31).toUInt32).toInt32).toUInt32 >>> ((8 : Int32) &&& 31).toUInt32).toInt32).toUInt32 >>> ((4 : Int32) &&& 31).toUInt32).toInt32)), .val (.int ((((1 : Int32) + (16 : Int32)) + (8 : Int32)) + (4 : Int32)))] [(.int ((((((((p0 ^^^ (-1 : Int32)) &&& (p0 - (1 : Int32))).toUInt32 >>> ((16 : Int32) &&& 31).toUInt32).toInt32).toUInt32 >>> ((8 : Int32) &&& 31).toUInt32).toInt32).toUInt32 >>> ((4 : Int32) &&& 31).toUInt32).toInt32))]))
          refine Owes.go ?_ fun t₀ k₀ => XS.iconst X0.here hx rfl (hb hby d8_63) k₀
          show Owes _ _ _ _ (s₁.setTop (mkF m 64 #[.val (.int ((((((((p0 ^^^ (-1 : Int32)) &&& (p0 - (1 : Int32))).toUInt32 >>> ((16 : Int32) &&& 31).toUInt32).toInt32).toUInt32 >>> ((8 : Int32) &&& 31).toUInt32).toInt32).toUInt32 >>> ((4 : Int32) &&& 31).toUInt32).toInt32)), .val (.int ((((1 : Int32) + (16 : Int32)) + (8 : Int32)) + (4 : Int32)))] [(.int (4 : Int32)), (.int ((((((((p0 ^^^ (-1 : Int32)) &&& (p0 - (1 : Int32))).toUInt32 >>> ((16 : Int32) &&& 31).toUInt32).toInt32).toUInt32 >>> ((8 : Int32) &&& 31).toUInt32).toInt32).toUInt32 >>> ((4 : Int32) &&& 31).toUInt32).toInt32))]))
          by_cases hc5 : (4 : Int32) < ((((((((p0 ^^^ (-1 : Int32)) &&& (p0 - (1 : Int32))).toUInt32 >>> ((16 : Int32) &&& 31).toUInt32).toInt32).toUInt32 >>> ((8 : Int32) &&& 31).toUInt32).toInt32).toUInt32 >>> ((4 : Int32) &&& 31).toUInt32).toInt32)
          · skip
            refine Owes.go ?_ fun t₀ k₀ => XS.icmpNo X0.here hx rfl (hb hby d8_64) rfl (tlt hc5).2.2.2 k₀
            show Owes _ _ _ _ (s₁.setTop (mkF m 67 #[.val (.int ((((((((p0 ^^^ (-1 : Int32)) &&& (p0 - (1 : Int32))).toUInt32 >>> ((16 : Int32) &&& 31).toUInt32).toInt32).toUInt32 >>> ((8 : Int32) &&& 31).toUInt32).toInt32).toUInt32 >>> ((4 : Int32) &&& 31).toUInt32).toInt32)), .val (.int ((((1 : Int32) + (16 : Int32)) + (8 : Int32)) + (4 : Int32)))] []))
            refine Owes.go ?_ fun t₀ k₀ => XS.iinc X0.here hx rfl (hb hby d8_67) rfl (l' := #[.val (.int ((((((((p0 ^^^ (-1 : Int32)) &&& (p0 - (1 : Int32))).toUInt32 >>> ((16 : Int32) &&& 31).toUInt32).toInt32).toUInt32 >>> ((8 : Int32) &&& 31).toUInt32).toInt32).toUInt32 >>> ((4 : Int32) &&& 31).toUInt32).toInt32)), .val (.int (((((1 : Int32) + (16 : Int32)) + (8 : Int32)) + (4 : Int32)) + (2 : Int32)))]) rfl k₀
            show Owes _ _ _ _ (s₁.setTop (mkF m 70 #[.val (.int ((((((((p0 ^^^ (-1 : Int32)) &&& (p0 - (1 : Int32))).toUInt32 >>> ((16 : Int32) &&& 31).toUInt32).toInt32).toUInt32 >>> ((8 : Int32) &&& 31).toUInt32).toInt32).toUInt32 >>> ((4 : Int32) &&& 31).toUInt32).toInt32)), .val (.int (((((1 : Int32) + (16 : Int32)) + (8 : Int32)) + (4 : Int32)) + (2 : Int32)))] []))
            refine Owes.go ?_ fun t₀ k₀ => XS.iloadN X0.here hx rfl (hb hby d8_70) rfl k₀
            show Owes _ _ _ _ (s₁.setTop (mkF m 71 #[.val (.int ((((((((p0 ^^^ (-1 : Int32)) &&& (p0 - (1 : Int32))).toUInt32 >>> ((16 : Int32) &&& 31).toUInt32).toInt32).toUInt32 >>> ((8 : Int32) &&& 31).toUInt32).toInt32).toUInt32 >>> ((4 : Int32) &&& 31).toUInt32).toInt32)), .val (.int (((((1 : Int32) + (16 : Int32)) + (8 : Int32)) + (4 : Int32)) + (2 : Int32)))] [(.int ((((((((p0 ^^^ (-1 : Int32)) &&& (p0 - (1 : Int32))).toUInt32 >>> ((16 : Int32) &&& 31).toUInt32).toInt32).toUInt32 >>> ((8 : Int32) &&& 31).toUInt32).toInt32).toUInt32 >>> ((4 : Int32) &&& 31).toUInt32).toInt32))]))
            refine Owes.go ?_ fun t₀ k₀ => XS.iconst X0.here hx rfl (hb hby d8_71) k₀
            show Owes _ _ _ _ (s₁.setTop (mkF m 72 #[.val (.int ((((((((p0 ^^^ (-1 : Int32)) &&& (p0 - (1 : Int32))).toUInt32 >>> ((16 : Int32) &&& 31).toUInt32).toInt32).toUInt32 >>> ((8 : Int32) &&& 31).toUInt32).toInt32).toUInt32 >>> ((4 : Int32) &&& 31).toUInt32).toInt32)), .val (.int (((((1 : Int32) + (16 : Int32)) + (8 : Int32)) + (4 : Int32)) + (2 : Int32)))] [(.int (2 : Int32)), (.int ((((((((p0 ^^^ (-1 : Int32)) &&& (p0 - (1 : Int32))).toUInt32 >>> ((16 : Int32) &&& 31).toUInt32).toInt32).toUInt32 >>> ((8 : Int32) &&& 31).toUInt32).toInt32).toUInt32 >>> ((4 : Int32) &&& 31).toUInt32).toInt32))]))
            refine Owes.go ?_ fun t₀ k₀ => XS.iushr X0.here hx rfl (hb hby d8_72) rfl k₀
            show Owes _ _ _ _ (s₁.setTop (mkF m 73 #[.val (.int ((((((((p0 ^^^ (-1 : Int32)) &&& (p0 - (1 : Int32))).toUInt32 >>> ((16 : Int32) &&& 31).toUInt32).toInt32).toUInt32 >>> ((8 : Int32) &&& 31).toUInt32).toInt32).toUInt32 >>> ((4 : Int32) &&& 31).toUInt32).toInt32)), .val (.int (((((1 : Int32) + (16 : Int32)) + (8 : Int32)) + (4 : Int32)) + (2 : Int32)))] [(.int ((((((((((p0 ^^^ (-1 : Int32)) &&& (p0 - (1 : Int32))).toUInt32 >>> ((16 : Int32) &&& 31).toUInt32).toInt32).toUInt32 >>> ((8 : Int32) &&& 31).toUInt32).toInt32).toUInt32 >>> ((4 : Int32) &&& 31).toUInt32).toInt32).toUInt32 >>> ((2 : Int32) &&& 31).toUInt32).toInt32))]))
            refine Owes.go ?_ fun t₀ k₀ => XS.istoreN X0.here hx rfl (hb hby d8_73) rfl (l' := #[.val (.int ((((((((((p0 ^^^ (-1 : Int32)) &&& (p0 - (1 : Int32))).toUInt32 >>> ((16 : Int32) &&& 31).toUInt32).toInt32).toUInt32 >>> ((8 : Int32) &&& 31).toUInt32).toInt32).toUInt32 >>> ((4 : Int32) &&& 31).toUInt32).toInt32).toUInt32 >>> ((2 : Int32) &&& 31).toUInt32).toInt32)), .val (.int (((((1 : Int32) + (16 : Int32)) + (8 : Int32)) + (4 : Int32)) + (2 : Int32)))]) rfl k₀
            show Owes _ _ _ _ (s₁.setTop (mkF m 74 #[.val (.int ((((((((((p0 ^^^ (-1 : Int32)) &&& (p0 - (1 : Int32))).toUInt32 >>> ((16 : Int32) &&& 31).toUInt32).toInt32).toUInt32 >>> ((8 : Int32) &&& 31).toUInt32).toInt32).toUInt32 >>> ((4 : Int32) &&& 31).toUInt32).toInt32).toUInt32 >>> ((2 : Int32) &&& 31).toUInt32).toInt32)), .val (.int (((((1 : Int32) + (16 : Int32)) + (8 : Int32)) + (4 : Int32)) + (2 : Int32)))] []))
            refine Owes.go ?_ fun t₀ k₀ => XS.iloadN X0.here hx rfl (hb hby d8_74) rfl k₀
            show Owes _ _ _ _ (s₁.setTop (mkF m 75 #[.val (.int ((((((((((p0 ^^^ (-1 : Int32)) &&& (p0 - (1 : Int32))).toUInt32 >>> ((16 : Int32) &&& 31).toUInt32).toInt32).toUInt32 >>> ((8 : Int32) &&& 31).toUInt32).toInt32).toUInt32 >>> ((4 : Int32) &&& 31).toUInt32).toInt32).toUInt32 >>> ((2 : Int32) &&& 31).toUInt32).toInt32)), .val (.int (((((1 : Int32) + (16 : Int32)) + (8 : Int32)) + (4 : Int32)) + (2 : Int32)))] [(.int (((((1 : Int32) + (16 : Int32)) + (8 : Int32)) + (4 : Int32)) + (2 : Int32)))]))
            refine Owes.go ?_ fun t₀ k₀ => XS.iloadN X0.here hx rfl (hb hby d8_75) rfl k₀
            show Owes _ _ _ _ (s₁.setTop (mkF m 76 #[.val (.int ((((((((((p0 ^^^ (-1 : Int32)) &&& (p0 - (1 : Int32))).toUInt32 >>> ((16 : Int32) &&& 31).toUInt32).toInt32).toUInt32 >>> ((8 : Int32) &&& 31).toUInt32).toInt32).toUInt32 >>> ((4 : Int32) &&& 31).toUInt32).toInt32).toUInt32 >>> ((2 : Int32) &&& 31).toUInt32).toInt32)), .val (.int (((((1 : Int32) + (16 : Int32)) + (8 : Int32)) + (4 : Int32)) + (2 : Int32)))] [(.int ((((((((((p0 ^^^ (-1 : Int32)) &&& (p0 - (1 : Int32))).toUInt32 >>> ((16 : Int32) &&& 31).toUInt32).toInt32).toUInt32 >>> ((8 : Int32) &&& 31).toUInt32).toInt32).toUInt32 >>> ((4 : Int32) &&& 31).toUInt32).toInt32).toUInt32 >>> ((2 : Int32) &&& 31).toUInt32).toInt32)), (.int (((((1 : Int32) + (16 : Int32)) + (8 : Int32)) + (4 : Int32)) + (2 : Int32)))]))
            refine Owes.go ?_ fun t₀ k₀ => XS.iconst X0.here hx rfl (hb hby d8_76) k₀
            show Owes _ _ _ _ (s₁.setTop (mkF m 77 #[.val (.int ((((((((((p0 ^^^ (-1 : Int32)) &&& (p0 - (1 : Int32))).toUInt32 >>> ((16 : Int32) &&& 31).toUInt32).toInt32).toUInt32 >>> ((8 : Int32) &&& 31).toUInt32).toInt32).toUInt32 >>> ((4 : Int32) &&& 31).toUInt32).toInt32).toUInt32 >>> ((2 : Int32) &&& 31).toUInt32).toInt32)), .val (.int (((((1 : Int32) + (16 : Int32)) + (8 : Int32)) + (4 : Int32)) + (2 : Int32)))] [(.int (1 : Int32)), (.int ((((((((((p0 ^^^ (-1 : Int32)) &&& (p0 - (1 : Int32))).toUInt32 >>> ((16 : Int32) &&& 31).toUInt32).toInt32).toUInt32 >>> ((8 : Int32) &&& 31).toUInt32).toInt32).toUInt32 >>> ((4 : Int32) &&& 31).toUInt32).toInt32).toUInt32 >>> ((2 : Int32) &&& 31).toUInt32).toInt32)), (.int (((((1 : Int32) + (16 : Int32)) + (8 : Int32)) + (4 : Int32)) + (2 : Int32)))]))
            refine Owes.go ?_ fun t₀ k₀ => XS.iushr X0.here hx rfl (hb hby d8_77) rfl k₀
            show Owes _ _ _ _ (s₁.setTop (mkF m 78 #[.val (.int ((((((((((p0 ^^^ (-1 : Int32)) &&& (p0 - (1 : Int32))).toUInt32 >>> ((16 : Int32) &&& 31).toUInt32).toInt32).toUInt32 >>> ((8 : Int32) &&& 31).toUInt32).toInt32).toUInt32 >>> ((4 : Int32) &&& 31).toUInt32).toInt32).toUInt32 >>> ((2 : Int32) &&& 31).toUInt32).toInt32)), .val (.int (((((1 : Int32) + (16 : Int32)) + (8 : Int32)) + (4 : Int32)) + (2 : Int32)))] [(.int ((((((((((((p0 ^^^ (-1 : Int32)) &&& (p0 - (1 : Int32))).toUInt32 >>> ((16 : Int32) &&& 31).toUInt32).toInt32).toUInt32 >>> ((8 : Int32) &&& 31).toUInt32).toInt32).toUInt32 >>> ((4 : Int32) &&& 31).toUInt32).toInt32).toUInt32 >>> ((2 : Int32) &&& 31).toUInt32).toInt32).toUInt32 >>> ((1 : Int32) &&& 31).toUInt32).toInt32)), (.int (((((1 : Int32) + (16 : Int32)) + (8 : Int32)) + (4 : Int32)) + (2 : Int32)))]))
            refine Owes.go ?_ fun t₀ k₀ => XS.iadd X0.here hx rfl (hb hby d8_78) rfl k₀
            show Owes _ _ _ _ (s₁.setTop (mkF m 79 #[.val (.int ((((((((((p0 ^^^ (-1 : Int32)) &&& (p0 - (1 : Int32))).toUInt32 >>> ((16 : Int32) &&& 31).toUInt32).toInt32).toUInt32 >>> ((8 : Int32) &&& 31).toUInt32).toInt32).toUInt32 >>> ((4 : Int32) &&& 31).toUInt32).toInt32).toUInt32 >>> ((2 : Int32) &&& 31).toUInt32).toInt32)), .val (.int (((((1 : Int32) + (16 : Int32)) + (8 : Int32)) + (4 : Int32)) + (2 : Int32)))] [(.int ((((((1 : Int32) + (16 : Int32)) + (8 : Int32)) + (4 : Int32)) + (2 : Int32)) + ((((((((((((p0 ^^^ (-1 : Int32)) &&& (p0 - (1 : Int32))).toUInt32 >>> ((16 : Int32) &&& 31).toUInt32).toInt32).toUInt32 >>> ((8 : Int32) &&& 31).toUInt32).toInt32).toUInt32 >>> ((4 : Int32) &&& 31).toUInt32).toInt32).toUInt32 >>> ((2 : Int32) &&& 31).toUInt32).toInt32).toUInt32 >>> ((1 : Int32) &&& 31).toUInt32).toInt32)))]))
            exact Owes.retI X0 hx hlk hret (hb hby d8_79) (by decide) (by decide) ⟨congrArg (fun z => some (Value.int z)) (by unfold f_ntzI; rw [if_pos hc1, if_pos hc2, if_pos hc3, if_pos hc4, if_pos hc5]; first | done | rfl), rfl, e0⟩
          · skip
            refine Owes.go ?_ fun t₀ k₀ => XS.icmpYes X0.here hx rfl (pc0 := 64) (pc' := 74) rfl (hb hby d8_64) rfl (flt hc5).2.2.2 (by decide) (by decide) k₀
            show Owes _ _ _ _ (s₁.setTop (mkF m 74 #[.val (.int ((((((((p0 ^^^ (-1 : Int32)) &&& (p0 - (1 : Int32))).toUInt32 >>> ((16 : Int32) &&& 31).toUInt32).toInt32).toUInt32 >>> ((8 : Int32) &&& 31).toUInt32).toInt32).toUInt32 >>> ((4 : Int32) &&& 31).toUInt32).toInt32)), .val (.int ((((1 : Int32) + (16 : Int32)) + (8 : Int32)) + (4 : Int32)))] []))
            refine Owes.go ?_ fun t₀ k₀ => XS.iloadN X0.here hx rfl (hb hby d8_74) rfl k₀
            show Owes _ _ _ _ (s₁.setTop (mkF m 75 #[.val (.int ((((((((p0 ^^^ (-1 : Int32)) &&& (p0 - (1 : Int32))).toUInt32 >>> ((16 : Int32) &&& 31).toUInt32).toInt32).toUInt32 >>> ((8 : Int32) &&& 31).toUInt32).toInt32).toUInt32 >>> ((4 : Int32) &&& 31).toUInt32).toInt32)), .val (.int ((((1 : Int32) + (16 : Int32)) + (8 : Int32)) + (4 : Int32)))] [(.int ((((1 : Int32) + (16 : Int32)) + (8 : Int32)) + (4 : Int32)))]))
            refine Owes.go ?_ fun t₀ k₀ => XS.iloadN X0.here hx rfl (hb hby d8_75) rfl k₀
            show Owes _ _ _ _ (s₁.setTop (mkF m 76 #[.val (.int ((((((((p0 ^^^ (-1 : Int32)) &&& (p0 - (1 : Int32))).toUInt32 >>> ((16 : Int32) &&& 31).toUInt32).toInt32).toUInt32 >>> ((8 : Int32) &&& 31).toUInt32).toInt32).toUInt32 >>> ((4 : Int32) &&& 31).toUInt32).toInt32)), .val (.int ((((1 : Int32) + (16 : Int32)) + (8 : Int32)) + (4 : Int32)))] [(.int ((((((((p0 ^^^ (-1 : Int32)) &&& (p0 - (1 : Int32))).toUInt32 >>> ((16 : Int32) &&& 31).toUInt32).toInt32).toUInt32 >>> ((8 : Int32) &&& 31).toUInt32).toInt32).toUInt32 >>> ((4 : Int32) &&& 31).toUInt32).toInt32)), (.int ((((1 : Int32) + (16 : Int32)) + (8 : Int32)) + (4 : Int32)))]))
            refine Owes.go ?_ fun t₀ k₀ => XS.iconst X0.here hx rfl (hb hby d8_76) k₀
            show Owes _ _ _ _ (s₁.setTop (mkF m 77 #[.val (.int ((((((((p0 ^^^ (-1 : Int32)) &&& (p0 - (1 : Int32))).toUInt32 >>> ((16 : Int32) &&& 31).toUInt32).toInt32).toUInt32 >>> ((8 : Int32) &&& 31).toUInt32).toInt32).toUInt32 >>> ((4 : Int32) &&& 31).toUInt32).toInt32)), .val (.int ((((1 : Int32) + (16 : Int32)) + (8 : Int32)) + (4 : Int32)))] [(.int (1 : Int32)), (.int ((((((((p0 ^^^ (-1 : Int32)) &&& (p0 - (1 : Int32))).toUInt32 >>> ((16 : Int32) &&& 31).toUInt32).toInt32).toUInt32 >>> ((8 : Int32) &&& 31).toUInt32).toInt32).toUInt32 >>> ((4 : Int32) &&& 31).toUInt32).toInt32)), (.int ((((1 : Int32) + (16 : Int32)) + (8 : Int32)) + (4 : Int32)))]))
            refine Owes.go ?_ fun t₀ k₀ => XS.iushr X0.here hx rfl (hb hby d8_77) rfl k₀
            show Owes _ _ _ _ (s₁.setTop (mkF m 78 #[.val (.int ((((((((p0 ^^^ (-1 : Int32)) &&& (p0 - (1 : Int32))).toUInt32 >>> ((16 : Int32) &&& 31).toUInt32).toInt32).toUInt32 >>> ((8 : Int32) &&& 31).toUInt32).toInt32).toUInt32 >>> ((4 : Int32) &&& 31).toUInt32).toInt32)), .val (.int ((((1 : Int32) + (16 : Int32)) + (8 : Int32)) + (4 : Int32)))] [(.int ((((((((((p0 ^^^ (-1 : Int32)) &&& (p0 - (1 : Int32))).toUInt32 >>> ((16 : Int32) &&& 31).toUInt32).toInt32).toUInt32 >>> ((8 : Int32) &&& 31).toUInt32).toInt32).toUInt32 >>> ((4 : Int32) &&& 31).toUInt32).toInt32).toUInt32 >>> ((1 : Int32) &&& 31).toUInt32).toInt32)), (.int ((((1 : Int32) + (16 : Int32)) + (8 : Int32)) + (4 : Int32)))]))
            refine Owes.go ?_ fun t₀ k₀ => XS.iadd X0.here hx rfl (hb hby d8_78) rfl k₀
            show Owes _ _ _ _ (s₁.setTop (mkF m 79 #[.val (.int ((((((((p0 ^^^ (-1 : Int32)) &&& (p0 - (1 : Int32))).toUInt32 >>> ((16 : Int32) &&& 31).toUInt32).toInt32).toUInt32 >>> ((8 : Int32) &&& 31).toUInt32).toInt32).toUInt32 >>> ((4 : Int32) &&& 31).toUInt32).toInt32)), .val (.int ((((1 : Int32) + (16 : Int32)) + (8 : Int32)) + (4 : Int32)))] [(.int (((((1 : Int32) + (16 : Int32)) + (8 : Int32)) + (4 : Int32)) + ((((((((((p0 ^^^ (-1 : Int32)) &&& (p0 - (1 : Int32))).toUInt32 >>> ((16 : Int32) &&& 31).toUInt32).toInt32).toUInt32 >>> ((8 : Int32) &&& 31).toUInt32).toInt32).toUInt32 >>> ((4 : Int32) &&& 31).toUInt32).toInt32).toUInt32 >>> ((1 : Int32) &&& 31).toUInt32).toInt32)))]))
            exact Owes.retI X0 hx hlk hret (hb hby d8_79) (by decide) (by decide) ⟨congrArg (fun z => some (Value.int z)) (by unfold f_ntzI; rw [if_pos hc1, if_pos hc2, if_pos hc3, if_pos hc4, if_neg hc5]; first | done | rfl), rfl, e0⟩
        · skip
          refine Owes.go ?_ fun t₀ k₀ => XS.icmpYes X0.here hx rfl (pc0 := 52) (pc' := 62) rfl (hb hby d8_52) rfl (flt hc4).2.2.2 (by decide) (by decide) k₀
          show Owes _ _ _ _ (s₁.setTop (mkF m 62 #[.val (.int ((((((p0 ^^^ (-1 : Int32)) &&& (p0 - (1 : Int32))).toUInt32 >>> ((16 : Int32) &&& 31).toUInt32).toInt32).toUInt32 >>> ((8 : Int32) &&& 31).toUInt32).toInt32)), .val (.int (((1 : Int32) + (16 : Int32)) + (8 : Int32)))] []))
          refine Owes.go ?_ fun t₀ k₀ => XS.iloadN X0.here hx rfl (hb hby d8_62) rfl k₀
          show Owes _ _ _ _ (s₁.setTop (mkF m 63 #[.val (.int ((((((p0 ^^^ (-1 : Int32)) &&& (p0 - (1 : Int32))).toUInt32 >>> ((16 : Int32) &&& 31).toUInt32).toInt32).toUInt32 >>> ((8 : Int32) &&& 31).toUInt32).toInt32)), .val (.int (((1 : Int32) + (16 : Int32)) + (8 : Int32)))] [(.int ((((((p0 ^^^ (-1 : Int32)) &&& (p0 - (1 : Int32))).toUInt32 >>> ((16 : Int32) &&& 31).toUInt32).toInt32).toUInt32 >>> ((8 : Int32) &&& 31).toUInt32).toInt32))]))
          refine Owes.go ?_ fun t₀ k₀ => XS.iconst X0.here hx rfl (hb hby d8_63) k₀
          show Owes _ _ _ _ (s₁.setTop (mkF m 64 #[.val (.int ((((((p0 ^^^ (-1 : Int32)) &&& (p0 - (1 : Int32))).toUInt32 >>> ((16 : Int32) &&& 31).toUInt32).toInt32).toUInt32 >>> ((8 : Int32) &&& 31).toUInt32).toInt32)), .val (.int (((1 : Int32) + (16 : Int32)) + (8 : Int32)))] [(.int (4 : Int32)), (.int ((((((p0 ^^^ (-1 : Int32)) &&& (p0 - (1 : Int32))).toUInt32 >>> ((16 : Int32) &&& 31).toUInt32).toInt32).toUInt32 >>> ((8 : Int32) &&& 31).toUInt32).toInt32))]))
          by_cases hc6 : (4 : Int32) < ((((((p0 ^^^ (-1 : Int32)) &&& (p0 - (1 : Int32))).toUInt32 >>> ((16 : Int32) &&& 31).toUInt32).toInt32).toUInt32 >>> ((8 : Int32) &&& 31).toUInt32).toInt32)
          · skip
            refine Owes.go ?_ fun t₀ k₀ => XS.icmpNo X0.here hx rfl (hb hby d8_64) rfl (tlt hc6).2.2.2 k₀
            show Owes _ _ _ _ (s₁.setTop (mkF m 67 #[.val (.int ((((((p0 ^^^ (-1 : Int32)) &&& (p0 - (1 : Int32))).toUInt32 >>> ((16 : Int32) &&& 31).toUInt32).toInt32).toUInt32 >>> ((8 : Int32) &&& 31).toUInt32).toInt32)), .val (.int (((1 : Int32) + (16 : Int32)) + (8 : Int32)))] []))
            refine Owes.go ?_ fun t₀ k₀ => XS.iinc X0.here hx rfl (hb hby d8_67) rfl (l' := #[.val (.int ((((((p0 ^^^ (-1 : Int32)) &&& (p0 - (1 : Int32))).toUInt32 >>> ((16 : Int32) &&& 31).toUInt32).toInt32).toUInt32 >>> ((8 : Int32) &&& 31).toUInt32).toInt32)), .val (.int ((((1 : Int32) + (16 : Int32)) + (8 : Int32)) + (2 : Int32)))]) rfl k₀
            show Owes _ _ _ _ (s₁.setTop (mkF m 70 #[.val (.int ((((((p0 ^^^ (-1 : Int32)) &&& (p0 - (1 : Int32))).toUInt32 >>> ((16 : Int32) &&& 31).toUInt32).toInt32).toUInt32 >>> ((8 : Int32) &&& 31).toUInt32).toInt32)), .val (.int ((((1 : Int32) + (16 : Int32)) + (8 : Int32)) + (2 : Int32)))] []))
            refine Owes.go ?_ fun t₀ k₀ => XS.iloadN X0.here hx rfl (hb hby d8_70) rfl k₀
            show Owes _ _ _ _ (s₁.setTop (mkF m 71 #[.val (.int ((((((p0 ^^^ (-1 : Int32)) &&& (p0 - (1 : Int32))).toUInt32 >>> ((16 : Int32) &&& 31).toUInt32).toInt32).toUInt32 >>> ((8 : Int32) &&& 31).toUInt32).toInt32)), .val (.int ((((1 : Int32) + (16 : Int32)) + (8 : Int32)) + (2 : Int32)))] [(.int ((((((p0 ^^^ (-1 : Int32)) &&& (p0 - (1 : Int32))).toUInt32 >>> ((16 : Int32) &&& 31).toUInt32).toInt32).toUInt32 >>> ((8 : Int32) &&& 31).toUInt32).toInt32))]))
            refine Owes.go ?_ fun t₀ k₀ => XS.iconst X0.here hx rfl (hb hby d8_71) k₀
            show Owes _ _ _ _ (s₁.setTop (mkF m 72 #[.val (.int ((((((p0 ^^^ (-1 : Int32)) &&& (p0 - (1 : Int32))).toUInt32 >>> ((16 : Int32) &&& 31).toUInt32).toInt32).toUInt32 >>> ((8 : Int32) &&& 31).toUInt32).toInt32)), .val (.int ((((1 : Int32) + (16 : Int32)) + (8 : Int32)) + (2 : Int32)))] [(.int (2 : Int32)), (.int ((((((p0 ^^^ (-1 : Int32)) &&& (p0 - (1 : Int32))).toUInt32 >>> ((16 : Int32) &&& 31).toUInt32).toInt32).toUInt32 >>> ((8 : Int32) &&& 31).toUInt32).toInt32))]))
            refine Owes.go ?_ fun t₀ k₀ => XS.iushr X0.here hx rfl (hb hby d8_72) rfl k₀
            show Owes _ _ _ _ (s₁.setTop (mkF m 73 #[.val (.int ((((((p0 ^^^ (-1 : Int32)) &&& (p0 - (1 : Int32))).toUInt32 >>> ((16 : Int32) &&& 31).toUInt32).toInt32).toUInt32 >>> ((8 : Int32) &&& 31).toUInt32).toInt32)), .val (.int ((((1 : Int32) + (16 : Int32)) + (8 : Int32)) + (2 : Int32)))] [(.int ((((((((p0 ^^^ (-1 : Int32)) &&& (p0 - (1 : Int32))).toUInt32 >>> ((16 : Int32) &&& 31).toUInt32).toInt32).toUInt32 >>> ((8 : Int32) &&& 31).toUInt32).toInt32).toUInt32 >>> ((2 : Int32) &&& 31).toUInt32).toInt32))]))
            refine Owes.go ?_ fun t₀ k₀ => XS.istoreN X0.here hx rfl (hb hby d8_73) rfl (l' := #[.val (.int ((((((((p0 ^^^ (-1 : Int32)) &&& (p0 - (1 : Int32))).toUInt32 >>> ((16 : Int32) &&& 31).toUInt32).toInt32).toUInt32 >>> ((8 : Int32) &&& 31).toUInt32).toInt32).toUInt32 >>> ((2 : Int32) &&& 31).toUInt32).toInt32)), .val (.int ((((1 : Int32) + (16 : Int32)) + (8 : Int32)) + (2 : Int32)))]) rfl k₀
            show Owes _ _ _ _ (s₁.setTop (mkF m 74 #[.val (.int ((((((((p0 ^^^ (-1 : Int32)) &&& (p0 - (1 : Int32))).toUInt32 >>> ((16 : Int32) &&& 31).toUInt32).toInt32).toUInt32 >>> ((8 : Int32) &&& 31).toUInt32).toInt32).toUInt32 >>> ((2 : Int32) &&& 31).toUInt32).toInt32)), .val (.int ((((1 : Int32) + (16 : Int32)) + (8 : Int32)) + (2 : Int32)))] []))
            refine Owes.go ?_ fun t₀ k₀ => XS.iloadN X0.here hx rfl (hb hby d8_74) rfl k₀
            show Owes _ _ _ _ (s₁.setTop (mkF m 75 #[.val (.int ((((((((p0 ^^^ (-1 : Int32)) &&& (p0 - (1 : Int32))).toUInt32 >>> ((16 : Int32) &&& 31).toUInt32).toInt32).toUInt32 >>> ((8 : Int32) &&& 31).toUInt32).toInt32).toUInt32 >>> ((2 : Int32) &&& 31).toUInt32).toInt32)), .val (.int ((((1 : Int32) + (16 : Int32)) + (8 : Int32)) + (2 : Int32)))] [(.int ((((1 : Int32) + (16 : Int32)) + (8 : Int32)) + (2 : Int32)))]))
            refine Owes.go ?_ fun t₀ k₀ => XS.iloadN X0.here hx rfl (hb hby d8_75) rfl k₀
            show Owes _ _ _ _ (s₁.setTop (mkF m 76 #[.val (.int ((((((((p0 ^^^ (-1 : Int32)) &&& (p0 - (1 : Int32))).toUInt32 >>> ((16 : Int32) &&& 31).toUInt32).toInt32).toUInt32 >>> ((8 : Int32) &&& 31).toUInt32).toInt32).toUInt32 >>> ((2 : Int32) &&& 31).toUInt32).toInt32)), .val (.int ((((1 : Int32) + (16 : Int32)) + (8 : Int32)) + (2 : Int32)))] [(.int ((((((((p0 ^^^ (-1 : Int32)) &&& (p0 - (1 : Int32))).toUInt32 >>> ((16 : Int32) &&& 31).toUInt32).toInt32).toUInt32 >>> ((8 : Int32) &&& 31).toUInt32).toInt32).toUInt32 >>> ((2 : Int32) &&& 31).toUInt32).toInt32)), (.int ((((1 : Int32) + (16 : Int32)) + (8 : Int32)) + (2 : Int32)))]))
            refine Owes.go ?_ fun t₀ k₀ => XS.iconst X0.here hx rfl (hb hby d8_76) k₀
            show Owes _ _ _ _ (s₁.setTop (mkF m 77 #[.val (.int ((((((((p0 ^^^ (-1 : Int32)) &&& (p0 - (1 : Int32))).toUInt32 >>> ((16 : Int32) &&& 31).toUInt32).toInt32).toUInt32 >>> ((8 : Int32) &&& 31).toUInt32).toInt32).toUInt32 >>> ((2 : Int32) &&& 31).toUInt32).toInt32)), .val (.int ((((1 : Int32) + (16 : Int32)) + (8 : Int32)) + (2 : Int32)))] [(.int (1 : Int32)), (.int ((((((((p0 ^^^ (-1 : Int32)) &&& (p0 - (1 : Int32))).toUInt32 >>> ((16 : Int32) &&& 31).toUInt32).toInt32).toUInt32 >>> ((8 : Int32) &&& 31).toUInt32).toInt32).toUInt32 >>> ((2 : Int32) &&& 31).toUInt32).toInt32)), (.int ((((1 : Int32) + (16 : Int32)) + (8 : Int32)) + (2 : Int32)))]))
            refine Owes.go ?_ fun t₀ k₀ => XS.iushr X0.here hx rfl (hb hby d8_77) rfl k₀
            show Owes _ _ _ _ (s₁.setTop (mkF m 78 #[.val (.int ((((((((p0 ^^^ (-1 : Int32)) &&& (p0 - (1 : Int32))).toUInt32 >>> ((16 : Int32) &&& 31).toUInt32).toInt32).toUInt32 >>> ((8 : Int32) &&& 31).toUInt32).toInt32).toUInt32 >>> ((2 : Int32) &&& 31).toUInt32).toInt32)), .val (.int ((((1 : Int32) + (16 : Int32)) + (8 : Int32)) + (2 : Int32)))] [(.int ((((((((((p0 ^^^ (-1 : Int32)) &&& (p0 - (1 : Int32))).toUInt32 >>> ((16 : Int32) &&& 31).toUInt32).toInt32).toUInt32 >>> ((8 : Int32) &&& 31).toUInt32).toInt32).toUInt32 >>> ((2 : Int32) &&& 31).toUInt32).toInt32).toUInt32 >>> ((1 : Int32) &&& 31).toUInt32).toInt32)), (.int ((((1 : Int32) + (16 : Int32)) + (8 : Int32)) + (2 : Int32)))]))
            refine Owes.go ?_ fun t₀ k₀ => XS.iadd X0.here hx rfl (hb hby d8_78) rfl k₀
            show Owes _ _ _ _ (s₁.setTop (mkF m 79 #[.val (.int ((((((((p0 ^^^ (-1 : Int32)) &&& (p0 - (1 : Int32))).toUInt32 >>> ((16 : Int32) &&& 31).toUInt32).toInt32).toUInt32 >>> ((8 : Int32) &&& 31).toUInt32).toInt32).toUInt32 >>> ((2 : Int32) &&& 31).toUInt32).toInt32)), .val (.int ((((1 : Int32) + (16 : Int32)) + (8 : Int32)) + (2 : Int32)))] [(.int (((((1 : Int32) + (16 : Int32)) + (8 : Int32)) + (2 : Int32)) + ((((((((((p0 ^^^ (-1 : Int32)) &&& (p0 - (1 : Int32))).toUInt32 >>> ((16 : Int32) &&& 31).toUInt32).toInt32).toUInt32 >>> ((8 : Int32) &&& 31).toUInt32).toInt32).toUInt32 >>> ((2 : Int32) &&& 31).toUInt32).toInt32).toUInt32 >>> ((1 : Int32) &&& 31).toUInt32).toInt32)))]))
            exact Owes.retI X0 hx hlk hret (hb hby d8_79) (by decide) (by decide) ⟨congrArg (fun z => some (Value.int z)) (by unfold f_ntzI; rw [if_pos hc1, if_pos hc2, if_pos hc3, if_neg hc4, if_pos hc6]; first | done | rfl), rfl, e0⟩
          · skip
            refine Owes.go ?_ fun t₀ k₀ => XS.icmpYes X0.here hx rfl (pc0 := 64) (pc' := 74) rfl (hb hby d8_64) rfl (flt hc6).2.2.2 (by decide) (by decide) k₀
            show Owes _ _ _ _ (s₁.setTop (mkF m 74 #[.val (.int ((((((p0 ^^^ (-1 : Int32)) &&& (p0 - (1 : Int32))).toUInt32 >>> ((16 : Int32) &&& 31).toUInt32).toInt32).toUInt32 >>> ((8 : Int32) &&& 31).toUInt32).toInt32)), .val (.int (((1 : Int32) + (16 : Int32)) + (8 : Int32)))] []))
            refine Owes.go ?_ fun t₀ k₀ => XS.iloadN X0.here hx rfl (hb hby d8_74) rfl k₀
            show Owes _ _ _ _ (s₁.setTop (mkF m 75 #[.val (.int ((((((p0 ^^^ (-1 : Int32)) &&& (p0 - (1 : Int32))).toUInt32 >>> ((16 : Int32) &&& 31).toUInt32).toInt32).toUInt32 >>> ((8 : Int32) &&& 31).toUInt32).toInt32)), .val (.int (((1 : Int32) + (16 : Int32)) + (8 : Int32)))] [(.int (((1 : Int32) + (16 : Int32)) + (8 : Int32)))]))
            refine Owes.go ?_ fun t₀ k₀ => XS.iloadN X0.here hx rfl (hb hby d8_75) rfl k₀
            show Owes _ _ _ _ (s₁.setTop (mkF m 76 #[.val (.int ((((((p0 ^^^ (-1 : Int32)) &&& (p0 - (1 : Int32))).toUInt32 >>> ((16 : Int32) &&& 31).toUInt32).toInt32).toUInt32 >>> ((8 : Int32) &&& 31).toUInt32).toInt32)), .val (.int (((1 : Int32) + (16 : Int32)) + (8 : Int32)))] [(.int ((((((p0 ^^^ (-1 : Int32)) &&& (p0 - (1 : Int32))).toUInt32 >>> ((16 : Int32) &&& 31).toUInt32).toInt32).toUInt32 >>> ((8 : Int32) &&& 31).toUInt32).toInt32)), (.int (((1 : Int32) + (16 : Int32)) + (8 : Int32)))]))
            refine Owes.go ?_ fun t₀ k₀ => XS.iconst X0.here hx rfl (hb hby d8_76) k₀
            show Owes _ _ _ _ (s₁.setTop (mkF m 77 #[.val (.int ((((((p0 ^^^ (-1 : Int32)) &&& (p0 - (1 : Int32))).toUInt32 >>> ((16 : Int32) &&& 31).toUInt32).toInt32).toUInt32 >>> ((8 : Int32) &&& 31).toUInt32).toInt32)), .val (.int (((1 : Int32) + (16 : Int32)) + (8 : Int32)))] [(.int (1 : Int32)), (.int ((((((p0 ^^^ (-1 : Int32)) &&& (p0 - (1 : Int32))).toUInt32 >>> ((16 : Int32) &&& 31).toUInt32).toInt32).toUInt32 >>> ((8 : Int32) &&& 31).toUInt32).toInt32)), (.int (((1 : Int32) + (16 : Int32)) + (8 : Int32)))]))
            refine Owes.go ?_ fun t₀ k₀ => XS.iushr X0.here hx rfl (hb hby d8_77) rfl k₀
            show Owes _ _ _ _ (s₁.setTop (mkF m 78 #[.val (.int ((((((p0 ^^^ (-1 : Int32)) &&& (p0 - (1 : Int32))).toUInt32 >>> ((16 : Int32) &&& 31).toUInt32).toInt32).toUInt32 >>> ((8 : Int32) &&& 31).toUInt32).toInt32)), .val (.int (((1 : Int32) + (16 : Int32)) + (8 : Int32)))] [(.int ((((((((p0 ^^^ (-1 : Int32)) &&& (p0 - (1 : Int32))).toUInt32 >>> ((16 : Int32) &&& 31).toUInt32).toInt32).toUInt32 >>> ((8 : Int32) &&& 31).toUInt32).toInt32).toUInt32 >>> ((1 : Int32) &&& 31).toUInt32).toInt32)), (.int (((1 : Int32) + (16 : Int32)) + (8 : Int32)))]))
            refine Owes.go ?_ fun t₀ k₀ => XS.iadd X0.here hx rfl (hb hby d8_78) rfl k₀
            show Owes _ _ _ _ (s₁.setTop (mkF m 79 #[.val (.int ((((((p0 ^^^ (-1 : Int32)) &&& (p0 - (1 : Int32))).toUInt32 >>> ((16 : Int32) &&& 31).toUInt32).toInt32).toUInt32 >>> ((8 : Int32) &&& 31).toUInt32).toInt32)), .val (.int (((1 : Int32) + (16 : Int32)) + (8 : Int32)))] [(.int ((((1 : Int32) + (16 : Int32)) + (8 : Int32)) + ((((((((p0 ^^^ (-1 : Int32)) &&& (p0 - (1 : Int32))).toUInt32 >>> ((16 : Int32) &&& 31).toUInt32).toInt32).toUInt32 >>> ((8 : Int32) &&& 31).toUInt32).toInt32).toUInt32 >>> ((1 : Int32) &&& 31).toUInt32).toInt32)))]))
            exact Owes.retI X0 hx hlk hret (hb hby d8_79) (by decide) (by decide) ⟨congrArg (fun z => some (Value.int z)) (by unfold f_ntzI; rw [if_pos hc1, if_pos hc2, if_pos hc3, if_neg hc4, if_neg hc6]; first | done | rfl), rfl, e0⟩
      · skip
        refine Owes.go ?_ fun t₀ k₀ => XS.icmpYes X0.here hx rfl (pc0 := 38) (pc' := 49) rfl (hb hby d8_38) rfl (flt hc3).2.2.2 (by decide) (by decide) k₀
        show Owes _ _ _ _ (s₁.setTop (mkF m 49 #[.val (.int ((((p0 ^^^ (-1 : Int32)) &&& (p0 - (1 : Int32))).toUInt32 >>> ((16 : Int32) &&& 31).toUInt32).toInt32)), .val (.int ((1 : Int32) + (16 : Int32)))] []))
        refine Owes.go ?_ fun t₀ k₀ => XS.iloadN X0.here hx rfl (hb hby d8_49) rfl k₀
        show Owes _ _ _ _ (s₁.setTop (mkF m 50 #[.val (.int ((((p0 ^^^ (-1 : Int32)) &&& (p0 - (1 : Int32))).toUInt32 >>> ((16 : Int32) &&& 31).toUInt32).toInt32)), .val (.int ((1 : Int32) + (16 : Int32)))] [(.int ((((p0 ^^^ (-1 : Int32)) &&& (p0 - (1 : Int32))).toUInt32 >>> ((16 : Int32) &&& 31).toUInt32).toInt32))]))
        refine Owes.go ?_ fun t₀ k₀ => XS.bipush X0.here hx rfl (hb hby d8_50) k₀
        show Owes _ _ _ _ (s₁.setTop (mkF m 52 #[.val (.int ((((p0 ^^^ (-1 : Int32)) &&& (p0 - (1 : Int32))).toUInt32 >>> ((16 : Int32) &&& 31).toUInt32).toInt32)), .val (.int ((1 : Int32) + (16 : Int32)))] [(.int (16 : Int32)), (.int ((((p0 ^^^ (-1 : Int32)) &&& (p0 - (1 : Int32))).toUInt32 >>> ((16 : Int32) &&& 31).toUInt32).toInt32))]))
        by_cases hc7 : (16 : Int32) < ((((p0 ^^^ (-1 : Int32)) &&& (p0 - (1 : Int32))).toUInt32 >>> ((16 : Int32) &&& 31).toUInt32).toInt32)
        · skip
          refine Owes.go ?_ fun t₀ k₀ => XS.icmpNo X0.here hx rfl (hb hby d8_52) rfl (tlt hc7).2.2.2 k₀
          show Owes _ _ _ _ (s₁.setTop (mkF m 55 #[.val (.int ((((p0 ^^^ (-1 : Int32)) &&& (p0 - (1 : Int32))).toUInt32 >>> ((16 : Int32) &&& 31).toUInt32).toInt32)), .val (.int ((1 : Int32) + (16 : Int32)))] []))
          refine Owes.go ?_ fun t₀ k₀ => XS.iinc X0.here hx rfl (hb hby d8_55) rfl (l' := #[.val (.int ((((p0 ^^^ (-1 : Int32)) &&& (p0 - (1 : Int32))).toUInt32 >>> ((16 : Int32) &&& 31).toUInt32).toInt32)), .val (.int (((1 : Int32) + (16 : Int32)) + (4 : Int32)))]) rfl k₀
          show Owes _ _ _ _ (s₁.setTop (mkF m 58 #[.val (.int ((((p0 ^^^ (-1 : Int32)) &&& (p0 - (1 : Int32))).toUInt32 >>> ((16 : Int32) &&& 31).toUInt32).toInt32)), .val (.int (((1 : Int32) + (16 : Int32)) + (4 : Int32)))] []))
          refine Owes.go ?_ fun t₀ k₀ => XS.iloadN X0.here hx rfl (hb hby d8_58) rfl k₀
          show Owes _ _ _ _ (s₁.setTop (mkF m 59 #[.val (.int ((((p0 ^^^ (-1 : Int32)) &&& (p0 - (1 : Int32))).toUInt32 >>> ((16 : Int32) &&& 31).toUInt32).toInt32)), .val (.int (((1 : Int32) + (16 : Int32)) + (4 : Int32)))] [(.int ((((p0 ^^^ (-1 : Int32)) &&& (p0 - (1 : Int32))).toUInt32 >>> ((16 : Int32) &&& 31).toUInt32).toInt32))]))
          refine Owes.go ?_ fun t₀ k₀ => XS.iconst X0.here hx rfl (hb hby d8_59) k₀
          show Owes _ _ _ _ (s₁.setTop (mkF m 60 #[.val (.int ((((p0 ^^^ (-1 : Int32)) &&& (p0 - (1 : Int32))).toUInt32 >>> ((16 : Int32) &&& 31).toUInt32).toInt32)), .val (.int (((1 : Int32) + (16 : Int32)) + (4 : Int32)))] [(.int (4 : Int32)), (.int ((((p0 ^^^ (-1 : Int32)) &&& (p0 - (1 : Int32))).toUInt32 >>> ((16 : Int32) &&& 31).toUInt32).toInt32))]))
          refine Owes.go ?_ fun t₀ k₀ => XS.iushr X0.here hx rfl (hb hby d8_60) rfl k₀
          show Owes _ _ _ _ (s₁.setTop (mkF m 61 #[.val (.int ((((p0 ^^^ (-1 : Int32)) &&& (p0 - (1 : Int32))).toUInt32 >>> ((16 : Int32) &&& 31).toUInt32).toInt32)), .val (.int (((1 : Int32) + (16 : Int32)) + (4 : Int32)))] [(.int ((((((p0 ^^^ (-1 : Int32)) &&& (p0 - (1 : Int32))).toUInt32 >>> ((16 : Int32) &&& 31).toUInt32).toInt32).toUInt32 >>> ((4 : Int32) &&& 31).toUInt32).toInt32))]))
          refine Owes.go ?_ fun t₀ k₀ => XS.istoreN X0.here hx rfl (hb hby d8_61) rfl (l' := #[.val (.int ((((((p0 ^^^ (-1 : Int32)) &&& (p0 - (1 : Int32))).toUInt32 >>> ((16 : Int32) &&& 31).toUInt32).toInt32).toUInt32 >>> ((4 : Int32) &&& 31).toUInt32).toInt32)), .val (.int (((1 : Int32) + (16 : Int32)) + (4 : Int32)))]) rfl k₀
          show Owes _ _ _ _ (s₁.setTop (mkF m 62 #[.val (.int ((((((p0 ^^^ (-1 : Int32)) &&& (p0 - (1 : Int32))).toUInt32 >>> ((16 : Int32) &&& 31).toUInt32).toInt32).toUInt32 >>> ((4 : Int32) &&& 31).toUInt32).toInt32)), .val (.int (((1 : Int32) + (16 : Int32)) + (4 : Int32)))] []))
          refine Owes.go ?_ fun t₀ k₀ => XS.iloadN X0.here hx rfl (hb hby d8_62) rfl k₀
          show Owes _ _ _ _ (s₁.setTop (mkF m 63 #[.val (.int ((((((p0 ^^^ (-1 : Int32)) &&& (p0 - (1 : Int32))).toUInt32 >>> ((16 : Int32) &&& 31).toUInt32).toInt32).toUInt32 >>> ((4 : Int32) &&& 31).toUInt32).toInt32)), .val (.int (((1 : Int32) + (16 : Int32)) + (4 : Int32)))] [(.int ((((((p0 ^^^ (-1 : Int32)) &&& (p0 - (1 : Int32))).toUInt32 >>> ((16 : Int32) &&& 31).toUInt32).toInt32).toUInt32 >>> ((4 : Int32) &&& 31).toUInt32).toInt32))]))
          refine Owes.go ?_ fun t₀ k₀ => XS.iconst X0.here hx rfl (hb hby d8_63) k₀
          show Owes _ _ _ _ (s₁.setTop (mkF m 64 #[.val (.int ((((((p0 ^^^ (-1 : Int32)) &&& (p0 - (1 : Int32))).toUInt32 >>> ((16 : Int32) &&& 31).toUInt32).toInt32).toUInt32 >>> ((4 : Int32) &&& 31).toUInt32).toInt32)), .val (.int (((1 : Int32) + (16 : Int32)) + (4 : Int32)))] [(.int (4 : Int32)), (.int ((((((p0 ^^^ (-1 : Int32)) &&& (p0 - (1 : Int32))).toUInt32 >>> ((16 : Int32) &&& 31).toUInt32).toInt32).toUInt32 >>> ((4 : Int32) &&& 31).toUInt32).toInt32))]))
          by_cases hc8 : (4 : Int32) < ((((((p0 ^^^ (-1 : Int32)) &&& (p0 - (1 : Int32))).toUInt32 >>> ((16 : Int32) &&& 31).toUInt32).toInt32).toUInt32 >>> ((4 : Int32) &&& 31).toUInt32).toInt32)
          · skip
            refine Owes.go ?_ fun t₀ k₀ => XS.icmpNo X0.here hx rfl (hb hby d8_64) rfl (tlt hc8).2.2.2 k₀
            show Owes _ _ _ _ (s₁.setTop (mkF m 67 #[.val (.int ((((((p0 ^^^ (-1 : Int32)) &&& (p0 - (1 : Int32))).toUInt32 >>> ((16 : Int32) &&& 31).toUInt32).toInt32).toUInt32 >>> ((4 : Int32) &&& 31).toUInt32).toInt32)), .val (.int (((1 : Int32) + (16 : Int32)) + (4 : Int32)))] []))
            refine Owes.go ?_ fun t₀ k₀ => XS.iinc X0.here hx rfl (hb hby d8_67) rfl (l' := #[.val (.int ((((((p0 ^^^ (-1 : Int32)) &&& (p0 - (1 : Int32))).toUInt32 >>> ((16 : Int32) &&& 31).toUInt32).toInt32).toUInt32 >>> ((4 : Int32) &&& 31).toUInt32).toInt32)), .val (.int ((((1 : Int32) + (16 : Int32)) + (4 : Int32)) + (2 : Int32)))]) rfl k₀
            show Owes _ _ _ _ (s₁.setTop (mkF m 70 #[.val (.int ((((((p0 ^^^ (-1 : Int32)) &&& (p0 - (1 : Int32))).toUInt32 >>> ((16 : Int32) &&& 31).toUInt32).toInt32).toUInt32 >>> ((4 : Int32) &&& 31).toUInt32).toInt32)), .val (.int ((((1 : Int32) + (16 : Int32)) + (4 : Int32)) + (2 : Int32)))] []))
            refine Owes.go ?_ fun t₀ k₀ => XS.iloadN X0.here hx rfl (hb hby d8_70) rfl k₀
            show Owes _ _ _ _ (s₁.setTop (mkF m 71 #[.val (.int ((((((p0 ^^^ (-1 : Int32)) &&& (p0 - (1 : Int32))).toUInt32 >>> ((16 : Int32) &&& 31).toUInt32).toInt32).toUInt32 >>> ((4 : Int32) &&& 31).toUInt32).toInt32)), .val (.int ((((1 : Int32) + (16 : Int32)) + (4 : Int32)) + (2 : Int32)))] [(.int ((((((p0 ^^^ (-1 : Int32)) &&& (p0 - (1 : Int32))).toUInt32 >>> ((16 : Int32) &&& 31).toUInt32).toInt32).toUInt32 >>> ((4 : Int32) &&& 31).toUInt32).toInt32))]))
            refine Owes.go ?_ fun t₀ k₀ => XS.iconst X0.here hx rfl (hb hby d8_71) k₀
            show Owes _ _ _ _ (s₁.setTop (mkF m 72 #[.val (.int ((((((p0 ^^^ (-1 : Int32)) &&& (p0 - (1 : Int32))).toUInt32 >>> ((16 : Int32) &&& 31).toUInt32).toInt32).toUInt32 >>> ((4 : Int32) &&& 31).toUInt32).toInt32)), .val (.int ((((1 : Int32) + (16 : Int32)) + (4 : Int32)) + (2 : Int32)))] [(.int (2 : Int32)), (.int ((((((p0 ^^^ (-1 : Int32)) &&& (p0 - (1 : Int32))).toUInt32 >>> ((16 : Int32) &&& 31).toUInt32).toInt32).toUInt32 >>> ((4 : Int32) &&& 31).toUInt32).toInt32))]))
            refine Owes.go ?_ fun t₀ k₀ => XS.iushr X0.here hx rfl (hb hby d8_72) rfl k₀
            show Owes _ _ _ _ (s₁.setTop (mkF m 73 #[.val (.int ((((((p0 ^^^ (-1 : Int32)) &&& (p0 - (1 : Int32))).toUInt32 >>> ((16 : Int32) &&& 31).toUInt32).toInt32).toUInt32 >>> ((4 : Int32) &&& 31).toUInt32).toInt32)), .val (.int ((((1 : Int32) + (16 : Int32)) + (4 : Int32)) + (2 : Int32)))] [(.int ((((((((p0 ^^^ (-1 : Int32)) &&& (p0 - (1 : Int32))).toUInt32 >>> ((16 : Int32) &&& 31).toUInt32).toInt32).toUInt32 >>> ((4 : Int32) &&& 31).toUInt32).toInt32).toUInt32 >>> ((2 : Int32) &&& 31).toUInt32).toInt32))]))
            refine Owes.go ?_ fun t₀ k₀ => XS.istoreN X0.here hx rfl (hb hby d8_73) rfl (l' := #[.val (.int ((((((((p0 ^^^ (-1 : Int32)) &&& (p0 - (1 : Int32))).toUInt32 >>> ((16 : Int32) &&& 31).toUInt32).toInt32).toUInt32 >>> ((4 : Int32) &&& 31).toUInt32).toInt32).toUInt32 >>> ((2 : Int32) &&& 31).toUInt32).toInt32)), .val (.int ((((1 : Int32) + (16 : Int32)) + (4 : Int32)) + (2 : Int32)))]) rfl k₀
            show Owes _ _ _ _ (s₁.setTop (mkF m 74 #[.val (.int ((((((((p0 ^^^ (-1 : Int32)) &&& (p0 - (1 : Int32))).toUInt32 >>> ((16 : Int32) &&& 31).toUInt32).toInt32).toUInt32 >>> ((4 : Int32) &&& 31).toUInt32).toInt32).toUInt32 >>> ((2 : Int32) &&& 31).toUInt32).toInt32)), .val (.int ((((1 : Int32) + (16 : Int32)) + (4 : Int32)) + (2 : Int32)))] []))
            refine Owes.go ?_ fun t₀ k₀ => XS.iloadN X0.here hx rfl (hb hby d8_74) rfl k₀
            show Owes _ _ _ _ (s₁.setTop (mkF m 75 #[.val (.int ((((((((p0 ^^^ (-1 : Int32)) &&& (p0 - (1 : Int32))).toUInt32 >>> ((16 : Int32) &&& 31).toUInt32).toInt32).toUInt32 >>> ((4 : Int32) &&& 31).toUInt32).toInt32).toUInt32 >>> ((2 : Int32) &&& 31).toUInt32).toInt32)), .val (.int ((((1 : Int32) + (16 : Int32)) + (4 : Int32)) + (2 : Int32)))] [(.int ((((1 : Int32) + (16 : Int32)) + (4 : Int32)) + (2 : Int32)))]))
            refine Owes.go ?_ fun t₀ k₀ => XS.iloadN X0.here hx rfl (hb hby d8_75) rfl k₀
            show Owes _ _ _ _ (s₁.setTop (mkF m 76 #[.val (.int ((((((((p0 ^^^ (-1 : Int32)) &&& (p0 - (1 : Int32))).toUInt32 >>> ((16 : Int32) &&& 31).toUInt32).toInt32).toUInt32 >>> ((4 : Int32) &&& 31).toUInt32).toInt32).toUInt32 >>> ((2 : Int32) &&& 31).toUInt32).toInt32)), .val (.int ((((1 : Int32) + (16 : Int32)) + (4 : Int32)) + (2 : Int32)))] [(.int ((((((((p0 ^^^ (-1 : Int32)) &&& (p0 - (1 : Int32))).toUInt32 >>> ((16 : Int32) &&& 31).toUInt32).toInt32).toUInt32 >>> ((4 : Int32) &&& 31).toUInt32).toInt32).toUInt32 >>> ((2 : Int32) &&& 31).toUInt32).toInt32)), (.int ((((1 : Int32) + (16 : Int32)) + (4 : Int32)) + (2 : Int32)))]))
            refine Owes.go ?_ fun t₀ k₀ => XS.iconst X0.here hx rfl (hb hby d8_76) k₀
            show Owes _ _ _ _ (s₁.setTop (mkF m 77 #[.val (.int ((((((((p0 ^^^ (-1 : Int32)) &&& (p0 - (1 : Int32))).toUInt32 >>> ((16 : Int32) &&& 31).toUInt32).toInt32).toUInt32 >>> ((4 : Int32) &&& 31).toUInt32).toInt32).toUInt32 >>> ((2 : Int32) &&& 31).toUInt32).toInt32)), .val (.int ((((1 : Int32) + (16 : Int32)) + (4 : Int32)) + (2 : Int32)))] [(.int (1 : Int32)), (.int ((((((((p0 ^^^ (-1 : Int32)) &&& (p0 - (1 : Int32))).toUInt32 >>> ((16 : Int32) &&& 31).toUInt32).toInt32).toUInt32 >>> ((4 : Int32) &&& 31).toUInt32).toInt32).toUInt32 >>> ((2 : Int32) &&& 31).toUInt32).toInt32)), (.int ((((1 : Int32) + (16 : Int32)) + (4 : Int32)) + (2 : Int32)))]))
            refine Owes.go ?_ fun t₀ k₀ => XS.iushr X0.here hx rfl (hb hby d8_77) rfl k₀
            show Owes _ _ _ _ (s₁.setTop (mkF m 78 #[.val (.int ((((((((p0 ^^^ (-1 : Int32)) &&& (p0 - (1 : Int32))).toUInt32 >>> ((16 : Int32) &&& 31).toUInt32).toInt32).toUInt32 >>> ((4 : Int32) &&& 31).toUInt32).toInt32).toUInt32 >>> ((2 : Int32) &&& 31).toUInt32).toInt32)), .val (.int ((((1 : Int32) + (16 : Int32)) + (4 : Int32)) + (2 : Int32)))] [(.int ((((((((((p0 ^^^ (-1 : Int32)) &&& (p0 - (1 : Int32))).toUInt32 >>> ((16 : Int32) &&& 31).toUInt32).toInt32).toUInt32 >>> ((4 : Int32) &&& 31).toUInt32).toInt32).toUInt32 >>> ((2 : Int32) &&& 31).toUInt32).toInt32).toUInt32 >>> ((1 : Int32) &&& 31).toUInt32).toInt32)), (.int ((((1 : Int32) + (16 : Int32)) + (4 : Int32)) + (2 : Int32)))]))
            refine Owes.go ?_ fun t₀ k₀ => XS.iadd X0.here hx rfl (hb hby d8_78) rfl k₀
            show Owes _ _ _ _ (s₁.setTop (mkF m 79 #[.val (.int ((((((((p0 ^^^ (-1 : Int32)) &&& (p0 - (1 : Int32))).toUInt32 >>> ((16 : Int32) &&& 31).toUInt32).toInt32).toUInt32 >>> ((4 : Int32) &&& 31).toUInt32).toInt32).toUInt32 >>> ((2 : Int32) &&& 31).toUInt32).toInt32)), .val (.int ((((1 : Int32) + (16 : Int32)) + (4 : Int32)) + (2 : Int32)))] [(.int (((((1 : Int32) + (16 : Int32)) + (4 : Int32)) + (2 : Int32)) + ((((((((((p0 ^^^ (-1 : Int32)) &&& (p0 - (1 : Int32))).toUInt32 >>> ((16 : Int32) &&& 31).toUInt32).toInt32).toUInt32 >>> ((4 : Int32) &&& 31).toUInt32).toInt32).toUInt32 >>> ((2 : Int32) &&& 31).toUInt32).toInt32).toUInt32 >>> ((1 : Int32) &&& 31).toUInt32).toInt32)))]))
            exact Owes.retI X0 hx hlk hret (hb hby d8_79) (by decide) (by decide) ⟨congrArg (fun z => some (Value.int z)) (by unfold f_ntzI; rw [if_pos hc1, if_pos hc2, if_neg hc3, if_pos hc7, if_pos hc8]; first | done | rfl), rfl, e0⟩
          · skip
            refine Owes.go ?_ fun t₀ k₀ => XS.icmpYes X0.here hx rfl (pc0 := 64) (pc' := 74) rfl (hb hby d8_64) rfl (flt hc8).2.2.2 (by decide) (by decide) k₀
            show Owes _ _ _ _ (s₁.setTop (mkF m 74 #[.val (.int ((((((p0 ^^^ (-1 : Int32)) &&& (p0 - (1 : Int32))).toUInt32 >>> ((16 : Int32) &&& 31).toUInt32).toInt32).toUInt32 >>> ((4 : Int32) &&& 31).toUInt32).toInt32)), .val (.int (((1 : Int32) + (16 : Int32)) + (4 : Int32)))] []))
            refine Owes.go ?_ fun t₀ k₀ => XS.iloadN X0.here hx rfl (hb hby d8_74) rfl k₀
            show Owes _ _ _ _ (s₁.setTop (mkF m 75 #[.val (.int ((((((p0 ^^^ (-1 : Int32)) &&& (p0 - (1 : Int32))).toUInt32 >>> ((16 : Int32) &&& 31).toUInt32).toInt32).toUInt32 >>> ((4 : Int32) &&& 31).toUInt32).toInt32)), .val (.int (((1 : Int32) + (16 : Int32)) + (4 : Int32)))] [(.int (((1 : Int32) + (16 : Int32)) + (4 : Int32)))]))
            refine Owes.go ?_ fun t₀ k₀ => XS.iloadN X0.here hx rfl (hb hby d8_75) rfl k₀
            show Owes _ _ _ _ (s₁.setTop (mkF m 76 #[.val (.int ((((((p0 ^^^ (-1 : Int32)) &&& (p0 - (1 : Int32))).toUInt32 >>> ((16 : Int32) &&& 31).toUInt32).toInt32).toUInt32 >>> ((4 : Int32) &&& 31).toUInt32).toInt32)), .val (.int (((1 : Int32) + (16 : Int32)) + (4 : Int32)))] [(.int ((((((p0 ^^^ (-1 : Int32)) &&& (p0 - (1 : Int32))).toUInt32 >>> ((16 : Int32) &&& 31).toUInt32).toInt32).toUInt32 >>> ((4 : Int32) &&& 31).toUInt32).toInt32)), (.int (((1 : Int32) + (16 : Int32)) + (4 : Int32)))]))
            refine Owes.go ?_ fun t₀ k₀ => XS.iconst X0.here hx rfl (hb hby d8_76) k₀
            show Owes _ _ _ _ (s₁.setTop (mkF m 77 #[.val (.int ((((((p0 ^^^ (-1 : Int32)) &&& (p0 - (1 : Int32))).toUInt32 >>> ((16 : Int32) &&& 31).toUInt32).toInt32).toUInt32 >>> ((4 : Int32) &&& 31).toUInt32).toInt32)), .val (.int (((1 : Int32) + (16 : Int32)) + (4 : Int32)))] [(.int (1 : Int32)), (.int ((((((p0 ^^^ (-1 : Int32)) &&& (p0 - (1 : Int32))).toUInt32 >>> ((16 : Int32) &&& 31).toUInt32).toInt32).toUInt32 >>> ((4 : Int32) &&& 31).toUInt32).toInt32)), (.int (((1 : Int32) + (16 : Int32)) + (4 : Int32)))]))
            refine Owes.go ?_ fun t₀ k₀ => XS.iushr X0.here hx rfl (hb hby d8_77) rfl k₀
            show Owes _ _ _ _ (s₁.setTop (mkF m 78 #[.val (.int ((((((p0 ^^^ (-1 : Int32)) &&& (p0 - (1 : Int32))).toUInt32 >>> ((16 : Int32) &&& 31).toUInt32).toInt32).toUInt32 >>> ((4 : Int32) &&& 31).toUInt32).toInt32)), .val (.int (((1 : Int32) + (16 : Int32)) + (4 : Int32)))] [(.int ((((((((p0 ^^^ (-1 : Int32)) &&& (p0 - (1 : Int32))).toUInt32 >>> ((16 : Int32) &&& 31).toUInt32).toInt32).toUInt32 >>> ((4 : Int32) &&& 31).toUInt32).toInt32).toUInt32 >>> ((1 : Int32) &&& 31).toUInt32).toInt32)), (.int (((1 : Int32) + (16 : Int32)) + (4 : Int32)))]))
            refine Owes.go ?_ fun t₀ k₀ => XS.iadd X0.here hx rfl (hb hby d8_78) rfl k₀
            show Owes _ _ _ _ (s₁.setTop (mkF m 79 #[.val (.int ((((((p0 ^^^ (-1 : Int32)) &&& (p0 - (1 : Int32))).toUInt32 >>> ((16 : Int32) &&& 31).toUInt32).toInt32).toUInt32 >>> ((4 : Int32) &&& 31).toUInt32).toInt32)), .val (.int (((1 : Int32) + (16 : Int32)) + (4 : Int32)))] [(.int ((((1 : Int32) + (16 : Int32)) + (4 : Int32)) + ((((((((p0 ^^^ (-1 : Int32)) &&& (p0 - (1 : Int32))).toUInt32 >>> ((16 : Int32) &&& 31).toUInt32).toInt32).toUInt32 >>> ((4 : Int32) &&& 31).toUInt32).toInt32).toUInt32 >>> ((1 : Int32) &&& 31).toUInt32).toInt32)))]))
            exact Owes.retI X0 hx hlk hret (hb hby d8_79) (by decide) (by decide) ⟨congrArg (fun z => some (Value.int z)) (by unfold f_ntzI; rw [if_pos hc1, if_pos hc2, if_neg hc3, if_pos hc7, if_neg hc8]; first | done | rfl), rfl, e0⟩
        · skip
          refine Owes.go ?_ fun t₀ k₀ => XS.icmpYes X0.here hx rfl (pc0 := 52) (pc' := 62) rfl (hb hby d8_52) rfl (flt hc7).2.2.2 (by decide) (by decide) k₀
          show Owes _ _ _ _ (s₁.setTop (mkF m 62 #[.val (.int ((((p0 ^^^ (-1 : Int32)) &&& (p0 - (1 : Int32))).toUInt32 >>> ((16 : Int32) &&& 31).toUInt32).toInt32)), .val (.int ((1 : Int32) + (16 : Int32)))] []))
          refine Owes.go ?_ fun t₀ k₀ => XS.iloadN X0.here hx rfl (hb hby d8_62) rfl k₀
          show Owes _ _ _ _ (s₁.setTop (mkF m 63 #[.val (.int ((((p0 ^^^ (-1 : Int32)) &&& (p0 - (1 : Int32))).toUInt32 >>> ((16 : Int32) &&& 31).toUInt32).toInt32)), .val (.int ((1 : Int32) + (16 : Int32)))] [(.int ((((p0 ^^^ (-1 : Int32)) &&& (p0 - (1 : Int32))).toUInt32 >>> ((16 : Int32) &&& 31).toUInt32).toInt32))]))
          refine Owes.go ?_ fun t₀ k₀ => XS.iconst X0.here hx rfl (hb hby d8_63) k₀
          show Owes _ _ _ _ (s₁.setTop (mkF m 64 #[.val (.int ((((p0 ^^^ (-1 : Int32)) &&& (p0 - (1 : Int32))).toUInt32 >>> ((16 : Int32) &&& 31).toUInt32).toInt32)), .val (.int ((1 : Int32) + (16 : Int32)))] [(.int (4 : Int32)), (.int ((((p0 ^^^ (-1 : Int32)) &&& (p0 - (1 : Int32))).toUInt32 >>> ((16 : Int32) &&& 31).toUInt32).toInt32))]))
          by_cases hc9 : (4 : Int32) < ((((p0 ^^^ (-1 : Int32)) &&& (p0 - (1 : Int32))).toUInt32 >>> ((16 : Int32) &&& 31).toUInt32).toInt32)
          · skip
            refine Owes.go ?_ fun t₀ k₀ => XS.icmpNo X0.here hx rfl (hb hby d8_64) rfl (tlt hc9).2.2.2 k₀
            show Owes _ _ _ _ (s₁.setTop (mkF m 67 #[.val (.int ((((p0 ^^^ (-1 : Int32)) &&& (p0 - (1 : Int32))).toUInt32 >>> ((16 : Int32) &&& 31).toUInt32).toInt32)), .val (.int ((1 : Int32) + (16 : Int32)))] []))
            refine Owes.go ?_ fun t₀ k₀ => XS.iinc X0.here hx rfl (hb hby d8_67) rfl (l' := #[.val (.int ((((p0 ^^^ (-1 : Int32)) &&& (p0 - (1 : Int32))).toUInt32 >>> ((16 : Int32) &&& 31).toUInt32).toInt32)), .val (.int (((1 : Int32) + (16 : Int32)) + (2 : Int32)))]) rfl k₀
            show Owes _ _ _ _ (s₁.setTop (mkF m 70 #[.val (.int ((((p0 ^^^ (-1 : Int32)) &&& (p0 - (1 : Int32))).toUInt32 >>> ((16 : Int32) &&& 31).toUInt32).toInt32)), .val (.int (((1 : Int32) + (16 : Int32)) + (2 : Int32)))] []))
            refine Owes.go ?_ fun t₀ k₀ => XS.iloadN X0.here hx rfl (hb hby d8_70) rfl k₀
            show Owes _ _ _ _ (s₁.setTop (mkF m 71 #[.val (.int ((((p0 ^^^ (-1 : Int32)) &&& (p0 - (1 : Int32))).toUInt32 >>> ((16 : Int32) &&& 31).toUInt32).toInt32)), .val (.int (((1 : Int32) + (16 : Int32)) + (2 : Int32)))] [(.int ((((p0 ^^^ (-1 : Int32)) &&& (p0 - (1 : Int32))).toUInt32 >>> ((16 : Int32) &&& 31).toUInt32).toInt32))]))
            refine Owes.go ?_ fun t₀ k₀ => XS.iconst X0.here hx rfl (hb hby d8_71) k₀
            show Owes _ _ _ _ (s₁.setTop (mkF m 72 #[.val (.int ((((p0 ^^^ (-1 : Int32)) &&& (p0 - (1 : Int32))).toUInt32 >>> ((16 : Int32) &&& 31).toUInt32).toInt32)), .val (.int (((1 : Int32) + (16 : Int32)) + (2 : Int32)))] [(.int (2 : Int32)), (.int ((((p0 ^^^ (-1 : Int32)) &&& (p0 - (1 : Int32))).toUInt32 >>> ((16 : Int32) &&& 31).toUInt32).toInt32))]))
            refine Owes.go ?_ fun t₀ k₀ => XS.iushr X0.here hx rfl (hb hby d8_72) rfl k₀
            show Owes _ _ _ _ (s₁.setTop (mkF m 73 #[.val (.int ((((p0 ^^^ (-1 : Int32)) &&& (p0 - (1 : Int32))).toUInt32 >>> ((16 : Int32) &&& 31).toUInt32).toInt32)), .val (.int (((1 : Int32) + (16 : Int32)) + (2 : Int32)))] [(.int ((((((p0 ^^^ (-1 : Int32)) &&& (p0 - (1 : Int32))).toUInt32 >>> ((16 : Int32) &&& 31).toUInt32).toInt32).toUInt32 >>> ((2 : Int32) &&& 31).toUInt32).toInt32))]))
            refine Owes.go ?_ fun t₀ k₀ => XS.istoreN X0.here hx rfl (hb hby d8_73) rfl (l' := #[.val (.int ((((((p0 ^^^ (-1 : Int32)) &&& (p0 - (1 : Int32))).toUInt32 >>> ((16 : Int32) &&& 31).toUInt32).toInt32).toUInt32 >>> ((2 : Int32) &&& 31).toUInt32).toInt32)), .val (.int (((1 : Int32) + (16 : Int32)) + (2 : Int32)))]) rfl k₀
            show Owes _ _ _ _ (s₁.setTop (mkF m 74 #[.val (.int ((((((p0 ^^^ (-1 : Int32)) &&& (p0 - (1 : Int32))).toUInt32 >>> ((16 : Int32) &&& 31).toUInt32).toInt32).toUInt32 >>> ((2 : Int32) &&& 31).toUInt32).toInt32)), .val (.int (((1 : Int32) + (16 : Int32)) + (2 : Int32)))] []))
            refine Owes.go ?_ fun t₀ k₀ => XS.iloadN X0.here hx rfl (hb hby d8_74) rfl k₀
            show Owes _ _ _ _ (s₁.setTop (mkF m 75 #[.val (.int ((((((p0 ^^^ (-1 : Int32)) &&& (p0 - (1 : Int32))).toUInt32 >>> ((16 : Int32) &&& 31).toUInt32).toInt32).toUInt32 >>> ((2 : Int32) &&& 31).toUInt32).toInt32)), .val (.int (((1 : Int32) + (16 : Int32)) + (2 : Int32)))] [(.int (((1 : Int32) + (16 : Int32)) + (2 : Int32)))]))
            refine Owes.go ?_ fun t₀ k₀ => XS.iloadN X0.here hx rfl (hb hby d8_75) rfl k₀
            show Owes _ _ _ _ (s₁.setTop (mkF m 76 #[.val (.int ((((((p0 ^^^ (-1 : Int32)) &&& (p0 - (1 : Int32))).toUInt32 >>> ((16 : Int32) &&& 31).toUInt32).toInt32).toUInt32 >>> ((2 : Int32) &&& 31).toUInt32).toInt32)), .val (.int (((1 : Int32) + (16 : Int32)) + (2 : Int32)))] [(.int ((((((p0 ^^^ (-1 : Int32)) &&& (p0 - (1 : Int32))).toUInt32 >>> ((16 : Int32) &&& 31).toUInt32).toInt32).toUInt32 >>> ((2 : Int32) &&& 31).toUInt32).toInt32)), (.int (((1 : Int32) + (16 : Int32)) + (2 : Int32)))]))
            refine Owes.go ?_ fun t₀ k₀ => XS.iconst X0.here hx rfl (hb hby d8_76) k₀
            show Owes _ _ _ _ (s₁.setTop (mkF m 77 #[.val (.int ((((((p0 ^^^ (-1 : Int32)) &&& (p0 - (1 : Int32))).toUInt32 >>> ((16 : Int32) &&& 31).toUInt32).toInt32).toUInt32 >>> ((2 : Int32) &&& 31).toUInt32).toInt32)), .val (.int (((1 : Int32) + (16 : Int32)) + (2 : Int32)))] [(.int (1 : Int32)), (.int ((((((p0 ^^^ (-1 : Int32)) &&& (p0 - (1 : Int32))).toUInt32 >>> ((16 : Int32) &&& 31).toUInt32).toInt32).toUInt32 >>> ((2 : Int32) &&& 31).toUInt32).toInt32)), (.int (((1 : Int32) + (16 : Int32)) + (2 : Int32)))]))
            refine Owes.go ?_ fun t₀ k₀ => XS.iushr X0.here hx rfl (hb hby d8_77) rfl k₀
            show Owes _ _ _ _ (s₁.setTop (mkF m 78 #[.val (.int ((((((p0 ^^^ (-1 : Int32)) &&& (p0 - (1 : Int32))).toUInt32 >>> ((16 : Int32) &&& 31).toUInt32).toInt32).toUInt32 >>> ((2 : Int32) &&& 31).toUInt32).toInt32)), .val (.int (((1 : Int32) + (16 : Int32)) + (2 : Int32)))] [(.int ((((((((p0 ^^^ (-1 : Int32)) &&& (p0 - (1 : Int32))).toUInt32 >>> ((16 : Int32) &&& 31).toUInt32).toInt32).toUInt32 >>> ((2 : Int32) &&& 31).toUInt32).toInt32).toUInt32 >>> ((1 : Int32) &&& 31).toUInt32).toInt32)), (.int (((1 : Int32) + (16 : Int32)) + (2 : Int32)))]))
            refine Owes.go ?_ fun t₀ k₀ => XS.iadd X0.here hx rfl (hb hby d8_78) rfl k₀
            show Owes _ _ _ _ (s₁.setTop (mkF m 79 #[.val (.int ((((((p0 ^^^ (-1 : Int32)) &&& (p0 - (1 : Int32))).toUInt32 >>> ((16 : Int32) &&& 31).toUInt32).toInt32).toUInt32 >>> ((2 : Int32) &&& 31).toUInt32).toInt32)), .val (.int (((1 : Int32) + (16 : Int32)) + (2 : Int32)))] [(.int ((((1 : Int32) + (16 : Int32)) + (2 : Int32)) + ((((((((p0 ^^^ (-1 : Int32)) &&& (p0 - (1 : Int32))).toUInt32 >>> ((16 : Int32) &&& 31).toUInt32).toInt32).toUInt32 >>> ((2 : Int32) &&& 31).toUInt32).toInt32).toUInt32 >>> ((1 : Int32) &&& 31).toUInt32).toInt32)))]))
            exact Owes.retI X0 hx hlk hret (hb hby d8_79) (by decide) (by decide) ⟨congrArg (fun z => some (Value.int z)) (by unfold f_ntzI; rw [if_pos hc1, if_pos hc2, if_neg hc3, if_neg hc7, if_pos hc9]; first | done | rfl), rfl, e0⟩
          · skip
            refine Owes.go ?_ fun t₀ k₀ => XS.icmpYes X0.here hx rfl (pc0 := 64) (pc' := 74) rfl (hb hby d8_64) rfl (flt hc9).2.2.2 (by decide) (by decide) k₀
            show Owes _ _ _ _ (s₁.setTop (mkF m 74 #[.val (.int ((((p0 ^^^ (-1 : Int32)) &&& (p0 - (1 : Int32))).toUInt32 >>> ((16 : Int32) &&& 31).toUInt32).toInt32)), .val (.int ((1 : Int32) + (16 : Int32)))] []))
            refine Owes.go ?_ fun t₀ k₀ => XS.iloadN X0.here hx rfl (hb hby d8_74) rfl k₀
            show Owes _ _ _ _ (s₁.setTop (mkF m 75 #[.val (.int ((((p0 ^^^ (-1 : Int32)) &&& (p0 - (1 : Int32))).toUInt32 >>> ((16 : Int32) &&& 31).toUInt32).toInt32)), .val (.int ((1 : Int32) + (16 : Int32)))] [(.int ((1 : Int32) + (16 : Int32)))]))
            refine Owes.go ?_ fun t₀ k₀ => XS.iloadN X0.here hx rfl (hb hby d8_75) rfl k₀
            show Owes _ _ _ _ (s₁.setTop (mkF m 76 #[.val (.int ((((p0 ^^^ (-1 : Int32)) &&& (p0 - (1 : Int32))).toUInt32 >>> ((16 : Int32) &&& 31).toUInt32).toInt32)), .val (.int ((1 : Int32) + (16 : Int32)))] [(.int ((((p0 ^^^ (-1 : Int32)) &&& (p0 - (1 : Int32))).toUInt32 >>> ((16 : Int32) &&& 31).toUInt32).toInt32)), (.int ((1 : Int32) + (16 : Int32)))]))
            refine Owes.go ?_ fun t₀ k₀ => XS.iconst X0.here hx rfl (hb hby d8_76) k₀
            show Owes _ _ _ _ (s₁.setTop (mkF m 77 #[.val (.int ((((p0 ^^^ (-1 : Int32)) &&& (p0 - (1 : Int32))).toUInt32 >>> ((16 : Int32) &&& 31).toUInt32).toInt32)), .val (.int ((1 : Int32) + (16 : Int32)))] [(.int (1 : Int32)), (.int ((((p0 ^^^ (-1 : Int32)) &&& (p0 - (1 : Int32))).toUInt32 >>> ((16 : Int32) &&& 31).toUInt32).toInt32)), (.int ((1 : Int32) + (16 : Int32)))]))
            refine Owes.go ?_ fun t₀ k₀ => XS.iushr X0.here hx rfl (hb hby d8_77) rfl k₀
            show Owes _ _ _ _ (s₁.setTop (mkF m 78 #[.val (.int ((((p0 ^^^ (-1 : Int32)) &&& (p0 - (1 : Int32))).toUInt32 >>> ((16 : Int32) &&& 31).toUInt32).toInt32)), .val (.int ((1 : Int32) + (16 : Int32)))] [(.int ((((((p0 ^^^ (-1 : Int32)) &&& (p0 - (1 : Int32))).toUInt32 >>> ((16 : Int32) &&& 31).toUInt32).toInt32).toUInt32 >>> ((1 : Int32) &&& 31).toUInt32).toInt32)), (.int ((1 : Int32) + (16 : Int32)))]))
            refine Owes.go ?_ fun t₀ k₀ => XS.iadd X0.here hx rfl (hb hby d8_78) rfl k₀
            show Owes _ _ _ _ (s₁.setTop (mkF m 79 #[.val (.int ((((p0 ^^^ (-1 : Int32)) &&& (p0 - (1 : Int32))).toUInt32 >>> ((16 : Int32) &&& 31).toUInt32).toInt32)), .val (.int ((1 : Int32) + (16 : Int32)))] [(.int (((1 : Int32) + (16 : Int32)) + ((((((p0 ^^^ (-1 : Int32)) &&& (p0 - (1 : Int32))).toUInt32 >>> ((16 : Int32) &&& 31).toUInt32).toInt32).toUInt32 >>> ((1 : Int32) &&& 31).toUInt32).toInt32)))]))
            exact Owes.retI X0 hx hlk hret (hb hby d8_79) (by decide) (by decide) ⟨congrArg (fun z => some (Value.int z)) (by unfold f_ntzI; rw [if_pos hc1, if_pos hc2, if_neg hc3, if_neg hc7, if_neg hc9]; first | done | rfl), rfl, e0⟩
    · skip
      refine Owes.go ?_ fun t₀ k₀ => XS.icmpYes X0.here hx rfl (pc0 := 23) (pc' := 34) rfl (hb hby d8_23) rfl (flt hc2).2.2.2 (by decide) (by decide) k₀
      show Owes _ _ _ _ (s₁.setTop (mkF m 34 #[.val (.int ((p0 ^^^ (-1 : Int32)) &&& (p0 - (1 : Int32)))), .val (.int (1 : Int32))] []))
      refine Owes.go ?_ fun t₀ k₀ => XS.iloadN X0.here hx rfl (hb hby d8_34) rfl k₀
      show Owes _ _ _ _ (s₁.setTop (mkF m 35 #[.val (.int ((p0 ^^^ (-1 : Int32)) &&& (p0 - (1 : Int32)))), .val (.int (1 : Int32))] [(.int ((p0 ^^^ (-1 : Int32)) &&& (p0 - (1 : Int32))))]))
      refine Owes.go ?_ fun t₀ k₀ => XS.sipush X0.here hx rfl (hb hby d8_35) k₀
      show Owes _ _ _ _ (s₁.setTop (mkF m 38 #[.val (.int ((p0 ^^^ (-1 : Int32)) &&& (p0 - (1 : Int32)))), .val (.int (1 : Int32))] [(.int (256 : Int32)), (.int ((p0 ^^^ (-1 : Int32)) &&& (p0 - (1 : Int32))))]))
      by_cases hc10 : (256 : Int32) < ((p0 ^^^ (-1 : Int32)) &&& (p0 - (1 : Int32)))
      · skip
        refine Owes.go ?_ fun t₀ k₀ => XS.icmpNo X0.here hx rfl (hb hby d8_38) rfl (tlt hc10).2.2.2 k₀
        show Owes _ _ _ _ (s₁.setTop (mkF m 41 #[.val (.int ((p0 ^^^ (-1 : Int32)) &&& (p0 - (1 : Int32)))), .val (.int (1 : Int32))] []))
        refine Owes.go ?_ fun t₀ k₀ => XS.iinc X0.here hx rfl (hb hby d8_41) rfl (l' := #[.val (.int ((p0 ^^^ (-1 : Int32)) &&& (p0 - (1 : Int32)))), .val (.int ((1 : Int32) + (8 : Int32)))]) rfl k₀
        show Owes _ _ _ _ (s₁.setTop (mkF m 44 #[.val (.int ((p0 ^^^ (-1 : Int32)) &&& (p0 - (1 : Int32)))), .val (.int ((1 : Int32) + (8 : Int32)))] []))
        refine Owes.go ?_ fun t₀ k₀ => XS.iloadN X0.here hx rfl (hb hby d8_44) rfl k₀
        show Owes _ _ _ _ (s₁.setTop (mkF m 45 #[.val (.int ((p0 ^^^ (-1 : Int32)) &&& (p0 - (1 : Int32)))), .val (.int ((1 : Int32) + (8 : Int32)))] [(.int ((p0 ^^^ (-1 : Int32)) &&& (p0 - (1 : Int32))))]))
        refine Owes.go ?_ fun t₀ k₀ => XS.bipush X0.here hx rfl (hb hby d8_45) k₀
        show Owes _ _ _ _ (s₁.setTop (mkF m 47 #[.val (.int ((p0 ^^^ (-1 : Int32)) &&& (p0 - (1 : Int32)))), .val (.int ((1 : Int32) + (8 : Int32)))] [(.int (8 : Int32)), (.int ((p0 ^^^ (-1 : Int32)) &&& (p0 - (1 : Int32))))]))
        refine Owes.go ?_ fun t₀ k₀ => XS.iushr X0.here hx rfl (hb hby d8_47) rfl k₀
        show Owes _ _ _ _ (s₁.setTop (mkF m 48 #[.val (.int ((p0 ^^^ (-1 : Int32)) &&& (p0 - (1 : Int32)))), .val (.int ((1 : Int32) + (8 : Int32)))] [(.int ((((p0 ^^^ (-1 : Int32)) &&& (p0 - (1 : Int32))).toUInt32 >>> ((8 : Int32) &&& 31).toUInt32).toInt32))]))
        refine Owes.go ?_ fun t₀ k₀ => XS.istoreN X0.here hx rfl (hb hby d8_48) rfl (l' := #[.val (.int ((((p0 ^^^ (-1 : Int32)) &&& (p0 - (1 : Int32))).toUInt32 >>> ((8 : Int32) &&& 31).toUInt32).toInt32)), .val (.int ((1 : Int32) + (8 : Int32)))]) rfl k₀
        show Owes _ _ _ _ (s₁.setTop (mkF m 49 #[.val (.int ((((p0 ^^^ (-1 : Int32)) &&& (p0 - (1 : Int32))).toUInt32 >>> ((8 : Int32) &&& 31).toUInt32).toInt32)), .val (.int ((1 : Int32) + (8 : Int32)))] []))
        refine Owes.go ?_ fun t₀ k₀ => XS.iloadN X0.here hx rfl (hb hby d8_49) rfl k₀
        show Owes _ _ _ _ (s₁.setTop (mkF m 50 #[.val (.int ((((p0 ^^^ (-1 : Int32)) &&& (p0 - (1 : Int32))).toUInt32 >>> ((8 : Int32) &&& 31).toUInt32).toInt32)), .val (.int ((1 : Int32) + (8 : Int32)))] [(.int ((((p0 ^^^ (-1 : Int32)) &&& (p0 - (1 : Int32))).toUInt32 >>> ((8 : Int32) &&& 31).toUInt32).toInt32))]))
        refine Owes.go ?_ fun t₀ k₀ => XS.bipush X0.here hx rfl (hb hby d8_50) k₀
        show Owes _ _ _ _ (s₁.setTop (mkF m 52 #[.val (.int ((((p0 ^^^ (-1 : Int32)) &&& (p0 - (1 : Int32))).toUInt32 >>> ((8 : Int32) &&& 31).toUInt32).toInt32)), .val (.int ((1 : Int32) + (8 : Int32)))] [(.int (16 : Int32)), (.int ((((p0 ^^^ (-1 : Int32)) &&& (p0 - (1 : Int32))).toUInt32 >>> ((8 : Int32) &&& 31).toUInt32).toInt32))]))
        by_cases hc11 : (16 : Int32) < ((((p0 ^^^ (-1 : Int32)) &&& (p0 - (1 : Int32))).toUInt32 >>> ((8 : Int32) &&& 31).toUInt32).toInt32)
        · skip
          refine Owes.go ?_ fun t₀ k₀ => XS.icmpNo X0.here hx rfl (hb hby d8_52) rfl (tlt hc11).2.2.2 k₀
          show Owes _ _ _ _ (s₁.setTop (mkF m 55 #[.val (.int ((((p0 ^^^ (-1 : Int32)) &&& (p0 - (1 : Int32))).toUInt32 >>> ((8 : Int32) &&& 31).toUInt32).toInt32)), .val (.int ((1 : Int32) + (8 : Int32)))] []))
          refine Owes.go ?_ fun t₀ k₀ => XS.iinc X0.here hx rfl (hb hby d8_55) rfl (l' := #[.val (.int ((((p0 ^^^ (-1 : Int32)) &&& (p0 - (1 : Int32))).toUInt32 >>> ((8 : Int32) &&& 31).toUInt32).toInt32)), .val (.int (((1 : Int32) + (8 : Int32)) + (4 : Int32)))]) rfl k₀
          show Owes _ _ _ _ (s₁.setTop (mkF m 58 #[.val (.int ((((p0 ^^^ (-1 : Int32)) &&& (p0 - (1 : Int32))).toUInt32 >>> ((8 : Int32) &&& 31).toUInt32).toInt32)), .val (.int (((1 : Int32) + (8 : Int32)) + (4 : Int32)))] []))
          refine Owes.go ?_ fun t₀ k₀ => XS.iloadN X0.here hx rfl (hb hby d8_58) rfl k₀
          show Owes _ _ _ _ (s₁.setTop (mkF m 59 #[.val (.int ((((p0 ^^^ (-1 : Int32)) &&& (p0 - (1 : Int32))).toUInt32 >>> ((8 : Int32) &&& 31).toUInt32).toInt32)), .val (.int (((1 : Int32) + (8 : Int32)) + (4 : Int32)))] [(.int ((((p0 ^^^ (-1 : Int32)) &&& (p0 - (1 : Int32))).toUInt32 >>> ((8 : Int32) &&& 31).toUInt32).toInt32))]))
          refine Owes.go ?_ fun t₀ k₀ => XS.iconst X0.here hx rfl (hb hby d8_59) k₀
          show Owes _ _ _ _ (s₁.setTop (mkF m 60 #[.val (.int ((((p0 ^^^ (-1 : Int32)) &&& (p0 - (1 : Int32))).toUInt32 >>> ((8 : Int32) &&& 31).toUInt32).toInt32)), .val (.int (((1 : Int32) + (8 : Int32)) + (4 : Int32)))] [(.int (4 : Int32)), (.int ((((p0 ^^^ (-1 : Int32)) &&& (p0 - (1 : Int32))).toUInt32 >>> ((8 : Int32) &&& 31).toUInt32).toInt32))]))
          refine Owes.go ?_ fun t₀ k₀ => XS.iushr X0.here hx rfl (hb hby d8_60) rfl k₀
          show Owes _ _ _ _ (s₁.setTop (mkF m 61 #[.val (.int ((((p0 ^^^ (-1 : Int32)) &&& (p0 - (1 : Int32))).toUInt32 >>> ((8 : Int32) &&& 31).toUInt32).toInt32)), .val (.int (((1 : Int32) + (8 : Int32)) + (4 : Int32)))] [(.int ((((((p0 ^^^ (-1 : Int32)) &&& (p0 - (1 : Int32))).toUInt32 >>> ((8 : Int32) &&& 31).toUInt32).toInt32).toUInt32 >>> ((4 : Int32) &&& 31).toUInt32).toInt32))]))
          refine Owes.go ?_ fun t₀ k₀ => XS.istoreN X0.here hx rfl (hb hby d8_61) rfl (l' := #[.val (.int ((((((p0 ^^^ (-1 : Int32)) &&& (p0 - (1 : Int32))).toUInt32 >>> ((8 : Int32) &&& 31).toUInt32).toInt32).toUInt32 >>> ((4 : Int32) &&& 31).toUInt32).toInt32)), .val (.int (((1 : Int32) + (8 : Int32)) + (4 : Int32)))]) rfl k₀
          show Owes _ _ _ _ (s₁.setTop (mkF m 62 #[.val (.int ((((((p0 ^^^ (-1 : Int32)) &&& (p0 - (1 : Int32))).toUInt32 >>> ((8 : Int32) &&& 31).toUInt32).toInt32).toUInt32 >>> ((4 : Int32) &&& 31).toUInt32).toInt32)), .val (.int (((1 : Int32) + (8 : Int32)) + (4 : Int32)))] []))
          refine Owes.go ?_ fun t₀ k₀ => XS.iloadN X0.here hx rfl (hb hby d8_62) rfl k₀
          show Owes _ _ _ _ (s₁.setTop (mkF m 63 #[.val (.int ((((((p0 ^^^ (-1 : Int32)) &&& (p0 - (1 : Int32))).toUInt32 >>> ((8 : Int32) &&& 31).toUInt32).toInt32).toUInt32 >>> ((4 : Int32) &&& 31).toUInt32).toInt32)), .val (.int (((1 : Int32) + (8 : Int32)) + (4 : Int32)))] [(.int ((((((p0 ^^^ (-1 : Int32)) &&& (p0 - (1 : Int32))).toUInt32 >>> ((8 : Int32) &&& 31).toUInt32).toInt32).toUInt32 >>> ((4 : Int32) &&& 31).toUInt32).toInt32))]))
          refine Owes.go ?_ fun t₀ k₀ => XS.iconst X0.here hx rfl (hb hby d8_63) k₀
          show Owes _ _ _ _ (s₁.setTop (mkF m 64 #[.val (.int ((((((p0 ^^^ (-1 : Int32)) &&& (p0 - (1 : Int32))).toUInt32 >>> ((8 : Int32) &&& 31).toUInt32).toInt32).toUInt32 >>> ((4 : Int32) &&& 31).toUInt32).toInt32)), .val (.int (((1 : Int32) + (8 : Int32)) + (4 : Int32)))] [(.int (4 : Int32)), (.int ((((((p0 ^^^ (-1 : Int32)) &&& (p0 - (1 : Int32))).toUInt32 >>> ((8 : Int32) &&& 31).toUInt32).toInt32).toUInt32 >>> ((4 : Int32) &&& 31).toUInt32).toInt32))]))
          by_cases hc12 : (4 : Int32) < ((((((p0 ^^^ (-1 : Int32)) &&& (p0 - (1 : Int32))).toUInt32 >>> ((8 : Int32) &&& 31).toUInt32).toInt32).toUInt32 >>> ((4 : Int32) &&& 31).toUInt32).toInt32)
          · skip
            refine Owes.go ?_ fun t₀ k₀ => XS.icmpNo X0.here hx rfl (hb hby d8_64) rfl (tlt hc12).2.2.2 k₀
            show Owes _ _ _ _ (s₁.setTop (mkF m 67 #[.val (.int ((((((p0 ^^^ (-1 : Int32)) &&& (p0 - (1 : Int32))).toUInt32 >>> ((8 : Int32) &&& 31).toUInt32).toInt32).toUInt32 >>> ((4 : Int32) &&& 31).toUInt32).toInt32)), .val (.int (((1 : Int32) + (8 : Int32)) + (4 : Int32)))] []))
            refine Owes.go ?_ fun t₀ k₀ => XS.iinc X0.here hx rfl (hb hby d8_67) rfl (l' := #[.val (.int ((((((p0 ^^^ (-1 : Int32)) &&& (p0 - (1 : Int32))).toUInt32 >>> ((8 : Int32) &&& 31).toUInt32).toInt32).toUInt32 >>> ((4 : Int32) &&& 31).toUInt32).toInt32)), .val (.int ((((1 : Int32) + (8 : Int32)) + (4 : Int32)) + (2 : Int32)))]) rfl k₀
            show Owes _ _ _ _ (s₁.setTop (mkF m 70 #[.val (.int ((((((p0 ^^^ (-1 : Int32)) &&& (p0 - (1 : Int32))).toUInt32 >>> ((8 : Int32) &&& 31).toUInt32).toInt32).toUInt32 >>> ((4 : Int32) &&& 31).toUInt32).toInt32)), .val (.int ((((1 : Int32) + (8 : Int32)) + (4 : Int32)) + (2 : Int32)))] []))
            refine Owes.go ?_ fun t₀ k₀ => XS.iloadN X0.here hx rfl (hb hby d8_70) rfl k₀
            show Owes _ _ _ _ (s₁.setTop (mkF m 71 #[.val (.int ((((((p0 ^^^ (-1 : Int32)) &&& (p0 - (1 : Int32))).toUInt32 >>> ((8 : Int32) &&& 31).toUInt32).toInt32).toUInt32 >>> ((4 : Int32) &&& 31).toUInt32).toInt32)), .val (.int ((((1 : Int32) + (8 : Int32)) + (4 : Int32)) + (2 : Int32)))] [(.int ((((((p0 ^^^ (-1 : Int32)) &&& (p0 - (1 : Int32))).toUInt32 >>> ((8 : Int32) &&& 31).toUInt32).toInt32).toUInt32 >>> ((4 : Int32) &&& 31).toUInt32).toInt32))]))
            refine Owes.go ?_ fun t₀ k₀ => XS.iconst X0.here hx rfl (hb hby d8_71) k₀
            show Owes _ _ _ _ (s₁.setTop (mkF m 72 #[.val (.int ((((((p0 ^^^ (-1 : Int32)) &&& (p0 - (1 : Int32))).toUInt32 >>> ((8 : Int32) &&& 31).toUInt32).toInt32).toUInt32 >>> ((4 : Int32) &&& 31).toUInt32).toInt32)), .val (.int ((((1 : Int32) + (8 : Int32)) + (4 : Int32)) + (2 : Int32)))] [(.int (2 : Int32)), (.int ((((((p0 ^^^ (-1 : Int32)) &&& (p0 - (1 : Int32))).toUInt32 >>> ((8 : Int32) &&& 31).toUInt32).toInt32).toUInt32 >>> ((4 : Int32) &&& 31).toUInt32).toInt32))]))
            refine Owes.go ?_ fun t₀ k₀ => XS.iushr X0.here hx rfl (hb hby d8_72) rfl k₀
            show Owes _ _ _ _ (s₁.setTop (mkF m 73 #[.val (.int ((((((p0 ^^^ (-1 : Int32)) &&& (p0 - (1 : Int32))).toUInt32 >>> ((8 : Int32) &&& 31).toUInt32).toInt32).toUInt32 >>> ((4 : Int32) &&& 31).toUInt32).toInt32)), .val (.int ((((1 : Int32) + (8 : Int32)) + (4 : Int32)) + (2 : Int32)))] [(.int ((((((((p0 ^^^ (-1 : Int32)) &&& (p0 - (1 : Int32))).toUInt32 >>> ((8 : Int32) &&& 31).toUInt32).toInt32).toUInt32 >>> ((4 : Int32) &&& 31).toUInt32).toInt32).toUInt32 >>> ((2 : Int32) &&& 31).toUInt32).toInt32))]))
            refine Owes.go ?_ fun t₀ k₀ => XS.istoreN X0.here hx rfl (hb hby d8_73) rfl (l' := #[.val (.int ((((((((p0 ^^^ (-1 : Int32)) &&& (p0 - (1 : Int32))).toUInt32 >>> ((8 : Int32) &&& 31).toUInt32).toInt32).toUInt32 >>> ((4 : Int32) &&& 31).toUInt32).toInt32).toUInt32 >>> ((2 : Int32) &&& 31).toUInt32).toInt32)), .val (.int ((((1 : Int32) + (8 : Int32)) + (4 : Int32)) + (2 : Int32)))]) rfl k₀
            show Owes _ _ _ _ (s₁.setTop (mkF m 74 #[.val (.int ((((((((p0 ^^^ (-1 : Int32)) &&& (p0 - (1 : Int32))).toUInt32 >>> ((8 : Int32) &&& 31).toUInt32).toInt32).toUInt32 >>> ((4 : Int32) &&& 31).toUInt32).toInt32).toUInt32 >>> ((2 : Int32) &&& 31).toUInt32).toInt32)), .val (.int ((((1 : Int32) + (8 : Int32)) + (4 : Int32)) + (2 : Int32)))] []))
            refine Owes.go ?_ fun t₀ k₀ => XS.iloadN X0.here hx rfl (hb hby d8_74) rfl k₀
            show Owes _ _ _ _ (s₁.setTop (mkF m 75 #[.val (.int ((((((((p0 ^^^ (-1 : Int32)) &&& (p0 - (1 : Int32))).toUInt32 >>> ((8 : Int32) &&& 31).toUInt32).toInt32).toUInt32 >>> ((4 : Int32) &&& 31).toUInt32).toInt32).toUInt32 >>> ((2 : Int32) &&& 31).toUInt32).toInt32)), .val (.int ((((1 : Int32) + (8 : Int32)) + (4 : Int32)) + (2 : Int32)))] [(.int ((((1 : Int32) + (8 : Int32)) + (4 : Int32)) + (2 : Int32)))]))
            refine Owes.go ?_ fun t₀ k₀ => XS.iloadN X0.here hx rfl (hb hby d8_75) rfl k₀
            show Owes _ _ _ _ (s₁.setTop (mkF m 76 #[.val (.int ((((((((p0 ^^^ (-1 : Int32)) &&& (p0 - (1 : Int32))).toUInt32 >>> ((8 : Int32) &&& 31).toUInt32).toInt32).toUInt32 >>> ((4 : Int32) &&& 31).toUInt32).toInt32).toUInt32 >>> ((2 : Int32) &&& 31).toUInt32).toInt32)), .val (.int ((((1 : Int32) + (8 : Int32)) + (4 : Int32)) + (2 : Int32)))] [(.int ((((((((p0 ^^^ (-1 : Int32)) &&& (p0 - (1 : Int32))).toUInt32 >>> ((8 : Int32) &&& 31).toUInt32).toInt32).toUInt32 >>> ((4 : Int32) &&& 31).toUInt32).toInt32).toUInt32 >>> ((2 : Int32) &&& 31).toUInt32).toInt32)), (.int ((((1 : Int32) + (8 : Int32)) + (4 : Int32)) + (2 : Int32)))]))
            refine Owes.go ?_ fun t₀ k₀ => XS.iconst X0.here hx rfl (hb hby d8_76) k₀
            show Owes _ _ _ _ (s₁.setTop (mkF m 77 #[.val (.int ((((((((p0 ^^^ (-1 : Int32)) &&& (p0 - (1 : Int32))).toUInt32 >>> ((8 : Int32) &&& 31).toUInt32).toInt32).toUInt32 >>> ((4 : Int32) &&& 31).toUInt32).toInt32).toUInt32 >>> ((2 : Int32) &&& 31).toUInt32).toInt32)), .val (.int ((((1 : Int32) + (8 : Int32)) + (4 : Int32)) + (2 : Int32)))] [(.int (1 : Int32)), (.int ((((((((p0 ^^^ (-1 : Int32)) &&& (p0 - (1 : Int32))).toUInt32 >>> ((8 : Int32) &&& 31).toUInt32).toInt32).toUInt32 >>> ((4 : Int32) &&& 31).toUInt32).toInt32).toUInt32 >>> ((2 : Int32) &&& 31).toUInt32).toInt32)), (.int ((((1 : Int32) + (8 : Int32)) + (4 : Int32)) + (2 : Int32)))]))
            refine Owes.go ?_ fun t₀ k₀ => XS.iushr X0.here hx rfl (hb hby d8_77) rfl k₀
            show Owes _ _ _ _ (s₁.setTop (mkF m 78 #[.val (.int ((((((((p0 ^^^ (-1 : Int32)) &&& (p0 - (1 : Int32))).toUInt32 >>> ((8 : Int32) &&& 31).toUInt32).toInt32).toUInt32 >>> ((4 : Int32) &&& 31).toUInt32).toInt32).toUInt32 >>> ((2 : Int32) &&& 31).toUInt32).toInt32)), .val (.int ((((1 : Int32) + (8 : Int32)) + (4 : Int32)) + (2 : Int32)))] [(.int ((((((((((p0 ^^^ (-1 : Int32)) &&& (p0 - (1 : Int32))).toUInt32 >>> ((8 : Int32) &&& 31).toUInt32).toInt32).toUInt32 >>> ((4 : Int32) &&& 31).toUInt32).toInt32).toUInt32 >>> ((2 : Int32) &&& 31).toUInt32).toInt32).toUInt32 >>> ((1 : Int32) &&& 31).toUInt32).toInt32)), (.int ((((1 : Int32) + (8 : Int32)) + (4 : Int32)) + (2 : Int32)))]))
            refine Owes.go ?_ fun t₀ k₀ => XS.iadd X0.here hx rfl (hb hby d8_78) rfl k₀
            show Owes _ _ _ _ (s₁.setTop (mkF m 79 #[.val (.int ((((((((p0 ^^^ (-1 : Int32)) &&& (p0 - (1 : Int32))).toUInt32 >>> ((8 : Int32) &&& 31).toUInt32).toInt32).toUInt32 >>> ((4 : Int32) &&& 31).toUInt32).toInt32).toUInt32 >>> ((2 : Int32) &&& 31).toUInt32).toInt32)), .val (.int ((((1 : Int32) + (8 : Int32)) + (4 : Int32)) + (2 : Int32)))] [(.int (((((1 : Int32) + (8 : Int32)) + (4 : Int32)) + (2 : Int32)) + ((((((((((p0 ^^^ (-1 : Int32)) &&& (p0 - (1 : Int32))).toUInt32 >>> ((8 : Int32) &&& 31).toUInt32).toInt32).toUInt32 >>> ((4 : Int32) &&& 31).toUInt32).toInt32).toUInt32 >>> ((2 : Int32) &&& 31).toUInt32).toInt32).toUInt32 >>> ((1 : Int32) &&& 31).toUInt32).toInt32)))]))
            exact Owes.retI X0 hx hlk hret (hb hby d8_79) (by decide) (by decide) ⟨congrArg (fun z => some (Value.int z)) (by unfold f_ntzI; rw [if_pos hc1, if_neg hc2, if_pos hc10, if_pos hc11, if_pos hc12]; first | done | rfl), rfl, e0⟩
          · skip
            refine Owes.go ?_ fun t₀ k₀ => XS.icmpYes X0.here hx rfl (pc0 := 64) (pc' := 74) rfl (hb hby d8_64) rfl (flt hc12).2.2.2 (by decide) (by decide) k₀
            show Owes _ _ _ _ (s₁.setTop (mkF m 74 #[.val (.int ((((((p0 ^^^ (-1 : Int32)) &&& (p0 - (1 : Int32))).toUInt32 >>> ((8 : Int32) &&& 31).toUInt32).toInt32).toUInt32 >>> ((4 : Int32) &&& 31).toUInt32).toInt32)), .val (.int (((1 : Int32) + (8 : Int32)) + (4 : Int32)))] []))
            refine Owes.go ?_ fun t₀ k₀ => XS.iloadN X0.here hx rfl (hb hby d8_74) rfl k₀
            show Owes _ _ _ _ (s₁.setTop (mkF m 75 #[.val (.int ((((((p0 ^^^ (-1 : Int32)) &&& (p0 - (1 : Int32))).toUInt32 >>> ((8 : Int32) &&& 31).toUInt32).toInt32).toUInt32 >>> ((4 : Int32) &&& 31).toUInt32).toInt32)), .val (.int (((1 : Int32) + (8 : Int32)) + (4 : Int32)))] [(.int (((1 : Int32) + (8 : Int32)) + (4 : Int32)))]))
            refine Owes.go ?_ fun t₀ k₀ => XS.iloadN X0.here hx rfl (hb hby d8_75) rfl k₀
            show Owes _ _ _ _ (s₁.setTop (mkF m 76 #[.val (.int ((((((p0 ^^^ (-1 : Int32)) &&& (p0 - (1 : Int32))).toUInt32 >>> ((8 : Int32) &&& 31).toUInt32).toInt32).toUInt32 >>> ((4 : Int32) &&& 31).toUInt32).toInt32)), .val (.int (((1 : Int32) + (8 : Int32)) + (4 : Int32)))] [(.int ((((((p0 ^^^ (-1 : Int32)) &&& (p0 - (1 : Int32))).toUInt32 >>> ((8 : Int32) &&& 31).toUInt32).toInt32).toUInt32 >>> ((4 : Int32) &&& 31).toUInt32).toInt32)), (.int (((1 : Int32) + (8 : Int32)) + (4 : Int32)))]))
            refine Owes.go ?_ fun t₀ k₀ => XS.iconst X0.here hx rfl (hb hby d8_76) k₀
            show Owes _ _ _ _ (s₁.setTop (mkF m 77 #[.val (.int ((((((p0 ^^^ (-1 : Int32)) &&& (p0 - (1 : Int32))).toUInt32 >>> ((8 : Int32) &&& 31).toUInt32).toInt32).toUInt32 >>> ((4 : Int32) &&& 31).toUInt32).toInt32)), .val (.int (((1 : Int32) + (8 : Int32)) + (4 : Int32)))] [(.int (1 : Int32)), (.int ((((((p0 ^^^ (-1 : Int32)) &&& (p0 - (1 : Int32))).toUInt32 >>> ((8 : Int32) &&& 31).toUInt32).toInt32).toUInt32 >>> ((4 : Int32) &&& 31).toUInt32).toInt32)), (.int (((1 : Int32) + (8 : Int32)) + (4 : Int32)))]))
            refine Owes.go ?_ fun t₀ k₀ => XS.iushr X0.here hx rfl (hb hby d8_77) rfl k₀
            show Owes _ _ _ _ (s₁.setTop (mkF m 78 #[.val (.int ((((((p0 ^^^ (-1 : Int32)) &&& (p0 - (1 : Int32))).toUInt32 >>> ((8 : Int32) &&& 31).toUInt32).toInt32).toUInt32 >>> ((4 : Int32) &&& 31).toUInt32).toInt32)), .val (.int (((1 : Int32) + (8 : Int32)) + (4 : Int32)))] [(.int ((((((((p0 ^^^ (-1 : Int32)) &&& (p0 - (1 : Int32))).toUInt32 >>> ((8 : Int32) &&& 31).toUInt32).toInt32).toUInt32 >>> ((4 : Int32) &&& 31).toUInt32).toInt32).toUInt32 >>> ((1 : Int32) &&& 31).toUInt32).toInt32)), (.int (((1 : Int32) + (8 : Int32)) + (4 : Int32)))]))
            refine Owes.go ?_ fun t₀ k₀ => XS.iadd X0.here hx rfl (hb hby d8_78) rfl k₀
            show Owes _ _ _ _ (s₁.setTop (mkF m 79 #[.val (.int ((((((p0 ^^^ (-1 : Int32)) &&& (p0 - (1 : Int32))).toUInt32 >>> ((8 : Int32) &&& 31).toUInt32).toInt32).toUInt32 >>> ((4 : Int32) &&& 31).toUInt32).toInt32)), .val (.int (((1 : Int32) + (8 : Int32)) + (4 : Int32)))] [(.int ((((1 : Int32) + (8 : Int32)) + (4 : Int32)) + ((((((((p0 ^^^ (-1 : Int32)) &&& (p0 - (1 : Int32))).toUInt32 >>> ((8 : Int32) &&& 31).toUInt32).toInt32).toUInt32 >>> ((4 : Int32) &&& 31).toUInt32).toInt32).toUInt32 >>> ((1 : Int32) &&& 31).toUInt32).toInt32)))]))
            exact Owes.retI X0 hx hlk hret (hb hby d8_79) (by decide) (by decide) ⟨congrArg (fun z => some (Value.int z)) (by unfold f_ntzI; rw [if_pos hc1, if_neg hc2, if_pos hc10, if_pos hc11, if_neg hc12]; first | done | rfl), rfl, e0⟩
        · skip
          refine Owes.go ?_ fun t₀ k₀ => XS.icmpYes X0.here hx rfl (pc0 := 52) (pc' := 62) rfl (hb hby d8_52) rfl (flt hc11).2.2.2 (by decide) (by decide) k₀
          show Owes _ _ _ _ (s₁.setTop (mkF m 62 #[.val (.int ((((p0 ^^^ (-1 : Int32)) &&& (p0 - (1 : Int32))).toUInt32 >>> ((8 : Int32) &&& 31).toUInt32).toInt32)), .val (.int ((1 : Int32) + (8 : Int32)))] []))
          refine Owes.go ?_ fun t₀ k₀ => XS.iloadN X0.here hx rfl (hb hby d8_62) rfl k₀
          show Owes _ _ _ _ (s₁.setTop (mkF m 63 #[.val (.int ((((p0 ^^^ (-1 : Int32)) &&& (p0 - (1 : Int32))).toUInt32 >>> ((8 : Int32) &&& 31).toUInt32).toInt32)), .val (.int ((1 : Int32) + (8 : Int32)))] [(.int ((((p0 ^^^ (-1 : Int32)) &&& (p0 - (1 : Int32))).toUInt32 >>> ((8 : Int32) &&& 31).toUInt32).toInt32))]))
          refine Owes.go ?_ fun t₀ k₀ => XS.iconst X0.here hx rfl (hb hby d8_63) k₀
          show Owes _ _ _ _ (s₁.setTop (mkF m 64 #[.val (.int ((((p0 ^^^ (-1 : Int32)) &&& (p0 - (1 : Int32))).toUInt32 >>> ((8 : Int32) &&& 31).toUInt32).toInt32)), .val (.int ((1 : Int32) + (8 : Int32)))] [(.int (4 : Int32)), (.int ((((p0 ^^^ (-1 : Int32)) &&& (p0 - (1 : Int32))).toUInt32 >>> ((8 : Int32) &&& 31).toUInt32).toInt32))]))
          by_cases hc13 : (4 : Int32) < ((((p0 ^^^ (-1 : Int32)) &&& (p0 - (1 : Int32))).toUInt32 >>> ((8 : Int32) &&& 31).toUInt32).toInt32)
          · skip
            refine Owes.go ?_ fun t₀ k₀ => XS.icmpNo X0.here hx rfl (hb hby d8_64) rfl (tlt hc13).2.2.2 k₀
            show Owes _ _ _ _ (s₁.setTop (mkF m 67 #[.val (.int ((((p0 ^^^ (-1 : Int32)) &&& (p0 - (1 : Int32))).toUInt32 >>> ((8 : Int32) &&& 31).toUInt32).toInt32)), .val (.int ((1 : Int32) + (8 : Int32)))] []))
            refine Owes.go ?_ fun t₀ k₀ => XS.iinc X0.here hx rfl (hb hby d8_67) rfl (l' := #[.val (.int ((((p0 ^^^ (-1 : Int32)) &&& (p0 - (1 : Int32))).toUInt32 >>> ((8 : Int32) &&& 31).toUInt32).toInt32)), .val (.int (((1 : Int32) + (8 : Int32)) + (2 : Int32)))]) rfl k₀
            show Owes _ _ _ _ (s₁.setTop (mkF m 70 #[.val (.int ((((p0 ^^^ (-1 : Int32)) &&& (p0 - (1 : Int32))).toUInt32 >>> ((8 : Int32) &&& 31).toUInt32).toInt32)), .val (.int (((1 : Int32) + (8 : Int32)) + (2 : Int32)))] []))
            refine Owes.go ?_ fun t₀ k₀ => XS.iloadN X0.here hx rfl (hb hby d8_70) rfl k₀
            show Owes _ _ _ _ (s₁.setTop (mkF m 71 #[.val (.int ((((p0 ^^^ (-1 : Int32)) &&& (p0 - (1 : Int32))).toUInt32 >>> ((8 : Int32) &&& 31).toUInt32).toInt32)), .val (.int (((1 : Int32) + (8 : Int32)) + (2 : Int32)))] [(.int ((((p0 ^^^ (-1 : Int32)) &&& (p0 - (1 : Int32))).toUInt32 >>> ((8 : Int32) &&& 31).toUInt32).toInt32))]))
            refine Owes.go ?_ fun t₀ k₀ => XS.iconst X0.here hx rfl (hb hby d8_71) k₀
            show Owes _ _ _ _ (s₁.setTop (mkF m 72 #[.val (.int ((((p0 ^^^ (-1 : Int32)) &&& (p0 - (1 : Int32))).toUInt32 >>> ((8 : Int32) &&& 31).toUInt32).toInt32)), .val (.int (((1 : Int32) + (8 : Int32)) + (2 : Int32)))] [(.int (2 : Int32)), (.int ((((p0 ^^^ (-1 : Int32)) &&& (p0 - (1 : Int32))).toUInt32 >>> ((8 : Int32) &&& 31).toUInt32).toInt32))]))
            refine Owes.go ?_ fun t₀ k₀ => XS.iushr X0.here hx rfl (hb hby d8_72) rfl k₀
            show Owes _ _ _ _ (s₁.setTop (mkF m 73 #[.val (.int ((((p0 ^^^ (-1 : Int32)) &&& (p0 - (1 : Int32))).toUInt32 >>> ((8 : Int32) &&& 31).toUInt32).toInt32)), .val (.int (((1 : Int32) + (8 : Int32)) + (2 : Int32)))] [(.int ((((((p0 ^^^ (-1 : Int32)) &&& (p0 - (1 : Int32))).toUInt32 >>> ((8 : Int32) &&& 31).toUInt32).toInt32).toUInt32 >>> ((2 : Int32) &&& 31).toUInt32).toInt32))]))
            refine Owes.go ?_ fun t₀ k₀ => XS.istoreN X0.here hx rfl (hb hby d8_73) rfl (l' := #[.val (.int ((((((p0 ^^^ (-1 : Int32)) &&& (p0 - (1 : Int32))).toUInt32 >>> ((8 : Int32) &&& 31).toUInt32).toInt32).toUInt32 >>> ((2 : Int32) &&& 31).toUInt32).toInt32)), .val (.int (((1 : Int32) + (8 : Int32)) + (2 : Int32)))]) rfl k₀
            show Owes _ _ _ _ (s₁.setTop (mkF m 74 #[.val (.int ((((((p0 ^^^ (-1 : Int32)) &&& (p0 - (1 : Int32))).toUInt32 >>> ((8 : Int32) &&& 31).toUInt32).toInt32).toUInt32 >>> ((2 : Int32) &&& 31).toUInt32).toInt32)), .val (.int (((1 : Int32) + (8 : Int32)) + (2 : Int32)))] []))
            refine Owes.go ?_ fun t₀ k₀ => XS.iloadN X0.here hx rfl (hb hby d8_74) rfl k₀
            show Owes _ _ _ _ (s₁.setTop (mkF m 75 #[.val (.int ((((((p0 ^^^ (-1 : Int32)) &&& (p0 - (1 : Int32))).toUInt32 >>> ((8 : Int32) &&& 31).toUInt32).toInt32).toUInt32 >>> ((2 : Int32) &&& 31).toUInt32).toInt32)), .val (.int (((1 : Int32) + (8 : Int32)) + (2 : Int32)))] [(.int (((1 : Int32) + (8 : Int32)) + (2 : Int32)))]))
            refine Owes.go ?_ fun t₀ k₀ => XS.iloadN X0.here hx rfl (hb hby d8_75) rfl k₀
            show Owes _ _ _ _ (s₁.setTop (mkF m 76 #[.val (.int ((((((p0 ^^^ (-1 : Int32)) &&& (p0 - (1 : Int32))).toUInt32 >>> ((8 : Int32) &&& 31).toUInt32).toInt32).toUInt32 >>> ((2 : Int32) &&& 31).toUInt32).toInt32)), .val (.int (((1 : Int32) + (8 : Int32)) + (2 : Int32)))] [(.int ((((((p0 ^^^ (-1 : Int32)) &&& (p0 - (1 : Int32))).toUInt32 >>> ((8 : Int32) &&& 31).toUInt32).toInt32).toUInt32 >>> ((2 : Int32) &&& 31).toUInt32).toInt32)), (.int (((1 : Int32) + (8 : Int32)) + (2 : Int32)))]))
            refine Owes.go ?_ fun t₀ k₀ => XS.iconst X0.here hx rfl (hb hby d8_76) k₀
            show Owes _ _ _ _ (s₁.setTop (mkF m 77 #[.val (.int ((((((p0 ^^^ (-1 : Int32)) &&& (p0 - (1 : Int32))).toUInt32 >>> ((8 : Int32) &&& 31).toUInt32).toInt32).toUInt32 >>> ((2 : Int32) &&& 31).toUInt32).toInt32)), .val (.int (((1 : Int32) + (8 : Int32)) + (2 : Int32)))] [(.int (1 : Int32)), (.int ((((((p0 ^^^ (-1 : Int32)) &&& (p0 - (1 : Int32))).toUInt32 >>> ((8 : Int32) &&& 31).toUInt32).toInt32).toUInt32 >>> ((2 : Int32) &&& 31).toUInt32).toInt32)), (.int (((1 : Int32) + (8 : Int32)) + (2 : Int32)))]))
            refine Owes.go ?_ fun t₀ k₀ => XS.iushr X0.here hx rfl (hb hby d8_77) rfl k₀
            show Owes _ _ _ _ (s₁.setTop (mkF m 78 #[.val (.int ((((((p0 ^^^ (-1 : Int32)) &&& (p0 - (1 : Int32))).toUInt32 >>> ((8 : Int32) &&& 31).toUInt32).toInt32).toUInt32 >>> ((2 : Int32) &&& 31).toUInt32).toInt32)), .val (.int (((1 : Int32) + (8 : Int32)) + (2 : Int32)))] [(.int ((((((((p0 ^^^ (-1 : Int32)) &&& (p0 - (1 : Int32))).toUInt32 >>> ((8 : Int32) &&& 31).toUInt32).toInt32).toUInt32 >>> ((2 : Int32) &&& 31).toUInt32).toInt32).toUInt32 >>> ((1 : Int32) &&& 31).toUInt32).toInt32)), (.int (((1 : Int32) + (8 : Int32)) + (2 : Int32)))]))
            refine Owes.go ?_ fun t₀ k₀ => XS.iadd X0.here hx rfl (hb hby d8_78) rfl k₀
            show Owes _ _ _ _ (s₁.setTop (mkF m 79 #[.val (.int ((((((p0 ^^^ (-1 : Int32)) &&& (p0 - (1 : Int32))).toUInt32 >>> ((8 : Int32) &&& 31).toUInt32).toInt32).toUInt32 >>> ((2 : Int32) &&& 31).toUInt32).toInt32)), .val (.int (((1 : Int32) + (8 : Int32)) + (2 : Int32)))] [(.int ((((1 : Int32) + (8 : Int32)) + (2 : Int32)) + ((((((((p0 ^^^ (-1 : Int32)) &&& (p0 - (1 : Int32))).toUInt32 >>> ((8 : Int32) &&& 31).toUInt32).toInt32).toUInt32 >>> ((2 : Int32) &&& 31).toUInt32).toInt32).toUInt32 >>> ((1 : Int32) &&& 31).toUInt32).toInt32)))]))
            exact Owes.retI X0 hx hlk hret (hb hby d8_79) (by decide) (by decide) ⟨congrArg (fun z => some (Value.int z)) (by unfold f_ntzI; rw [if_pos hc1, if_neg hc2, if_pos hc10, if_neg hc11, if_pos hc13]; first | done | rfl), rfl, e0⟩
          · skip
            refine Owes.go ?_ fun t₀ k₀ => XS.icmpYes X0.here hx rfl (pc0 := 64) (pc' := 74) rfl (hb hby d8_64) rfl (flt hc13).2.2.2 (by decide) (by decide) k₀
            show Owes _ _ _ _ (s₁.setTop (mkF m 74 #[.val (.int ((((p0 ^^^ (-1 : Int32)) &&& (p0 - (1 : Int32))).toUInt32 >>> ((8 : Int32) &&& 31).toUInt32).toInt32)), .val (.int ((1 : Int32) + (8 : Int32)))] []))
            refine Owes.go ?_ fun t₀ k₀ => XS.iloadN X0.here hx rfl (hb hby d8_74) rfl k₀
            show Owes _ _ _ _ (s₁.setTop (mkF m 75 #[.val (.int ((((p0 ^^^ (-1 : Int32)) &&& (p0 - (1 : Int32))).toUInt32 >>> ((8 : Int32) &&& 31).toUInt32).toInt32)), .val (.int ((1 : Int32) + (8 : Int32)))] [(.int ((1 : Int32) + (8 : Int32)))]))
            refine Owes.go ?_ fun t₀ k₀ => XS.iloadN X0.here hx rfl (hb hby d8_75) rfl k₀
            show Owes _ _ _ _ (s₁.setTop (mkF m 76 #[.val (.int ((((p0 ^^^ (-1 : Int32)) &&& (p0 - (1 : Int32))).toUInt32 >>> ((8 : Int32) &&& 31).toUInt32).toInt32)), .val (.int ((1 : Int32) + (8 : Int32)))] [(.int ((((p0 ^^^ (-1 : Int32)) &&& (p0 - (1 : Int32))).toUInt32 >>> ((8 : Int32) &&& 31).toUInt32).toInt32)), (.int ((1 : Int32) + (8 : Int32)))]))
            refine Owes.go ?_ fun t₀ k₀ => XS.iconst X0.here hx rfl (hb hby d8_76) k₀
            show Owes _ _ _ _ (s₁.setTop (mkF m 77 #[.val (.int ((((p0 ^^^ (-1 : Int32)) &&& (p0 - (1 : Int32))).toUInt32 >>> ((8 : Int32) &&& 31).toUInt32).toInt32)), .val (.int ((1 : Int32) + (8 : Int32)))] [(.int (1 : Int32)), (.int ((((p0 ^^^ (-1 : Int32)) &&& (p0 - (1 : Int32))).toUInt32 >>> ((8 : Int32) &&& 31).toUInt32).toInt32)), (.int ((1 : Int32) + (8 : Int32)))]))
            refine Owes.go ?_ fun t₀ k₀ => XS.iushr X0.here hx rfl (hb hby d8_77) rfl k₀
            show Owes _ _ _ _ (s₁.setTop (mkF m 78 #[.val (.int ((((p0 ^^^ (-1 : Int32)) &&& (p0 - (1 : Int32))).toUInt32 >>> ((8 : Int32) &&& 31).toUInt32).toInt32)), .val (.int ((1 : Int32) + (8 : Int32)))] [(.int ((((((p0 ^^^ (-1 : Int32)) &&& (p0 - (1 : Int32))).toUInt32 >>> ((8 : Int32) &&& 31).toUInt32).toInt32).toUInt32 >>> ((1 : Int32) &&& 31).toUInt32).toInt32)), (.int ((1 : Int32) + (8 : Int32)))]))
            refine Owes.go ?_ fun t₀ k₀ => XS.iadd X0.here hx rfl (hb hby d8_78) rfl k₀
            show Owes _ _ _ _ (s₁.setTop (mkF m 79 #[.val (.int ((((p0 ^^^ (-1 : Int32)) &&& (p0 - (1 : Int32))).toUInt32 >>> ((8 : Int32) &&& 31).toUInt32).toInt32)), .val (.int ((1 : Int32) + (8 : Int32)))] [(.int (((1 : Int32) + (8 : Int32)) + ((((((p0 ^^^ (-1 : Int32)) &&& (p0 - (1 : Int32))).toUInt32 >>> ((8 : Int32) &&& 31).toUInt32).toInt32).toUInt32 >>> ((1 : Int32) &&& 31).toUInt32).toInt32)))]))
            exact Owes.retI X0 hx hlk hret (hb hby d8_79) (by decide) (by decide) ⟨congrArg (fun z => some (Value.int z)) (by unfold f_ntzI; rw [if_pos hc1, if_neg hc2, if_pos hc10, if_neg hc11, if_neg hc13]; first | done | rfl), rfl, e0⟩
      · skip
        refine Owes.go ?_ fun t₀ k₀ => XS.icmpYes X0.here hx rfl (pc0 := 38) (pc' := 49) rfl (hb hby d8_38) rfl (flt hc10).2.2.2 (by decide) (by decide) k₀
        show Owes _ _ _ _ (s₁.setTop (mkF m 49 #[.val (.int ((p0 ^^^ (-1 : Int32)) &&& (p0 - (1 : Int32)))), .val (.int (1 : Int32))] []))
        refine Owes.go ?_ fun t₀ k₀ => XS.iloadN X0.here hx rfl (hb hby d8_49) rfl k₀
        show Owes _ _ _ _ (s₁.setTop (mkF m 50 #[.val (.int ((p0 ^^^ (-1 : Int32)) &&& (p0 - (1 : Int32)))), .val (.int (1 : Int32))] [(.int ((p0 ^^^ (-1 : Int32)) &&& (p0 - (1 : Int32))))]))
        refine Owes.go ?_ fun t₀ k₀ => XS.bipush X0.here hx rfl (hb hby d8_50) k₀
        show Owes _ _ _ _ (s₁.setTop (mkF m 52 #[.val (.int ((p0 ^^^ (-1 : Int32)) &&& (p0 - (1 : Int32)))), .val (.int (1 : Int32))] [(.int (16 : Int32)), (.int ((p0 ^^^ (-1 : Int32)) &&& (p0 - (1 : Int32))))]))
        by_cases hc14 : (16 : Int32) < ((p0 ^^^ (-1 : Int32)) &&& (p0 - (1 : Int32)))
        · skip
          refine Owes.go ?_ fun t₀ k₀ => XS.icmpNo X0.here hx rfl (hb hby d8_52) rfl (tlt hc14).2.2.2 k₀
          show Owes _ _ _ _ (s₁.setTop (mkF m 55 #[.val (.int ((p0 ^^^ (-1 : Int32)) &&& (p0 - (1 : Int32)))), .val (.int (1 : Int32))] []))
          refine Owes.go ?_ fun t₀ k₀ => XS.iinc X0.here hx rfl (hb hby d8_55) rfl (l' := #[.val (.int ((p0 ^^^ (-1 : Int32)) &&& (p0 - (1 : Int32)))), .val (.int ((1 : Int32) + (4 : Int32)))]) rfl k₀
          show Owes _ _ _ _ (s₁.setTop (mkF m 58 #[.val (.int ((p0 ^^^ (-1 : Int32)) &&& (p0 - (1 : Int32)))), .val (.int ((1 : Int32) + (4 : Int32)))] []))
          refine Owes.go ?_ fun t₀ k₀ => XS.iloadN X0.here hx rfl (hb hby d8_58) rfl k₀
          show Owes _ _ _ _ (s₁.setTop (mkF m 59 #[.val (.int ((p0 ^^^ (-1 : Int32)) &&& (p0 - (1 : Int32)))), .val (.int ((1 : Int32) + (4 : Int32)))] [(.int ((p0 ^^^ (-1 : Int32)) &&& (p0 - (1 : Int32))))]))
          refine Owes.go ?_ fun t₀ k₀ => XS.iconst X0.here hx rfl (hb hby d8_59) k₀
          show Owes _ _ _ _ (s₁.setTop (mkF m 60 #[.val (.int ((p0 ^^^ (-1 : Int32)) &&& (p0 - (1 : Int32)))), .val (.int ((1 : Int32) + (4 : Int32)))] [(.int (4 : Int32)), (.int ((p0 ^^^ (-1 : Int32)) &&& (p0 - (1 : Int32))))]))
          refine Owes.go ?_ fun t₀ k₀ => XS.iushr X0.here hx rfl (hb hby d8_60) rfl k₀
          show Owes _ _ _ _ (s₁.setTop (mkF m 61 #[.val (.int ((p0 ^^^ (-1 : Int32)) &&& (p0 - (1 : Int32)))), .val (.int ((1 : Int32) + (4 : Int32)))] [(.int ((((p0 ^^^ (-1 : Int32)) &&& (p0 - (1 : Int32))).toUInt32 >>> ((4 : Int32) &&& 31).toUInt32).toInt32))]))
          refine Owes.go ?_ fun t₀ k₀ => XS.istoreN X0.here hx rfl (hb hby d8_61) rfl (l' := #[.val (.int ((((p0 ^^^ (-1 : Int32)) &&& (p0 - (1 : Int32))).toUInt32 >>> ((4 : Int32) &&& 31).toUInt32).toInt32)), .val (.int ((1 : Int32) + (4 : Int32)))]) rfl k₀
          show Owes _ _ _ _ (s₁.setTop (mkF m 62 #[.val (.int ((((p0 ^^^ (-1 : Int32)) &&& (p0 - (1 : Int32))).toUInt32 >>> ((4 : Int32) &&& 31).toUInt32).toInt32)), .val (.int ((1 : Int32) + (4 : Int32)))] []))
          refine Owes.go ?_ fun t₀ k₀ => XS.iloadN X0.here hx rfl (hb hby d8_62) rfl k₀
          show Owes _ _ _ _ (s₁.setTop (mkF m 63 #[.val (.int ((((p0 ^^^ (-1 : Int32)) &&& (p0 - (1 : Int32))).toUInt32 >>> ((4 : Int32) &&& 31).toUInt32).toInt32)), .val (.int ((1 : Int32) + (4 : Int32)))] [(.int ((((p0 ^^^ (-1 : Int32)) &&& (p0 - (1 : Int32))).toUInt32 >>> ((4 : Int32) &&& 31).toUInt32).toInt32))]))
          refine Owes.go ?_ fun t₀ k₀ => XS.iconst X0.here hx rfl (hb hby d8_63) k₀
          show Owes _ _ _ _ (s₁.setTop (mkF m 64 #[.val (.int ((((p0 ^^^ (-1 : Int32)) &&& (p0 - (1 : Int32))).toUInt32 >>> ((4 : Int32) &&& 31).toUInt32).toInt32)), .val (.int ((1 : Int32) + (4 : Int32)))] [(.int (4 : Int32)), (.int ((((p0 ^^^ (-1 : Int32)) &&& (p0 - (1 : Int32))).toUInt32 >>> ((4 : Int32) &&& 31).toUInt32).toInt32))]))
          by_cases hc15 : (4 : Int32) < ((((p0 ^^^ (-1 : Int32)) &&& (p0 - (1 : Int32))).toUInt32 >>> ((4 : Int32) &&& 31).toUInt32).toInt32)
          · skip
            refine Owes.go ?_ fun t₀ k₀ => XS.icmpNo X0.here hx rfl (hb hby d8_64) rfl (tlt hc15).2.2.2 k₀
            show Owes _ _ _ _ (s₁.setTop (mkF m 67 #[.val (.int ((((p0 ^^^ (-1 : Int32)) &&& (p0 - (1 : Int32))).toUInt32 >>> ((4 : Int32) &&& 31).toUInt32).toInt32)), .val (.int ((1 : Int32) + (4 : Int32)))] []))
            refine Owes.go ?_ fun t₀ k₀ => XS.iinc X0.here hx rfl (hb hby d8_67) rfl (l' := #[.val (.int ((((p0 ^^^ (-1 : Int32)) &&& (p0 - (1 : Int32))).toUInt32 >>> ((4 : Int32) &&& 31).toUInt32).toInt32)), .val (.int (((1 : Int32) + (4 : Int32)) + (2 : Int32)))]) rfl k₀
            show Owes _ _ _ _ (s₁.setTop (mkF m 70 #[.val (.int ((((p0 ^^^ (-1 : Int32)) &&& (p0 - (1 : Int32))).toUInt32 >>> ((4 : Int32) &&& 31).toUInt32).toInt32)), .val (.int (((1 : Int32) + (4 : Int32)) + (2 : Int32)))] []))
            refine Owes.go ?_ fun t₀ k₀ => XS.iloadN X0.here hx rfl (hb hby d8_70) rfl k₀
            show Owes _ _ _ _ (s₁.setTop (mkF m 71 #[.val (.int ((((p0 ^^^ (-1 : Int32)) &&& (p0 - (1 : Int32))).toUInt32 >>> ((4 : Int32) &&& 31).toUInt32).toInt32)), .val (.int (((1 : Int32) + (4 : Int32)) + (2 : Int32)))] [(.int ((((p0 ^^^ (-1 : Int32)) &&& (p0 - (1 : Int32))).toUInt32 >>> ((4 : Int32) &&& 31).toUInt32).toInt32))]))
            refine Owes.go ?_ fun t₀ k₀ => XS.iconst X0.here hx rfl (hb hby d8_71) k₀
            show Owes _ _ _ _ (s₁.setTop (mkF m 72 #[.val (.int ((((p0 ^^^ (-1 : Int32)) &&& (p0 - (1 : Int32))).toUInt32 >>> ((4 : Int32) &&& 31).toUInt32).toInt32)), .val (.int (((1 : Int32) + (4 : Int32)) + (2 : Int32)))] [(.int (2 : Int32)), (.int ((((p0 ^^^ (-1 : Int32)) &&& (p0 - (1 : Int32))).toUInt32 >>> ((4 : Int32) &&& 31).toUInt32).toInt32))]))
            refine Owes.go ?_ fun t₀ k₀ => XS.iushr X0.here hx rfl (hb hby d8_72) rfl k₀
            show Owes _ _ _ _ (s₁.setTop (mkF m 73 #[.val (.int ((((p0 ^^^ (-1 : Int32)) &&& (p0 - (1 : Int32))).toUInt32 >>> ((4 : Int32) &&& 31).toUInt32).toInt32)), .val (.int (((1 : Int32) + (4 : Int32)) + (2 : Int32)))] [(.int ((((((p0 ^^^ (-1 : Int32)) &&& (p0 - (1 : Int32))).toUInt32 >>> ((4 : Int32) &&& 31).toUInt32).toInt32).toUInt32 >>> ((2 : Int32) &&& 31).toUInt32).toInt32))]))
            refine Owes.go ?_ fun t₀ k₀ => XS.istoreN X0.here hx rfl (hb hby d8_73) rfl (l' := #[.val (.int ((((((p0 ^^^ (-1 : Int32)) &&& (p0 - (1 : Int32))).toUInt32 >>> ((4 : Int32) &&& 31).toUInt32).toInt32).toUInt32 >>> ((2 : Int32) &&& 31).toUInt32).toInt32)), .val (.int (((1 : Int32) + (4 : Int32)) + (2 : Int32)))]) rfl k₀
            show Owes _ _ _ _ (s₁.setTop (mkF m 74 #[.val (.int ((((((p0 ^^^ (-1 : Int32)) &&& (p0 - (1 : Int32))).toUInt32 >>> ((4 : Int32) &&& 31).toUInt32).toInt32).toUInt32 >>> ((2 : Int32) &&& 31).toUInt32).toInt32)), .val (.int (((1 : Int32) + (4 : Int32)) + (2 : Int32)))] []))
            refine Owes.go ?_ fun t₀ k₀ => XS.iloadN X0.here hx rfl (hb hby d8_74) rfl k₀
            show Owes _ _ _ _ (s₁.setTop (mkF m 75 #[.val (.int ((((((p0 ^^^ (-1 : Int32)) &&& (p0 - (1 : Int32))).toUInt32 >>> ((4 : Int32) &&& 31).toUInt32).toInt32).toUInt32 >>> ((2 : Int32) &&& 31).toUInt32).toInt32)), .val (.int (((1 : Int32) + (4 : Int32)) + (2 : Int32)))] [(.int (((1 : Int32) + (4 : Int32)) + (2 : Int32)))]))
            refine Owes.go ?_ fun t₀ k₀ => XS.iloadN X0.here hx rfl (hb hby d8_75) rfl k₀
            show Owes _ _ _ _ (s₁.setTop (mkF m 76 #[.val (.int ((((((p0 ^^^ (-1 : Int32)) &&& (p0 - (1 : Int32))).toUInt32 >>> ((4 : Int32) &&& 31).toUInt32).toInt32).toUInt32 >>> ((2 : Int32) &&& 31).toUInt32).toInt32)), .val (.int (((1 : Int32) + (4 : Int32)) + (2 : Int32)))] [(.int ((((((p0 ^^^ (-1 : Int32)) &&& (p0 - (1 : Int32))).toUInt32 >>> ((4 : Int32) &&& 31).toUInt32).toInt32).toUInt32 >>> ((2 : Int32) &&& 31).toUInt32).toInt32)), (.int (((1 : Int32) + (4 : Int32)) + (2 : Int32)))]))
            refine Owes.go ?_ fun t₀ k₀ => XS.iconst X0.here hx rfl (hb hby d8_76) k₀
            show Owes _ _ _ _ (s₁.setTop (mkF m 77 #[.val (.int ((((((p0 ^^^ (-1 : Int32)) &&& (p0 - (1 : Int32))).toUInt32 >>> ((4 : Int32) &&& 31).toUInt32).toInt32).toUInt32 >>> ((2 : Int32) &&& 31).toUInt32).toInt32)), .val (.int (((1 : Int32) + (4 : Int32)) + (2 : Int32)))] [(.int (1 : Int32)), (.int ((((((p0 ^^^ (-1 : Int32)) &&& (p0 - (1 : Int32))).toUInt32 >>> ((4 : Int32) &&& 31).toUInt32).toInt32).toUInt32 >>> ((2 : Int32) &&& 31).toUInt32).toInt32)), (.int (((1 : Int32) + (4 : Int32)) + (2 : Int32)))]))
            refine Owes.go ?_ fun t₀ k₀ => XS.iushr X0.here hx rfl (hb hby d8_77) rfl k₀
            show Owes _ _ _ _ (s₁.setTop (mkF m 78 #[.val (.int ((((((p0 ^^^ (-1 : Int32)) &&& (p0 - (1 : Int32))).toUInt32 >>> ((4 : Int32) &&& 31).toUInt32).toInt32).toUInt32 >>> ((2 : Int32) &&& 31).toUInt32).toInt32)), .val (.int (((1 : Int32) + (4 : Int32)) + (2 : Int32)))] [(.int ((((((((p0 ^^^ (-1 : Int32)) &&& (p0 - (1 : Int32))).toUInt32 >>> ((4 : Int32) &&& 31).toUInt32).toInt32).toUInt32 >>> ((2 : Int32) &&& 31).toUInt32).toInt32).toUInt32 >>> ((1 : Int32) &&& 31).toUInt32).toInt32)), (.int (((1 : Int32) + (4 : Int32)) + (2 : Int32)))]))
            refine Owes.go ?_ fun t₀ k₀ => XS.iadd X0.here hx rfl (hb hby d8_78) rfl k₀
            show Owes _ _ _ _ (s₁.setTop (mkF m 79 #[.val (.int ((((((p0 ^^^ (-1 : Int32)) &&& (p0 - (1 : Int32))).toUInt32 >>> ((4 : Int32) &&& 31).toUInt32).toInt32).toUInt32 >>> ((2 : Int32) &&& 31).toUInt32).toInt32)), .val (.int (((1 : Int32) + (4 : Int32)) + (2 : Int32)))] [(.int ((((1 : Int32) + (4 : Int32)) + (2 : Int32)) + ((((((((p0 ^^^ (-1 : Int32)) &&& (p0 - (1 : Int32))).toUInt32 >>> ((4 : Int32) &&& 31).toUInt32).toInt32).toUInt32 >>> ((2 : Int32) &&& 31).toUInt32).toInt32).toUInt32 >>> ((1 : Int32) &&& 31).toUInt32).toInt32)))]))
            exact Owes.retI X0 hx hlk hret (hb hby d8_79) (by decide) (by decide) ⟨congrArg (fun z => some (Value.int z)) (by unfold f_ntzI; rw [if_pos hc1, if_neg hc2, if_neg hc10, if_pos hc14, if_pos hc15]; first | done | rfl), rfl, e0⟩
          · skip
            refine Owes.go ?_ fun t₀ k₀ => XS.icmpYes X0.here hx rfl (pc0 := 64) (pc' := 74) rfl (hb hby d8_64) rfl (flt hc15).2.2.2 (by decide) (by decide) k₀
            show Owes _ _ _ _ (s₁.setTop (mkF m 74 #[.val (.int ((((p0 ^^^ (-1 : Int32)) &&& (p0 - (1 : Int32))).toUInt32 >>> ((4 : Int32) &&& 31).toUInt32).toInt32)), .val (.int ((1 : Int32) + (4 : Int32)))] []))
            refine Owes.go ?_ fun t₀ k₀ => XS.iloadN X0.here hx rfl (hb hby d8_74) rfl k₀
            show Owes _ _ _ _ (s₁.setTop (mkF m 75 #[.val (.int ((((p0 ^^^ (-1 : Int32)) &&& (p0 - (1 : Int32))).toUInt32 >>> ((4 : Int32) &&& 31).toUInt32).toInt32)), .val (.int ((1 : Int32) + (4 : Int32)))] [(.int ((1 : Int32) + (4 : Int32)))]))
            refine Owes.go ?_ fun t₀ k₀ => XS.iloadN X0.here hx rfl (hb hby d8_75) rfl k₀
            show Owes _ _ _ _ (s₁.setTop (mkF m 76 #[.val (.int ((((p0 ^^^ (-1 : Int32)) &&& (p0 - (1 : Int32))).toUInt32 >>> ((4 : Int32) &&& 31).toUInt32).toInt32)), .val (.int ((1 : Int32) + (4 : Int32)))] [(.int ((((p0 ^^^ (-1 : Int32)) &&& (p0 - (1 : Int32))).toUInt32 >>> ((4 : Int32) &&& 31).toUInt32).toInt32)), (.int ((1 : Int32) + (4 : Int32)))]))
            refine Owes.go ?_ fun t₀ k₀ => XS.iconst X0.here hx rfl (hb hby d8_76) k₀
            show Owes _ _ _ _ (s₁.setTop (mkF m 77 #[.val (.int ((((p0 ^^^ (-1 : Int32)) &&& (p0 - (1 : Int32))).toUInt32 >>> ((4 : Int32) &&& 31).toUInt32).toInt32)), .val (.int ((1 : Int32) + (4 : Int32)))] [(.int (1 : Int32)), (.int ((((p0 ^^^ (-1 : Int32)) &&& (p0 - (1 : Int32))).toUInt32 >>> ((4 : Int32) &&& 31).toUInt32).toInt32)), (.int ((1 : Int32) + (4 : Int32)))]))
            refine Owes.go ?_ fun t₀ k₀ => XS.iushr X0.here hx rfl (hb hby d8_77) rfl k₀
            show Owes _ _ _ _ (s₁.setTop (mkF m 78 #[.val (.int ((((p0 ^^^ (-1 : Int32)) &&& (p0 - (1 : Int32))).toUInt32 >>> ((4 : Int32) &&& 31).toUInt32).toInt32)), .val (.int ((1 : Int32) + (4 : Int32)))] [(.int ((((((p0 ^^^ (-1 : Int32)) &&& (p0 - (1 : Int32))).toUInt32 >>> ((4 : Int32) &&& 31).toUInt32).toInt32).toUInt32 >>> ((1 : Int32) &&& 31).toUInt32).toInt32)), (.int ((1 : Int32) + (4 : Int32)))]))
            refine Owes.go ?_ fun t₀ k₀ => XS.iadd X0.here hx rfl (hb hby d8_78) rfl k₀
            show Owes _ _ _ _ (s₁.setTop (mkF m 79 #[.val (.int ((((p0 ^^^ (-1 : Int32)) &&& (p0 - (1 : Int32))).toUInt32 >>> ((4 : Int32) &&& 31).toUInt32).toInt32)), .val (.int ((1 : Int32) + (4 : Int32)))] [(.int (((1 : Int32) + (4 : Int32)) + ((((((p0 ^^^ (-1 : Int32)) &&& (p0 - (1 : Int32))).toUInt32 >>> ((4 : Int32) &&& 31).toUInt32).toInt32).toUInt32 >>> ((1 : Int32) &&& 31).toUInt32).toInt32)))]))
            exact Owes.retI X0 hx hlk hret (hb hby d8_79) (by decide) (by decide) ⟨congrArg (fun z => some (Value.int z)) (by unfold f_ntzI; rw [if_pos hc1, if_neg hc2, if_neg hc10, if_pos hc14, if_neg hc15]; first | done | rfl), rfl, e0⟩
        · skip
          refine Owes.go ?_ fun t₀ k₀ => XS.icmpYes X0.here hx rfl (pc0 := 52) (pc' := 62) rfl (hb hby d8_52) rfl (flt hc14).2.2.2 (by decide) (by decide) k₀
          show Owes _ _ _ _ (s₁.setTop (mkF m 62 #[.val (.int ((p0 ^^^ (-1 : Int32)) &&& (p0 - (1 : Int32)))), .val (.int (1 : Int32))] []))
          refine Owes.go ?_ fun t₀ k₀ => XS.iloadN X0.here hx rfl (hb hby d8_62) rfl k₀
          show Owes _ _ _ _ (s₁.setTop (mkF m 63 #[.val (.int ((p0 ^^^ (-1 : Int32)) &&& (p0 - (1 : Int32)))), .val (.int (1 : Int32))] [(.int ((p0 ^^^ (-1 : Int32)) &&& (p0 - (1 : Int32))))]))
          refine Owes.go ?_ fun t₀ k₀ => XS.iconst X0.here hx rfl (hb hby d8_63) k₀
          show Owes _ _ _ _ (s₁.setTop (mkF m 64 #[.val (.int ((p0 ^^^ (-1 : Int32)) &&& (p0 - (1 : Int32)))), .val (.int (1 : Int32))] [(.int (4 : Int32)), (.int ((p0 ^^^ (-1 : Int32)) &&& (p0 - (1 : Int32))))]))
          by_cases hc16 : (4 : Int32) < ((p0 ^^^ (-1 : Int32)) &&& (p0 - (1 : Int32)))
          · skip
            refine Owes.go ?_ fun t₀ k₀ => XS.icmpNo X0.here hx rfl (hb hby d8_64) rfl (tlt hc16).2.2.2 k₀
            show Owes _ _ _ _ (s₁.setTop (mkF m 67 #[.val (.int ((p0 ^^^ (-1 : Int32)) &&& (p0 - (1 : Int32)))), .val (.int (1 : Int32))] []))
            refine Owes.go ?_ fun t₀ k₀ => XS.iinc X0.here hx rfl (hb hby d8_67) rfl (l' := #[.val (.int ((p0 ^^^ (-1 : Int32)) &&& (p0 - (1 : Int32)))), .val (.int ((1 : Int32) + (2 : Int32)))]) rfl k₀
            show Owes _ _ _ _ (s₁.setTop (mkF m 70 #[.val (.int ((p0 ^^^ (-1 : Int32)) &&& (p0 - (1 : Int32)))), .val (.int ((1 : Int32) + (2 : Int32)))] []))
            refine Owes.go ?_ fun t₀ k₀ => XS.iloadN X0.here hx rfl (hb hby d8_70) rfl k₀
            show Owes _ _ _ _ (s₁.setTop (mkF m 71 #[.val (.int ((p0 ^^^ (-1 : Int32)) &&& (p0 - (1 : Int32)))), .val (.int ((1 : Int32) + (2 : Int32)))] [(.int ((p0 ^^^ (-1 : Int32)) &&& (p0 - (1 : Int32))))]))
            refine Owes.go ?_ fun t₀ k₀ => XS.iconst X0.here hx rfl (hb hby d8_71) k₀
            show Owes _ _ _ _ (s₁.setTop (mkF m 72 #[.val (.int ((p0 ^^^ (-1 : Int32)) &&& (p0 - (1 : Int32)))), .val (.int ((1 : Int32) + (2 : Int32)))] [(.int (2 : Int32)), (.int ((p0 ^^^ (-1 : Int32)) &&& (p0 - (1 : Int32))))]))
            refine Owes.go ?_ fun t₀ k₀ => XS.iushr X0.here hx rfl (hb hby d8_72) rfl k₀
            show Owes _ _ _ _ (s₁.setTop (mkF m 73 #[.val (.int ((p0 ^^^ (-1 : Int32)) &&& (p0 - (1 : Int32)))), .val (.int ((1 : Int32) + (2 : Int32)))] [(.int ((((p0 ^^^ (-1 : Int32)) &&& (p0 - (1 : Int32))).toUInt32 >>> ((2 : Int32) &&& 31).toUInt32).toInt32))]))
            refine Owes.go ?_ fun t₀ k₀ => XS.istoreN X0.here hx rfl (hb hby d8_73) rfl (l' := #[.val (.int ((((p0 ^^^ (-1 : Int32)) &&& (p0 - (1 : Int32))).toUInt32 >>> ((2 : Int32) &&& 31).toUInt32).toInt32)), .val (.int ((1 : Int32) + (2 : Int32)))]) rfl k₀
            show Owes _ _ _ _ (s₁.setTop (mkF m 74 #[.val (.int ((((p0 ^^^ (-1 : Int32)) &&& (p0 - (1 : Int32))).toUInt32 >>> ((2 : Int32) &&& 31).toUInt32).toInt32)), .val (.int ((1 : Int32) + (2 : Int32)))] []))
            refine Owes.go ?_ fun t₀ k₀ => XS.iloadN X0.here hx rfl (hb hby d8_74) rfl k₀
            show Owes _ _ _ _ (s₁.setTop (mkF m 75 #[.val (.int ((((p0 ^^^ (-1 : Int32)) &&& (p0 - (1 : Int32))).toUInt32 >>> ((2 : Int32) &&& 31).toUInt32).toInt32)), .val (.int ((1 : Int32) + (2 : Int32)))] [(.int ((1 : Int32) + (2 : Int32)))]))
            refine Owes.go ?_ fun t₀ k₀ => XS.iloadN X0.here hx rfl (hb hby d8_75) rfl k₀
            show Owes _ _ _ _ (s₁.setTop (mkF m 76 #[.val (.int ((((p0 ^^^ (-1 : Int32)) &&& (p0 - (1 : Int32))).toUInt32 >>> ((2 : Int32) &&& 31).toUInt32).toInt32)), .val (.int ((1 : Int32) + (2 : Int32)))] [(.int ((((p0 ^^^ (-1 : Int32)) &&& (p0 - (1 : Int32))).toUInt32 >>> ((2 : Int32) &&& 31).toUInt32).toInt32)), (.int ((1 : Int32) + (2 : Int32)))]))
            refine Owes.go ?_ fun t₀ k₀ => XS.iconst X0.here hx rfl (hb hby d8_76) k₀
            show Owes _ _ _ _ (s₁.setTop (mkF m 77 #[.val (.int ((((p0 ^^^ (-1 : Int32)) &&& (p0 - (1 : Int32))).toUInt32 >>> ((2 : Int32) &&& 31).toUInt32).toInt32)), .val (.int ((1 : Int32) + (2 : Int32)))] [(.int (1 : Int32)), (.int ((((p0 ^^^ (-1 : Int32)) &&& (p0 - (1 : Int32))).toUInt32 >>> ((2 : Int32) &&& 31).toUInt32).toInt32)), (.int ((1 : Int32) + (2 : Int32)))]))
            refine Owes.go ?_ fun t₀ k₀ => XS.iushr X0.here hx rfl (hb hby d8_77) rfl k₀
            show Owes _ _ _ _ (s₁.setTop (mkF m 78 #[.val (.int ((((p0 ^^^ (-1 : Int32)) &&& (p0 - (1 : Int32))).toUInt32 >>> ((2 : Int32) &&& 31).toUInt32).toInt32)), .val (.int ((1 : Int32) + (2 : Int32)))] [(.int ((((((p0 ^^^ (-1 : Int32)) &&& (p0 - (1 : Int32))).toUInt32 >>> ((2 : Int32) &&& 31).toUInt32).toInt32).toUInt32 >>> ((1 : Int32) &&& 31).toUInt32).toInt32)), (.int ((1 : Int32) + (2 : Int32)))]))
            refine Owes.go ?_ fun t₀ k₀ => XS.iadd X0.here hx rfl (hb hby d8_78) rfl k₀
            show Owes _ _ _ _ (s₁.setTop (mkF m 79 #[.val (.int ((((p0 ^^^ (-1 : Int32)) &&& (p0 - (1 : Int32))).toUInt32 >>> ((2 : Int32) &&& 31).toUInt32).toInt32)), .val (.int ((1 : Int32) + (2 : Int32)))] [(.int (((1 : Int32) + (2 : Int32)) + ((((((p0 ^^^ (-1 : Int32)) &&& (p0 - (1 : Int32))).toUInt32 >>> ((2 : Int32) &&& 31).toUInt32).toInt32).toUInt32 >>> ((1 : Int32) &&& 31).toUInt32).toInt32)))]))
            exact Owes.retI X0 hx hlk hret (hb hby d8_79) (by decide) (by decide) ⟨congrArg (fun z => some (Value.int z)) (by unfold f_ntzI; rw [if_pos hc1, if_neg hc2, if_neg hc10, if_neg hc14, if_pos hc16]; first | done | rfl), rfl, e0⟩
          · skip
            refine Owes.go ?_ fun t₀ k₀ => XS.icmpYes X0.here hx rfl (pc0 := 64) (pc' := 74) rfl (hb hby d8_64) rfl (flt hc16).2.2.2 (by decide) (by decide) k₀
            show Owes _ _ _ _ (s₁.setTop (mkF m 74 #[.val (.int ((p0 ^^^ (-1 : Int32)) &&& (p0 - (1 : Int32)))), .val (.int (1 : Int32))] []))
            refine Owes.go ?_ fun t₀ k₀ => XS.iloadN X0.here hx rfl (hb hby d8_74) rfl k₀
            show Owes _ _ _ _ (s₁.setTop (mkF m 75 #[.val (.int ((p0 ^^^ (-1 : Int32)) &&& (p0 - (1 : Int32)))), .val (.int (1 : Int32))] [(.int (1 : Int32))]))
            refine Owes.go ?_ fun t₀ k₀ => XS.iloadN X0.here hx rfl (hb hby d8_75) rfl k₀
            show Owes _ _ _ _ (s₁.setTop (mkF m 76 #[.val (.int ((p0 ^^^ (-1 : Int32)) &&& (p0 - (1 : Int32)))), .val (.int (1 : Int32))] [(.int ((p0 ^^^ (-1 : Int32)) &&& (p0 - (1 : Int32)))), (.int (1 : Int32))]))
            refine Owes.go ?_ fun t₀ k₀ => XS.iconst X0.here hx rfl (hb hby d8_76) k₀
            show Owes _ _ _ _ (s₁.setTop (mkF m 77 #[.val (.int ((p0 ^^^ (-1 : Int32)) &&& (p0 - (1 : Int32)))), .val (.int (1 : Int32))] [(.int (1 : Int32)), (.int ((p0 ^^^ (-1 : Int32)) &&& (p0 - (1 : Int32)))), (.int (1 : Int32))]))
            refine Owes.go ?_ fun t₀ k₀ => XS.iushr X0.here hx rfl (hb hby d8_77) rfl k₀
            show Owes _ _ _ _ (s₁.setTop (mkF m 78 #[.val (.int ((p0 ^^^ (-1 : Int32)) &&& (p0 - (1 : Int32)))), .val (.int (1 : Int32))] [(.int ((((p0 ^^^ (-1 : Int32)) &&& (p0 - (1 : Int32))).toUInt32 >>> ((1 : Int32) &&& 31).toUInt32).toInt32)), (.int (1 : Int32))]))
            refine Owes.go ?_ fun t₀ k₀ => XS.iadd X0.here hx rfl (hb hby d8_78) rfl k₀
            show Owes _ _ _ _ (s₁.setTop (mkF m 79 #[.val (.int ((p0 ^^^ (-1 : Int32)) &&& (p0 - (1 : Int32)))), .val (.int (1 : Int32))] [(.int ((1 : Int32) + ((((p0 ^^^ (-1 : Int32)) &&& (p0 - (1 : Int32))).toUInt32 >>> ((1 : Int32) &&& 31).toUInt32).toInt32)))]))
            exact Owes.retI X0 hx hlk hret (hb hby d8_79) (by decide) (by decide) ⟨congrArg (fun z => some (Value.int z)) (by unfold f_ntzI; rw [if_pos hc1, if_neg hc2, if_neg hc10, if_neg hc14, if_neg hc16]; first | done | rfl), rfl, e0⟩
  · skip
    refine Owes.go ?_ fun t₀ k₀ => XS.ifNo X0.here hx rfl (hb hby d8_9) rfl ((if0 _ _).trans (flt hc1).2.2.1) k₀
    show Owes _ _ _ _ (s₁.setTop (mkF m 12 #[.val (.int ((p0 ^^^ (-1 : Int32)) &&& (p0 - (1 : Int32)))), .unset] []))
    refine Owes.go ?_ fun t₀ k₀ => XS.iloadN X0.here hx rfl (hb hby d8_12) rfl k₀
    show Owes _ _ _ _ (s₁.setTop (mkF m 13 #[.val (.int ((p0 ^^^ (-1 : Int32)) &&& (p0 - (1 : Int32)))), .unset] [(.int ((p0 ^^^ (-1 : Int32)) &&& (p0 - (1 : Int32))))]))
    refine Owes.go ?_ fun t₀ k₀ => XS.bipush X0.here hx rfl (hb hby d8_13) k₀
    show Owes _ _ _ _ (s₁.setTop (mkF m 15 #[.val (.int ((p0 ^^^ (-1 : Int32)) &&& (p0 - (1 : Int32)))), .unset] [(.int (32 : Int32)), (.int ((p0 ^^^ (-1 : Int32)) &&& (p0 - (1 : Int32))))]))
    refine Owes.go ?_ fun t₀ k₀ => XS.iand X0.here hx rfl (hb hby d8_15) rfl k₀
    show Owes _ _ _ _ (s₁.setTop (mkF m 16 #[.val (.int ((p0 ^^^ (-1 : Int32)) &&& (p0 - (1 : Int32)))), .unset] [(.int (((p0 ^^^ (-1 : Int32)) &&& (p0 - (1 : Int32))) &&& (32 : Int32)))]))
    exact Owes.retI X0 hx hlk hret (hb hby d8_16) (by decide) (by decide) ⟨congrArg (fun z => some (Value.int z)) (by unfold f_ntzI; rw [if_neg hc1]; first | done | rfl), rfl, e0⟩
theorem d7_0 : decode jdk_35_method_49_code 0 = .ok (.lload_n 0, 1) := by decide +kernel
theorem d7_1 : decode jdk_35_method_49_code 1 = .ok (.l2i, 1) := by decide +kernel
theorem d7_2 : decode jdk_35_method_49_code 2 = .ok (.istore_n 2, 1) := by decide +kernel
theorem d7_3 : decode jdk_35_method_49_code 3 = .ok (.iload_n 2, 1) := by decide +kernel
theorem d7_4 : decode jdk_35_method_49_code 4 = .ok (.ifCond .ne 17, 3) := by decide +kernel
theorem d7_7 : decode jdk_35_method_49_code 7 = .ok (.bipush 32, 2) := by decide +kernel
theorem d7_9 : decode jdk_35_method_49_code 9 = .ok (.lload_n 0, 1) := by decide +kernel
theorem d7_10 : decode jdk_35_method_49_code 10 = .ok (.bipush 32, 2) := by decide +kernel
theorem d7_12 : decode jdk_35_method_49_code 12 = .ok (.lushr, 1) := by decide +kernel
theorem d7_13 : decode jdk_35_method_49_code 13 = .ok (.l2i, 1) := by decide +kernel
theorem d7_14 : decode jdk_35_method_49_code 14 = .ok (.invokestatic 311, 3) := by decide +kernel
theorem pd_0 : parseMethodDescriptor "(I)I" = some ⟨[.int], some .int⟩ := by decide +kernel
theorem d7_17 : decode jdk_35_method_49_code 17 = .ok (.iadd, 1) := by decide +kernel
theorem d7_18 : decode jdk_35_method_49_code 18 = .ok (.goto 7, 3) := by decide +kernel
theorem d7_25 : decode jdk_35_method_49_code 25 = .ok (.ireturn, 1) := by decide +kernel
theorem d7_21 : decode jdk_35_method_49_code 21 = .ok (.iload_n 2, 1) := by decide +kernel
theorem d7_22 : decode jdk_35_method_49_code 22 = .ok (.invokestatic 311, 3) := by decide +kernel
def f_ntzJ (q0 : Int64)  : Int32 := (if (q0.toInt32) = (0 : Int32) then ((32 : Int32) + (f_ntzI (((q0.toUInt64 >>> ((32 : Int32) &&& 0x3f).toInt64.toUInt64).toInt64).toInt32))) else (f_ntzI (q0.toInt32)))
theorem ef_7_f_ntzJ (m : MethodId) (q0 : Int64) : entryFrame m #[(.long q0)] 3 = mkF m 0 #[.val (.long q0), .second, .unset] [] := by first | (simp [entryFrame, mkF, argsToLocals, Value.category]; done) | rfl
theorem pn_7 : plainFor (⟨"java/lang/Long", "numberOfTrailingZeros", "(J)I"⟩ : MethodName) = true := plainFor_of_name (by first | (simp [plainName, overriddenIn]; done) | decide +kernel)
set_option maxRecDepth 65536 in
set_option maxHeartbeats 40000000 in
theorem rm_f_ntzJ (l : Launch) (Z : State) (a0 : Array Value) (hw : ∀ d ∈ tables_1, d.before a0 Z = true) (ws : List Jvm.Cond) (q0 : Int64) (h0 : Heap)  :
    OMet l (⟨"java/lang/Long", "numberOfTrailingZeros", "(J)I"⟩ : MethodName) jdk_35_method_49_code 3 (some .int) ws ({ frames := 1, cells := 0, slots := 0, locals := 14 } : Room) #[(.long q0)] Z h0 (fun v h L => v = some (Value.int (f_ntzJ q0)) ∧ L = [] ∧ h = h0) := by
  refine OMet.of pn_7 (fun m => ef_7_f_ntzJ m q0) ?_
  intro p e s m below meth c s₁ hx hby hml hown hnm hret hlk hZ X0 e0
  refine Owes.go ?_ fun t₀ k₀ => XS.lloadN X0.here hx rfl (hb hby d7_0) rfl k₀
  show Owes _ _ _ _ (s₁.setTop (mkF m 1 #[.val (.long q0), .second, .unset] [(.long q0)]))
  refine Owes.go ?_ fun t₀ k₀ => XS.l2i X0.here hx rfl (hb hby d7_1) rfl k₀
  show Owes _ _ _ _ (s₁.setTop (mkF m 2 #[.val (.long q0), .second, .unset] [(.int (q0.toInt32))]))
  refine Owes.go ?_ fun t₀ k₀ => XS.istoreN X0.here hx rfl (hb hby d7_2) rfl (l' := #[.val (.long q0), .second, .val (.int (q0.toInt32))]) rfl k₀
  show Owes _ _ _ _ (s₁.setTop (mkF m 3 #[.val (.long q0), .second, .val (.int (q0.toInt32))] []))
  refine Owes.go ?_ fun t₀ k₀ => XS.iloadN X0.here hx rfl (hb hby d7_3) rfl k₀
  show Owes _ _ _ _ (s₁.setTop (mkF m 4 #[.val (.long q0), .second, .val (.int (q0.toInt32))] [(.int (q0.toInt32))]))
  by_cases hc1 : (q0.toInt32) = (0 : Int32)
  · skip
    refine Owes.go ?_ fun t₀ k₀ => XS.ifNo X0.here hx rfl (hb hby d7_4) rfl ((if0 _ _).trans (teq hc1).2) k₀
    show Owes _ _ _ _ (s₁.setTop (mkF m 7 #[.val (.long q0), .second, .val (.int (q0.toInt32))] []))
    refine Owes.go ?_ fun t₀ k₀ => XS.bipush X0.here hx rfl (hb hby d7_7) k₀
    show Owes _ _ _ _ (s₁.setTop (mkF m 9 #[.val (.long q0), .second, .val (.int (q0.toInt32))] [(.int (32 : Int32))]))
    refine Owes.go ?_ fun t₀ k₀ => XS.lloadN X0.here hx rfl (hb hby d7_9) rfl k₀
    show Owes _ _ _ _ (s₁.setTop (mkF m 10 #[.val (.long q0), .second, .val (.int (q0.toInt32))] [(.long q0), (.int (32 : Int32))]))
    refine Owes.go ?_ fun t₀ k₀ => XS.bipush X0.here hx rfl (hb hby d7_10) k₀
    show Owes _ _ _ _ (s₁.setTop (mkF m 12 #[.val (.long q0), .second, .val (.int (q0.toInt32))] [(.int (32 : Int32)), (.long q0), (.int (32 : Int32))]))
    refine Owes.go ?_ fun t₀ k₀ => XS.lushr X0.here hx rfl (hb hby d7_12) rfl k₀
    show Owes _ _ _ _ (s₁.setTop (mkF m 13 #[.val (.long q0), .second, .val (.int (q0.toInt32))] [(.long ((q0.toUInt64 >>> ((32 : Int32) &&& 0x3f).toInt64.toUInt64).toInt64)), (.int (32 : Int32))]))
    refine Owes.go ?_ fun t₀ k₀ => XS.l2i X0.here hx rfl (hb hby d7_13) rfl k₀
    show Owes _ _ _ _ (s₁.setTop (mkF m 14 #[.val (.long q0), .second, .val (.int (q0.toInt32))] [(.int (((q0.toUInt64 >>> ((32 : Int32) &&& 0x3f).toInt64.toUInt64).toInt64).toInt32)), (.int (32 : Int32))]))
    refine Owes.callS X0 hx hZ hown (hw _ (List.mem_of_getElem? (i := 39) rfl)) (hw _ (List.mem_of_getElem? (i := 40) rfl)) (hw _ (List.mem_of_getElem? (i := 41) rfl)) (hw _ (List.mem_of_getElem? (i := 42) rfl)) (by decide) (argsL := [(.int (((q0.toUInt64 >>> ((32 : Int32) &&& 0x3f).toInt64.toUInt64).toInt64).toInt32))]) (rest := [(.int (32 : Int32))]) (rm_f_ntzI l Z a0 hw [] (((q0.toUInt64 >>> ((32 : Int32) &&& 0x3f).toInt64.toUInt64).toInt64).toInt32) h0 ) e0 (by rw [hml]; rfl) pd_0 rfl rfl (hb hby d7_14) (by decide) (Nat.le_of_ble_eq_true rfl) (by decide) (by decide) ?_
    rintro T1 _ _ X1 ⟨rfl, rfl, e1⟩
    rw [List.append_nil] at X1
    show Owes _ _ _ _ (T1.setTop (mkF m 17 #[.val (.long q0), .second, .val (.int (q0.toInt32))] [(.int (f_ntzI (((q0.toUInt64 >>> ((32 : Int32) &&& 0x3f).toInt64.toUInt64).toInt64).toInt32))), (.int (32 : Int32))]))
    refine Owes.go ?_ fun t₀ k₀ => XS.iadd X1.here hx rfl (hb hby d7_17) rfl k₀
    show Owes _ _ _ _ (T1.setTop (mkF m 18 #[.val (.long q0), .second, .val (.int (q0.toInt32))] [(.int ((32 : Int32) + (f_ntzI (((q0.toUInt64 >>> ((32 : Int32) &&& 0x3f).toInt64.toUInt64).toInt64).toInt32))))]))
    refine Owes.go ?_ fun t₀ k₀ => XS.goto X1.here hx rfl (pc0 := 18) (pc' := 25) rfl (hb hby d7_18) (by decide) (by decide) k₀
    show Owes _ _ _ _ (T1.setTop (mkF m 25 #[.val (.long q0), .second, .val (.int (q0.toInt32))] [(.int ((32 : Int32) + (f_ntzI (((q0.toUInt64 >>> ((32 : Int32) &&& 0x3f).toInt64.toUInt64).toInt64).toInt32))))]))
    exact Owes.retI X1 hx hlk hret (hb hby d7_25) (by decide) (by decide) ⟨congrArg (fun z => some (Value.int z)) (by unfold f_ntzJ; rw [if_pos hc1]; first | done | rfl), rfl, e1⟩
  · skip
    refine Owes.go ?_ fun t₀ k₀ => XS.ifYes X0.here hx rfl (pc0 := 4) (pc' := 21) rfl (hb hby d7_4) rfl ((if0 _ _).trans (feq hc1).2) (by decide) (by decide) k₀
    show Owes _ _ _ _ (s₁.setTop (mkF m 21 #[.val (.long q0), .second, .val (.int (q0.toInt32))] []))
    refine Owes.go ?_ fun t₀ k₀ => XS.iloadN X0.here hx rfl (hb hby d7_21) rfl k₀
    show Owes _ _ _ _ (s₁.setTop (mkF m 22 #[.val (.long q0), .second, .val (.int (q0.toInt32))] [(.int (q0.toInt32))]))
    refine Owes.callS X0 hx hZ hown (hw _ (List.mem_of_getElem? (i := 39) rfl)) (hw _ (List.mem_of_getElem? (i := 40) rfl)) (hw _ (List.mem_of_getElem? (i := 41) rfl)) (hw _ (List.mem_of_getElem? (i := 42) rfl)) (by decide) (argsL := [(.int (q0.toInt32))]) (rest := []) (rm_f_ntzI l Z a0 hw [] (q0.toInt32) h0 ) e0 (by rw [hml]; rfl) pd_0 rfl rfl (hb hby d7_22) (by decide) (Nat.le_of_ble_eq_true rfl) (by decide) (by decide) ?_
    rintro T2 _ _ X2 ⟨rfl, rfl, e2⟩
    rw [List.append_nil] at X2
    show Owes _ _ _ _ (T2.setTop (mkF m 25 #[.val (.long q0), .second, .val (.int (q0.toInt32))] [(.int (f_ntzI (q0.toInt32)))]))
    exact Owes.retI X2 hx hlk hret (hb hby d7_25) (by decide) (by decide) ⟨congrArg (fun z => some (Value.int z)) (by unfold f_ntzJ; rw [if_neg hc1]; first | done | rfl), rfl, e2⟩
def f_ntzV (v : Int32) : Int32 := (if (0 : Int32) < v then (if (65536 : Int32) < v then (if (256 : Int32) < ((v.toUInt32 >>> ((16 : Int32) &&& 31).toUInt32).toInt32) then (if (16 : Int32) < ((((v.toUInt32 >>> ((16 : Int32) &&& 31).toUInt32).toInt32).toUInt32 >>> ((8 : Int32) &&& 31).toUInt32).toInt32) then (if (4 : Int32) < ((((((v.toUInt32 >>> ((16 : Int32) &&& 31).toUInt32).toInt32).toUInt32 >>> ((8 : Int32) &&& 31).toUInt32).toInt32).toUInt32 >>> ((4 : Int32) &&& 31).toUInt32).toInt32) then ((((((1 : Int32) + (16 : Int32)) + (8 : Int32)) + (4 : Int32)) + (2 : Int32)) + ((((((((((v.toUInt32 >>> ((16 : Int32) &&& 31).toUInt32).toInt32).toUInt32 >>> ((8 : Int32) &&& 31).toUInt32).toInt32).toUInt32 >>> ((4 : Int32) &&& 31).toUInt32).toInt32).toUInt32 >>> ((2 : Int32) &&& 31).toUInt32).toInt32).toUInt32 >>> ((1 : Int32) &&& 31).toUInt32).toInt32)) else (((((1 : Int32) + (16 : Int32)) + (8 : Int32)) + (4 : Int32)) + ((((((((v.toUInt32 >>> ((16 : Int32) &&& 31).toUInt32).toInt32).toUInt32 >>> ((8 : Int32) &&& 31).toUInt32).toInt32).toUInt32 >>> ((4 : Int32) &&& 31).toUInt32).toInt32).toUInt32 >>> ((1 : Int32) &&& 31).toUInt32).toInt32))) else (if (4 : Int32) < ((((v.toUInt32 >>> ((16 : Int32) &&& 31).toUInt32).toInt32).toUInt32 >>> ((8 : Int32) &&& 31).toUInt32).toInt32) then (((((1 : Int32) + (16 : Int32)) + (8 : Int32)) + (2 : Int32)) + ((((((((v.toUInt32 >>> ((16 : Int32) &&& 31).toUInt32).toInt32).toUInt32 >>> ((8 : Int32) &&& 31).toUInt32).toInt32).toUInt32 >>> ((2 : Int32) &&& 31).toUInt32).toInt32).toUInt32 >>> ((1 : Int32) &&& 31).toUInt32).toInt32)) else ((((1 : Int32) + (16 : Int32)) + (8 : Int32)) + ((((((v.toUInt32 >>> ((16 : Int32) &&& 31).toUInt32).toInt32).toUInt32 >>> ((8 : Int32) &&& 31).toUInt32).toInt32).toUInt32 >>> ((1 : Int32) &&& 31).toUInt32).toInt32)))) else (if (16 : Int32) < ((v.toUInt32 >>> ((16 : Int32) &&& 31).toUInt32).toInt32) then (if (4 : Int32) < ((((v.toUInt32 >>> ((16 : Int32) &&& 31).toUInt32).toInt32).toUInt32 >>> ((4 : Int32) &&& 31).toUInt32).toInt32) then (((((1 : Int32) + (16 : Int32)) + (4 : Int32)) + (2 : Int32)) + ((((((((v.toUInt32 >>> ((16 : Int32) &&& 31).toUInt32).toInt32).toUInt32 >>> ((4 : Int32) &&& 31).toUInt32).toInt32).toUInt32 >>> ((2 : Int32) &&& 31).toUInt32).toInt32).toUInt32 >>> ((1 : Int32) &&& 31).toUInt32).toInt32)) else ((((1 : Int32) + (16 : Int32)) + (4 : Int32)) + ((((((v.toUInt32 >>> ((16 : Int32) &&& 31).toUInt32).toInt32).toUInt32 >>> ((4 : Int32) &&& 31).toUInt32).toInt32).toUInt32 >>> ((1 : Int32) &&& 31).toUInt32).toInt32))) else (if (4 : Int32) < ((v.toUInt32 >>> ((16 : Int32) &&& 31).toUInt32).toInt32) then ((((1 : Int32) + (16 : Int32)) + (2 : Int32)) + ((((((v.toUInt32 >>> ((16 : Int32) &&& 31).toUInt32).toInt32).toUInt32 >>> ((2 : Int32) &&& 31).toUInt32).toInt32).toUInt32 >>> ((1 : Int32) &&& 31).toUInt32).toInt32)) else (((1 : Int32) + (16 : Int32)) + ((((v.toUInt32 >>> ((16 : Int32) &&& 31).toUInt32).toInt32).toUInt32 >>> ((1 : Int32) &&& 31).toUInt32).toInt32))))) else (if (256 : Int32) < v then (if (16 : Int32) < ((v.toUInt32 >>> ((8 : Int32) &&& 31).toUInt32).toInt32) then (if (4 : Int32) < ((((v.toUInt32 >>> ((8 : Int32) &&& 31).toUInt32).toInt32).toUInt32 >>> ((4 : Int32) &&& 31).toUInt32).toInt32) then (((((1 : Int32) + (8 : Int32)) + (4 : Int32)) + (2 : Int32)) + ((((((((v.toUInt32 >>> ((8 : Int32) &&& 31).toUInt32).toInt32).toUInt32 >>> ((4 : Int32) &&& 31).toUInt32).toInt32).toUInt32 >>> ((2 : Int32) &&& 31).toUInt32).toInt32).toUInt32 >>> ((1 : Int32) &&& 31).toUInt32).toInt32)) else ((((1 : Int32) + (8 : Int32)) + (4 : Int32)) + ((((((v.toUInt32 >>> ((8 : Int32) &&& 31).toUInt32).toInt32).toUInt32 >>> ((4 : Int32) &&& 31).toUInt32).toInt32).toUInt32 >>> ((1 : Int32) &&& 31).toUInt32).toInt32))) else (if (4 : Int32) < ((v.toUInt32 >>> ((8 : Int32) &&& 31).toUInt32).toInt32) then ((((1 : Int32) + (8 : Int32)) + (2 : Int32)) + ((((((v.toUInt32 >>> ((8 : Int32) &&& 31).toUInt32).toInt32).toUInt32 >>> ((2 : Int32) &&& 31).toUInt32).toInt32).toUInt32 >>> ((1 : Int32) &&& 31).toUInt32).toInt32)) else (((1 : Int32) + (8 : Int32)) + ((((v.toUInt32 >>> ((8 : Int32) &&& 31).toUInt32).toInt32).toUInt32 >>> ((1 : Int32) &&& 31).toUInt32).toInt32)))) else (if (16 : Int32) < v then (if (4 : Int32) < ((v.toUInt32 >>> ((4 : Int32) &&& 31).toUInt32).toInt32) then ((((1 : Int32) + (4 : Int32)) + (2 : Int32)) + ((((((v.toUInt32 >>> ((4 : Int32) &&& 31).toUInt32).toInt32).toUInt32 >>> ((2 : Int32) &&& 31).toUInt32).toInt32).toUInt32 >>> ((1 : Int32) &&& 31).toUInt32).toInt32)) else (((1 : Int32) + (4 : Int32)) + ((((v.toUInt32 >>> ((4 : Int32) &&& 31).toUInt32).toInt32).toUInt32 >>> ((1 : Int32) &&& 31).toUInt32).toInt32))) else (if (4 : Int32) < v then (((1 : Int32) + (2 : Int32)) + ((((v.toUInt32 >>> ((2 : Int32) &&& 31).toUInt32).toInt32).toUInt32 >>> ((1 : Int32) &&& 31).toUInt32).toInt32)) else ((1 : Int32) + ((v.toUInt32 >>> ((1 : Int32) &&& 31).toUInt32).toInt32)))))) else (v &&& (32 : Int32)))
theorem own_ntzV : ∀ t : Fin 32, (f_ntzV (Int32.ofNat (2 ^ t.1 - 1))).toInt = (t.1 : Int) := by decide +kernel
theorem own_ntzI (x : Int32) (t : Nat) (ht : t < 32) (h1 : x.toBitVec.getLsbD t = true) (h2 : ∀ b, b < t → x.toBitVec.getLsbD b = false) : (f_ntzI x).toInt = (t : Int) := by
  have h := own_low x t ht h1 h2
  show (f_ntzV ((x ^^^ (-1 : Int32)) &&& (x - (1 : Int32)))).toInt = _
  rw [h]; exact own_ntzV ⟨t, ht⟩
theorem lo32 (w : Int64) (b : Nat) (hb : b < 32) : w.toInt32.toBitVec.getLsbD b = bt w b := by
  rw [Int64.toBitVec_toInt32, BitVec.getLsbD_signExtend]; simp [hb, bt, show b < 64 by omega]
theorem hi32 (w : Int64) (b : Nat) (hb : b < 32) : (((w.toUInt64 >>> ((32 : Int32) &&& 0x3f).toInt64.toUInt64).toInt64).toInt32).toBitVec.getLsbD b = bt w (32 + b) := by
  rw [lo32 _ _ hb, bt_ushr w 32 32 (by decide)]
theorem ext32 {x y : Int32} (h : ∀ b, b < 32 → x.toBitVec.getLsbD b = y.toBitVec.getLsbD b) : x = y := Int32.toBitVec_inj.mp (BitVec.eq_of_getLsbD_eq h)
theorem own_ntzJ (w : Int64) (t : Nat) (h : Low w t) : (f_ntzJ w).toInt = (t : Int) := by
  obtain ⟨h0, h1, h2⟩ := h
  unfold f_ntzJ
  by_cases c : t < 32
  · have hne : ¬ (w.toInt32 = 0) := fun q => by
      have := lo32 w t c
      rw [q, h1] at this
      simp at this
    rw [if_neg hne]
    exact own_ntzI _ t c (by rw [lo32 w t c]; exact h1) (fun b hb => by rw [lo32 w b (by omega)]; exact h2 b hb)
  · have hz : w.toInt32 = 0 := ext32 fun b hb => by rw [lo32 w b hb, h2 b (by omega)]; simp
    rw [if_pos hz]
    have e := own_ntzI (((w.toUInt64 >>> ((32 : Int32) &&& 0x3f).toInt64.toUInt64).toInt64).toInt32) (t - 32) (by omega) (by rw [hi32 _ _ (by omega), show 32 + (t - 32) = t by omega]; exact h1) (fun b hb => by rw [hi32 _ _ (by omega)]; exact h2 _ (by omega))
    have h3 := c_iadd 32 (f_ntzI (((w.toUInt64 >>> ((32 : Int32) &&& 0x3f).toInt64.toUInt64).toInt64).toInt32))
    have r := rng32 ((32 : Int32) + (f_ntzI (((w.toUInt64 >>> ((32 : Int32) &&& 0x3f).toInt64.toUInt64).toInt64).toInt32)))
    rw [show (32 : Int32).toInt = 32 from rfl, e] at h3
    omega
theorem d11_0 : decode jdk_33_method_47_code 0 = .ok (.iload_n 0, 1) := by decide +kernel
theorem d11_1 : decode jdk_33_method_47_code 1 = .ok (.ifCond .gt 14, 3) := by decide +kernel
theorem d11_15 : decode jdk_33_method_47_code 15 = .ok (.bipush 31, 2) := by decide +kernel
theorem d11_17 : decode jdk_33_method_47_code 17 = .ok (.istore_n 1, 1) := by decide +kernel
theorem d11_18 : decode jdk_33_method_47_code 18 = .ok (.iload_n 0, 1) := by decide +kernel
theorem d11_19 : decode jdk_33_method_47_code 19 = .ok (.ldc_w 264, 3) := by decide +kernel
theorem d11_22 : decode jdk_33_method_47_code 22 = .ok (.if_icmp .lt 11, 3) := by decide +kernel
theorem d11_33 : decode jdk_33_method_47_code 33 = .ok (.iload_n 0, 1) := by decide +kernel
theorem d11_34 : decode jdk_33_method_47_code 34 = .ok (.sipush 256, 3) := by decide +kernel
theorem d11_37 : decode jdk_33_method_47_code 37 = .ok (.if_icmp .lt 11, 3) := by decide +kernel
theorem d11_48 : decode jdk_33_method_47_code 48 = .ok (.iload_n 0, 1) := by decide +kernel
theorem d11_49 : decode jdk_33_method_47_code 49 = .ok (.bipush 16, 2) := by decide +kernel
theorem d11_51 : decode jdk_33_method_47_code 51 = .ok (.if_icmp .lt 10, 3) := by decide +kernel
theorem d11_61 : decode jdk_33_method_47_code 61 = .ok (.iload_n 0, 1) := by decide +kernel
theorem d11_62 : decode jdk_33_method_47_code 62 = .ok (.iconst 4, 1) := by decide +kernel
theorem d11_63 : decode jdk_33_method_47_code 63 = .ok (.if_icmp .lt 10, 3) := by decide +kernel
theorem d11_73 : decode jdk_33_method_47_code 73 = .ok (.iload_n 1, 1) := by decide +kernel
theorem d11_74 : decode jdk_33_method_47_code 74 = .ok (.iload_n 0, 1) := by decide +kernel
theorem d11_75 : decode jdk_33_method_47_code 75 = .ok (.iconst 1, 1) := by decide +kernel
theorem d11_76 : decode jdk_33_method_47_code 76 = .ok (.iushr, 1) := by decide +kernel
theorem d11_77 : decode jdk_33_method_47_code 77 = .ok (.isub, 1) := by decide +kernel
theorem d11_78 : decode jdk_33_method_47_code 78 = .ok (.ireturn, 1) := by decide +kernel
theorem d11_66 : decode jdk_33_method_47_code 66 = .ok (.iinc 1 (-2), 3) := by decide +kernel
theorem d11_69 : decode jdk_33_method_47_code 69 = .ok (.iload_n 0, 1) := by decide +kernel
theorem d11_70 : decode jdk_33_method_47_code 70 = .ok (.iconst 2, 1) := by decide +kernel
theorem d11_71 : decode jdk_33_method_47_code 71 = .ok (.iushr, 1) := by decide +kernel
theorem d11_72 : decode jdk_33_method_47_code 72 = .ok (.istore_n 0, 1) := by decide +kernel
theorem d11_54 : decode jdk_33_method_47_code 54 = .ok (.iinc 1 (-4), 3) := by decide +kernel
theorem d11_57 : decode jdk_33_method_47_code 57 = .ok (.iload_n 0, 1) := by decide +kernel
theorem d11_58 : decode jdk_33_method_47_code 58 = .ok (.iconst 4, 1) := by decide +kernel
theorem d11_59 : decode jdk_33_method_47_code 59 = .ok (.iushr, 1) := by decide +kernel
theorem d11_60 : decode jdk_33_method_47_code 60 = .ok (.istore_n 0, 1) := by decide +kernel
theorem d11_40 : decode jdk_33_method_47_code 40 = .ok (.iinc 1 (-8), 3) := by decide +kernel
theorem d11_43 : decode jdk_33_method_47_code 43 = .ok (.iload_n 0, 1) := by decide +kernel
theorem d11_44 : decode jdk_33_method_47_code 44 = .ok (.bipush 8, 2) := by decide +kernel
theorem d11_46 : decode jdk_33_method_47_code 46 = .ok (.iushr, 1) := by decide +kernel
theorem d11_47 : decode jdk_33_method_47_code 47 = .ok (.istore_n 0, 1) := by decide +kernel
theorem d11_25 : decode jdk_33_method_47_code 25 = .ok (.iinc 1 (-16), 3) := by decide +kernel
theorem d11_28 : decode jdk_33_method_47_code 28 = .ok (.iload_n 0, 1) := by decide +kernel
theorem d11_29 : decode jdk_33_method_47_code 29 = .ok (.bipush 16, 2) := by decide +kernel
theorem d11_31 : decode jdk_33_method_47_code 31 = .ok (.iushr, 1) := by decide +kernel
theorem d11_32 : decode jdk_33_method_47_code 32 = .ok (.istore_n 0, 1) := by decide +kernel
theorem d11_4 : decode jdk_33_method_47_code 4 = .ok (.iload_n 0, 1) := by decide +kernel
theorem d11_5 : decode jdk_33_method_47_code 5 = .ok (.ifCond .ne 8, 3) := by decide +kernel
theorem d11_8 : decode jdk_33_method_47_code 8 = .ok (.bipush 32, 2) := by decide +kernel
theorem d11_10 : decode jdk_33_method_47_code 10 = .ok (.goto 4, 3) := by decide +kernel
theorem d11_14 : decode jdk_33_method_47_code 14 = .ok (.ireturn, 1) := by decide +kernel
theorem d11_13 : decode jdk_33_method_47_code 13 = .ok (.iconst 0, 1) := by decide +kernel
def f_nlzI (p0 : Int32)  : Int32 := (if (0 : Int32) < p0 then (if p0 < (65536 : Int32) then (if p0 < (256 : Int32) then (if p0 < (16 : Int32) then (if p0 < (4 : Int32) then ((31 : Int32) - ((p0.toUInt32 >>> ((1 : Int32) &&& 31).toUInt32).toInt32)) else (((31 : Int32) + (-2 : Int32)) - ((((p0.toUInt32 >>> ((2 : Int32) &&& 31).toUInt32).toInt32).toUInt32 >>> ((1 : Int32) &&& 31).toUInt32).toInt32))) else (if ((p0.toUInt32 >>> ((4 : Int32) &&& 31).toUInt32).toInt32) < (4 : Int32) then (((31 : Int32) + (-4 : Int32)) - ((((p0.toUInt32 >>> ((4 : Int32) &&& 31).toUInt32).toInt32).toUInt32 >>> ((1 : Int32) &&& 31).toUInt32).toInt32)) else ((((31 : Int32) + (-4 : Int32)) + (-2 : Int32)) - ((((((p0.toUInt32 >>> ((4 : Int32) &&& 31).toUInt32).toInt32).toUInt32 >>> ((2 : Int32) &&& 31).toUInt32).toInt32).toUInt32 >>> ((1 : Int32) &&& 31).toUInt32).toInt32)))) else (if ((p0.toUInt32 >>> ((8 : Int32) &&& 31).toUInt32).toInt32) < (16 : Int32) then (if ((p0.toUInt32 >>> ((8 : Int32) &&& 31).toUInt32).toInt32) < (4 : Int32) then (((31 : Int32) + (-8 : Int32)) - ((((p0.toUInt32 >>> ((8 : Int32) &&& 31).toUInt32).toInt32).toUInt32 >>> ((1 : Int32) &&& 31).toUInt32).toInt32)) else ((((31 : Int32) + (-8 : Int32)) + (-2 : Int32)) - ((((((p0.toUInt32 >>> ((8 : Int32) &&& 31).toUInt32).toInt32).toUInt32 >>> ((2 : Int32) &&& 31).toUInt32).toInt32).toUInt32 >>> ((1 : Int32) &&& 31).toUInt32).toInt32))) else (if ((((p0.toUInt32 >>> ((8 : Int32) &&& 31).toUInt32).toInt32).toUInt32 >>> ((4 : Int32) &&& 31).toUInt32).toInt32) < (4 : Int32) then ((((31 : Int32) + (-8 : Int32)) + (-4 : Int32)) - ((((((p0.toUInt32 >>> ((8 : Int32) &&& 31).toUInt32).toInt32).toUInt32 >>> ((4 : Int32) &&& 31).toUInt32).toInt32).toUInt32 >>> ((1 : Int32) &&& 31).toUInt32).toInt32)) else (((((31 : Int32) + (-8 : Int32)) + (-4 : Int32)) + (-2 : Int32)) - ((((((((p0.toUInt32 >>> ((8 : Int32) &&& 31).toUInt32).toInt32).toUInt32 >>> ((4 : Int32) &&& 31).toUInt32).toInt32).toUInt32 >>> ((2 : Int32) &&& 31).toUInt32).toInt32).toUInt32 >>> ((1 : Int32) &&& 31).toUInt32).toInt32))))) else (if ((p0.toUInt32 >>> ((16 : Int32) &&& 31).toUInt32).toInt32) < (256 : Int32) then (if ((p0.toUInt32 >>> ((16 : Int32) &&& 31).toUInt32).toInt32) < (16 : Int32) then (if ((p0.toUInt32 >>> ((16 : Int32) &&& 31).toUInt32).toInt32) < (4 : Int32) then (((31 : Int32) + (-16 : Int32)) - ((((p0.toUInt32 >>> ((16 : Int32) &&& 31).toUInt32).toInt32).toUInt32 >>> ((1 : Int32) &&& 31).toUInt32).toInt32)) else ((((31 : Int32) + (-16 : Int32)) + (-2 : Int32)) - ((((((p0.toUInt32 >>> ((16 : Int32) &&& 31).toUInt32).toInt32).toUInt32 >>> ((2 : Int32) &&& 31).toUInt32).toInt32).toUInt32 >>> ((1 : Int32) &&& 31).toUInt32).toInt32))) else (if ((((p0.toUInt32 >>> ((16 : Int32) &&& 31).toUInt32).toInt32).toUInt32 >>> ((4 : Int32) &&& 31).toUInt32).toInt32) < (4 : Int32) then ((((31 : Int32) + (-16 : Int32)) + (-4 : Int32)) - ((((((p0.toUInt32 >>> ((16 : Int32) &&& 31).toUInt32).toInt32).toUInt32 >>> ((4 : Int32) &&& 31).toUInt32).toInt32).toUInt32 >>> ((1 : Int32) &&& 31).toUInt32).toInt32)) else (((((31 : Int32) + (-16 : Int32)) + (-4 : Int32)) + (-2 : Int32)) - ((((((((p0.toUInt32 >>> ((16 : Int32) &&& 31).toUInt32).toInt32).toUInt32 >>> ((4 : Int32) &&& 31).toUInt32).toInt32).toUInt32 >>> ((2 : Int32) &&& 31).toUInt32).toInt32).toUInt32 >>> ((1 : Int32) &&& 31).toUInt32).toInt32)))) else (if ((((p0.toUInt32 >>> ((16 : Int32) &&& 31).toUInt32).toInt32).toUInt32 >>> ((8 : Int32) &&& 31).toUInt32).toInt32) < (16 : Int32) then (if ((((p0.toUInt32 >>> ((16 : Int32) &&& 31).toUInt32).toInt32).toUInt32 >>> ((8 : Int32) &&& 31).toUInt32).toInt32) < (4 : Int32) then ((((31 : Int32) + (-16 : Int32)) + (-8 : Int32)) - ((((((p0.toUInt32 >>> ((16 : Int32) &&& 31).toUInt32).toInt32).toUInt32 >>> ((8 : Int32) &&& 31).toUInt32).toInt32).toUInt32 >>> ((1 : Int32) &&& 31).toUInt32).toInt32)) else (((((31 : Int32) + (-16 : Int32)) + (-8 : Int32)) + (-2 : Int32)) - ((((((((p0.toUInt32 >>> ((16 : Int32) &&& 31).toUInt32).toInt32).toUInt32 >>> ((8 : Int32) &&& 31).toUInt32).toInt32).toUInt32 >>> ((2 : Int32) &&& 31).toUInt32).toInt32).toUInt32 >>> ((1 : Int32) &&& 31).toUInt32).toInt32))) else (if ((((((p0.toUInt32 >>> ((16 : Int32) &&& 31).toUInt32).toInt32).toUInt32 >>> ((8 : Int32) &&& 31).toUInt32).toInt32).toUInt32 >>> ((4 : Int32) &&& 31).toUInt32).toInt32) < (4 : Int32) then (((((31 : Int32) + (-16 : Int32)) + (-8 : Int32)) + (-4 : Int32)) - ((((((((p0.toUInt32 >>> ((16 : Int32) &&& 31).toUInt32).toInt32).toUInt32 >>> ((8 : Int32) &&& 31).toUInt32).toInt32).toUInt32 >>> ((4 : Int32) &&& 31).toUInt32).toInt32).toUInt32 >>> ((1 : Int32) &&& 31).toUInt32).toInt32)) else ((((((31 : Int32) + (-16 : Int32)) + (-8 : Int32)) + (-4 : Int32)) + (-2 : Int32)) - ((((((((((p0.toUInt32 >>> ((16 : Int32) &&& 31).toUInt32).toInt32).toUInt32 >>> ((8 : Int32) &&& 31).toUInt32).toInt32).toUInt32 >>> ((4 : Int32) &&& 31).toUInt32).toInt32).toUInt32 >>> ((2 : Int32) &&& 31).toUInt32).toInt32).toUInt32 >>> ((1 : Int32) &&& 31).toUInt32).toInt32)))))) else (if p0 = (0 : Int32) then (32 : Int32) else (0 : Int32)))
theorem ef_11_f_nlzI (m : MethodId) (p0 : Int32) : entryFrame m #[(.int p0)] 2 = mkF m 0 #[.val (.int p0), .unset] [] := by first | (simp [entryFrame, mkF, argsToLocals, Value.category]; done) | rfl
theorem pn_11 : plainFor (⟨"java/lang/Integer", "numberOfLeadingZeros", "(I)I"⟩ : MethodName) = true := plainFor_of_name (by first | (simp [plainName, overriddenIn]; done) | decide +kernel)
set_option maxRecDepth 65536 in
set_option maxHeartbeats 40000000 in
theorem rm_f_nlzI (l : Launch) (Z : State) (a0 : Array Value) (hw : ∀ d ∈ tables_1, d.before a0 Z = true) (ws : List Jvm.Cond) (p0 : Int32) (h0 : Heap)  :
    OMet l (⟨"java/lang/Integer", "numberOfLeadingZeros", "(I)I"⟩ : MethodName) jdk_33_method_47_code 2 (some .int) ws ({ frames := 0, cells := 0, slots := 0, locals := 0 } : Room) #[(.int p0)] Z h0 (fun v h L => v = some (Value.int (f_nlzI p0)) ∧ L = [] ∧ h = h0) := by
  refine OMet.of pn_11 (fun m => ef_11_f_nlzI m p0) ?_
  intro p e s m below meth c s₁ hx hby hml hown hnm hret hlk hZ X0 e0
  refine Owes.go ?_ fun t₀ k₀ => XS.iloadN X0.here hx rfl (hb hby d11_0) rfl k₀
  show Owes _ _ _ _ (s₁.setTop (mkF m 1 #[.val (.int p0), .unset] [(.int p0)]))
  by_cases hc1 : (0 : Int32) < p0
  · skip
    refine Owes.go ?_ fun t₀ k₀ => XS.ifYes X0.here hx rfl (pc0 := 1) (pc' := 15) rfl (hb hby d11_1) rfl ((if0 _ _).trans (tlt hc1).2.2.1) (by decide) (by decide) k₀
    show Owes _ _ _ _ (s₁.setTop (mkF m 15 #[.val (.int p0), .unset] []))
    refine Owes.go ?_ fun t₀ k₀ => XS.bipush X0.here hx rfl (hb hby d11_15) k₀
    show Owes _ _ _ _ (s₁.setTop (mkF m 17 #[.val (.int p0), .unset] [(.int (31 : Int32))]))
    refine Owes.go ?_ fun t₀ k₀ => XS.istoreN X0.here hx rfl (hb hby d11_17) rfl (l' := #[.val (.int p0), .val (.int (31 : Int32))]) rfl k₀
    show Owes _ _ _ _ (s₁.setTop (mkF m 18 #[.val (.int p0), .val (.int (31 : Int32))] []))
    refine Owes.go ?_ fun t₀ k₀ => XS.iloadN X0.here hx rfl (hb hby d11_18) rfl k₀
    show Owes _ _ _ _ (s₁.setTop (mkF m 19 #[.val (.int p0), .val (.int (31 : Int32))] [(.int p0)]))
    refine Owes.go ?_ fun t₀ k₀ => X0.ldcwInt hx hown (mvT hZ (hw _ (List.mem_of_getElem? (i := 54) rfl))) (g := (mkF m 19 #[.val (.int p0), .val (.int (31 : Int32))] [(.int p0)])) rfl (hb hby d11_19) _ k₀
    show Owes _ _ _ _ (s₁.setTop (mkF m 22 #[.val (.int p0), .val (.int (31 : Int32))] [(.int (65536 : Int32)), (.int p0)]))
    by_cases hc2 : p0 < (65536 : Int32)
    · skip
      refine Owes.go ?_ fun t₀ k₀ => XS.icmpYes X0.here hx rfl (pc0 := 22) (pc' := 33) rfl (hb hby d11_22) rfl (tlt hc2).1 (by decide) (by decide) k₀
      show Owes _ _ _ _ (s₁.setTop (mkF m 33 #[.val (.int p0), .val (.int (31 : Int32))] []))
      refine Owes.go ?_ fun t₀ k₀ => XS.iloadN X0.here hx rfl (hb hby d11_33) rfl k₀
      show Owes _ _ _ _ (s₁.setTop (mkF m 34 #[.val (.int p0), .val (.int (31 : Int32))] [(.int p0)]))
      refine Owes.go ?_ fun t₀ k₀ => XS.sipush X0.here hx rfl (hb hby d11_34) k₀
      show Owes _ _ _ _ (s₁.setTop (mkF m 37 #[.val (.int p0), .val (.int (31 : Int32))] [(.int (256 : Int32)), (.int p0)]))
      by_cases hc3 : p0 < (256 : Int32)
      · skip
        refine Owes.go ?_ fun t₀ k₀ => XS.icmpYes X0.here hx rfl (pc0 := 37) (pc' := 48) rfl (hb hby d11_37) rfl (tlt hc3).1 (by decide) (by decide) k₀
        show Owes _ _ _ _ (s₁.setTop (mkF m 48 #[.val (.int p0), .val (.int (31 : Int32))] []))
        refine Owes.go ?_ fun t₀ k₀ => XS.iloadN X0.here hx rfl (hb hby d11_48) rfl k₀
        show Owes _ _ _ _ (s₁.setTop (mkF m 49 #[.val (.int p0), .val (.int (31 : Int32))] [(.int p0)]))
        refine Owes.go ?_ fun t₀ k₀ => XS.bipush X0.here hx rfl (hb hby d11_49) k₀
        show Owes _ _ _ _ (s₁.setTop (mkF m 51 #[.val (.int p0), .val (.int (31 : Int32))] [(.int (16 : Int32)), (.int p0)]))
        by_cases hc4 : p0 < (16 : Int32)
        · skip
          refine Owes.go ?_ fun t₀ k₀ => XS.icmpYes X0.here hx rfl (pc0 := 51) (pc' := 61) rfl (hb hby d11_51) rfl (tlt hc4).1 (by decide) (by decide) k₀
          show Owes _ _ _ _ (s₁.setTop (mkF m 61 #[.val (.int p0), .val (.int (31 : Int32))] []))
          refine Owes.go ?_ fun t₀ k₀ => XS.iloadN X0.here hx rfl (hb hby d11_61) rfl k₀
          show Owes _ _ _ _ (s₁.setTop (mkF m 62 #[.val (.int p0), .val (.int (31 : Int32))] [(.int p0)]))
          refine Owes.go ?_ fun t₀ k₀ => XS.iconst X0.here hx rfl (hb hby d11_62) k₀
          show Owes _ _ _ _ (s₁.setTop (mkF m 63 #[.val (.int p0), .val (.int (31 : Int32))] [(.int (4 : Int32)), (.int p0)]))
          by_cases hc5 : p0 < (4 : Int32)
          · skip
            refine Owes.go ?_ fun t₀ k₀ => XS.icmpYes X0.here hx rfl (pc0 := 63) (pc' := 73) rfl (hb hby d11_63) rfl (tlt hc5).1 (by decide) (by decide) k₀
            show Owes _ _ _ _ (s₁.setTop (mkF m 73 #[.val (.int p0), .val (.int (31 : Int32))] []))
            refine Owes.go ?_ fun t₀ k₀ => XS.iloadN X0.here hx rfl (hb hby d11_73) rfl k₀
            show Owes _ _ _ _ (s₁.setTop (mkF m 74 #[.val (.int p0), .val (.int (31 : Int32))] [(.int (31 : Int32))]))
            refine Owes.go ?_ fun t₀ k₀ => XS.iloadN X0.here hx rfl (hb hby d11_74) rfl k₀
            show Owes _ _ _ _ (s₁.setTop (mkF m 75 #[.val (.int p0), .val (.int (31 : Int32))] [(.int p0), (.int (31 : Int32))]))
            refine Owes.go ?_ fun t₀ k₀ => XS.iconst X0.here hx rfl (hb hby d11_75) k₀
            show Owes _ _ _ _ (s₁.setTop (mkF m 76 #[.val (.int p0), .val (.int (31 : Int32))] [(.int (1 : Int32)), (.int p0), (.int (31 : Int32))]))
            refine Owes.go ?_ fun t₀ k₀ => XS.iushr X0.here hx rfl (hb hby d11_76) rfl k₀
            show Owes _ _ _ _ (s₁.setTop (mkF m 77 #[.val (.int p0), .val (.int (31 : Int32))] [(.int ((p0.toUInt32 >>> ((1 : Int32) &&& 31).toUInt32).toInt32)), (.int (31 : Int32))]))
            refine Owes.go ?_ fun t₀ k₀ => XS.isub X0.here hx rfl (hb hby d11_77) rfl k₀
            show Owes _ _ _ _ (s₁.setTop (mkF m 78 #[.val (.int p0), .val (.int (31 : Int32))] [(.int ((31 : Int32) - ((p0.toUInt32 >>> ((1 : Int32) &&& 31).toUInt32).toInt32)))]))
            exact Owes.retI X0 hx hlk hret (hb hby d11_78) (by decide) (by decide) ⟨congrArg (fun z => some (Value.int z)) (by unfold f_nlzI; rw [if_pos hc1, if_pos hc2, if_pos hc3, if_pos hc4, if_pos hc5]; first | done | rfl), rfl, e0⟩
          · skip
            refine Owes.go ?_ fun t₀ k₀ => XS.icmpNo X0.here hx rfl (hb hby d11_63) rfl (flt hc5).1 k₀
            show Owes _ _ _ _ (s₁.setTop (mkF m 66 #[.val (.int p0), .val (.int (31 : Int32))] []))
            refine Owes.go ?_ fun t₀ k₀ => XS.iinc X0.here hx rfl (hb hby d11_66) rfl (l' := #[.val (.int p0), .val (.int ((31 : Int32) + (-2 : Int32)))]) rfl k₀
            show Owes _ _ _ _ (s₁.setTop (mkF m 69 #[.val (.int p0), .val (.int ((31 : Int32) + (-2 : Int32)))] []))
            refine Owes.go ?_ fun t₀ k₀ => XS.iloadN X0.here hx rfl (hb hby d11_69) rfl k₀
            show Owes _ _ _ _ (s₁.setTop (mkF m 70 #[.val (.int p0), .val (.int ((31 : Int32) + (-2 : Int32)))] [(.int p0)]))
            refine Owes.go ?_ fun t₀ k₀ => XS.iconst X0.here hx rfl (hb hby d11_70) k₀
            show Owes _ _ _ _ (s₁.setTop (mkF m 71 #[.val (.int p0), .val (.int ((31 : Int32) + (-2 : Int32)))] [(.int (2 : Int32)), (.int p0)]))
            refine Owes.go ?_ fun t₀ k₀ => XS.iushr X0.here hx rfl (hb hby d11_71) rfl k₀
            show Owes _ _ _ _ (s₁.setTop (mkF m 72 #[.val (.int p0), .val (.int ((31 : Int32) + (-2 : Int32)))] [(.int ((p0.toUInt32 >>> ((2 : Int32) &&& 31).toUInt32).toInt32))]))
            refine Owes.go ?_ fun t₀ k₀ => XS.istoreN X0.here hx rfl (hb hby d11_72) rfl (l' := #[.val (.int ((p0.toUInt32 >>> ((2 : Int32) &&& 31).toUInt32).toInt32)), .val (.int ((31 : Int32) + (-2 : Int32)))]) rfl k₀
            show Owes _ _ _ _ (s₁.setTop (mkF m 73 #[.val (.int ((p0.toUInt32 >>> ((2 : Int32) &&& 31).toUInt32).toInt32)), .val (.int ((31 : Int32) + (-2 : Int32)))] []))
            refine Owes.go ?_ fun t₀ k₀ => XS.iloadN X0.here hx rfl (hb hby d11_73) rfl k₀
            show Owes _ _ _ _ (s₁.setTop (mkF m 74 #[.val (.int ((p0.toUInt32 >>> ((2 : Int32) &&& 31).toUInt32).toInt32)), .val (.int ((31 : Int32) + (-2 : Int32)))] [(.int ((31 : Int32) + (-2 : Int32)))]))
            refine Owes.go ?_ fun t₀ k₀ => XS.iloadN X0.here hx rfl (hb hby d11_74) rfl k₀
            show Owes _ _ _ _ (s₁.setTop (mkF m 75 #[.val (.int ((p0.toUInt32 >>> ((2 : Int32) &&& 31).toUInt32).toInt32)), .val (.int ((31 : Int32) + (-2 : Int32)))] [(.int ((p0.toUInt32 >>> ((2 : Int32) &&& 31).toUInt32).toInt32)), (.int ((31 : Int32) + (-2 : Int32)))]))
            refine Owes.go ?_ fun t₀ k₀ => XS.iconst X0.here hx rfl (hb hby d11_75) k₀
            show Owes _ _ _ _ (s₁.setTop (mkF m 76 #[.val (.int ((p0.toUInt32 >>> ((2 : Int32) &&& 31).toUInt32).toInt32)), .val (.int ((31 : Int32) + (-2 : Int32)))] [(.int (1 : Int32)), (.int ((p0.toUInt32 >>> ((2 : Int32) &&& 31).toUInt32).toInt32)), (.int ((31 : Int32) + (-2 : Int32)))]))
            refine Owes.go ?_ fun t₀ k₀ => XS.iushr X0.here hx rfl (hb hby d11_76) rfl k₀
            show Owes _ _ _ _ (s₁.setTop (mkF m 77 #[.val (.int ((p0.toUInt32 >>> ((2 : Int32) &&& 31).toUInt32).toInt32)), .val (.int ((31 : Int32) + (-2 : Int32)))] [(.int ((((p0.toUInt32 >>> ((2 : Int32) &&& 31).toUInt32).toInt32).toUInt32 >>> ((1 : Int32) &&& 31).toUInt32).toInt32)), (.int ((31 : Int32) + (-2 : Int32)))]))
            refine Owes.go ?_ fun t₀ k₀ => XS.isub X0.here hx rfl (hb hby d11_77) rfl k₀
            show Owes _ _ _ _ (s₁.setTop (mkF m 78 #[.val (.int ((p0.toUInt32 >>> ((2 : Int32) &&& 31).toUInt32).toInt32)), .val (.int ((31 : Int32) + (-2 : Int32)))] [(.int (((31 : Int32) + (-2 : Int32)) - ((((p0.toUInt32 >>> ((2 : Int32) &&& 31).toUInt32).toInt32).toUInt32 >>> ((1 : Int32) &&& 31).toUInt32).toInt32)))]))
            exact Owes.retI X0 hx hlk hret (hb hby d11_78) (by decide) (by decide) ⟨congrArg (fun z => some (Value.int z)) (by unfold f_nlzI; rw [if_pos hc1, if_pos hc2, if_pos hc3, if_pos hc4, if_neg hc5]; first | done | rfl), rfl, e0⟩
        · skip
          refine Owes.go ?_ fun t₀ k₀ => XS.icmpNo X0.here hx rfl (hb hby d11_51) rfl (flt hc4).1 k₀
          show Owes _ _ _ _ (s₁.setTop (mkF m 54 #[.val (.int p0), .val (.int (31 : Int32))] []))
          refine Owes.go ?_ fun t₀ k₀ => XS.iinc X0.here hx rfl (hb hby d11_54) rfl (l' := #[.val (.int p0), .val (.int ((31 : Int32) + (-4 : Int32)))]) rfl k₀
          show Owes _ _ _ _ (s₁.setTop (mkF m 57 #[.val (.int p0), .val (.int ((31 : Int32) + (-4 : Int32)))] []))
          refine Owes.go ?_ fun t₀ k₀ => XS.iloadN X0.here hx rfl (hb hby d11_57) rfl k₀
          show Owes _ _ _ _ (s₁.setTop (mkF m 58 #[.val (.int p0), .val (.int ((31 : Int32) + (-4 : Int32)))] [(.int p0)]))
          refine Owes.go ?_ fun t₀ k₀ => XS.iconst X0.here hx rfl (hb hby d11_58) k₀
          show Owes _ _ _ _ (s₁.setTop (mkF m 59 #[.val (.int p0), .val (.int ((31 : Int32) + (-4 : Int32)))] [(.int (4 : Int32)), (.int p0)]))
          refine Owes.go ?_ fun t₀ k₀ => XS.iushr X0.here hx rfl (hb hby d11_59) rfl k₀
          show Owes _ _ _ _ (s₁.setTop (mkF m 60 #[.val (.int p0), .val (.int ((31 : Int32) + (-4 : Int32)))] [(.int ((p0.toUInt32 >>> ((4 : Int32) &&& 31).toUInt32).toInt32))]))
          refine Owes.go ?_ fun t₀ k₀ => XS.istoreN X0.here hx rfl (hb hby d11_60) rfl (l' := #[.val (.int ((p0.toUInt32 >>> ((4 : Int32) &&& 31).toUInt32).toInt32)), .val (.int ((31 : Int32) + (-4 : Int32)))]) rfl k₀
          show Owes _ _ _ _ (s₁.setTop (mkF m 61 #[.val (.int ((p0.toUInt32 >>> ((4 : Int32) &&& 31).toUInt32).toInt32)), .val (.int ((31 : Int32) + (-4 : Int32)))] []))
          refine Owes.go ?_ fun t₀ k₀ => XS.iloadN X0.here hx rfl (hb hby d11_61) rfl k₀
          show Owes _ _ _ _ (s₁.setTop (mkF m 62 #[.val (.int ((p0.toUInt32 >>> ((4 : Int32) &&& 31).toUInt32).toInt32)), .val (.int ((31 : Int32) + (-4 : Int32)))] [(.int ((p0.toUInt32 >>> ((4 : Int32) &&& 31).toUInt32).toInt32))]))
          refine Owes.go ?_ fun t₀ k₀ => XS.iconst X0.here hx rfl (hb hby d11_62) k₀
          show Owes _ _ _ _ (s₁.setTop (mkF m 63 #[.val (.int ((p0.toUInt32 >>> ((4 : Int32) &&& 31).toUInt32).toInt32)), .val (.int ((31 : Int32) + (-4 : Int32)))] [(.int (4 : Int32)), (.int ((p0.toUInt32 >>> ((4 : Int32) &&& 31).toUInt32).toInt32))]))
          by_cases hc6 : ((p0.toUInt32 >>> ((4 : Int32) &&& 31).toUInt32).toInt32) < (4 : Int32)
          · skip
            refine Owes.go ?_ fun t₀ k₀ => XS.icmpYes X0.here hx rfl (pc0 := 63) (pc' := 73) rfl (hb hby d11_63) rfl (tlt hc6).1 (by decide) (by decide) k₀
            show Owes _ _ _ _ (s₁.setTop (mkF m 73 #[.val (.int ((p0.toUInt32 >>> ((4 : Int32) &&& 31).toUInt32).toInt32)), .val (.int ((31 : Int32) + (-4 : Int32)))] []))
            refine Owes.go ?_ fun t₀ k₀ => XS.iloadN X0.here hx rfl (hb hby d11_73) rfl k₀
            show Owes _ _ _ _ (s₁.setTop (mkF m 74 #[.val (.int ((p0.toUInt32 >>> ((4 : Int32) &&& 31).toUInt32).toInt32)), .val (.int ((31 : Int32) + (-4 : Int32)))] [(.int ((31 : Int32) + (-4 : Int32)))]))
            refine Owes.go ?_ fun t₀ k₀ => XS.iloadN X0.here hx rfl (hb hby d11_74) rfl k₀
            show Owes _ _ _ _ (s₁.setTop (mkF m 75 #[.val (.int ((p0.toUInt32 >>> ((4 : Int32) &&& 31).toUInt32).toInt32)), .val (.int ((31 : Int32) + (-4 : Int32)))] [(.int ((p0.toUInt32 >>> ((4 : Int32) &&& 31).toUInt32).toInt32)), (.int ((31 : Int32) + (-4 : Int32)))]))
            refine Owes.go ?_ fun t₀ k₀ => XS.iconst X0.here hx rfl (hb hby d11_75) k₀
            show Owes _ _ _ _ (s₁.setTop (mkF m 76 #[.val (.int ((p0.toUInt32 >>> ((4 : Int32) &&& 31).toUInt32).toInt32)), .val (.int ((31 : Int32) + (-4 : Int32)))] [(.int (1 : Int32)), (.int ((p0.toUInt32 >>> ((4 : Int32) &&& 31).toUInt32).toInt32)), (.int ((31 : Int32) + (-4 : Int32)))]))
            refine Owes.go ?_ fun t₀ k₀ => XS.iushr X0.here hx rfl (hb hby d11_76) rfl k₀
            show Owes _ _ _ _ (s₁.setTop (mkF m 77 #[.val (.int ((p0.toUInt32 >>> ((4 : Int32) &&& 31).toUInt32).toInt32)), .val (.int ((31 : Int32) + (-4 : Int32)))] [(.int ((((p0.toUInt32 >>> ((4 : Int32) &&& 31).toUInt32).toInt32).toUInt32 >>> ((1 : Int32) &&& 31).toUInt32).toInt32)), (.int ((31 : Int32) + (-4 : Int32)))]))
            refine Owes.go ?_ fun t₀ k₀ => XS.isub X0.here hx rfl (hb hby d11_77) rfl k₀
            show Owes _ _ _ _ (s₁.setTop (mkF m 78 #[.val (.int ((p0.toUInt32 >>> ((4 : Int32) &&& 31).toUInt32).toInt32)), .val (.int ((31 : Int32) + (-4 : Int32)))] [(.int (((31 : Int32) + (-4 : Int32)) - ((((p0.toUInt32 >>> ((4 : Int32) &&& 31).toUInt32).toInt32).toUInt32 >>> ((1 : Int32) &&& 31).toUInt32).toInt32)))]))
            exact Owes.retI X0 hx hlk hret (hb hby d11_78) (by decide) (by decide) ⟨congrArg (fun z => some (Value.int z)) (by unfold f_nlzI; rw [if_pos hc1, if_pos hc2, if_pos hc3, if_neg hc4, if_pos hc6]; first | done | rfl), rfl, e0⟩
          · skip
            refine Owes.go ?_ fun t₀ k₀ => XS.icmpNo X0.here hx rfl (hb hby d11_63) rfl (flt hc6).1 k₀
            show Owes _ _ _ _ (s₁.setTop (mkF m 66 #[.val (.int ((p0.toUInt32 >>> ((4 : Int32) &&& 31).toUInt32).toInt32)), .val (.int ((31 : Int32) + (-4 : Int32)))] []))
            refine Owes.go ?_ fun t₀ k₀ => XS.iinc X0.here hx rfl (hb hby d11_66) rfl (l' := #[.val (.int ((p0.toUInt32 >>> ((4 : Int32) &&& 31).toUInt32).toInt32)), .val (.int (((31 : Int32) + (-4 : Int32)) + (-2 : Int32)))]) rfl k₀
            show Owes _ _ _ _ (s₁.setTop (mkF m 69 #[.val (.int ((p0.toUInt32 >>> ((4 : Int32) &&& 31).toUInt32).toInt32)), .val (.int (((31 : Int32) + (-4 : Int32)) + (-2 : Int32)))] []))
            refine Owes.go ?_ fun t₀ k₀ => XS.iloadN X0.here hx rfl (hb hby d11_69) rfl k₀
            show Owes _ _ _ _ (s₁.setTop (mkF m 70 #[.val (.int ((p0.toUInt32 >>> ((4 : Int32) &&& 31).toUInt32).toInt32)), .val (.int (((31 : Int32) + (-4 : Int32)) + (-2 : Int32)))] [(.int ((p0.toUInt32 >>> ((4 : Int32) &&& 31).toUInt32).toInt32))]))
            refine Owes.go ?_ fun t₀ k₀ => XS.iconst X0.here hx rfl (hb hby d11_70) k₀
            show Owes _ _ _ _ (s₁.setTop (mkF m 71 #[.val (.int ((p0.toUInt32 >>> ((4 : Int32) &&& 31).toUInt32).toInt32)), .val (.int (((31 : Int32) + (-4 : Int32)) + (-2 : Int32)))] [(.int (2 : Int32)), (.int ((p0.toUInt32 >>> ((4 : Int32) &&& 31).toUInt32).toInt32))]))
            refine Owes.go ?_ fun t₀ k₀ => XS.iushr X0.here hx rfl (hb hby d11_71) rfl k₀
            show Owes _ _ _ _ (s₁.setTop (mkF m 72 #[.val (.int ((p0.toUInt32 >>> ((4 : Int32) &&& 31).toUInt32).toInt32)), .val (.int (((31 : Int32) + (-4 : Int32)) + (-2 : Int32)))] [(.int ((((p0.toUInt32 >>> ((4 : Int32) &&& 31).toUInt32).toInt32).toUInt32 >>> ((2 : Int32) &&& 31).toUInt32).toInt32))]))
            refine Owes.go ?_ fun t₀ k₀ => XS.istoreN X0.here hx rfl (hb hby d11_72) rfl (l' := #[.val (.int ((((p0.toUInt32 >>> ((4 : Int32) &&& 31).toUInt32).toInt32).toUInt32 >>> ((2 : Int32) &&& 31).toUInt32).toInt32)), .val (.int (((31 : Int32) + (-4 : Int32)) + (-2 : Int32)))]) rfl k₀
            show Owes _ _ _ _ (s₁.setTop (mkF m 73 #[.val (.int ((((p0.toUInt32 >>> ((4 : Int32) &&& 31).toUInt32).toInt32).toUInt32 >>> ((2 : Int32) &&& 31).toUInt32).toInt32)), .val (.int (((31 : Int32) + (-4 : Int32)) + (-2 : Int32)))] []))
            refine Owes.go ?_ fun t₀ k₀ => XS.iloadN X0.here hx rfl (hb hby d11_73) rfl k₀
            show Owes _ _ _ _ (s₁.setTop (mkF m 74 #[.val (.int ((((p0.toUInt32 >>> ((4 : Int32) &&& 31).toUInt32).toInt32).toUInt32 >>> ((2 : Int32) &&& 31).toUInt32).toInt32)), .val (.int (((31 : Int32) + (-4 : Int32)) + (-2 : Int32)))] [(.int (((31 : Int32) + (-4 : Int32)) + (-2 : Int32)))]))
            refine Owes.go ?_ fun t₀ k₀ => XS.iloadN X0.here hx rfl (hb hby d11_74) rfl k₀
            show Owes _ _ _ _ (s₁.setTop (mkF m 75 #[.val (.int ((((p0.toUInt32 >>> ((4 : Int32) &&& 31).toUInt32).toInt32).toUInt32 >>> ((2 : Int32) &&& 31).toUInt32).toInt32)), .val (.int (((31 : Int32) + (-4 : Int32)) + (-2 : Int32)))] [(.int ((((p0.toUInt32 >>> ((4 : Int32) &&& 31).toUInt32).toInt32).toUInt32 >>> ((2 : Int32) &&& 31).toUInt32).toInt32)), (.int (((31 : Int32) + (-4 : Int32)) + (-2 : Int32)))]))
            refine Owes.go ?_ fun t₀ k₀ => XS.iconst X0.here hx rfl (hb hby d11_75) k₀
            show Owes _ _ _ _ (s₁.setTop (mkF m 76 #[.val (.int ((((p0.toUInt32 >>> ((4 : Int32) &&& 31).toUInt32).toInt32).toUInt32 >>> ((2 : Int32) &&& 31).toUInt32).toInt32)), .val (.int (((31 : Int32) + (-4 : Int32)) + (-2 : Int32)))] [(.int (1 : Int32)), (.int ((((p0.toUInt32 >>> ((4 : Int32) &&& 31).toUInt32).toInt32).toUInt32 >>> ((2 : Int32) &&& 31).toUInt32).toInt32)), (.int (((31 : Int32) + (-4 : Int32)) + (-2 : Int32)))]))
            refine Owes.go ?_ fun t₀ k₀ => XS.iushr X0.here hx rfl (hb hby d11_76) rfl k₀
            show Owes _ _ _ _ (s₁.setTop (mkF m 77 #[.val (.int ((((p0.toUInt32 >>> ((4 : Int32) &&& 31).toUInt32).toInt32).toUInt32 >>> ((2 : Int32) &&& 31).toUInt32).toInt32)), .val (.int (((31 : Int32) + (-4 : Int32)) + (-2 : Int32)))] [(.int ((((((p0.toUInt32 >>> ((4 : Int32) &&& 31).toUInt32).toInt32).toUInt32 >>> ((2 : Int32) &&& 31).toUInt32).toInt32).toUInt32 >>> ((1 : Int32) &&& 31).toUInt32).toInt32)), (.int (((31 : Int32) + (-4 : Int32)) + (-2 : Int32)))]))
            refine Owes.go ?_ fun t₀ k₀ => XS.isub X0.here hx rfl (hb hby d11_77) rfl k₀
            show Owes _ _ _ _ (s₁.setTop (mkF m 78 #[.val (.int ((((p0.toUInt32 >>> ((4 : Int32) &&& 31).toUInt32).toInt32).toUInt32 >>> ((2 : Int32) &&& 31).toUInt32).toInt32)), .val (.int (((31 : Int32) + (-4 : Int32)) + (-2 : Int32)))] [(.int ((((31 : Int32) + (-4 : Int32)) + (-2 : Int32)) - ((((((p0.toUInt32 >>> ((4 : Int32) &&& 31).toUInt32).toInt32).toUInt32 >>> ((2 : Int32) &&& 31).toUInt32).toInt32).toUInt32 >>> ((1 : Int32) &&& 31).toUInt32).toInt32)))]))
            exact Owes.retI X0 hx hlk hret (hb hby d11_78) (by decide) (by decide) ⟨congrArg (fun z => some (Value.int z)) (by unfold f_nlzI; rw [if_pos hc1, if_pos hc2, if_pos hc3, if_neg hc4, if_neg hc6]; first | done | rfl), rfl, e0⟩
      · skip
        refine Owes.go ?_ fun t₀ k₀ => XS.icmpNo X0.here hx rfl (hb hby d11_37) rfl (flt hc3).1 k₀
        show Owes _ _ _ _ (s₁.setTop (mkF m 40 #[.val (.int p0), .val (.int (31 : Int32))] []))
        refine Owes.go ?_ fun t₀ k₀ => XS.iinc X0.here hx rfl (hb hby d11_40) rfl (l' := #[.val (.int p0), .val (.int ((31 : Int32) + (-8 : Int32)))]) rfl k₀
        show Owes _ _ _ _ (s₁.setTop (mkF m 43 #[.val (.int p0), .val (.int ((31 : Int32) + (-8 : Int32)))] []))
        refine Owes.go ?_ fun t₀ k₀ => XS.iloadN X0.here hx rfl (hb hby d11_43) rfl k₀
        show Owes _ _ _ _ (s₁.setTop (mkF m 44 #[.val (.int p0), .val (.int ((31 : Int32) + (-8 : Int32)))] [(.int p0)]))
        refine Owes.go ?_ fun t₀ k₀ => XS.bipush X0.here hx rfl (hb hby d11_44) k₀
        show Owes _ _ _ _ (s₁.setTop (mkF m 46 #[.val (.int p0), .val (.int ((31 : Int32) + (-8 : Int32)))] [(.int (8 : Int32)), (.int p0)]))
        refine Owes.go ?_ fun t₀ k₀ => XS.iushr X0.here hx rfl (hb hby d11_46) rfl k₀
        show Owes _ _ _ _ (s₁.setTop (mkF m 47 #[.val (.int p0), .val (.int ((31 : Int32) + (-8 : Int32)))] [(.int ((p0.toUInt32 >>> ((8 : Int32) &&& 31).toUInt32).toInt32))]))
        refine Owes.go ?_ fun t₀ k₀ => XS.istoreN X0.here hx rfl (hb hby d11_47) rfl (l' := #[.val (.int ((p0.toUInt32 >>> ((8 : Int32) &&& 31).toUInt32).toInt32)), .val (.int ((31 : Int32) + (-8 : Int32)))]) rfl k₀
        show Owes _ _ _ _ (s₁.setTop (mkF m 48 #[.val (.int ((p0.toUInt32 >>> ((8 : Int32) &&& 31).toUInt32).toInt32)), .val (.int ((31 : Int32) + (-8 : Int32)))] []))
        refine Owes.go ?_ fun t₀ k₀ => XS.iloadN X0.here hx rfl (hb hby d11_48) rfl k₀
        show Owes _ _ _ _ (s₁.setTop (mkF m 49 #[.val (.int ((p0.toUInt32 >>> ((8 : Int32) &&& 31).toUInt32).toInt32)), .val (.int ((31 : Int32) + (-8 : Int32)))] [(.int ((p0.toUInt32 >>> ((8 : Int32) &&& 31).toUInt32).toInt32))]))
        refine Owes.go ?_ fun t₀ k₀ => XS.bipush X0.here hx rfl (hb hby d11_49) k₀
        show Owes _ _ _ _ (s₁.setTop (mkF m 51 #[.val (.int ((p0.toUInt32 >>> ((8 : Int32) &&& 31).toUInt32).toInt32)), .val (.int ((31 : Int32) + (-8 : Int32)))] [(.int (16 : Int32)), (.int ((p0.toUInt32 >>> ((8 : Int32) &&& 31).toUInt32).toInt32))]))
        by_cases hc7 : ((p0.toUInt32 >>> ((8 : Int32) &&& 31).toUInt32).toInt32) < (16 : Int32)
        · skip
          refine Owes.go ?_ fun t₀ k₀ => XS.icmpYes X0.here hx rfl (pc0 := 51) (pc' := 61) rfl (hb hby d11_51) rfl (tlt hc7).1 (by decide) (by decide) k₀
          show Owes _ _ _ _ (s₁.setTop (mkF m 61 #[.val (.int ((p0.toUInt32 >>> ((8 : Int32) &&& 31).toUInt32).toInt32)), .val (.int ((31 : Int32) + (-8 : Int32)))] []))
          refine Owes.go ?_ fun t₀ k₀ => XS.iloadN X0.here hx rfl (hb hby d11_61) rfl k₀
          show Owes _ _ _ _ (s₁.setTop (mkF m 62 #[.val (.int ((p0.toUInt32 >>> ((8 : Int32) &&& 31).toUInt32).toInt32)), .val (.int ((31 : Int32) + (-8 : Int32)))] [(.int ((p0.toUInt32 >>> ((8 : Int32) &&& 31).toUInt32).toInt32))]))
          refine Owes.go ?_ fun t₀ k₀ => XS.iconst X0.here hx rfl (hb hby d11_62) k₀
          show Owes _ _ _ _ (s₁.setTop (mkF m 63 #[.val (.int ((p0.toUInt32 >>> ((8 : Int32) &&& 31).toUInt32).toInt32)), .val (.int ((31 : Int32) + (-8 : Int32)))] [(.int (4 : Int32)), (.int ((p0.toUInt32 >>> ((8 : Int32) &&& 31).toUInt32).toInt32))]))
          by_cases hc8 : ((p0.toUInt32 >>> ((8 : Int32) &&& 31).toUInt32).toInt32) < (4 : Int32)
          · skip
            refine Owes.go ?_ fun t₀ k₀ => XS.icmpYes X0.here hx rfl (pc0 := 63) (pc' := 73) rfl (hb hby d11_63) rfl (tlt hc8).1 (by decide) (by decide) k₀
            show Owes _ _ _ _ (s₁.setTop (mkF m 73 #[.val (.int ((p0.toUInt32 >>> ((8 : Int32) &&& 31).toUInt32).toInt32)), .val (.int ((31 : Int32) + (-8 : Int32)))] []))
            refine Owes.go ?_ fun t₀ k₀ => XS.iloadN X0.here hx rfl (hb hby d11_73) rfl k₀
            show Owes _ _ _ _ (s₁.setTop (mkF m 74 #[.val (.int ((p0.toUInt32 >>> ((8 : Int32) &&& 31).toUInt32).toInt32)), .val (.int ((31 : Int32) + (-8 : Int32)))] [(.int ((31 : Int32) + (-8 : Int32)))]))
            refine Owes.go ?_ fun t₀ k₀ => XS.iloadN X0.here hx rfl (hb hby d11_74) rfl k₀
            show Owes _ _ _ _ (s₁.setTop (mkF m 75 #[.val (.int ((p0.toUInt32 >>> ((8 : Int32) &&& 31).toUInt32).toInt32)), .val (.int ((31 : Int32) + (-8 : Int32)))] [(.int ((p0.toUInt32 >>> ((8 : Int32) &&& 31).toUInt32).toInt32)), (.int ((31 : Int32) + (-8 : Int32)))]))
            refine Owes.go ?_ fun t₀ k₀ => XS.iconst X0.here hx rfl (hb hby d11_75) k₀
            show Owes _ _ _ _ (s₁.setTop (mkF m 76 #[.val (.int ((p0.toUInt32 >>> ((8 : Int32) &&& 31).toUInt32).toInt32)), .val (.int ((31 : Int32) + (-8 : Int32)))] [(.int (1 : Int32)), (.int ((p0.toUInt32 >>> ((8 : Int32) &&& 31).toUInt32).toInt32)), (.int ((31 : Int32) + (-8 : Int32)))]))
            refine Owes.go ?_ fun t₀ k₀ => XS.iushr X0.here hx rfl (hb hby d11_76) rfl k₀
            show Owes _ _ _ _ (s₁.setTop (mkF m 77 #[.val (.int ((p0.toUInt32 >>> ((8 : Int32) &&& 31).toUInt32).toInt32)), .val (.int ((31 : Int32) + (-8 : Int32)))] [(.int ((((p0.toUInt32 >>> ((8 : Int32) &&& 31).toUInt32).toInt32).toUInt32 >>> ((1 : Int32) &&& 31).toUInt32).toInt32)), (.int ((31 : Int32) + (-8 : Int32)))]))
            refine Owes.go ?_ fun t₀ k₀ => XS.isub X0.here hx rfl (hb hby d11_77) rfl k₀
            show Owes _ _ _ _ (s₁.setTop (mkF m 78 #[.val (.int ((p0.toUInt32 >>> ((8 : Int32) &&& 31).toUInt32).toInt32)), .val (.int ((31 : Int32) + (-8 : Int32)))] [(.int (((31 : Int32) + (-8 : Int32)) - ((((p0.toUInt32 >>> ((8 : Int32) &&& 31).toUInt32).toInt32).toUInt32 >>> ((1 : Int32) &&& 31).toUInt32).toInt32)))]))
            exact Owes.retI X0 hx hlk hret (hb hby d11_78) (by decide) (by decide) ⟨congrArg (fun z => some (Value.int z)) (by unfold f_nlzI; rw [if_pos hc1, if_pos hc2, if_neg hc3, if_pos hc7, if_pos hc8]; first | done | rfl), rfl, e0⟩
          · skip
            refine Owes.go ?_ fun t₀ k₀ => XS.icmpNo X0.here hx rfl (hb hby d11_63) rfl (flt hc8).1 k₀
            show Owes _ _ _ _ (s₁.setTop (mkF m 66 #[.val (.int ((p0.toUInt32 >>> ((8 : Int32) &&& 31).toUInt32).toInt32)), .val (.int ((31 : Int32) + (-8 : Int32)))] []))
            refine Owes.go ?_ fun t₀ k₀ => XS.iinc X0.here hx rfl (hb hby d11_66) rfl (l' := #[.val (.int ((p0.toUInt32 >>> ((8 : Int32) &&& 31).toUInt32).toInt32)), .val (.int (((31 : Int32) + (-8 : Int32)) + (-2 : Int32)))]) rfl k₀
            show Owes _ _ _ _ (s₁.setTop (mkF m 69 #[.val (.int ((p0.toUInt32 >>> ((8 : Int32) &&& 31).toUInt32).toInt32)), .val (.int (((31 : Int32) + (-8 : Int32)) + (-2 : Int32)))] []))
            refine Owes.go ?_ fun t₀ k₀ => XS.iloadN X0.here hx rfl (hb hby d11_69) rfl k₀
            show Owes _ _ _ _ (s₁.setTop (mkF m 70 #[.val (.int ((p0.toUInt32 >>> ((8 : Int32) &&& 31).toUInt32).toInt32)), .val (.int (((31 : Int32) + (-8 : Int32)) + (-2 : Int32)))] [(.int ((p0.toUInt32 >>> ((8 : Int32) &&& 31).toUInt32).toInt32))]))
            refine Owes.go ?_ fun t₀ k₀ => XS.iconst X0.here hx rfl (hb hby d11_70) k₀
            show Owes _ _ _ _ (s₁.setTop (mkF m 71 #[.val (.int ((p0.toUInt32 >>> ((8 : Int32) &&& 31).toUInt32).toInt32)), .val (.int (((31 : Int32) + (-8 : Int32)) + (-2 : Int32)))] [(.int (2 : Int32)), (.int ((p0.toUInt32 >>> ((8 : Int32) &&& 31).toUInt32).toInt32))]))
            refine Owes.go ?_ fun t₀ k₀ => XS.iushr X0.here hx rfl (hb hby d11_71) rfl k₀
            show Owes _ _ _ _ (s₁.setTop (mkF m 72 #[.val (.int ((p0.toUInt32 >>> ((8 : Int32) &&& 31).toUInt32).toInt32)), .val (.int (((31 : Int32) + (-8 : Int32)) + (-2 : Int32)))] [(.int ((((p0.toUInt32 >>> ((8 : Int32) &&& 31).toUInt32).toInt32).toUInt32 >>> ((2 : Int32) &&& 31).toUInt32).toInt32))]))
            refine Owes.go ?_ fun t₀ k₀ => XS.istoreN X0.here hx rfl (hb hby d11_72) rfl (l' := #[.val (.int ((((p0.toUInt32 >>> ((8 : Int32) &&& 31).toUInt32).toInt32).toUInt32 >>> ((2 : Int32) &&& 31).toUInt32).toInt32)), .val (.int (((31 : Int32) + (-8 : Int32)) + (-2 : Int32)))]) rfl k₀
            show Owes _ _ _ _ (s₁.setTop (mkF m 73 #[.val (.int ((((p0.toUInt32 >>> ((8 : Int32) &&& 31).toUInt32).toInt32).toUInt32 >>> ((2 : Int32) &&& 31).toUInt32).toInt32)), .val (.int (((31 : Int32) + (-8 : Int32)) + (-2 : Int32)))] []))
            refine Owes.go ?_ fun t₀ k₀ => XS.iloadN X0.here hx rfl (hb hby d11_73) rfl k₀
            show Owes _ _ _ _ (s₁.setTop (mkF m 74 #[.val (.int ((((p0.toUInt32 >>> ((8 : Int32) &&& 31).toUInt32).toInt32).toUInt32 >>> ((2 : Int32) &&& 31).toUInt32).toInt32)), .val (.int (((31 : Int32) + (-8 : Int32)) + (-2 : Int32)))] [(.int (((31 : Int32) + (-8 : Int32)) + (-2 : Int32)))]))
            refine Owes.go ?_ fun t₀ k₀ => XS.iloadN X0.here hx rfl (hb hby d11_74) rfl k₀
            show Owes _ _ _ _ (s₁.setTop (mkF m 75 #[.val (.int ((((p0.toUInt32 >>> ((8 : Int32) &&& 31).toUInt32).toInt32).toUInt32 >>> ((2 : Int32) &&& 31).toUInt32).toInt32)), .val (.int (((31 : Int32) + (-8 : Int32)) + (-2 : Int32)))] [(.int ((((p0.toUInt32 >>> ((8 : Int32) &&& 31).toUInt32).toInt32).toUInt32 >>> ((2 : Int32) &&& 31).toUInt32).toInt32)), (.int (((31 : Int32) + (-8 : Int32)) + (-2 : Int32)))]))
            refine Owes.go ?_ fun t₀ k₀ => XS.iconst X0.here hx rfl (hb hby d11_75) k₀
            show Owes _ _ _ _ (s₁.setTop (mkF m 76 #[.val (.int ((((p0.toUInt32 >>> ((8 : Int32) &&& 31).toUInt32).toInt32).toUInt32 >>> ((2 : Int32) &&& 31).toUInt32).toInt32)), .val (.int (((31 : Int32) + (-8 : Int32)) + (-2 : Int32)))] [(.int (1 : Int32)), (.int ((((p0.toUInt32 >>> ((8 : Int32) &&& 31).toUInt32).toInt32).toUInt32 >>> ((2 : Int32) &&& 31).toUInt32).toInt32)), (.int (((31 : Int32) + (-8 : Int32)) + (-2 : Int32)))]))
            refine Owes.go ?_ fun t₀ k₀ => XS.iushr X0.here hx rfl (hb hby d11_76) rfl k₀
            show Owes _ _ _ _ (s₁.setTop (mkF m 77 #[.val (.int ((((p0.toUInt32 >>> ((8 : Int32) &&& 31).toUInt32).toInt32).toUInt32 >>> ((2 : Int32) &&& 31).toUInt32).toInt32)), .val (.int (((31 : Int32) + (-8 : Int32)) + (-2 : Int32)))] [(.int ((((((p0.toUInt32 >>> ((8 : Int32) &&& 31).toUInt32).toInt32).toUInt32 >>> ((2 : Int32) &&& 31).toUInt32).toInt32).toUInt32 >>> ((1 : Int32) &&& 31).toUInt32).toInt32)), (.int (((31 : Int32) + (-8 : Int32)) + (-2 : Int32)))]))
            refine Owes.go ?_ fun t₀ k₀ => XS.isub X0.here hx rfl (hb hby d11_77) rfl k₀
            show Owes _ _ _ _ (s₁.setTop (mkF m 78 #[.val (.int ((((p0.toUInt32 >>> ((8 : Int32) &&& 31).toUInt32).toInt32).toUInt32 >>> ((2 : Int32) &&& 31).toUInt32).toInt32)), .val (.int (((31 : Int32) + (-8 : Int32)) + (-2 : Int32)))] [(.int ((((31 : Int32) + (-8 : Int32)) + (-2 : Int32)) - ((((((p0.toUInt32 >>> ((8 : Int32) &&& 31).toUInt32).toInt32).toUInt32 >>> ((2 : Int32) &&& 31).toUInt32).toInt32).toUInt32 >>> ((1 : Int32) &&& 31).toUInt32).toInt32)))]))
            exact Owes.retI X0 hx hlk hret (hb hby d11_78) (by decide) (by decide) ⟨congrArg (fun z => some (Value.int z)) (by unfold f_nlzI; rw [if_pos hc1, if_pos hc2, if_neg hc3, if_pos hc7, if_neg hc8]; first | done | rfl), rfl, e0⟩
        · skip
          refine Owes.go ?_ fun t₀ k₀ => XS.icmpNo X0.here hx rfl (hb hby d11_51) rfl (flt hc7).1 k₀
          show Owes _ _ _ _ (s₁.setTop (mkF m 54 #[.val (.int ((p0.toUInt32 >>> ((8 : Int32) &&& 31).toUInt32).toInt32)), .val (.int ((31 : Int32) + (-8 : Int32)))] []))
          refine Owes.go ?_ fun t₀ k₀ => XS.iinc X0.here hx rfl (hb hby d11_54) rfl (l' := #[.val (.int ((p0.toUInt32 >>> ((8 : Int32) &&& 31).toUInt32).toInt32)), .val (.int (((31 : Int32) + (-8 : Int32)) + (-4 : Int32)))]) rfl k₀
          show Owes _ _ _ _ (s₁.setTop (mkF m 57 #[.val (.int ((p0.toUInt32 >>> ((8 : Int32) &&& 31).toUInt32).toInt32)), .val (.int (((31 : Int32) + (-8 : Int32)) + (-4 : Int32)))] []))
          refine Owes.go ?_ fun t₀ k₀ => XS.iloadN X0.here hx rfl (hb hby d11_57) rfl k₀
          show Owes _ _ _ _ (s₁.setTop (mkF m 58 #[.val (.int ((p0.toUInt32 >>> ((8 : Int32) &&& 31).toUInt32).toInt32)), .val (.int (((31 : Int32) + (-8 : Int32)) + (-4 : Int32)))] [(.int ((p0.toUInt32 >>> ((8 : Int32) &&& 31).toUInt32).toInt32))]))
          refine Owes.go ?_ fun t₀ k₀ => XS.iconst X0.here hx rfl (hb hby d11_58) k₀
          show Owes _ _ _ _ (s₁.setTop (mkF m 59 #[.val (.int ((p0.toUInt32 >>> ((8 : Int32) &&& 31).toUInt32).toInt32)), .val (.int (((31 : Int32) + (-8 : Int32)) + (-4 : Int32)))] [(.int (4 : Int32)), (.int ((p0.toUInt32 >>> ((8 : Int32) &&& 31).toUInt32).toInt32))]))
          refine Owes.go ?_ fun t₀ k₀ => XS.iushr X0.here hx rfl (hb hby d11_59) rfl k₀
          show Owes _ _ _ _ (s₁.setTop (mkF m 60 #[.val (.int ((p0.toUInt32 >>> ((8 : Int32) &&& 31).toUInt32).toInt32)), .val (.int (((31 : Int32) + (-8 : Int32)) + (-4 : Int32)))] [(.int ((((p0.toUInt32 >>> ((8 : Int32) &&& 31).toUInt32).toInt32).toUInt32 >>> ((4 : Int32) &&& 31).toUInt32).toInt32))]))
          refine Owes.go ?_ fun t₀ k₀ => XS.istoreN X0.here hx rfl (hb hby d11_60) rfl (l' := #[.val (.int ((((p0.toUInt32 >>> ((8 : Int32) &&& 31).toUInt32).toInt32).toUInt32 >>> ((4 : Int32) &&& 31).toUInt32).toInt32)), .val (.int (((31 : Int32) + (-8 : Int32)) + (-4 : Int32)))]) rfl k₀
          show Owes _ _ _ _ (s₁.setTop (mkF m 61 #[.val (.int ((((p0.toUInt32 >>> ((8 : Int32) &&& 31).toUInt32).toInt32).toUInt32 >>> ((4 : Int32) &&& 31).toUInt32).toInt32)), .val (.int (((31 : Int32) + (-8 : Int32)) + (-4 : Int32)))] []))
          refine Owes.go ?_ fun t₀ k₀ => XS.iloadN X0.here hx rfl (hb hby d11_61) rfl k₀
          show Owes _ _ _ _ (s₁.setTop (mkF m 62 #[.val (.int ((((p0.toUInt32 >>> ((8 : Int32) &&& 31).toUInt32).toInt32).toUInt32 >>> ((4 : Int32) &&& 31).toUInt32).toInt32)), .val (.int (((31 : Int32) + (-8 : Int32)) + (-4 : Int32)))] [(.int ((((p0.toUInt32 >>> ((8 : Int32) &&& 31).toUInt32).toInt32).toUInt32 >>> ((4 : Int32) &&& 31).toUInt32).toInt32))]))
          refine Owes.go ?_ fun t₀ k₀ => XS.iconst X0.here hx rfl (hb hby d11_62) k₀
          show Owes _ _ _ _ (s₁.setTop (mkF m 63 #[.val (.int ((((p0.toUInt32 >>> ((8 : Int32) &&& 31).toUInt32).toInt32).toUInt32 >>> ((4 : Int32) &&& 31).toUInt32).toInt32)), .val (.int (((31 : Int32) + (-8 : Int32)) + (-4 : Int32)))] [(.int (4 : Int32)), (.int ((((p0.toUInt32 >>> ((8 : Int32) &&& 31).toUInt32).toInt32).toUInt32 >>> ((4 : Int32) &&& 31).toUInt32).toInt32))]))
          by_cases hc9 : ((((p0.toUInt32 >>> ((8 : Int32) &&& 31).toUInt32).toInt32).toUInt32 >>> ((4 : Int32) &&& 31).toUInt32).toInt32) < (4 : Int32)
          · skip
            refine Owes.go ?_ fun t₀ k₀ => XS.icmpYes X0.here hx rfl (pc0 := 63) (pc' := 73) rfl (hb hby d11_63) rfl (tlt hc9).1 (by decide) (by decide) k₀
            show Owes _ _ _ _ (s₁.setTop (mkF m 73 #[.val (.int ((((p0.toUInt32 >>> ((8 : Int32) &&& 31).toUInt32).toInt32).toUInt32 >>> ((4 : Int32) &&& 31).toUInt32).toInt32)), .val (.int (((31 : Int32) + (-8 : Int32)) + (-4 : Int32)))] []))
            refine Owes.go ?_ fun t₀ k₀ => XS.iloadN X0.here hx rfl (hb hby d11_73) rfl k₀
            show Owes _ _ _ _ (s₁.setTop (mkF m 74 #[.val (.int ((((p0.toUInt32 >>> ((8 : Int32) &&& 31).toUInt32).toInt32).toUInt32 >>> ((4 : Int32) &&& 31).toUInt32).toInt32)), .val (.int (((31 : Int32) + (-8 : Int32)) + (-4 : Int32)))] [(.int (((31 : Int32) + (-8 : Int32)) + (-4 : Int32)))]))
            refine Owes.go ?_ fun t₀ k₀ => XS.iloadN X0.here hx rfl (hb hby d11_74) rfl k₀
            show Owes _ _ _ _ (s₁.setTop (mkF m 75 #[.val (.int ((((p0.toUInt32 >>> ((8 : Int32) &&& 31).toUInt32).toInt32).toUInt32 >>> ((4 : Int32) &&& 31).toUInt32).toInt32)), .val (.int (((31 : Int32) + (-8 : Int32)) + (-4 : Int32)))] [(.int ((((p0.toUInt32 >>> ((8 : Int32) &&& 31).toUInt32).toInt32).toUInt32 >>> ((4 : Int32) &&& 31).toUInt32).toInt32)), (.int (((31 : Int32) + (-8 : Int32)) + (-4 : Int32)))]))
            refine Owes.go ?_ fun t₀ k₀ => XS.iconst X0.here hx rfl (hb hby d11_75) k₀
            show Owes _ _ _ _ (s₁.setTop (mkF m 76 #[.val (.int ((((p0.toUInt32 >>> ((8 : Int32) &&& 31).toUInt32).toInt32).toUInt32 >>> ((4 : Int32) &&& 31).toUInt32).toInt32)), .val (.int (((31 : Int32) + (-8 : Int32)) + (-4 : Int32)))] [(.int (1 : Int32)), (.int ((((p0.toUInt32 >>> ((8 : Int32) &&& 31).toUInt32).toInt32).toUInt32 >>> ((4 : Int32) &&& 31).toUInt32).toInt32)), (.int (((31 : Int32) + (-8 : Int32)) + (-4 : Int32)))]))
            refine Owes.go ?_ fun t₀ k₀ => XS.iushr X0.here hx rfl (hb hby d11_76) rfl k₀
            show Owes _ _ _ _ (s₁.setTop (mkF m 77 #[.val (.int ((((p0.toUInt32 >>> ((8 : Int32) &&& 31).toUInt32).toInt32).toUInt32 >>> ((4 : Int32) &&& 31).toUInt32).toInt32)), .val (.int (((31 : Int32) + (-8 : Int32)) + (-4 : Int32)))] [(.int ((((((p0.toUInt32 >>> ((8 : Int32) &&& 31).toUInt32).toInt32).toUInt32 >>> ((4 : Int32) &&& 31).toUInt32).toInt32).toUInt32 >>> ((1 : Int32) &&& 31).toUInt32).toInt32)), (.int (((31 : Int32) + (-8 : Int32)) + (-4 : Int32)))]))
            refine Owes.go ?_ fun t₀ k₀ => XS.isub X0.here hx rfl (hb hby d11_77) rfl k₀
            show Owes _ _ _ _ (s₁.setTop (mkF m 78 #[.val (.int ((((p0.toUInt32 >>> ((8 : Int32) &&& 31).toUInt32).toInt32).toUInt32 >>> ((4 : Int32) &&& 31).toUInt32).toInt32)), .val (.int (((31 : Int32) + (-8 : Int32)) + (-4 : Int32)))] [(.int ((((31 : Int32) + (-8 : Int32)) + (-4 : Int32)) - ((((((p0.toUInt32 >>> ((8 : Int32) &&& 31).toUInt32).toInt32).toUInt32 >>> ((4 : Int32) &&& 31).toUInt32).toInt32).toUInt32 >>> ((1 : Int32) &&& 31).toUInt32).toInt32)))]))
            exact Owes.retI X0 hx hlk hret (hb hby d11_78) (by decide) (by decide) ⟨congrArg (fun z => some (Value.int z)) (by unfold f_nlzI; rw [if_pos hc1, if_pos hc2, if_neg hc3, if_neg hc7, if_pos hc9]; first | done | rfl), rfl, e0⟩
          · skip
            refine Owes.go ?_ fun t₀ k₀ => XS.icmpNo X0.here hx rfl (hb hby d11_63) rfl (flt hc9).1 k₀
            show Owes _ _ _ _ (s₁.setTop (mkF m 66 #[.val (.int ((((p0.toUInt32 >>> ((8 : Int32) &&& 31).toUInt32).toInt32).toUInt32 >>> ((4 : Int32) &&& 31).toUInt32).toInt32)), .val (.int (((31 : Int32) + (-8 : Int32)) + (-4 : Int32)))] []))
            refine Owes.go ?_ fun t₀ k₀ => XS.iinc X0.here hx rfl (hb hby d11_66) rfl (l' := #[.val (.int ((((p0.toUInt32 >>> ((8 : Int32) &&& 31).toUInt32).toInt32).toUInt32 >>> ((4 : Int32) &&& 31).toUInt32).toInt32)), .val (.int ((((31 : Int32) + (-8 : Int32)) + (-4 : Int32)) + (-2 : Int32)))]) rfl k₀
            show Owes _ _ _ _ (s₁.setTop (mkF m 69 #[.val (.int ((((p0.toUInt32 >>> ((8 : Int32) &&& 31).toUInt32).toInt32).toUInt32 >>> ((4 : Int32) &&& 31).toUInt32).toInt32)), .val (.int ((((31 : Int32) + (-8 : Int32)) + (-4 : Int32)) + (-2 : Int32)))] []))
            refine Owes.go ?_ fun t₀ k₀ => XS.iloadN X0.here hx rfl (hb hby d11_69) rfl k₀
            show Owes _ _ _ _ (s₁.setTop (mkF m 70 #[.val (.int ((((p0.toUInt32 >>> ((8 : Int32) &&& 31).toUInt32).toInt32).toUInt32 >>> ((4 : Int32) &&& 31).toUInt32).toInt32)), .val (.int ((((31 : Int32) + (-8 : Int32)) + (-4 : Int32)) + (-2 : Int32)))] [(.int ((((p0.toUInt32 >>> ((8 : Int32) &&& 31).toUInt32).toInt32).toUInt32 >>> ((4 : Int32) &&& 31).toUInt32).toInt32))]))
            refine Owes.go ?_ fun t₀ k₀ => XS.iconst X0.here hx rfl (hb hby d11_70) k₀
            show Owes _ _ _ _ (s₁.setTop (mkF m 71 #[.val (.int ((((p0.toUInt32 >>> ((8 : Int32) &&& 31).toUInt32).toInt32).toUInt32 >>> ((4 : Int32) &&& 31).toUInt32).toInt32)), .val (.int ((((31 : Int32) + (-8 : Int32)) + (-4 : Int32)) + (-2 : Int32)))] [(.int (2 : Int32)), (.int ((((p0.toUInt32 >>> ((8 : Int32) &&& 31).toUInt32).toInt32).toUInt32 >>> ((4 : Int32) &&& 31).toUInt32).toInt32))]))
            refine Owes.go ?_ fun t₀ k₀ => XS.iushr X0.here hx rfl (hb hby d11_71) rfl k₀
            show Owes _ _ _ _ (s₁.setTop (mkF m 72 #[.val (.int ((((p0.toUInt32 >>> ((8 : Int32) &&& 31).toUInt32).toInt32).toUInt32 >>> ((4 : Int32) &&& 31).toUInt32).toInt32)), .val (.int ((((31 : Int32) + (-8 : Int32)) + (-4 : Int32)) + (-2 : Int32)))] [(.int ((((((p0.toUInt32 >>> ((8 : Int32) &&& 31).toUInt32).toInt32).toUInt32 >>> ((4 : Int32) &&& 31).toUInt32).toInt32).toUInt32 >>> ((2 : Int32) &&& 31).toUInt32).toInt32))]))
            refine Owes.go ?_ fun t₀ k₀ => XS.istoreN X0.here hx rfl (hb hby d11_72) rfl (l' := #[.val (.int ((((((p0.toUInt32 >>> ((8 : Int32) &&& 31).toUInt32).toInt32).toUInt32 >>> ((4 : Int32) &&& 31).toUInt32).toInt32).toUInt32 >>> ((2 : Int32) &&& 31).toUInt32).toInt32)), .val (.int ((((31 : Int32) + (-8 : Int32)) + (-4 : Int32)) + (-2 : Int32)))]) rfl k₀
            show Owes _ _ _ _ (s₁.setTop (mkF m 73 #[.val (.int ((((((p0.toUInt32 >>> ((8 : Int32) &&& 31).toUInt32).toInt32).toUInt32 >>> ((4 : Int32) &&& 31).toUInt32).toInt32).toUInt32 >>> ((2 : Int32) &&& 31).toUInt32).toInt32)), .val (.int ((((31 : Int32) + (-8 : Int32)) + (-4 : Int32)) + (-2 : Int32)))] []))
            refine Owes.go ?_ fun t₀ k₀ => XS.iloadN X0.here hx rfl (hb hby d11_73) rfl k₀
            show Owes _ _ _ _ (s₁.setTop (mkF m 74 #[.val (.int ((((((p0.toUInt32 >>> ((8 : Int32) &&& 31).toUInt32).toInt32).toUInt32 >>> ((4 : Int32) &&& 31).toUInt32).toInt32).toUInt32 >>> ((2 : Int32) &&& 31).toUInt32).toInt32)), .val (.int ((((31 : Int32) + (-8 : Int32)) + (-4 : Int32)) + (-2 : Int32)))] [(.int ((((31 : Int32) + (-8 : Int32)) + (-4 : Int32)) + (-2 : Int32)))]))
            refine Owes.go ?_ fun t₀ k₀ => XS.iloadN X0.here hx rfl (hb hby d11_74) rfl k₀
            show Owes _ _ _ _ (s₁.setTop (mkF m 75 #[.val (.int ((((((p0.toUInt32 >>> ((8 : Int32) &&& 31).toUInt32).toInt32).toUInt32 >>> ((4 : Int32) &&& 31).toUInt32).toInt32).toUInt32 >>> ((2 : Int32) &&& 31).toUInt32).toInt32)), .val (.int ((((31 : Int32) + (-8 : Int32)) + (-4 : Int32)) + (-2 : Int32)))] [(.int ((((((p0.toUInt32 >>> ((8 : Int32) &&& 31).toUInt32).toInt32).toUInt32 >>> ((4 : Int32) &&& 31).toUInt32).toInt32).toUInt32 >>> ((2 : Int32) &&& 31).toUInt32).toInt32)), (.int ((((31 : Int32) + (-8 : Int32)) + (-4 : Int32)) + (-2 : Int32)))]))
            refine Owes.go ?_ fun t₀ k₀ => XS.iconst X0.here hx rfl (hb hby d11_75) k₀
            show Owes _ _ _ _ (s₁.setTop (mkF m 76 #[.val (.int ((((((p0.toUInt32 >>> ((8 : Int32) &&& 31).toUInt32).toInt32).toUInt32 >>> ((4 : Int32) &&& 31).toUInt32).toInt32).toUInt32 >>> ((2 : Int32) &&& 31).toUInt32).toInt32)), .val (.int ((((31 : Int32) + (-8 : Int32)) + (-4 : Int32)) + (-2 : Int32)))] [(.int (1 : Int32)), (.int ((((((p0.toUInt32 >>> ((8 : Int32) &&& 31).toUInt32).toInt32).toUInt32 >>> ((4 : Int32) &&& 31).toUInt32).toInt32).toUInt32 >>> ((2 : Int32) &&& 31).toUInt32).toInt32)), (.int ((((31 : Int32) + (-8 : Int32)) + (-4 : Int32)) + (-2 : Int32)))]))
            refine Owes.go ?_ fun t₀ k₀ => XS.iushr X0.here hx rfl (hb hby d11_76) rfl k₀
            show Owes _ _ _ _ (s₁.setTop (mkF m 77 #[.val (.int ((((((p0.toUInt32 >>> ((8 : Int32) &&& 31).toUInt32).toInt32).toUInt32 >>> ((4 : Int32) &&& 31).toUInt32).toInt32).toUInt32 >>> ((2 : Int32) &&& 31).toUInt32).toInt32)), .val (.int ((((31 : Int32) + (-8 : Int32)) + (-4 : Int32)) + (-2 : Int32)))] [(.int ((((((((p0.toUInt32 >>> ((8 : Int32) &&& 31).toUInt32).toInt32).toUInt32 >>> ((4 : Int32) &&& 31).toUInt32).toInt32).toUInt32 >>> ((2 : Int32) &&& 31).toUInt32).toInt32).toUInt32 >>> ((1 : Int32) &&& 31).toUInt32).toInt32)), (.int ((((31 : Int32) + (-8 : Int32)) + (-4 : Int32)) + (-2 : Int32)))]))
            refine Owes.go ?_ fun t₀ k₀ => XS.isub X0.here hx rfl (hb hby d11_77) rfl k₀
            show Owes _ _ _ _ (s₁.setTop (mkF m 78 #[.val (.int ((((((p0.toUInt32 >>> ((8 : Int32) &&& 31).toUInt32).toInt32).toUInt32 >>> ((4 : Int32) &&& 31).toUInt32).toInt32).toUInt32 >>> ((2 : Int32) &&& 31).toUInt32).toInt32)), .val (.int ((((31 : Int32) + (-8 : Int32)) + (-4 : Int32)) + (-2 : Int32)))] [(.int (((((31 : Int32) + (-8 : Int32)) + (-4 : Int32)) + (-2 : Int32)) - ((((((((p0.toUInt32 >>> ((8 : Int32) &&& 31).toUInt32).toInt32).toUInt32 >>> ((4 : Int32) &&& 31).toUInt32).toInt32).toUInt32 >>> ((2 : Int32) &&& 31).toUInt32).toInt32).toUInt32 >>> ((1 : Int32) &&& 31).toUInt32).toInt32)))]))
            exact Owes.retI X0 hx hlk hret (hb hby d11_78) (by decide) (by decide) ⟨congrArg (fun z => some (Value.int z)) (by unfold f_nlzI; rw [if_pos hc1, if_pos hc2, if_neg hc3, if_neg hc7, if_neg hc9]; first | done | rfl), rfl, e0⟩
    · skip
      refine Owes.go ?_ fun t₀ k₀ => XS.icmpNo X0.here hx rfl (hb hby d11_22) rfl (flt hc2).1 k₀
      show Owes _ _ _ _ (s₁.setTop (mkF m 25 #[.val (.int p0), .val (.int (31 : Int32))] []))
      refine Owes.go ?_ fun t₀ k₀ => XS.iinc X0.here hx rfl (hb hby d11_25) rfl (l' := #[.val (.int p0), .val (.int ((31 : Int32) + (-16 : Int32)))]) rfl k₀
      show Owes _ _ _ _ (s₁.setTop (mkF m 28 #[.val (.int p0), .val (.int ((31 : Int32) + (-16 : Int32)))] []))
      refine Owes.go ?_ fun t₀ k₀ => XS.iloadN X0.here hx rfl (hb hby d11_28) rfl k₀
      show Owes _ _ _ _ (s₁.setTop (mkF m 29 #[.val (.int p0), .val (.int ((31 : Int32) + (-16 : Int32)))] [(.int p0)]))
      refine Owes.go ?_ fun t₀ k₀ => XS.bipush X0.here hx rfl (hb hby d11_29) k₀
      show Owes _ _ _ _ (s₁.setTop (mkF m 31 #[.val (.int p0), .val (.int ((31 : Int32) + (-16 : Int32)))] [(.int (16 : Int32)), (.int p0)]))
      refine Owes.go ?_ fun t₀ k₀ => XS.iushr X0.here hx rfl (hb hby d11_31) rfl k₀
      show Owes _ _ _ _ (s₁.setTop (mkF m 32 #[.val (.int p0), .val (.int ((31 : Int32) + (-16 : Int32)))] [(.int ((p0.toUInt32 >>> ((16 : Int32) &&& 31).toUInt32).toInt32))]))
      refine Owes.go ?_ fun t₀ k₀ => XS.istoreN X0.here hx rfl (hb hby d11_32) rfl (l' := #[.val (.int ((p0.toUInt32 >>> ((16 : Int32) &&& 31).toUInt32).toInt32)), .val (.int ((31 : Int32) + (-16 : Int32)))]) rfl k₀
      show Owes _ _ _ _ (s₁.setTop (mkF m 33 #[.val (.int ((p0.toUInt32 >>> ((16 : Int32) &&& 31).toUInt32).toInt32)), .val (.int ((31 : Int32) + (-16 : Int32)))] []))
      refine Owes.go ?_ fun t₀ k₀ => XS.iloadN X0.here hx rfl (hb hby d11_33) rfl k₀
      show Owes _ _ _ _ (s₁.setTop (mkF m 34 #[.val (.int ((p0.toUInt32 >>> ((16 : Int32) &&& 31).toUInt32).toInt32)), .val (.int ((31 : Int32) + (-16 : Int32)))] [(.int ((p0.toUInt32 >>> ((16 : Int32) &&& 31).toUInt32).toInt32))]))
      refine Owes.go ?_ fun t₀ k₀ => XS.sipush X0.here hx rfl (hb hby d11_34) k₀
      show Owes _ _ _ _ (s₁.setTop (mkF m 37 #[.val (.int ((p0.toUInt32 >>> ((16 : Int32) &&& 31).toUInt32).toInt32)), .val (.int ((31 : Int32) + (-16 : Int32)))] [(.int (256 : Int32)), (.int ((p0.toUInt32 >>> ((16 : Int32) &&& 31).toUInt32).toInt32))]))
      by_cases hc10 : ((p0.toUInt32 >>> ((16 : Int32) &&& 31).toUInt32).toInt32) < (256 : Int32)
      · skip
        refine Owes.go ?_ fun t₀ k₀ => XS.icmpYes X0.here hx rfl (pc0 := 37) (pc' := 48) rfl (hb hby d11_37) rfl (tlt hc10).1 (by decide) (by decide) k₀
        show Owes _ _ _ _ (s₁.setTop (mkF m 48 #[.val (.int ((p0.toUInt32 >>> ((16 : Int32) &&& 31).toUInt32).toInt32)), .val (.int ((31 : Int32) + (-16 : Int32)))] []))
        refine Owes.go ?_ fun t₀ k₀ => XS.iloadN X0.here hx rfl (hb hby d11_48) rfl k₀
        show Owes _ _ _ _ (s₁.setTop (mkF m 49 #[.val (.int ((p0.toUInt32 >>> ((16 : Int32) &&& 31).toUInt32).toInt32)), .val (.int ((31 : Int32) + (-16 : Int32)))] [(.int ((p0.toUInt32 >>> ((16 : Int32) &&& 31).toUInt32).toInt32))]))
        refine Owes.go ?_ fun t₀ k₀ => XS.bipush X0.here hx rfl (hb hby d11_49) k₀
        show Owes _ _ _ _ (s₁.setTop (mkF m 51 #[.val (.int ((p0.toUInt32 >>> ((16 : Int32) &&& 31).toUInt32).toInt32)), .val (.int ((31 : Int32) + (-16 : Int32)))] [(.int (16 : Int32)), (.int ((p0.toUInt32 >>> ((16 : Int32) &&& 31).toUInt32).toInt32))]))
        by_cases hc11 : ((p0.toUInt32 >>> ((16 : Int32) &&& 31).toUInt32).toInt32) < (16 : Int32)
        · skip
          refine Owes.go ?_ fun t₀ k₀ => XS.icmpYes X0.here hx rfl (pc0 := 51) (pc' := 61) rfl (hb hby d11_51) rfl (tlt hc11).1 (by decide) (by decide) k₀
          show Owes _ _ _ _ (s₁.setTop (mkF m 61 #[.val (.int ((p0.toUInt32 >>> ((16 : Int32) &&& 31).toUInt32).toInt32)), .val (.int ((31 : Int32) + (-16 : Int32)))] []))
          refine Owes.go ?_ fun t₀ k₀ => XS.iloadN X0.here hx rfl (hb hby d11_61) rfl k₀
          show Owes _ _ _ _ (s₁.setTop (mkF m 62 #[.val (.int ((p0.toUInt32 >>> ((16 : Int32) &&& 31).toUInt32).toInt32)), .val (.int ((31 : Int32) + (-16 : Int32)))] [(.int ((p0.toUInt32 >>> ((16 : Int32) &&& 31).toUInt32).toInt32))]))
          refine Owes.go ?_ fun t₀ k₀ => XS.iconst X0.here hx rfl (hb hby d11_62) k₀
          show Owes _ _ _ _ (s₁.setTop (mkF m 63 #[.val (.int ((p0.toUInt32 >>> ((16 : Int32) &&& 31).toUInt32).toInt32)), .val (.int ((31 : Int32) + (-16 : Int32)))] [(.int (4 : Int32)), (.int ((p0.toUInt32 >>> ((16 : Int32) &&& 31).toUInt32).toInt32))]))
          by_cases hc12 : ((p0.toUInt32 >>> ((16 : Int32) &&& 31).toUInt32).toInt32) < (4 : Int32)
          · skip
            refine Owes.go ?_ fun t₀ k₀ => XS.icmpYes X0.here hx rfl (pc0 := 63) (pc' := 73) rfl (hb hby d11_63) rfl (tlt hc12).1 (by decide) (by decide) k₀
            show Owes _ _ _ _ (s₁.setTop (mkF m 73 #[.val (.int ((p0.toUInt32 >>> ((16 : Int32) &&& 31).toUInt32).toInt32)), .val (.int ((31 : Int32) + (-16 : Int32)))] []))
            refine Owes.go ?_ fun t₀ k₀ => XS.iloadN X0.here hx rfl (hb hby d11_73) rfl k₀
            show Owes _ _ _ _ (s₁.setTop (mkF m 74 #[.val (.int ((p0.toUInt32 >>> ((16 : Int32) &&& 31).toUInt32).toInt32)), .val (.int ((31 : Int32) + (-16 : Int32)))] [(.int ((31 : Int32) + (-16 : Int32)))]))
            refine Owes.go ?_ fun t₀ k₀ => XS.iloadN X0.here hx rfl (hb hby d11_74) rfl k₀
            show Owes _ _ _ _ (s₁.setTop (mkF m 75 #[.val (.int ((p0.toUInt32 >>> ((16 : Int32) &&& 31).toUInt32).toInt32)), .val (.int ((31 : Int32) + (-16 : Int32)))] [(.int ((p0.toUInt32 >>> ((16 : Int32) &&& 31).toUInt32).toInt32)), (.int ((31 : Int32) + (-16 : Int32)))]))
            refine Owes.go ?_ fun t₀ k₀ => XS.iconst X0.here hx rfl (hb hby d11_75) k₀
            show Owes _ _ _ _ (s₁.setTop (mkF m 76 #[.val (.int ((p0.toUInt32 >>> ((16 : Int32) &&& 31).toUInt32).toInt32)), .val (.int ((31 : Int32) + (-16 : Int32)))] [(.int (1 : Int32)), (.int ((p0.toUInt32 >>> ((16 : Int32) &&& 31).toUInt32).toInt32)), (.int ((31 : Int32) + (-16 : Int32)))]))
            refine Owes.go ?_ fun t₀ k₀ => XS.iushr X0.here hx rfl (hb hby d11_76) rfl k₀
            show Owes _ _ _ _ (s₁.setTop (mkF m 77 #[.val (.int ((p0.toUInt32 >>> ((16 : Int32) &&& 31).toUInt32).toInt32)), .val (.int ((31 : Int32) + (-16 : Int32)))] [(.int ((((p0.toUInt32 >>> ((16 : Int32) &&& 31).toUInt32).toInt32).toUInt32 >>> ((1 : Int32) &&& 31).toUInt32).toInt32)), (.int ((31 : Int32) + (-16 : Int32)))]))
            refine Owes.go ?_ fun t₀ k₀ => XS.isub X0.here hx rfl (hb hby d11_77) rfl k₀
            show Owes _ _ _ _ (s₁.setTop (mkF m 78 #[.val (.int ((p0.toUInt32 >>> ((16 : Int32) &&& 31).toUInt32).toInt32)), .val (.int ((31 : Int32) + (-16 : Int32)))] [(.int (((31 : Int32) + (-16 : Int32)) - ((((p0.toUInt32 >>> ((16 : Int32) &&& 31).toUInt32).toInt32).toUInt32 >>> ((1 : Int32) &&& 31).toUInt32).toInt32)))]))
            exact Owes.retI X0 hx hlk hret (hb hby d11_78) (by decide) (by decide) ⟨congrArg (fun z => some (Value.int z)) (by unfold f_nlzI; rw [if_pos hc1, if_neg hc2, if_pos hc10, if_pos hc11, if_pos hc12]; first | done | rfl), rfl, e0⟩
          · skip
            refine Owes.go ?_ fun t₀ k₀ => XS.icmpNo X0.here hx rfl (hb hby d11_63) rfl (flt hc12).1 k₀
            show Owes _ _ _ _ (s₁.setTop (mkF m 66 #[.val (.int ((p0.toUInt32 >>> ((16 : Int32) &&& 31).toUInt32).toInt32)), .val (.int ((31 : Int32) + (-16 : Int32)))] []))
            refine Owes.go ?_ fun t₀ k₀ => XS.iinc X0.here hx rfl (hb hby d11_66) rfl (l' := #[.val (.int ((p0.toUInt32 >>> ((16 : Int32) &&& 31).toUInt32).toInt32)), .val (.int (((31 : Int32) + (-16 : Int32)) + (-2 : Int32)))]) rfl k₀
            show Owes _ _ _ _ (s₁.setTop (mkF m 69 #[.val (.int ((p0.toUInt32 >>> ((16 : Int32) &&& 31).toUInt32).toInt32)), .val (.int (((31 : Int32) + (-16 : Int32)) + (-2 : Int32)))] []))
            refine Owes.go ?_ fun t₀ k₀ => XS.iloadN X0.here hx rfl (hb hby d11_69) rfl k₀
            show Owes _ _ _ _ (s₁.setTop (mkF m 70 #[.val (.int ((p0.toUInt32 >>> ((16 : Int32) &&& 31).toUInt32).toInt32)), .val (.int (((31 : Int32) + (-16 : Int32)) + (-2 : Int32)))] [(.int ((p0.toUInt32 >>> ((16 : Int32) &&& 31).toUInt32).toInt32))]))
            refine Owes.go ?_ fun t₀ k₀ => XS.iconst X0.here hx rfl (hb hby d11_70) k₀
            show Owes _ _ _ _ (s₁.setTop (mkF m 71 #[.val (.int ((p0.toUInt32 >>> ((16 : Int32) &&& 31).toUInt32).toInt32)), .val (.int (((31 : Int32) + (-16 : Int32)) + (-2 : Int32)))] [(.int (2 : Int32)), (.int ((p0.toUInt32 >>> ((16 : Int32) &&& 31).toUInt32).toInt32))]))
            refine Owes.go ?_ fun t₀ k₀ => XS.iushr X0.here hx rfl (hb hby d11_71) rfl k₀
            show Owes _ _ _ _ (s₁.setTop (mkF m 72 #[.val (.int ((p0.toUInt32 >>> ((16 : Int32) &&& 31).toUInt32).toInt32)), .val (.int (((31 : Int32) + (-16 : Int32)) + (-2 : Int32)))] [(.int ((((p0.toUInt32 >>> ((16 : Int32) &&& 31).toUInt32).toInt32).toUInt32 >>> ((2 : Int32) &&& 31).toUInt32).toInt32))]))
            refine Owes.go ?_ fun t₀ k₀ => XS.istoreN X0.here hx rfl (hb hby d11_72) rfl (l' := #[.val (.int ((((p0.toUInt32 >>> ((16 : Int32) &&& 31).toUInt32).toInt32).toUInt32 >>> ((2 : Int32) &&& 31).toUInt32).toInt32)), .val (.int (((31 : Int32) + (-16 : Int32)) + (-2 : Int32)))]) rfl k₀
            show Owes _ _ _ _ (s₁.setTop (mkF m 73 #[.val (.int ((((p0.toUInt32 >>> ((16 : Int32) &&& 31).toUInt32).toInt32).toUInt32 >>> ((2 : Int32) &&& 31).toUInt32).toInt32)), .val (.int (((31 : Int32) + (-16 : Int32)) + (-2 : Int32)))] []))
            refine Owes.go ?_ fun t₀ k₀ => XS.iloadN X0.here hx rfl (hb hby d11_73) rfl k₀
            show Owes _ _ _ _ (s₁.setTop (mkF m 74 #[.val (.int ((((p0.toUInt32 >>> ((16 : Int32) &&& 31).toUInt32).toInt32).toUInt32 >>> ((2 : Int32) &&& 31).toUInt32).toInt32)), .val (.int (((31 : Int32) + (-16 : Int32)) + (-2 : Int32)))] [(.int (((31 : Int32) + (-16 : Int32)) + (-2 : Int32)))]))
            refine Owes.go ?_ fun t₀ k₀ => XS.iloadN X0.here hx rfl (hb hby d11_74) rfl k₀
            show Owes _ _ _ _ (s₁.setTop (mkF m 75 #[.val (.int ((((p0.toUInt32 >>> ((16 : Int32) &&& 31).toUInt32).toInt32).toUInt32 >>> ((2 : Int32) &&& 31).toUInt32).toInt32)), .val (.int (((31 : Int32) + (-16 : Int32)) + (-2 : Int32)))] [(.int ((((p0.toUInt32 >>> ((16 : Int32) &&& 31).toUInt32).toInt32).toUInt32 >>> ((2 : Int32) &&& 31).toUInt32).toInt32)), (.int (((31 : Int32) + (-16 : Int32)) + (-2 : Int32)))]))
            refine Owes.go ?_ fun t₀ k₀ => XS.iconst X0.here hx rfl (hb hby d11_75) k₀
            show Owes _ _ _ _ (s₁.setTop (mkF m 76 #[.val (.int ((((p0.toUInt32 >>> ((16 : Int32) &&& 31).toUInt32).toInt32).toUInt32 >>> ((2 : Int32) &&& 31).toUInt32).toInt32)), .val (.int (((31 : Int32) + (-16 : Int32)) + (-2 : Int32)))] [(.int (1 : Int32)), (.int ((((p0.toUInt32 >>> ((16 : Int32) &&& 31).toUInt32).toInt32).toUInt32 >>> ((2 : Int32) &&& 31).toUInt32).toInt32)), (.int (((31 : Int32) + (-16 : Int32)) + (-2 : Int32)))]))
            refine Owes.go ?_ fun t₀ k₀ => XS.iushr X0.here hx rfl (hb hby d11_76) rfl k₀
            show Owes _ _ _ _ (s₁.setTop (mkF m 77 #[.val (.int ((((p0.toUInt32 >>> ((16 : Int32) &&& 31).toUInt32).toInt32).toUInt32 >>> ((2 : Int32) &&& 31).toUInt32).toInt32)), .val (.int (((31 : Int32) + (-16 : Int32)) + (-2 : Int32)))] [(.int ((((((p0.toUInt32 >>> ((16 : Int32) &&& 31).toUInt32).toInt32).toUInt32 >>> ((2 : Int32) &&& 31).toUInt32).toInt32).toUInt32 >>> ((1 : Int32) &&& 31).toUInt32).toInt32)), (.int (((31 : Int32) + (-16 : Int32)) + (-2 : Int32)))]))
            refine Owes.go ?_ fun t₀ k₀ => XS.isub X0.here hx rfl (hb hby d11_77) rfl k₀
            show Owes _ _ _ _ (s₁.setTop (mkF m 78 #[.val (.int ((((p0.toUInt32 >>> ((16 : Int32) &&& 31).toUInt32).toInt32).toUInt32 >>> ((2 : Int32) &&& 31).toUInt32).toInt32)), .val (.int (((31 : Int32) + (-16 : Int32)) + (-2 : Int32)))] [(.int ((((31 : Int32) + (-16 : Int32)) + (-2 : Int32)) - ((((((p0.toUInt32 >>> ((16 : Int32) &&& 31).toUInt32).toInt32).toUInt32 >>> ((2 : Int32) &&& 31).toUInt32).toInt32).toUInt32 >>> ((1 : Int32) &&& 31).toUInt32).toInt32)))]))
            exact Owes.retI X0 hx hlk hret (hb hby d11_78) (by decide) (by decide) ⟨congrArg (fun z => some (Value.int z)) (by unfold f_nlzI; rw [if_pos hc1, if_neg hc2, if_pos hc10, if_pos hc11, if_neg hc12]; first | done | rfl), rfl, e0⟩
        · skip
          refine Owes.go ?_ fun t₀ k₀ => XS.icmpNo X0.here hx rfl (hb hby d11_51) rfl (flt hc11).1 k₀
          show Owes _ _ _ _ (s₁.setTop (mkF m 54 #[.val (.int ((p0.toUInt32 >>> ((16 : Int32) &&& 31).toUInt32).toInt32)), .val (.int ((31 : Int32) + (-16 : Int32)))] []))
          refine Owes.go ?_ fun t₀ k₀ => XS.iinc X0.here hx rfl (hb hby d11_54) rfl (l' := #[.val (.int ((p0.toUInt32 >>> ((16 : Int32) &&& 31).toUInt32).toInt32)), .val (.int (((31 : Int32) + (-16 : Int32)) + (-4 : Int32)))]) rfl k₀
          show Owes _ _ _ _ (s₁.setTop (mkF m 57 #[.val (.int ((p0.toUInt32 >>> ((16 : Int32) &&& 31).toUInt32).toInt32)), .val (.int (((31 : Int32) + (-16 : Int32)) + (-4 : Int32)))] []))
          refine Owes.go ?_ fun t₀ k₀ => XS.iloadN X0.here hx rfl (hb hby d11_57) rfl k₀
          show Owes _ _ _ _ (s₁.setTop (mkF m 58 #[.val (.int ((p0.toUInt32 >>> ((16 : Int32) &&& 31).toUInt32).toInt32)), .val (.int (((31 : Int32) + (-16 : Int32)) + (-4 : Int32)))] [(.int ((p0.toUInt32 >>> ((16 : Int32) &&& 31).toUInt32).toInt32))]))
          refine Owes.go ?_ fun t₀ k₀ => XS.iconst X0.here hx rfl (hb hby d11_58) k₀
          show Owes _ _ _ _ (s₁.setTop (mkF m 59 #[.val (.int ((p0.toUInt32 >>> ((16 : Int32) &&& 31).toUInt32).toInt32)), .val (.int (((31 : Int32) + (-16 : Int32)) + (-4 : Int32)))] [(.int (4 : Int32)), (.int ((p0.toUInt32 >>> ((16 : Int32) &&& 31).toUInt32).toInt32))]))
          refine Owes.go ?_ fun t₀ k₀ => XS.iushr X0.here hx rfl (hb hby d11_59) rfl k₀
          show Owes _ _ _ _ (s₁.setTop (mkF m 60 #[.val (.int ((p0.toUInt32 >>> ((16 : Int32) &&& 31).toUInt32).toInt32)), .val (.int (((31 : Int32) + (-16 : Int32)) + (-4 : Int32)))] [(.int ((((p0.toUInt32 >>> ((16 : Int32) &&& 31).toUInt32).toInt32).toUInt32 >>> ((4 : Int32) &&& 31).toUInt32).toInt32))]))
          refine Owes.go ?_ fun t₀ k₀ => XS.istoreN X0.here hx rfl (hb hby d11_60) rfl (l' := #[.val (.int ((((p0.toUInt32 >>> ((16 : Int32) &&& 31).toUInt32).toInt32).toUInt32 >>> ((4 : Int32) &&& 31).toUInt32).toInt32)), .val (.int (((31 : Int32) + (-16 : Int32)) + (-4 : Int32)))]) rfl k₀
          show Owes _ _ _ _ (s₁.setTop (mkF m 61 #[.val (.int ((((p0.toUInt32 >>> ((16 : Int32) &&& 31).toUInt32).toInt32).toUInt32 >>> ((4 : Int32) &&& 31).toUInt32).toInt32)), .val (.int (((31 : Int32) + (-16 : Int32)) + (-4 : Int32)))] []))
          refine Owes.go ?_ fun t₀ k₀ => XS.iloadN X0.here hx rfl (hb hby d11_61) rfl k₀
          show Owes _ _ _ _ (s₁.setTop (mkF m 62 #[.val (.int ((((p0.toUInt32 >>> ((16 : Int32) &&& 31).toUInt32).toInt32).toUInt32 >>> ((4 : Int32) &&& 31).toUInt32).toInt32)), .val (.int (((31 : Int32) + (-16 : Int32)) + (-4 : Int32)))] [(.int ((((p0.toUInt32 >>> ((16 : Int32) &&& 31).toUInt32).toInt32).toUInt32 >>> ((4 : Int32) &&& 31).toUInt32).toInt32))]))
          refine Owes.go ?_ fun t₀ k₀ => XS.iconst X0.here hx rfl (hb hby d11_62) k₀
          show Owes _ _ _ _ (s₁.setTop (mkF m 63 #[.val (.int ((((p0.toUInt32 >>> ((16 : Int32) &&& 31).toUInt32).toInt32).toUInt32 >>> ((4 : Int32) &&& 31).toUInt32).toInt32)), .val (.int (((31 : Int32) + (-16 : Int32)) + (-4 : Int32)))] [(.int (4 : Int32)), (.int ((((p0.toUInt32 >>> ((16 : Int32) &&& 31).toUInt32).toInt32).toUInt32 >>> ((4 : Int32) &&& 31).toUInt32).toInt32))]))
          by_cases hc13 : ((((p0.toUInt32 >>> ((16 : Int32) &&& 31).toUInt32).toInt32).toUInt32 >>> ((4 : Int32) &&& 31).toUInt32).toInt32) < (4 : Int32)
          · skip
            refine Owes.go ?_ fun t₀ k₀ => XS.icmpYes X0.here hx rfl (pc0 := 63) (pc' := 73) rfl (hb hby d11_63) rfl (tlt hc13).1 (by decide) (by decide) k₀
            show Owes _ _ _ _ (s₁.setTop (mkF m 73 #[.val (.int ((((p0.toUInt32 >>> ((16 : Int32) &&& 31).toUInt32).toInt32).toUInt32 >>> ((4 : Int32) &&& 31).toUInt32).toInt32)), .val (.int (((31 : Int32) + (-16 : Int32)) + (-4 : Int32)))] []))
            refine Owes.go ?_ fun t₀ k₀ => XS.iloadN X0.here hx rfl (hb hby d11_73) rfl k₀
            show Owes _ _ _ _ (s₁.setTop (mkF m 74 #[.val (.int ((((p0.toUInt32 >>> ((16 : Int32) &&& 31).toUInt32).toInt32).toUInt32 >>> ((4 : Int32) &&& 31).toUInt32).toInt32)), .val (.int (((31 : Int32) + (-16 : Int32)) + (-4 : Int32)))] [(.int (((31 : Int32) + (-16 : Int32)) + (-4 : Int32)))]))
            refine Owes.go ?_ fun t₀ k₀ => XS.iloadN X0.here hx rfl (hb hby d11_74) rfl k₀
            show Owes _ _ _ _ (s₁.setTop (mkF m 75 #[.val (.int ((((p0.toUInt32 >>> ((16 : Int32) &&& 31).toUInt32).toInt32).toUInt32 >>> ((4 : Int32) &&& 31).toUInt32).toInt32)), .val (.int (((31 : Int32) + (-16 : Int32)) + (-4 : Int32)))] [(.int ((((p0.toUInt32 >>> ((16 : Int32) &&& 31).toUInt32).toInt32).toUInt32 >>> ((4 : Int32) &&& 31).toUInt32).toInt32)), (.int (((31 : Int32) + (-16 : Int32)) + (-4 : Int32)))]))
            refine Owes.go ?_ fun t₀ k₀ => XS.iconst X0.here hx rfl (hb hby d11_75) k₀
            show Owes _ _ _ _ (s₁.setTop (mkF m 76 #[.val (.int ((((p0.toUInt32 >>> ((16 : Int32) &&& 31).toUInt32).toInt32).toUInt32 >>> ((4 : Int32) &&& 31).toUInt32).toInt32)), .val (.int (((31 : Int32) + (-16 : Int32)) + (-4 : Int32)))] [(.int (1 : Int32)), (.int ((((p0.toUInt32 >>> ((16 : Int32) &&& 31).toUInt32).toInt32).toUInt32 >>> ((4 : Int32) &&& 31).toUInt32).toInt32)), (.int (((31 : Int32) + (-16 : Int32)) + (-4 : Int32)))]))
            refine Owes.go ?_ fun t₀ k₀ => XS.iushr X0.here hx rfl (hb hby d11_76) rfl k₀
            show Owes _ _ _ _ (s₁.setTop (mkF m 77 #[.val (.int ((((p0.toUInt32 >>> ((16 : Int32) &&& 31).toUInt32).toInt32).toUInt32 >>> ((4 : Int32) &&& 31).toUInt32).toInt32)), .val (.int (((31 : Int32) + (-16 : Int32)) + (-4 : Int32)))] [(.int ((((((p0.toUInt32 >>> ((16 : Int32) &&& 31).toUInt32).toInt32).toUInt32 >>> ((4 : Int32) &&& 31).toUInt32).toInt32).toUInt32 >>> ((1 : Int32) &&& 31).toUInt32).toInt32)), (.int (((31 : Int32) + (-16 : Int32)) + (-4 : Int32)))]))
            refine Owes.go ?_ fun t₀ k₀ => XS.isub X0.here hx rfl (hb hby d11_77) rfl k₀
            show Owes _ _ _ _ (s₁.setTop (mkF m 78 #[.val (.int ((((p0.toUInt32 >>> ((16 : Int32) &&& 31).toUInt32).toInt32).toUInt32 >>> ((4 : Int32) &&& 31).toUInt32).toInt32)), .val (.int (((31 : Int32) + (-16 : Int32)) + (-4 : Int32)))] [(.int ((((31 : Int32) + (-16 : Int32)) + (-4 : Int32)) - ((((((p0.toUInt32 >>> ((16 : Int32) &&& 31).toUInt32).toInt32).toUInt32 >>> ((4 : Int32) &&& 31).toUInt32).toInt32).toUInt32 >>> ((1 : Int32) &&& 31).toUInt32).toInt32)))]))
            exact Owes.retI X0 hx hlk hret (hb hby d11_78) (by decide) (by decide) ⟨congrArg (fun z => some (Value.int z)) (by unfold f_nlzI; rw [if_pos hc1, if_neg hc2, if_pos hc10, if_neg hc11, if_pos hc13]; first | done | rfl), rfl, e0⟩
          · skip
            refine Owes.go ?_ fun t₀ k₀ => XS.icmpNo X0.here hx rfl (hb hby d11_63) rfl (flt hc13).1 k₀
            show Owes _ _ _ _ (s₁.setTop (mkF m 66 #[.val (.int ((((p0.toUInt32 >>> ((16 : Int32) &&& 31).toUInt32).toInt32).toUInt32 >>> ((4 : Int32) &&& 31).toUInt32).toInt32)), .val (.int (((31 : Int32) + (-16 : Int32)) + (-4 : Int32)))] []))
            refine Owes.go ?_ fun t₀ k₀ => XS.iinc X0.here hx rfl (hb hby d11_66) rfl (l' := #[.val (.int ((((p0.toUInt32 >>> ((16 : Int32) &&& 31).toUInt32).toInt32).toUInt32 >>> ((4 : Int32) &&& 31).toUInt32).toInt32)), .val (.int ((((31 : Int32) + (-16 : Int32)) + (-4 : Int32)) + (-2 : Int32)))]) rfl k₀
            show Owes _ _ _ _ (s₁.setTop (mkF m 69 #[.val (.int ((((p0.toUInt32 >>> ((16 : Int32) &&& 31).toUInt32).toInt32).toUInt32 >>> ((4 : Int32) &&& 31).toUInt32).toInt32)), .val (.int ((((31 : Int32) + (-16 : Int32)) + (-4 : Int32)) + (-2 : Int32)))] []))
            refine Owes.go ?_ fun t₀ k₀ => XS.iloadN X0.here hx rfl (hb hby d11_69) rfl k₀
            show Owes _ _ _ _ (s₁.setTop (mkF m 70 #[.val (.int ((((p0.toUInt32 >>> ((16 : Int32) &&& 31).toUInt32).toInt32).toUInt32 >>> ((4 : Int32) &&& 31).toUInt32).toInt32)), .val (.int ((((31 : Int32) + (-16 : Int32)) + (-4 : Int32)) + (-2 : Int32)))] [(.int ((((p0.toUInt32 >>> ((16 : Int32) &&& 31).toUInt32).toInt32).toUInt32 >>> ((4 : Int32) &&& 31).toUInt32).toInt32))]))
            refine Owes.go ?_ fun t₀ k₀ => XS.iconst X0.here hx rfl (hb hby d11_70) k₀
            show Owes _ _ _ _ (s₁.setTop (mkF m 71 #[.val (.int ((((p0.toUInt32 >>> ((16 : Int32) &&& 31).toUInt32).toInt32).toUInt32 >>> ((4 : Int32) &&& 31).toUInt32).toInt32)), .val (.int ((((31 : Int32) + (-16 : Int32)) + (-4 : Int32)) + (-2 : Int32)))] [(.int (2 : Int32)), (.int ((((p0.toUInt32 >>> ((16 : Int32) &&& 31).toUInt32).toInt32).toUInt32 >>> ((4 : Int32) &&& 31).toUInt32).toInt32))]))
            refine Owes.go ?_ fun t₀ k₀ => XS.iushr X0.here hx rfl (hb hby d11_71) rfl k₀
            show Owes _ _ _ _ (s₁.setTop (mkF m 72 #[.val (.int ((((p0.toUInt32 >>> ((16 : Int32) &&& 31).toUInt32).toInt32).toUInt32 >>> ((4 : Int32) &&& 31).toUInt32).toInt32)), .val (.int ((((31 : Int32) + (-16 : Int32)) + (-4 : Int32)) + (-2 : Int32)))] [(.int ((((((p0.toUInt32 >>> ((16 : Int32) &&& 31).toUInt32).toInt32).toUInt32 >>> ((4 : Int32) &&& 31).toUInt32).toInt32).toUInt32 >>> ((2 : Int32) &&& 31).toUInt32).toInt32))]))
            refine Owes.go ?_ fun t₀ k₀ => XS.istoreN X0.here hx rfl (hb hby d11_72) rfl (l' := #[.val (.int ((((((p0.toUInt32 >>> ((16 : Int32) &&& 31).toUInt32).toInt32).toUInt32 >>> ((4 : Int32) &&& 31).toUInt32).toInt32).toUInt32 >>> ((2 : Int32) &&& 31).toUInt32).toInt32)), .val (.int ((((31 : Int32) + (-16 : Int32)) + (-4 : Int32)) + (-2 : Int32)))]) rfl k₀
            show Owes _ _ _ _ (s₁.setTop (mkF m 73 #[.val (.int ((((((p0.toUInt32 >>> ((16 : Int32) &&& 31).toUInt32).toInt32).toUInt32 >>> ((4 : Int32) &&& 31).toUInt32).toInt32).toUInt32 >>> ((2 : Int32) &&& 31).toUInt32).toInt32)), .val (.int ((((31 : Int32) + (-16 : Int32)) + (-4 : Int32)) + (-2 : Int32)))] []))
            refine Owes.go ?_ fun t₀ k₀ => XS.iloadN X0.here hx rfl (hb hby d11_73) rfl k₀
            show Owes _ _ _ _ (s₁.setTop (mkF m 74 #[.val (.int ((((((p0.toUInt32 >>> ((16 : Int32) &&& 31).toUInt32).toInt32).toUInt32 >>> ((4 : Int32) &&& 31).toUInt32).toInt32).toUInt32 >>> ((2 : Int32) &&& 31).toUInt32).toInt32)), .val (.int ((((31 : Int32) + (-16 : Int32)) + (-4 : Int32)) + (-2 : Int32)))] [(.int ((((31 : Int32) + (-16 : Int32)) + (-4 : Int32)) + (-2 : Int32)))]))
            refine Owes.go ?_ fun t₀ k₀ => XS.iloadN X0.here hx rfl (hb hby d11_74) rfl k₀
            show Owes _ _ _ _ (s₁.setTop (mkF m 75 #[.val (.int ((((((p0.toUInt32 >>> ((16 : Int32) &&& 31).toUInt32).toInt32).toUInt32 >>> ((4 : Int32) &&& 31).toUInt32).toInt32).toUInt32 >>> ((2 : Int32) &&& 31).toUInt32).toInt32)), .val (.int ((((31 : Int32) + (-16 : Int32)) + (-4 : Int32)) + (-2 : Int32)))] [(.int ((((((p0.toUInt32 >>> ((16 : Int32) &&& 31).toUInt32).toInt32).toUInt32 >>> ((4 : Int32) &&& 31).toUInt32).toInt32).toUInt32 >>> ((2 : Int32) &&& 31).toUInt32).toInt32)), (.int ((((31 : Int32) + (-16 : Int32)) + (-4 : Int32)) + (-2 : Int32)))]))
            refine Owes.go ?_ fun t₀ k₀ => XS.iconst X0.here hx rfl (hb hby d11_75) k₀
            show Owes _ _ _ _ (s₁.setTop (mkF m 76 #[.val (.int ((((((p0.toUInt32 >>> ((16 : Int32) &&& 31).toUInt32).toInt32).toUInt32 >>> ((4 : Int32) &&& 31).toUInt32).toInt32).toUInt32 >>> ((2 : Int32) &&& 31).toUInt32).toInt32)), .val (.int ((((31 : Int32) + (-16 : Int32)) + (-4 : Int32)) + (-2 : Int32)))] [(.int (1 : Int32)), (.int ((((((p0.toUInt32 >>> ((16 : Int32) &&& 31).toUInt32).toInt32).toUInt32 >>> ((4 : Int32) &&& 31).toUInt32).toInt32).toUInt32 >>> ((2 : Int32) &&& 31).toUInt32).toInt32)), (.int ((((31 : Int32) + (-16 : Int32)) + (-4 : Int32)) + (-2 : Int32)))]))
            refine Owes.go ?_ fun t₀ k₀ => XS.iushr X0.here hx rfl (hb hby d11_76) rfl k₀
            show Owes _ _ _ _ (s₁.setTop (mkF m 77 #[.val (.int ((((((p0.toUInt32 >>> ((16 : Int32) &&& 31).toUInt32).toInt32).toUInt32 >>> ((4 : Int32) &&& 31).toUInt32).toInt32).toUInt32 >>> ((2 : Int32) &&& 31).toUInt32).toInt32)), .val (.int ((((31 : Int32) + (-16 : Int32)) + (-4 : Int32)) + (-2 : Int32)))] [(.int ((((((((p0.toUInt32 >>> ((16 : Int32) &&& 31).toUInt32).toInt32).toUInt32 >>> ((4 : Int32) &&& 31).toUInt32).toInt32).toUInt32 >>> ((2 : Int32) &&& 31).toUInt32).toInt32).toUInt32 >>> ((1 : Int32) &&& 31).toUInt32).toInt32)), (.int ((((31 : Int32) + (-16 : Int32)) + (-4 : Int32)) + (-2 : Int32)))]))
            refine Owes.go ?_ fun t₀ k₀ => XS.isub X0.here hx rfl (hb hby d11_77) rfl k₀
            show Owes _ _ _ _ (s₁.setTop (mkF m 78 #[.val (.int ((((((p0.toUInt32 >>> ((16 : Int32) &&& 31).toUInt32).toInt32).toUInt32 >>> ((4 : Int32) &&& 31).toUInt32).toInt32).toUInt32 >>> ((2 : Int32) &&& 31).toUInt32).toInt32)), .val (.int ((((31 : Int32) + (-16 : Int32)) + (-4 : Int32)) + (-2 : Int32)))] [(.int (((((31 : Int32) + (-16 : Int32)) + (-4 : Int32)) + (-2 : Int32)) - ((((((((p0.toUInt32 >>> ((16 : Int32) &&& 31).toUInt32).toInt32).toUInt32 >>> ((4 : Int32) &&& 31).toUInt32).toInt32).toUInt32 >>> ((2 : Int32) &&& 31).toUInt32).toInt32).toUInt32 >>> ((1 : Int32) &&& 31).toUInt32).toInt32)))]))
            exact Owes.retI X0 hx hlk hret (hb hby d11_78) (by decide) (by decide) ⟨congrArg (fun z => some (Value.int z)) (by unfold f_nlzI; rw [if_pos hc1, if_neg hc2, if_pos hc10, if_neg hc11, if_neg hc13]; first | done | rfl), rfl, e0⟩
      · skip
        refine Owes.go ?_ fun t₀ k₀ => XS.icmpNo X0.here hx rfl (hb hby d11_37) rfl (flt hc10).1 k₀
        show Owes _ _ _ _ (s₁.setTop (mkF m 40 #[.val (.int ((p0.toUInt32 >>> ((16 : Int32) &&& 31).toUInt32).toInt32)), .val (.int ((31 : Int32) + (-16 : Int32)))] []))
        refine Owes.go ?_ fun t₀ k₀ => XS.iinc X0.here hx rfl (hb hby d11_40) rfl (l' := #[.val (.int ((p0.toUInt32 >>> ((16 : Int32) &&& 31).toUInt32).toInt32)), .val (.int (((31 : Int32) + (-16 : Int32)) + (-8 : Int32)))]) rfl k₀
        show Owes _ _ _ _ (s₁.setTop (mkF m 43 #[.val (.int ((p0.toUInt32 >>> ((16 : Int32) &&& 31).toUInt32).toInt32)), .val (.int (((31 : Int32) + (-16 : Int32)) + (-8 : Int32)))] []))
        refine Owes.go ?_ fun t₀ k₀ => XS.iloadN X0.here hx rfl (hb hby d11_43) rfl k₀
        show Owes _ _ _ _ (s₁.setTop (mkF m 44 #[.val (.int ((p0.toUInt32 >>> ((16 : Int32) &&& 31).toUInt32).toInt32)), .val (.int (((31 : Int32) + (-16 : Int32)) + (-8 : Int32)))] [(.int ((p0.toUInt32 >>> ((16 : Int32) &&& 31).toUInt32).toInt32))]))
        refine Owes.go ?_ fun t₀ k₀ => XS.bipush X0.here hx rfl (hb hby d11_44) k₀
        show Owes _ _ _ _ (s₁.setTop (mkF m 46 #[.val (.int ((p0.toUInt32 >>> ((16 : Int32) &&& 31).toUInt32).toInt32)), .val (.int (((31 : Int32) + (-16 : Int32)) + (-8 : Int32)))] [(.int (8 : Int32)), (.int ((p0.toUInt32 >>> ((16 : Int32) &&& 31).toUInt32).toInt32))]))
        refine Owes.go ?_ fun t₀ k₀ => XS.iushr X0.here hx rfl (hb hby d11_46) rfl k₀
        show Owes _ _ _ _ (s₁.setTop (mkF m 47 #[.val (.int ((p0.toUInt32 >>> ((16 : Int32) &&& 31).toUInt32).toInt32)), .val (.int (((31 : Int32) + (-16 : Int32)) + (-8 : Int32)))] [(.int ((((p0.toUInt32 >>> ((16 : Int32) &&& 31).toUInt32).toInt32).toUInt32 >>> ((8 : Int32) &&& 31).toUInt32).toInt32))]))
        refine Owes.go ?_ fun t₀ k₀ => XS.istoreN X0.here hx rfl (hb hby d11_47) rfl (l' := #[.val (.int ((((p0.toUInt32 >>> ((16 : Int32) &&& 31).toUInt32).toInt32).toUInt32 >>> ((8 : Int32) &&& 31).toUInt32).toInt32)), .val (.int (((31 : Int32) + (-16 : Int32)) + (-8 : Int32)))]) rfl k₀
        show Owes _ _ _ _ (s₁.setTop (mkF m 48 #[.val (.int ((((p0.toUInt32 >>> ((16 : Int32) &&& 31).toUInt32).toInt32).toUInt32 >>> ((8 : Int32) &&& 31).toUInt32).toInt32)), .val (.int (((31 : Int32) + (-16 : Int32)) + (-8 : Int32)))] []))
        refine Owes.go ?_ fun t₀ k₀ => XS.iloadN X0.here hx rfl (hb hby d11_48) rfl k₀
        show Owes _ _ _ _ (s₁.setTop (mkF m 49 #[.val (.int ((((p0.toUInt32 >>> ((16 : Int32) &&& 31).toUInt32).toInt32).toUInt32 >>> ((8 : Int32) &&& 31).toUInt32).toInt32)), .val (.int (((31 : Int32) + (-16 : Int32)) + (-8 : Int32)))] [(.int ((((p0.toUInt32 >>> ((16 : Int32) &&& 31).toUInt32).toInt32).toUInt32 >>> ((8 : Int32) &&& 31).toUInt32).toInt32))]))
        refine Owes.go ?_ fun t₀ k₀ => XS.bipush X0.here hx rfl (hb hby d11_49) k₀
        show Owes _ _ _ _ (s₁.setTop (mkF m 51 #[.val (.int ((((p0.toUInt32 >>> ((16 : Int32) &&& 31).toUInt32).toInt32).toUInt32 >>> ((8 : Int32) &&& 31).toUInt32).toInt32)), .val (.int (((31 : Int32) + (-16 : Int32)) + (-8 : Int32)))] [(.int (16 : Int32)), (.int ((((p0.toUInt32 >>> ((16 : Int32) &&& 31).toUInt32).toInt32).toUInt32 >>> ((8 : Int32) &&& 31).toUInt32).toInt32))]))
        by_cases hc14 : ((((p0.toUInt32 >>> ((16 : Int32) &&& 31).toUInt32).toInt32).toUInt32 >>> ((8 : Int32) &&& 31).toUInt32).toInt32) < (16 : Int32)
        · skip
          refine Owes.go ?_ fun t₀ k₀ => XS.icmpYes X0.here hx rfl (pc0 := 51) (pc' := 61) rfl (hb hby d11_51) rfl (tlt hc14).1 (by decide) (by decide) k₀
          show Owes _ _ _ _ (s₁.setTop (mkF m 61 #[.val (.int ((((p0.toUInt32 >>> ((16 : Int32) &&& 31).toUInt32).toInt32).toUInt32 >>> ((8 : Int32) &&& 31).toUInt32).toInt32)), .val (.int (((31 : Int32) + (-16 : Int32)) + (-8 : Int32)))] []))
          refine Owes.go ?_ fun t₀ k₀ => XS.iloadN X0.here hx rfl (hb hby d11_61) rfl k₀
          show Owes _ _ _ _ (s₁.setTop (mkF m 62 #[.val (.int ((((p0.toUInt32 >>> ((16 : Int32) &&& 31).toUInt32).toInt32).toUInt32 >>> ((8 : Int32) &&& 31).toUInt32).toInt32)), .val (.int (((31 : Int32) + (-16 : Int32)) + (-8 : Int32)))] [(.int ((((p0.toUInt32 >>> ((16 : Int32) &&& 31).toUInt32).toInt32).toUInt32 >>> ((8 : Int32) &&& 31).toUInt32).toInt32))]))
          refine Owes.go ?_ fun t₀ k₀ => XS.iconst X0.here hx rfl (hb hby d11_62) k₀
          show Owes _ _ _ _ (s₁.setTop (mkF m 63 #[.val (.int ((((p0.toUInt32 >>> ((16 : Int32) &&& 31).toUInt32).toInt32).toUInt32 >>> ((8 : Int32) &&& 31).toUInt32).toInt32)), .val (.int (((31 : Int32) + (-16 : Int32)) + (-8 : Int32)))] [(.int (4 : Int32)), (.int ((((p0.toUInt32 >>> ((16 : Int32) &&& 31).toUInt32).toInt32).toUInt32 >>> ((8 : Int32) &&& 31).toUInt32).toInt32))]))
          by_cases hc15 : ((((p0.toUInt32 >>> ((16 : Int32) &&& 31).toUInt32).toInt32).toUInt32 >>> ((8 : Int32) &&& 31).toUInt32).toInt32) < (4 : Int32)
          · skip
            refine Owes.go ?_ fun t₀ k₀ => XS.icmpYes X0.here hx rfl (pc0 := 63) (pc' := 73) rfl (hb hby d11_63) rfl (tlt hc15).1 (by decide) (by decide) k₀
            show Owes _ _ _ _ (s₁.setTop (mkF m 73 #[.val (.int ((((p0.toUInt32 >>> ((16 : Int32) &&& 31).toUInt32).toInt32).toUInt32 >>> ((8 : Int32) &&& 31).toUInt32).toInt32)), .val (.int (((31 : Int32) + (-16 : Int32)) + (-8 : Int32)))] []))
            refine Owes.go ?_ fun t₀ k₀ => XS.iloadN X0.here hx rfl (hb hby d11_73) rfl k₀
            show Owes _ _ _ _ (s₁.setTop (mkF m 74 #[.val (.int ((((p0.toUInt32 >>> ((16 : Int32) &&& 31).toUInt32).toInt32).toUInt32 >>> ((8 : Int32) &&& 31).toUInt32).toInt32)), .val (.int (((31 : Int32) + (-16 : Int32)) + (-8 : Int32)))] [(.int (((31 : Int32) + (-16 : Int32)) + (-8 : Int32)))]))
            refine Owes.go ?_ fun t₀ k₀ => XS.iloadN X0.here hx rfl (hb hby d11_74) rfl k₀
            show Owes _ _ _ _ (s₁.setTop (mkF m 75 #[.val (.int ((((p0.toUInt32 >>> ((16 : Int32) &&& 31).toUInt32).toInt32).toUInt32 >>> ((8 : Int32) &&& 31).toUInt32).toInt32)), .val (.int (((31 : Int32) + (-16 : Int32)) + (-8 : Int32)))] [(.int ((((p0.toUInt32 >>> ((16 : Int32) &&& 31).toUInt32).toInt32).toUInt32 >>> ((8 : Int32) &&& 31).toUInt32).toInt32)), (.int (((31 : Int32) + (-16 : Int32)) + (-8 : Int32)))]))
            refine Owes.go ?_ fun t₀ k₀ => XS.iconst X0.here hx rfl (hb hby d11_75) k₀
            show Owes _ _ _ _ (s₁.setTop (mkF m 76 #[.val (.int ((((p0.toUInt32 >>> ((16 : Int32) &&& 31).toUInt32).toInt32).toUInt32 >>> ((8 : Int32) &&& 31).toUInt32).toInt32)), .val (.int (((31 : Int32) + (-16 : Int32)) + (-8 : Int32)))] [(.int (1 : Int32)), (.int ((((p0.toUInt32 >>> ((16 : Int32) &&& 31).toUInt32).toInt32).toUInt32 >>> ((8 : Int32) &&& 31).toUInt32).toInt32)), (.int (((31 : Int32) + (-16 : Int32)) + (-8 : Int32)))]))
            refine Owes.go ?_ fun t₀ k₀ => XS.iushr X0.here hx rfl (hb hby d11_76) rfl k₀
            show Owes _ _ _ _ (s₁.setTop (mkF m 77 #[.val (.int ((((p0.toUInt32 >>> ((16 : Int32) &&& 31).toUInt32).toInt32).toUInt32 >>> ((8 : Int32) &&& 31).toUInt32).toInt32)), .val (.int (((31 : Int32) + (-16 : Int32)) + (-8 : Int32)))] [(.int ((((((p0.toUInt32 >>> ((16 : Int32) &&& 31).toUInt32).toInt32).toUInt32 >>> ((8 : Int32) &&& 31).toUInt32).toInt32).toUInt32 >>> ((1 : Int32) &&& 31).toUInt32).toInt32)), (.int (((31 : Int32) + (-16 : Int32)) + (-8 : Int32)))]))
            refine Owes.go ?_ fun t₀ k₀ => XS.isub X0.here hx rfl (hb hby d11_77) rfl k₀
            show Owes _ _ _ _ (s₁.setTop (mkF m 78 #[.val (.int ((((p0.toUInt32 >>> ((16 : Int32) &&& 31).toUInt32).toInt32).toUInt32 >>> ((8 : Int32) &&& 31).toUInt32).toInt32)), .val (.int (((31 : Int32) + (-16 : Int32)) + (-8 : Int32)))] [(.int ((((31 : Int32) + (-16 : Int32)) + (-8 : Int32)) - ((((((p0.toUInt32 >>> ((16 : Int32) &&& 31).toUInt32).toInt32).toUInt32 >>> ((8 : Int32) &&& 31).toUInt32).toInt32).toUInt32 >>> ((1 : Int32) &&& 31).toUInt32).toInt32)))]))
            exact Owes.retI X0 hx hlk hret (hb hby d11_78) (by decide) (by decide) ⟨congrArg (fun z => some (Value.int z)) (by unfold f_nlzI; rw [if_pos hc1, if_neg hc2, if_neg hc10, if_pos hc14, if_pos hc15]; first | done | rfl), rfl, e0⟩
          · skip
            refine Owes.go ?_ fun t₀ k₀ => XS.icmpNo X0.here hx rfl (hb hby d11_63) rfl (flt hc15).1 k₀
            show Owes _ _ _ _ (s₁.setTop (mkF m 66 #[.val (.int ((((p0.toUInt32 >>> ((16 : Int32) &&& 31).toUInt32).toInt32).toUInt32 >>> ((8 : Int32) &&& 31).toUInt32).toInt32)), .val (.int (((31 : Int32) + (-16 : Int32)) + (-8 : Int32)))] []))
            refine Owes.go ?_ fun t₀ k₀ => XS.iinc X0.here hx rfl (hb hby d11_66) rfl (l' := #[.val (.int ((((p0.toUInt32 >>> ((16 : Int32) &&& 31).toUInt32).toInt32).toUInt32 >>> ((8 : Int32) &&& 31).toUInt32).toInt32)), .val (.int ((((31 : Int32) + (-16 : Int32)) + (-8 : Int32)) + (-2 : Int32)))]) rfl k₀
            show Owes _ _ _ _ (s₁.setTop (mkF m 69 #[.val (.int ((((p0.toUInt32 >>> ((16 : Int32) &&& 31).toUInt32).toInt32).toUInt32 >>> ((8 : Int32) &&& 31).toUInt32).toInt32)), .val (.int ((((31 : Int32) + (-16 : Int32)) + (-8 : Int32)) + (-2 : Int32)))] []))
            refine Owes.go ?_ fun t₀ k₀ => XS.iloadN X0.here hx rfl (hb hby d11_69) rfl k₀
            show Owes _ _ _ _ (s₁.setTop (mkF m 70 #[.val (.int ((((p0.toUInt32 >>> ((16 : Int32) &&& 31).toUInt32).toInt32).toUInt32 >>> ((8 : Int32) &&& 31).toUInt32).toInt32)), .val (.int ((((31 : Int32) + (-16 : Int32)) + (-8 : Int32)) + (-2 : Int32)))] [(.int ((((p0.toUInt32 >>> ((16 : Int32) &&& 31).toUInt32).toInt32).toUInt32 >>> ((8 : Int32) &&& 31).toUInt32).toInt32))]))
            refine Owes.go ?_ fun t₀ k₀ => XS.iconst X0.here hx rfl (hb hby d11_70) k₀
            show Owes _ _ _ _ (s₁.setTop (mkF m 71 #[.val (.int ((((p0.toUInt32 >>> ((16 : Int32) &&& 31).toUInt32).toInt32).toUInt32 >>> ((8 : Int32) &&& 31).toUInt32).toInt32)), .val (.int ((((31 : Int32) + (-16 : Int32)) + (-8 : Int32)) + (-2 : Int32)))] [(.int (2 : Int32)), (.int ((((p0.toUInt32 >>> ((16 : Int32) &&& 31).toUInt32).toInt32).toUInt32 >>> ((8 : Int32) &&& 31).toUInt32).toInt32))]))
            refine Owes.go ?_ fun t₀ k₀ => XS.iushr X0.here hx rfl (hb hby d11_71) rfl k₀
            show Owes _ _ _ _ (s₁.setTop (mkF m 72 #[.val (.int ((((p0.toUInt32 >>> ((16 : Int32) &&& 31).toUInt32).toInt32).toUInt32 >>> ((8 : Int32) &&& 31).toUInt32).toInt32)), .val (.int ((((31 : Int32) + (-16 : Int32)) + (-8 : Int32)) + (-2 : Int32)))] [(.int ((((((p0.toUInt32 >>> ((16 : Int32) &&& 31).toUInt32).toInt32).toUInt32 >>> ((8 : Int32) &&& 31).toUInt32).toInt32).toUInt32 >>> ((2 : Int32) &&& 31).toUInt32).toInt32))]))
            refine Owes.go ?_ fun t₀ k₀ => XS.istoreN X0.here hx rfl (hb hby d11_72) rfl (l' := #[.val (.int ((((((p0.toUInt32 >>> ((16 : Int32) &&& 31).toUInt32).toInt32).toUInt32 >>> ((8 : Int32) &&& 31).toUInt32).toInt32).toUInt32 >>> ((2 : Int32) &&& 31).toUInt32).toInt32)), .val (.int ((((31 : Int32) + (-16 : Int32)) + (-8 : Int32)) + (-2 : Int32)))]) rfl k₀
            show Owes _ _ _ _ (s₁.setTop (mkF m 73 #[.val (.int ((((((p0.toUInt32 >>> ((16 : Int32) &&& 31).toUInt32).toInt32).toUInt32 >>> ((8 : Int32) &&& 31).toUInt32).toInt32).toUInt32 >>> ((2 : Int32) &&& 31).toUInt32).toInt32)), .val (.int ((((31 : Int32) + (-16 : Int32)) + (-8 : Int32)) + (-2 : Int32)))] []))
            refine Owes.go ?_ fun t₀ k₀ => XS.iloadN X0.here hx rfl (hb hby d11_73) rfl k₀
            show Owes _ _ _ _ (s₁.setTop (mkF m 74 #[.val (.int ((((((p0.toUInt32 >>> ((16 : Int32) &&& 31).toUInt32).toInt32).toUInt32 >>> ((8 : Int32) &&& 31).toUInt32).toInt32).toUInt32 >>> ((2 : Int32) &&& 31).toUInt32).toInt32)), .val (.int ((((31 : Int32) + (-16 : Int32)) + (-8 : Int32)) + (-2 : Int32)))] [(.int ((((31 : Int32) + (-16 : Int32)) + (-8 : Int32)) + (-2 : Int32)))]))
            refine Owes.go ?_ fun t₀ k₀ => XS.iloadN X0.here hx rfl (hb hby d11_74) rfl k₀
            show Owes _ _ _ _ (s₁.setTop (mkF m 75 #[.val (.int ((((((p0.toUInt32 >>> ((16 : Int32) &&& 31).toUInt32).toInt32).toUInt32 >>> ((8 : Int32) &&& 31).toUInt32).toInt32).toUInt32 >>> ((2 : Int32) &&& 31).toUInt32).toInt32)), .val (.int ((((31 : Int32) + (-16 : Int32)) + (-8 : Int32)) + (-2 : Int32)))] [(.int ((((((p0.toUInt32 >>> ((16 : Int32) &&& 31).toUInt32).toInt32).toUInt32 >>> ((8 : Int32) &&& 31).toUInt32).toInt32).toUInt32 >>> ((2 : Int32) &&& 31).toUInt32).toInt32)), (.int ((((31 : Int32) + (-16 : Int32)) + (-8 : Int32)) + (-2 : Int32)))]))
            refine Owes.go ?_ fun t₀ k₀ => XS.iconst X0.here hx rfl (hb hby d11_75) k₀
            show Owes _ _ _ _ (s₁.setTop (mkF m 76 #[.val (.int ((((((p0.toUInt32 >>> ((16 : Int32) &&& 31).toUInt32).toInt32).toUInt32 >>> ((8 : Int32) &&& 31).toUInt32).toInt32).toUInt32 >>> ((2 : Int32) &&& 31).toUInt32).toInt32)), .val (.int ((((31 : Int32) + (-16 : Int32)) + (-8 : Int32)) + (-2 : Int32)))] [(.int (1 : Int32)), (.int ((((((p0.toUInt32 >>> ((16 : Int32) &&& 31).toUInt32).toInt32).toUInt32 >>> ((8 : Int32) &&& 31).toUInt32).toInt32).toUInt32 >>> ((2 : Int32) &&& 31).toUInt32).toInt32)), (.int ((((31 : Int32) + (-16 : Int32)) + (-8 : Int32)) + (-2 : Int32)))]))
            refine Owes.go ?_ fun t₀ k₀ => XS.iushr X0.here hx rfl (hb hby d11_76) rfl k₀
            show Owes _ _ _ _ (s₁.setTop (mkF m 77 #[.val (.int ((((((p0.toUInt32 >>> ((16 : Int32) &&& 31).toUInt32).toInt32).toUInt32 >>> ((8 : Int32) &&& 31).toUInt32).toInt32).toUInt32 >>> ((2 : Int32) &&& 31).toUInt32).toInt32)), .val (.int ((((31 : Int32) + (-16 : Int32)) + (-8 : Int32)) + (-2 : Int32)))] [(.int ((((((((p0.toUInt32 >>> ((16 : Int32) &&& 31).toUInt32).toInt32).toUInt32 >>> ((8 : Int32) &&& 31).toUInt32).toInt32).toUInt32 >>> ((2 : Int32) &&& 31).toUInt32).toInt32).toUInt32 >>> ((1 : Int32) &&& 31).toUInt32).toInt32)), (.int ((((31 : Int32) + (-16 : Int32)) + (-8 : Int32)) + (-2 : Int32)))]))
            refine Owes.go ?_ fun t₀ k₀ => XS.isub X0.here hx rfl (hb hby d11_77) rfl k₀
            show Owes _ _ _ _ (s₁.setTop (mkF m 78 #[.val (.int ((((((p0.toUInt32 >>> ((16 : Int32) &&& 31).toUInt32).toInt32).toUInt32 >>> ((8 : Int32) &&& 31).toUInt32).toInt32).toUInt32 >>> ((2 : Int32) &&& 31).toUInt32).toInt32)), .val (.int ((((31 : Int32) + (-16 : Int32)) + (-8 : Int32)) + (-2 : Int32)))] [(.int (((((31 : Int32) + (-16 : Int32)) + (-8 : Int32)) + (-2 : Int32)) - ((((((((p0.toUInt32 >>> ((16 : Int32) &&& 31).toUInt32).toInt32).toUInt32 >>> ((8 : Int32) &&& 31).toUInt32).toInt32).toUInt32 >>> ((2 : Int32) &&& 31).toUInt32).toInt32).toUInt32 >>> ((1 : Int32) &&& 31).toUInt32).toInt32)))]))
            exact Owes.retI X0 hx hlk hret (hb hby d11_78) (by decide) (by decide) ⟨congrArg (fun z => some (Value.int z)) (by unfold f_nlzI; rw [if_pos hc1, if_neg hc2, if_neg hc10, if_pos hc14, if_neg hc15]; first | done | rfl), rfl, e0⟩
        · skip
          refine Owes.go ?_ fun t₀ k₀ => XS.icmpNo X0.here hx rfl (hb hby d11_51) rfl (flt hc14).1 k₀
          show Owes _ _ _ _ (s₁.setTop (mkF m 54 #[.val (.int ((((p0.toUInt32 >>> ((16 : Int32) &&& 31).toUInt32).toInt32).toUInt32 >>> ((8 : Int32) &&& 31).toUInt32).toInt32)), .val (.int (((31 : Int32) + (-16 : Int32)) + (-8 : Int32)))] []))
          refine Owes.go ?_ fun t₀ k₀ => XS.iinc X0.here hx rfl (hb hby d11_54) rfl (l' := #[.val (.int ((((p0.toUInt32 >>> ((16 : Int32) &&& 31).toUInt32).toInt32).toUInt32 >>> ((8 : Int32) &&& 31).toUInt32).toInt32)), .val (.int ((((31 : Int32) + (-16 : Int32)) + (-8 : Int32)) + (-4 : Int32)))]) rfl k₀
          show Owes _ _ _ _ (s₁.setTop (mkF m 57 #[.val (.int ((((p0.toUInt32 >>> ((16 : Int32) &&& 31).toUInt32).toInt32).toUInt32 >>> ((8 : Int32) &&& 31).toUInt32).toInt32)), .val (.int ((((31 : Int32) + (-16 : Int32)) + (-8 : Int32)) + (-4 : Int32)))] []))
          refine Owes.go ?_ fun t₀ k₀ => XS.iloadN X0.here hx rfl (hb hby d11_57) rfl k₀
          show Owes _ _ _ _ (s₁.setTop (mkF m 58 #[.val (.int ((((p0.toUInt32 >>> ((16 : Int32) &&& 31).toUInt32).toInt32).toUInt32 >>> ((8 : Int32) &&& 31).toUInt32).toInt32)), .val (.int ((((31 : Int32) + (-16 : Int32)) + (-8 : Int32)) + (-4 : Int32)))] [(.int ((((p0.toUInt32 >>> ((16 : Int32) &&& 31).toUInt32).toInt32).toUInt32 >>> ((8 : Int32) &&& 31).toUInt32).toInt32))]))
          refine Owes.go ?_ fun t₀ k₀ => XS.iconst X0.here hx rfl (hb hby d11_58) k₀
          show Owes _ _ _ _ (s₁.setTop (mkF m 59 #[.val (.int ((((p0.toUInt32 >>> ((16 : Int32) &&& 31).toUInt32).toInt32).toUInt32 >>> ((8 : Int32) &&& 31).toUInt32).toInt32)), .val (.int ((((31 : Int32) + (-16 : Int32)) + (-8 : Int32)) + (-4 : Int32)))] [(.int (4 : Int32)), (.int ((((p0.toUInt32 >>> ((16 : Int32) &&& 31).toUInt32).toInt32).toUInt32 >>> ((8 : Int32) &&& 31).toUInt32).toInt32))]))
          refine Owes.go ?_ fun t₀ k₀ => XS.iushr X0.here hx rfl (hb hby d11_59) rfl k₀
          show Owes _ _ _ _ (s₁.setTop (mkF m 60 #[.val (.int ((((p0.toUInt32 >>> ((16 : Int32) &&& 31).toUInt32).toInt32).toUInt32 >>> ((8 : Int32) &&& 31).toUInt32).toInt32)), .val (.int ((((31 : Int32) + (-16 : Int32)) + (-8 : Int32)) + (-4 : Int32)))] [(.int ((((((p0.toUInt32 >>> ((16 : Int32) &&& 31).toUInt32).toInt32).toUInt32 >>> ((8 : Int32) &&& 31).toUInt32).toInt32).toUInt32 >>> ((4 : Int32) &&& 31).toUInt32).toInt32))]))
          refine Owes.go ?_ fun t₀ k₀ => XS.istoreN X0.here hx rfl (hb hby d11_60) rfl (l' := #[.val (.int ((((((p0.toUInt32 >>> ((16 : Int32) &&& 31).toUInt32).toInt32).toUInt32 >>> ((8 : Int32) &&& 31).toUInt32).toInt32).toUInt32 >>> ((4 : Int32) &&& 31).toUInt32).toInt32)), .val (.int ((((31 : Int32) + (-16 : Int32)) + (-8 : Int32)) + (-4 : Int32)))]) rfl k₀
          show Owes _ _ _ _ (s₁.setTop (mkF m 61 #[.val (.int ((((((p0.toUInt32 >>> ((16 : Int32) &&& 31).toUInt32).toInt32).toUInt32 >>> ((8 : Int32) &&& 31).toUInt32).toInt32).toUInt32 >>> ((4 : Int32) &&& 31).toUInt32).toInt32)), .val (.int ((((31 : Int32) + (-16 : Int32)) + (-8 : Int32)) + (-4 : Int32)))] []))
          refine Owes.go ?_ fun t₀ k₀ => XS.iloadN X0.here hx rfl (hb hby d11_61) rfl k₀
          show Owes _ _ _ _ (s₁.setTop (mkF m 62 #[.val (.int ((((((p0.toUInt32 >>> ((16 : Int32) &&& 31).toUInt32).toInt32).toUInt32 >>> ((8 : Int32) &&& 31).toUInt32).toInt32).toUInt32 >>> ((4 : Int32) &&& 31).toUInt32).toInt32)), .val (.int ((((31 : Int32) + (-16 : Int32)) + (-8 : Int32)) + (-4 : Int32)))] [(.int ((((((p0.toUInt32 >>> ((16 : Int32) &&& 31).toUInt32).toInt32).toUInt32 >>> ((8 : Int32) &&& 31).toUInt32).toInt32).toUInt32 >>> ((4 : Int32) &&& 31).toUInt32).toInt32))]))
          refine Owes.go ?_ fun t₀ k₀ => XS.iconst X0.here hx rfl (hb hby d11_62) k₀
          show Owes _ _ _ _ (s₁.setTop (mkF m 63 #[.val (.int ((((((p0.toUInt32 >>> ((16 : Int32) &&& 31).toUInt32).toInt32).toUInt32 >>> ((8 : Int32) &&& 31).toUInt32).toInt32).toUInt32 >>> ((4 : Int32) &&& 31).toUInt32).toInt32)), .val (.int ((((31 : Int32) + (-16 : Int32)) + (-8 : Int32)) + (-4 : Int32)))] [(.int (4 : Int32)), (.int ((((((p0.toUInt32 >>> ((16 : Int32) &&& 31).toUInt32).toInt32).toUInt32 >>> ((8 : Int32) &&& 31).toUInt32).toInt32).toUInt32 >>> ((4 : Int32) &&& 31).toUInt32).toInt32))]))
          by_cases hc16 : ((((((p0.toUInt32 >>> ((16 : Int32) &&& 31).toUInt32).toInt32).toUInt32 >>> ((8 : Int32) &&& 31).toUInt32).toInt32).toUInt32 >>> ((4 : Int32) &&& 31).toUInt32).toInt32) < (4 : Int32)
          · skip
            refine Owes.go ?_ fun t₀ k₀ => XS.icmpYes X0.here hx rfl (pc0 := 63) (pc' := 73) rfl (hb hby d11_63) rfl (tlt hc16).1 (by decide) (by decide) k₀
            show Owes _ _ _ _ (s₁.setTop (mkF m 73 #[.val (.int ((((((p0.toUInt32 >>> ((16 : Int32) &&& 31).toUInt32).toInt32).toUInt32 >>> ((8 : Int32) &&& 31).toUInt32).toInt32).toUInt32 >>> ((4 : Int32) &&& 31).toUInt32).toInt32)), .val (.int ((((31 : Int32) + (-16 : Int32)) + (-8 : Int32)) + (-4 : Int32)))] []))
            refine Owes.go ?_ fun t₀ k₀ => XS.iloadN X0.here hx rfl (hb hby d11_73) rfl k₀
            show Owes _ _ _ _ (s₁.setTop (mkF m 74 #[.val (.int ((((((p0.toUInt32 >>> ((16 : Int32) &&& 31).toUInt32).toInt32).toUInt32 >>> ((8 : Int32) &&& 31).toUInt32).toInt32).toUInt32 >>> ((4 : Int32) &&& 31).toUInt32).toInt32)), .val (.int ((((31 : Int32) + (-16 : Int32)) + (-8 : Int32)) + (-4 : Int32)))] [(.int ((((31 : Int32) + (-16 : Int32)) + (-8 : Int32)) + (-4 : Int32)))]))
            refine Owes.go ?_ fun t₀ k₀ => XS.iloadN X0.here hx rfl (hb hby d11_74) rfl k₀
            show Owes _ _ _ _ (s₁.setTop (mkF m 75 #[.val (.int ((((((p0.toUInt32 >>> ((16 : Int32) &&& 31).toUInt32).toInt32).toUInt32 >>> ((8 : Int32) &&& 31).toUInt32).toInt32).toUInt32 >>> ((4 : Int32) &&& 31).toUInt32).toInt32)), .val (.int ((((31 : Int32) + (-16 : Int32)) + (-8 : Int32)) + (-4 : Int32)))] [(.int ((((((p0.toUInt32 >>> ((16 : Int32) &&& 31).toUInt32).toInt32).toUInt32 >>> ((8 : Int32) &&& 31).toUInt32).toInt32).toUInt32 >>> ((4 : Int32) &&& 31).toUInt32).toInt32)), (.int ((((31 : Int32) + (-16 : Int32)) + (-8 : Int32)) + (-4 : Int32)))]))
            refine Owes.go ?_ fun t₀ k₀ => XS.iconst X0.here hx rfl (hb hby d11_75) k₀
            show Owes _ _ _ _ (s₁.setTop (mkF m 76 #[.val (.int ((((((p0.toUInt32 >>> ((16 : Int32) &&& 31).toUInt32).toInt32).toUInt32 >>> ((8 : Int32) &&& 31).toUInt32).toInt32).toUInt32 >>> ((4 : Int32) &&& 31).toUInt32).toInt32)), .val (.int ((((31 : Int32) + (-16 : Int32)) + (-8 : Int32)) + (-4 : Int32)))] [(.int (1 : Int32)), (.int ((((((p0.toUInt32 >>> ((16 : Int32) &&& 31).toUInt32).toInt32).toUInt32 >>> ((8 : Int32) &&& 31).toUInt32).toInt32).toUInt32 >>> ((4 : Int32) &&& 31).toUInt32).toInt32)), (.int ((((31 : Int32) + (-16 : Int32)) + (-8 : Int32)) + (-4 : Int32)))]))
            refine Owes.go ?_ fun t₀ k₀ => XS.iushr X0.here hx rfl (hb hby d11_76) rfl k₀
            show Owes _ _ _ _ (s₁.setTop (mkF m 77 #[.val (.int ((((((p0.toUInt32 >>> ((16 : Int32) &&& 31).toUInt32).toInt32).toUInt32 >>> ((8 : Int32) &&& 31).toUInt32).toInt32).toUInt32 >>> ((4 : Int32) &&& 31).toUInt32).toInt32)), .val (.int ((((31 : Int32) + (-16 : Int32)) + (-8 : Int32)) + (-4 : Int32)))] [(.int ((((((((p0.toUInt32 >>> ((16 : Int32) &&& 31).toUInt32).toInt32).toUInt32 >>> ((8 : Int32) &&& 31).toUInt32).toInt32).toUInt32 >>> ((4 : Int32) &&& 31).toUInt32).toInt32).toUInt32 >>> ((1 : Int32) &&& 31).toUInt32).toInt32)), (.int ((((31 : Int32) + (-16 : Int32)) + (-8 : Int32)) + (-4 : Int32)))]))
            refine Owes.go ?_ fun t₀ k₀ => XS.isub X0.here hx rfl (hb hby d11_77) rfl k₀
            show Owes _ _ _ _ (s₁.setTop (mkF m 78 #[.val (.int ((((((p0.toUInt32 >>> ((16 : Int32) &&& 31).toUInt32).toInt32).toUInt32 >>> ((8 : Int32) &&& 31).toUInt32).toInt32).toUInt32 >>> ((4 : Int32) &&& 31).toUInt32).toInt32)), .val (.int ((((31 : Int32) + (-16 : Int32)) + (-8 : Int32)) + (-4 : Int32)))] [(.int (((((31 : Int32) + (-16 : Int32)) + (-8 : Int32)) + (-4 : Int32)) - ((((((((p0.toUInt32 >>> ((16 : Int32) &&& 31).toUInt32).toInt32).toUInt32 >>> ((8 : Int32) &&& 31).toUInt32).toInt32).toUInt32 >>> ((4 : Int32) &&& 31).toUInt32).toInt32).toUInt32 >>> ((1 : Int32) &&& 31).toUInt32).toInt32)))]))
            exact Owes.retI X0 hx hlk hret (hb hby d11_78) (by decide) (by decide) ⟨congrArg (fun z => some (Value.int z)) (by unfold f_nlzI; rw [if_pos hc1, if_neg hc2, if_neg hc10, if_neg hc14, if_pos hc16]; first | done | rfl), rfl, e0⟩
          · skip
            refine Owes.go ?_ fun t₀ k₀ => XS.icmpNo X0.here hx rfl (hb hby d11_63) rfl (flt hc16).1 k₀
            show Owes _ _ _ _ (s₁.setTop (mkF m 66 #[.val (.int ((((((p0.toUInt32 >>> ((16 : Int32) &&& 31).toUInt32).toInt32).toUInt32 >>> ((8 : Int32) &&& 31).toUInt32).toInt32).toUInt32 >>> ((4 : Int32) &&& 31).toUInt32).toInt32)), .val (.int ((((31 : Int32) + (-16 : Int32)) + (-8 : Int32)) + (-4 : Int32)))] []))
            refine Owes.go ?_ fun t₀ k₀ => XS.iinc X0.here hx rfl (hb hby d11_66) rfl (l' := #[.val (.int ((((((p0.toUInt32 >>> ((16 : Int32) &&& 31).toUInt32).toInt32).toUInt32 >>> ((8 : Int32) &&& 31).toUInt32).toInt32).toUInt32 >>> ((4 : Int32) &&& 31).toUInt32).toInt32)), .val (.int (((((31 : Int32) + (-16 : Int32)) + (-8 : Int32)) + (-4 : Int32)) + (-2 : Int32)))]) rfl k₀
            show Owes _ _ _ _ (s₁.setTop (mkF m 69 #[.val (.int ((((((p0.toUInt32 >>> ((16 : Int32) &&& 31).toUInt32).toInt32).toUInt32 >>> ((8 : Int32) &&& 31).toUInt32).toInt32).toUInt32 >>> ((4 : Int32) &&& 31).toUInt32).toInt32)), .val (.int (((((31 : Int32) + (-16 : Int32)) + (-8 : Int32)) + (-4 : Int32)) + (-2 : Int32)))] []))
            refine Owes.go ?_ fun t₀ k₀ => XS.iloadN X0.here hx rfl (hb hby d11_69) rfl k₀
            show Owes _ _ _ _ (s₁.setTop (mkF m 70 #[.val (.int ((((((p0.toUInt32 >>> ((16 : Int32) &&& 31).toUInt32).toInt32).toUInt32 >>> ((8 : Int32) &&& 31).toUInt32).toInt32).toUInt32 >>> ((4 : Int32) &&& 31).toUInt32).toInt32)), .val (.int (((((31 : Int32) + (-16 : Int32)) + (-8 : Int32)) + (-4 : Int32)) + (-2 : Int32)))] [(.int ((((((p0.toUInt32 >>> ((16 : Int32) &&& 31).toUInt32).toInt32).toUInt32 >>> ((8 : Int32) &&& 31).toUInt32).toInt32).toUInt32 >>> ((4 : Int32) &&& 31).toUInt32).toInt32))]))
            refine Owes.go ?_ fun t₀ k₀ => XS.iconst X0.here hx rfl (hb hby d11_70) k₀
            show Owes _ _ _ _ (s₁.setTop (mkF m 71 #[.val (.int ((((((p0.toUInt32 >>> ((16 : Int32) &&& 31).toUInt32).toInt32).toUInt32 >>> ((8 : Int32) &&& 31).toUInt32).toInt32).toUInt32 >>> ((4 : Int32) &&& 31).toUInt32).toInt32)), .val (.int (((((31 : Int32) + (-16 : Int32)) + (-8 : Int32)) + (-4 : Int32)) + (-2 : Int32)))] [(.int (2 : Int32)), (.int ((((((p0.toUInt32 >>> ((16 : Int32) &&& 31).toUInt32).toInt32).toUInt32 >>> ((8 : Int32) &&& 31).toUInt32).toInt32).toUInt32 >>> ((4 : Int32) &&& 31).toUInt32).toInt32))]))
            refine Owes.go ?_ fun t₀ k₀ => XS.iushr X0.here hx rfl (hb hby d11_71) rfl k₀
            show Owes _ _ _ _ (s₁.setTop (mkF m 72 #[.val (.int ((((((p0.toUInt32 >>> ((16 : Int32) &&& 31).toUInt32).toInt32).toUInt32 >>> ((8 : Int32) &&& 31).toUInt32).toInt32).toUInt32 >>> ((4 : Int32) &&& 31).toUInt32).toInt32)), .val (.int (((((31 : Int32) + (-16 : Int32)) + (-8 : Int32)) + (-4 : Int32)) + (-2 : Int32)))] [(.int ((((((((p0.toUInt32 >>> ((16 : Int32) &&& 31).toUInt32).toInt32).toUInt32 >>> ((8 : Int32) &&& 31).toUInt32).toInt32).toUInt32 >>> ((4 : Int32) &&& 31).toUInt32).toInt32).toUInt32 >>> ((2 : Int32) &&& 31).toUInt32).toInt32))]))
            refine Owes.go ?_ fun t₀ k₀ => XS.istoreN X0.here hx rfl (hb hby d11_72) rfl (l' := #[.val (.int ((((((((p0.toUInt32 >>> ((16 : Int32) &&& 31).toUInt32).toInt32).toUInt32 >>> ((8 : Int32) &&& 31).toUInt32).toInt32).toUInt32 >>> ((4 : Int32) &&& 31).toUInt32).toInt32).toUInt32 >>> ((2 : Int32) &&& 31).toUInt32).toInt32)), .val (.int (((((31 : Int32) + (-16 : Int32)) + (-8 : Int32)) + (-4 : Int32)) + (-2 : Int32)))]) rfl k₀
            show Owes _ _ _ _ (s₁.setTop (mkF m 73 #[.val (.int ((((((((p0.toUInt32 >>> ((16 : Int32) &&& 31).toUInt32).toInt32).toUInt32 >>> ((8 : Int32) &&& 31).toUInt32).toInt32).toUInt32 >>> ((4 : Int32) &&& 31).toUInt32).toInt32).toUInt32 >>> ((2 : Int32) &&& 31).toUInt32).toInt32)), .val (.int (((((31 : Int32) + (-16 : Int32)) + (-8 : Int32)) + (-4 : Int32)) + (-2 : Int32)))] []))
            refine Owes.go ?_ fun t₀ k₀ => XS.iloadN X0.here hx rfl (hb hby d11_73) rfl k₀
            show Owes _ _ _ _ (s₁.setTop (mkF m 74 #[.val (.int ((((((((p0.toUInt32 >>> ((16 : Int32) &&& 31).toUInt32).toInt32).toUInt32 >>> ((8 : Int32) &&& 31).toUInt32).toInt32).toUInt32 >>> ((4 : Int32) &&& 31).toUInt32).toInt32).toUInt32 >>> ((2 : Int32) &&& 31).toUInt32).toInt32)), .val (.int (((((31 : Int32) + (-16 : Int32)) + (-8 : Int32)) + (-4 : Int32)) + (-2 : Int32)))] [(.int (((((31 : Int32) + (-16 : Int32)) + (-8 : Int32)) + (-4 : Int32)) + (-2 : Int32)))]))
            refine Owes.go ?_ fun t₀ k₀ => XS.iloadN X0.here hx rfl (hb hby d11_74) rfl k₀
            show Owes _ _ _ _ (s₁.setTop (mkF m 75 #[.val (.int ((((((((p0.toUInt32 >>> ((16 : Int32) &&& 31).toUInt32).toInt32).toUInt32 >>> ((8 : Int32) &&& 31).toUInt32).toInt32).toUInt32 >>> ((4 : Int32) &&& 31).toUInt32).toInt32).toUInt32 >>> ((2 : Int32) &&& 31).toUInt32).toInt32)), .val (.int (((((31 : Int32) + (-16 : Int32)) + (-8 : Int32)) + (-4 : Int32)) + (-2 : Int32)))] [(.int ((((((((p0.toUInt32 >>> ((16 : Int32) &&& 31).toUInt32).toInt32).toUInt32 >>> ((8 : Int32) &&& 31).toUInt32).toInt32).toUInt32 >>> ((4 : Int32) &&& 31).toUInt32).toInt32).toUInt32 >>> ((2 : Int32) &&& 31).toUInt32).toInt32)), (.int (((((31 : Int32) + (-16 : Int32)) + (-8 : Int32)) + (-4 : Int32)) + (-2 : Int32)))]))
            refine Owes.go ?_ fun t₀ k₀ => XS.iconst X0.here hx rfl (hb hby d11_75) k₀
            show Owes _ _ _ _ (s₁.setTop (mkF m 76 #[.val (.int ((((((((p0.toUInt32 >>> ((16 : Int32) &&& 31).toUInt32).toInt32).toUInt32 >>> ((8 : Int32) &&& 31).toUInt32).toInt32).toUInt32 >>> ((4 : Int32) &&& 31).toUInt32).toInt32).toUInt32 >>> ((2 : Int32) &&& 31).toUInt32).toInt32)), .val (.int (((((31 : Int32) + (-16 : Int32)) + (-8 : Int32)) + (-4 : Int32)) + (-2 : Int32)))] [(.int (1 : Int32)), (.int ((((((((p0.toUInt32 >>> ((16 : Int32) &&& 31).toUInt32).toInt32).toUInt32 >>> ((8 : Int32) &&& 31).toUInt32).toInt32).toUInt32 >>> ((4 : Int32) &&& 31).toUInt32).toInt32).toUInt32 >>> ((2 : Int32) &&& 31).toUInt32).toInt32)), (.int (((((31 : Int32) + (-16 : Int32)) + (-8 : Int32)) + (-4 : Int32)) + (-2 : Int32)))]))
            refine Owes.go ?_ fun t₀ k₀ => XS.iushr X0.here hx rfl (hb hby d11_76) rfl k₀
            show Owes _ _ _ _ (s₁.setTop (mkF m 77 #[.val (.int ((((((((p0.toUInt32 >>> ((16 : Int32) &&& 31).toUInt32).toInt32).toUInt32 >>> ((8 : Int32) &&& 31).toUInt32).toInt32).toUInt32 >>> ((4 : Int32) &&& 31).toUInt32).toInt32).toUInt32 >>> ((2 : Int32) &&& 31).toUInt32).toInt32)), .val (.int (((((31 : Int32) + (-16 : Int32)) + (-8 : Int32)) + (-4 : Int32)) + (-2 : Int32)))] [(.int ((((((((((p0.toUInt32 >>> ((16 : Int32) &&& 31).toUInt32).toInt32).toUInt32 >>> ((8 : Int32) &&& 31).toUInt32).toInt32).toUInt32 >>> ((4 : Int32) &&& 31).toUInt32).toInt32).toUInt32 >>> ((2 : Int32) &&& 31).toUInt32).toInt32).toUInt32 >>> ((1 : Int32) &&& 31).toUInt32).toInt32)), (.int (((((31 : Int32) + (-16 : Int32)) + (-8 : Int32)) + (-4 : Int32)) + (-2 : Int32)))]))
            refine Owes.go ?_ fun t₀ k₀ => XS.isub X0.here hx rfl (hb hby d11_77) rfl k₀
            show Owes _ _ _ _ (s₁.setTop (mkF m 78 #[.val (.int ((((((((p0.toUInt32 >>> ((16 : Int32) &&& 31).toUInt32).toInt32).toUInt32 >>> ((8 : Int32) &&& 31).toUInt32).toInt32).toUInt32 >>> ((4 : Int32) &&& 31).toUInt32).toInt32).toUInt32 >>> ((2 : Int32) &&& 31).toUInt32).toInt32)), .val (.int (((((31 : Int32) + (-16 : Int32)) + (-8 : Int32)) + (-4 : Int32)) + (-2 : Int32)))] [(.int ((((((31 : Int32) + (-16 : Int32)) + (-8 : Int32)) + (-4 : Int32)) + (-2 : Int32)) - ((((((((((p0.toUInt32 >>> ((16 : Int32) &&& 31).toUInt32).toInt32).toUInt32 >>> ((8 : Int32) &&& 31).toUInt32).toInt32).toUInt32 >>> ((4 : Int32) &&& 31).toUInt32).toInt32).toUInt32 >>> ((2 : Int32) &&& 31).toUInt32).toInt32).toUInt32 >>> ((1 : Int32) &&& 31).toUInt32).toInt32)))]))
            exact Owes.retI X0 hx hlk hret (hb hby d11_78) (by decide) (by decide) ⟨congrArg (fun z => some (Value.int z)) (by unfold f_nlzI; rw [if_pos hc1, if_neg hc2, if_neg hc10, if_neg hc14, if_neg hc16]; first | done | rfl), rfl, e0⟩
  · skip
    refine Owes.go ?_ fun t₀ k₀ => XS.ifNo X0.here hx rfl (hb hby d11_1) rfl ((if0 _ _).trans (flt hc1).2.2.1) k₀
    show Owes _ _ _ _ (s₁.setTop (mkF m 4 #[.val (.int p0), .unset] []))
    refine Owes.go ?_ fun t₀ k₀ => XS.iloadN X0.here hx rfl (hb hby d11_4) rfl k₀
    show Owes _ _ _ _ (s₁.setTop (mkF m 5 #[.val (.int p0), .unset] [(.int p0)]))
    by_cases hc17 : p0 = (0 : Int32)
    · skip
      refine Owes.go ?_ fun t₀ k₀ => XS.ifNo X0.here hx rfl (hb hby d11_5) rfl ((if0 _ _).trans (teq hc17).2) k₀
      show Owes _ _ _ _ (s₁.setTop (mkF m 8 #[.val (.int p0), .unset] []))
      refine Owes.go ?_ fun t₀ k₀ => XS.bipush X0.here hx rfl (hb hby d11_8) k₀
      show Owes _ _ _ _ (s₁.setTop (mkF m 10 #[.val (.int p0), .unset] [(.int (32 : Int32))]))
      refine Owes.go ?_ fun t₀ k₀ => XS.goto X0.here hx rfl (pc0 := 10) (pc' := 14) rfl (hb hby d11_10) (by decide) (by decide) k₀
      show Owes _ _ _ _ (s₁.setTop (mkF m 14 #[.val (.int p0), .unset] [(.int (32 : Int32))]))
      exact Owes.retI X0 hx hlk hret (hb hby d11_14) (by decide) (by decide) ⟨congrArg (fun z => some (Value.int z)) (by unfold f_nlzI; rw [if_neg hc1, if_pos hc17]; first | done | rfl), rfl, e0⟩
    · skip
      refine Owes.go ?_ fun t₀ k₀ => XS.ifYes X0.here hx rfl (pc0 := 5) (pc' := 13) rfl (hb hby d11_5) rfl ((if0 _ _).trans (feq hc17).2) (by decide) (by decide) k₀
      show Owes _ _ _ _ (s₁.setTop (mkF m 13 #[.val (.int p0), .unset] []))
      refine Owes.go ?_ fun t₀ k₀ => XS.iconst X0.here hx rfl (hb hby d11_13) k₀
      show Owes _ _ _ _ (s₁.setTop (mkF m 14 #[.val (.int p0), .unset] [(.int (0 : Int32))]))
      exact Owes.retI X0 hx hlk hret (hb hby d11_14) (by decide) (by decide) ⟨congrArg (fun z => some (Value.int z)) (by unfold f_nlzI; rw [if_neg hc1, if_neg hc17]; first | done | rfl), rfl, e0⟩
theorem d10_0 : decode jdk_35_method_48_code 0 = .ok (.lload_n 0, 1) := by decide +kernel
theorem d10_1 : decode jdk_35_method_48_code 1 = .ok (.bipush 32, 2) := by decide +kernel
theorem d10_3 : decode jdk_35_method_48_code 3 = .ok (.lushr, 1) := by decide +kernel
theorem d10_4 : decode jdk_35_method_48_code 4 = .ok (.l2i, 1) := by decide +kernel
theorem d10_5 : decode jdk_35_method_48_code 5 = .ok (.istore_n 2, 1) := by decide +kernel
theorem d10_6 : decode jdk_35_method_48_code 6 = .ok (.iload_n 2, 1) := by decide +kernel
theorem d10_7 : decode jdk_35_method_48_code 7 = .ok (.ifCond .ne 14, 3) := by decide +kernel
theorem d10_10 : decode jdk_35_method_48_code 10 = .ok (.bipush 32, 2) := by decide +kernel
theorem d10_12 : decode jdk_35_method_48_code 12 = .ok (.lload_n 0, 1) := by decide +kernel
theorem d10_13 : decode jdk_35_method_48_code 13 = .ok (.l2i, 1) := by decide +kernel
theorem d10_14 : decode jdk_35_method_48_code 14 = .ok (.invokestatic 308, 3) := by decide +kernel
theorem d10_17 : decode jdk_35_method_48_code 17 = .ok (.iadd, 1) := by decide +kernel
theorem d10_18 : decode jdk_35_method_48_code 18 = .ok (.goto 7, 3) := by decide +kernel
theorem d10_25 : decode jdk_35_method_48_code 25 = .ok (.ireturn, 1) := by decide +kernel
theorem d10_21 : decode jdk_35_method_48_code 21 = .ok (.iload_n 2, 1) := by decide +kernel
theorem d10_22 : decode jdk_35_method_48_code 22 = .ok (.invokestatic 308, 3) := by decide +kernel
def f_nlzJ (q0 : Int64)  : Int32 := (if (((q0.toUInt64 >>> ((32 : Int32) &&& 0x3f).toInt64.toUInt64).toInt64).toInt32) = (0 : Int32) then ((32 : Int32) + (f_nlzI (q0.toInt32))) else (f_nlzI (((q0.toUInt64 >>> ((32 : Int32) &&& 0x3f).toInt64.toUInt64).toInt64).toInt32)))
theorem ef_10_f_nlzJ (m : MethodId) (q0 : Int64) : entryFrame m #[(.long q0)] 3 = mkF m 0 #[.val (.long q0), .second, .unset] [] := by first | (simp [entryFrame, mkF, argsToLocals, Value.category]; done) | rfl
theorem pn_10 : plainFor (⟨"java/lang/Long", "numberOfLeadingZeros", "(J)I"⟩ : MethodName) = true := plainFor_of_name (by first | (simp [plainName, overriddenIn]; done) | decide +kernel)
set_option maxRecDepth 65536 in
set_option maxHeartbeats 40000000 in
theorem rm_f_nlzJ (l : Launch) (Z : State) (a0 : Array Value) (hw : ∀ d ∈ tables_1, d.before a0 Z = true) (ws : List Jvm.Cond) (q0 : Int64) (h0 : Heap)  :
    OMet l (⟨"java/lang/Long", "numberOfLeadingZeros", "(J)I"⟩ : MethodName) jdk_35_method_48_code 3 (some .int) ws ({ frames := 1, cells := 0, slots := 0, locals := 14 } : Room) #[(.long q0)] Z h0 (fun v h L => v = some (Value.int (f_nlzJ q0)) ∧ L = [] ∧ h = h0) := by
  refine OMet.of pn_10 (fun m => ef_10_f_nlzJ m q0) ?_
  intro p e s m below meth c s₁ hx hby hml hown hnm hret hlk hZ X0 e0
  refine Owes.go ?_ fun t₀ k₀ => XS.lloadN X0.here hx rfl (hb hby d10_0) rfl k₀
  show Owes _ _ _ _ (s₁.setTop (mkF m 1 #[.val (.long q0), .second, .unset] [(.long q0)]))
  refine Owes.go ?_ fun t₀ k₀ => XS.bipush X0.here hx rfl (hb hby d10_1) k₀
  show Owes _ _ _ _ (s₁.setTop (mkF m 3 #[.val (.long q0), .second, .unset] [(.int (32 : Int32)), (.long q0)]))
  refine Owes.go ?_ fun t₀ k₀ => XS.lushr X0.here hx rfl (hb hby d10_3) rfl k₀
  show Owes _ _ _ _ (s₁.setTop (mkF m 4 #[.val (.long q0), .second, .unset] [(.long ((q0.toUInt64 >>> ((32 : Int32) &&& 0x3f).toInt64.toUInt64).toInt64))]))
  refine Owes.go ?_ fun t₀ k₀ => XS.l2i X0.here hx rfl (hb hby d10_4) rfl k₀
  show Owes _ _ _ _ (s₁.setTop (mkF m 5 #[.val (.long q0), .second, .unset] [(.int (((q0.toUInt64 >>> ((32 : Int32) &&& 0x3f).toInt64.toUInt64).toInt64).toInt32))]))
  refine Owes.go ?_ fun t₀ k₀ => XS.istoreN X0.here hx rfl (hb hby d10_5) rfl (l' := #[.val (.long q0), .second, .val (.int (((q0.toUInt64 >>> ((32 : Int32) &&& 0x3f).toInt64.toUInt64).toInt64).toInt32))]) rfl k₀
  show Owes _ _ _ _ (s₁.setTop (mkF m 6 #[.val (.long q0), .second, .val (.int (((q0.toUInt64 >>> ((32 : Int32) &&& 0x3f).toInt64.toUInt64).toInt64).toInt32))] []))
  refine Owes.go ?_ fun t₀ k₀ => XS.iloadN X0.here hx rfl (hb hby d10_6) rfl k₀
  show Owes _ _ _ _ (s₁.setTop (mkF m 7 #[.val (.long q0), .second, .val (.int (((q0.toUInt64 >>> ((32 : Int32) &&& 0x3f).toInt64.toUInt64).toInt64).toInt32))] [(.int (((q0.toUInt64 >>> ((32 : Int32) &&& 0x3f).toInt64.toUInt64).toInt64).toInt32))]))
  by_cases hc1 : (((q0.toUInt64 >>> ((32 : Int32) &&& 0x3f).toInt64.toUInt64).toInt64).toInt32) = (0 : Int32)
  · skip
    refine Owes.go ?_ fun t₀ k₀ => XS.ifNo X0.here hx rfl (hb hby d10_7) rfl ((if0 _ _).trans (teq hc1).2) k₀
    show Owes _ _ _ _ (s₁.setTop (mkF m 10 #[.val (.long q0), .second, .val (.int (((q0.toUInt64 >>> ((32 : Int32) &&& 0x3f).toInt64.toUInt64).toInt64).toInt32))] []))
    refine Owes.go ?_ fun t₀ k₀ => XS.bipush X0.here hx rfl (hb hby d10_10) k₀
    show Owes _ _ _ _ (s₁.setTop (mkF m 12 #[.val (.long q0), .second, .val (.int (((q0.toUInt64 >>> ((32 : Int32) &&& 0x3f).toInt64.toUInt64).toInt64).toInt32))] [(.int (32 : Int32))]))
    refine Owes.go ?_ fun t₀ k₀ => XS.lloadN X0.here hx rfl (hb hby d10_12) rfl k₀
    show Owes _ _ _ _ (s₁.setTop (mkF m 13 #[.val (.long q0), .second, .val (.int (((q0.toUInt64 >>> ((32 : Int32) &&& 0x3f).toInt64.toUInt64).toInt64).toInt32))] [(.long q0), (.int (32 : Int32))]))
    refine Owes.go ?_ fun t₀ k₀ => XS.l2i X0.here hx rfl (hb hby d10_13) rfl k₀
    show Owes _ _ _ _ (s₁.setTop (mkF m 14 #[.val (.long q0), .second, .val (.int (((q0.toUInt64 >>> ((32 : Int32) &&& 0x3f).toInt64.toUInt64).toInt64).toInt32))] [(.int (q0.toInt32)), (.int (32 : Int32))]))
    refine Owes.callS X0 hx hZ hown (hw _ (List.mem_of_getElem? (i := 51) rfl)) (hw _ (List.mem_of_getElem? (i := 52) rfl)) (hw _ (List.mem_of_getElem? (i := 41) rfl)) (hw _ (List.mem_of_getElem? (i := 53) rfl)) (by decide) (argsL := [(.int (q0.toInt32))]) (rest := [(.int (32 : Int32))]) (rm_f_nlzI l Z a0 hw [] (q0.toInt32) h0 ) e0 (by rw [hml]; rfl) pd_0 rfl rfl (hb hby d10_14) (by decide) (Nat.le_of_ble_eq_true rfl) (by decide) (by decide) ?_
    rintro T3 _ _ X3 ⟨rfl, rfl, e3⟩
    rw [List.append_nil] at X3
    show Owes _ _ _ _ (T3.setTop (mkF m 17 #[.val (.long q0), .second, .val (.int (((q0.toUInt64 >>> ((32 : Int32) &&& 0x3f).toInt64.toUInt64).toInt64).toInt32))] [(.int (f_nlzI (q0.toInt32))), (.int (32 : Int32))]))
    refine Owes.go ?_ fun t₀ k₀ => XS.iadd X3.here hx rfl (hb hby d10_17) rfl k₀
    show Owes _ _ _ _ (T3.setTop (mkF m 18 #[.val (.long q0), .second, .val (.int (((q0.toUInt64 >>> ((32 : Int32) &&& 0x3f).toInt64.toUInt64).toInt64).toInt32))] [(.int ((32 : Int32) + (f_nlzI (q0.toInt32))))]))
    refine Owes.go ?_ fun t₀ k₀ => XS.goto X3.here hx rfl (pc0 := 18) (pc' := 25) rfl (hb hby d10_18) (by decide) (by decide) k₀
    show Owes _ _ _ _ (T3.setTop (mkF m 25 #[.val (.long q0), .second, .val (.int (((q0.toUInt64 >>> ((32 : Int32) &&& 0x3f).toInt64.toUInt64).toInt64).toInt32))] [(.int ((32 : Int32) + (f_nlzI (q0.toInt32))))]))
    exact Owes.retI X3 hx hlk hret (hb hby d10_25) (by decide) (by decide) ⟨congrArg (fun z => some (Value.int z)) (by unfold f_nlzJ; rw [if_pos hc1]; first | done | rfl), rfl, e3⟩
  · skip
    refine Owes.go ?_ fun t₀ k₀ => XS.ifYes X0.here hx rfl (pc0 := 7) (pc' := 21) rfl (hb hby d10_7) rfl ((if0 _ _).trans (feq hc1).2) (by decide) (by decide) k₀
    show Owes _ _ _ _ (s₁.setTop (mkF m 21 #[.val (.long q0), .second, .val (.int (((q0.toUInt64 >>> ((32 : Int32) &&& 0x3f).toInt64.toUInt64).toInt64).toInt32))] []))
    refine Owes.go ?_ fun t₀ k₀ => XS.iloadN X0.here hx rfl (hb hby d10_21) rfl k₀
    show Owes _ _ _ _ (s₁.setTop (mkF m 22 #[.val (.long q0), .second, .val (.int (((q0.toUInt64 >>> ((32 : Int32) &&& 0x3f).toInt64.toUInt64).toInt64).toInt32))] [(.int (((q0.toUInt64 >>> ((32 : Int32) &&& 0x3f).toInt64.toUInt64).toInt64).toInt32))]))
    refine Owes.callS X0 hx hZ hown (hw _ (List.mem_of_getElem? (i := 51) rfl)) (hw _ (List.mem_of_getElem? (i := 52) rfl)) (hw _ (List.mem_of_getElem? (i := 41) rfl)) (hw _ (List.mem_of_getElem? (i := 53) rfl)) (by decide) (argsL := [(.int (((q0.toUInt64 >>> ((32 : Int32) &&& 0x3f).toInt64.toUInt64).toInt64).toInt32))]) (rest := []) (rm_f_nlzI l Z a0 hw [] (((q0.toUInt64 >>> ((32 : Int32) &&& 0x3f).toInt64.toUInt64).toInt64).toInt32) h0 ) e0 (by rw [hml]; rfl) pd_0 rfl rfl (hb hby d10_22) (by decide) (Nat.le_of_ble_eq_true rfl) (by decide) (by decide) ?_
    rintro T4 _ _ X4 ⟨rfl, rfl, e4⟩
    rw [List.append_nil] at X4
    show Owes _ _ _ _ (T4.setTop (mkF m 25 #[.val (.long q0), .second, .val (.int (((q0.toUInt64 >>> ((32 : Int32) &&& 0x3f).toInt64.toUInt64).toInt64).toInt32))] [(.int (f_nlzI (((q0.toUInt64 >>> ((32 : Int32) &&& 0x3f).toInt64.toUInt64).toInt64).toInt32)))]))
    exact Owes.retI X4 hx hlk hret (hb hby d10_25) (by decide) (by decide) ⟨congrArg (fun z => some (Value.int z)) (by unfold f_nlzJ; rw [if_neg hc1]; first | done | rfl), rfl, e4⟩
theorem own_u1 (y : Int32) (h : 0 ≤ y.toInt) : ((y.toUInt32 >>> ((1 : Int32) &&& 31).toUInt32).toInt32).toInt = y.toInt / 2 := by
  have := c_iushr y 1 1 (by decide) (by decide)
  have r := rng32 y
  rw [this]; omega
theorem own_u2 (y : Int32) (h : 0 ≤ y.toInt) : ((y.toUInt32 >>> ((2 : Int32) &&& 31).toUInt32).toInt32).toInt = y.toInt / 4 := by
  have := c_iushr y 2 2 (by decide) (by decide)
  have r := rng32 y
  rw [this]; omega
theorem own_u4 (y : Int32) (h : 0 ≤ y.toInt) : ((y.toUInt32 >>> ((4 : Int32) &&& 31).toUInt32).toInt32).toInt = y.toInt / 16 := by
  have := c_iushr y 4 4 (by decide) (by decide)
  have r := rng32 y
  rw [this]; omega
theorem own_u8 (y : Int32) (h : 0 ≤ y.toInt) : ((y.toUInt32 >>> ((8 : Int32) &&& 31).toUInt32).toInt32).toInt = y.toInt / 256 := by
  have := c_iushr y 8 8 (by decide) (by decide)
  have r := rng32 y
  rw [this]; omega
theorem own_u16 (y : Int32) (h : 0 ≤ y.toInt) : ((y.toUInt32 >>> ((16 : Int32) &&& 31).toUInt32).toInt32).toInt = y.toInt / 65536 := by
  have := c_iushr y 16 16 (by decide) (by decide)
  have r := rng32 y
  rw [this]; omega
def nl2 (n y : Int32) : Int32 := if y < (4 : Int32) then n - ((y.toUInt32 >>> ((1 : Int32) &&& 31).toUInt32).toInt32) else (n + (-2 : Int32)) - ((((y.toUInt32 >>> ((2 : Int32) &&& 31).toUInt32).toInt32).toUInt32 >>> ((1 : Int32) &&& 31).toUInt32).toInt32)
def nl4 (n y : Int32) : Int32 := if y < (16 : Int32) then nl2 n y else nl2 (n + (-4 : Int32)) ((y.toUInt32 >>> ((4 : Int32) &&& 31).toUInt32).toInt32)
def nl8 (n y : Int32) : Int32 := if y < (256 : Int32) then nl4 n y else nl4 (n + (-8 : Int32)) ((y.toUInt32 >>> ((8 : Int32) &&& 31).toUInt32).toInt32)
def nl16 (n y : Int32) : Int32 := if y < (65536 : Int32) then nl8 n y else nl8 (n + (-16 : Int32)) ((y.toUInt32 >>> ((16 : Int32) &&& 31).toUInt32).toInt32)
theorem own_ltk {y : Int32} {k : Int32} {a : Int} (hk : k.toInt = a) (h : y.toInt < a) : y < k := by rw [Int32.lt_iff_toInt_lt, hk]; exact h
theorem own_nltk {y : Int32} {k : Int32} {a : Int} (hk : k.toInt = a) (h : ¬ y.toInt < a) : ¬ y < k := by rw [Int32.lt_iff_toInt_lt, hk]; exact h
theorem own_nl2a (n A B C n2 r1 r2 y : Int) (t : Nat) (ht : t < 4) (h1 : (2 : Int) ^ t ≤ y) (h2 : y < (2 : Int) ^ (t + 1)) (hn : 3 ≤ n ∧ n ≤ 31) (e1 : A = y / 2) (e2 : C = y / 4) (e3 : B = C / 2) (q1 : (r1 - (n - A)) % 4294967296 = 0) (q2 : (n2 - (n + -2)) % 4294967296 = 0) (q3 : (r2 - (n2 - B)) % 4294967296 = 0) (g1 : -2147483648 ≤ r1 ∧ r1 < 2147483648) (g2 : -2147483648 ≤ r2 ∧ r2 < 2147483648) (g3 : -2147483648 ≤ n2 ∧ n2 < 2147483648) : (t < 2 → y < 4 ∧ r1 = n - t) ∧ (¬ t < 2 → ¬ y < 4 ∧ r2 = n - t) := by
  rcases (by omega : t = 0 ∨ t = 1 ∨ t = 2 ∨ t = 3) with rfl | rfl | rfl | rfl
  · simp only [Nat.zero_add, Nat.reduceAdd, Int.reducePow] at h1 h2
    have hA : 0 ≤ A ∧ A ≤ 8 := by clear q1 q2 q3; omega
    have hB : 0 ≤ B ∧ B ≤ 8 := by clear q1 q2 q3; omega
    have k1 : n2 = n - 2 := by clear q1 q3 e1 e2 e3; omega
    have k2 : r1 = n - A := by clear q2 q3 e1 e2 e3; omega
    have k3 : r2 = n2 - B := by clear q1 q2 e1 e2 e3; omega
    clear q1 q2 q3; omega
  · simp only [Nat.zero_add, Nat.reduceAdd, Int.reducePow] at h1 h2
    have hA : 0 ≤ A ∧ A ≤ 8 := by clear q1 q2 q3; omega
    have hB : 0 ≤ B ∧ B ≤ 8 := by clear q1 q2 q3; omega
    have k1 : n2 = n - 2 := by clear q1 q3 e1 e2 e3; omega
    have k2 : r1 = n - A := by clear q2 q3 e1 e2 e3; omega
    have k3 : r2 = n2 - B := by clear q1 q2 e1 e2 e3; omega
    clear q1 q2 q3; omega
  · simp only [Nat.zero_add, Nat.reduceAdd, Int.reducePow] at h1 h2
    have hA : 0 ≤ A ∧ A ≤ 8 := by clear q1 q2 q3; omega
    have hB : 0 ≤ B ∧ B ≤ 8 := by clear q1 q2 q3; omega
    have k1 : n2 = n - 2 := by clear q1 q3 e1 e2 e3; omega
    have k2 : r1 = n - A := by clear q2 q3 e1 e2 e3; omega
    have k3 : r2 = n2 - B := by clear q1 q2 e1 e2 e3; omega
    clear q1 q2 q3; omega
  · simp only [Nat.zero_add, Nat.reduceAdd, Int.reducePow] at h1 h2
    have hA : 0 ≤ A ∧ A ≤ 8 := by clear q1 q2 q3; omega
    have hB : 0 ≤ B ∧ B ≤ 8 := by clear q1 q2 q3; omega
    have k1 : n2 = n - 2 := by clear q1 q3 e1 e2 e3; omega
    have k2 : r1 = n - A := by clear q2 q3 e1 e2 e3; omega
    have k3 : r2 = n2 - B := by clear q1 q2 e1 e2 e3; omega
    clear q1 q2 q3; omega
theorem own_nl2 (n y : Int32) (t : Nat) (ht : t < 4) (hn : 3 ≤ n.toInt ∧ n.toInt ≤ 31) (h1 : (2 : Int) ^ t ≤ y.toInt) (h2 : y.toInt < (2 : Int) ^ (t + 1)) : (nl2 n y).toInt = n.toInt - t := by
  have hy : 0 ≤ y.toInt := Int.le_trans (Int.le_of_lt (Int.pow_pos (by decide))) h1
  have e1 := own_u1 y hy
  have e2 := own_u2 y hy
  have hy2 : 0 ≤ ((y.toUInt32 >>> ((2 : Int32) &&& 31).toUInt32).toInt32).toInt := by rw [e2]; exact Int.ediv_nonneg hy (by decide)
  have e3 := own_u1 ((y.toUInt32 >>> ((2 : Int32) &&& 31).toUInt32).toInt32) hy2
  unfold nl2
  generalize ((((y.toUInt32 >>> ((2 : Int32) &&& 31).toUInt32).toInt32).toUInt32 >>> ((1 : Int32) &&& 31).toUInt32).toInt32) = B at *
  generalize ((y.toUInt32 >>> ((2 : Int32) &&& 31).toUInt32).toInt32) = C at *
  generalize ((y.toUInt32 >>> ((1 : Int32) &&& 31).toUInt32).toInt32) = A at *
  have q := own_nl2a _ _ _ _ _ _ _ _ t ht h1 h2 hn e1 e2 e3 (c_isub n A) (c_iadd n (-2)) (c_isub (n + (-2 : Int32)) B) (rng32 _) (rng32 _) (rng32 _)
  by_cases c : t < 2
  · rw [if_pos (own_ltk (a := 4) rfl (q.1 c).1)]; exact (q.1 c).2
  · rw [if_neg (own_nltk (a := 4) rfl (q.2 c).1)]; exact (q.2 c).2
theorem own_nl4a (n n2 C y : Int) (t : Nat) (ht : t < 8) (h1 : (2 : Int) ^ t ≤ y) (h2 : y < (2 : Int) ^ (t + 1)) (hn : 7 ≤ n ∧ n ≤ 31) (e1 : C = y / 16) (q2 : (n2 - (n + -4)) % 4294967296 = 0) (g3 : -2147483648 ≤ n2 ∧ n2 < 2147483648) : (t < 4 → y < 16) ∧ (¬ t < 4 → ¬ y < 16 ∧ n2 = n - 4 ∧ (2 : Int) ^ (t - 4) ≤ C ∧ C < (2 : Int) ^ (t - 4 + 1)) := by
  rcases (by omega : t = 0 ∨ t = 1 ∨ t = 2 ∨ t = 3 ∨ t = 4 ∨ t = 5 ∨ t = 6 ∨ t = 7) with rfl | rfl | rfl | rfl | rfl | rfl | rfl | rfl
  · simp only [Nat.zero_add, Nat.reduceAdd, Nat.reduceSub, Int.reducePow] at h1 h2 ⊢; omega
  · simp only [Nat.zero_add, Nat.reduceAdd, Nat.reduceSub, Int.reducePow] at h1 h2 ⊢; omega
  · simp only [Nat.zero_add, Nat.reduceAdd, Nat.reduceSub, Int.reducePow] at h1 h2 ⊢; omega
  · simp only [Nat.zero_add, Nat.reduceAdd, Nat.reduceSub, Int.reducePow] at h1 h2 ⊢; omega
  · simp only [Nat.zero_add, Nat.reduceAdd, Nat.reduceSub, Int.reducePow] at h1 h2 ⊢; omega
  · simp only [Nat.zero_add, Nat.reduceAdd, Nat.reduceSub, Int.reducePow] at h1 h2 ⊢; omega
  · simp only [Nat.zero_add, Nat.reduceAdd, Nat.reduceSub, Int.reducePow] at h1 h2 ⊢; omega
  · simp only [Nat.zero_add, Nat.reduceAdd, Nat.reduceSub, Int.reducePow] at h1 h2 ⊢; omega
theorem own_nl4 (n y : Int32) (t : Nat) (ht : t < 8) (hn : 7 ≤ n.toInt ∧ n.toInt ≤ 31) (h1 : (2 : Int) ^ t ≤ y.toInt) (h2 : y.toInt < (2 : Int) ^ (t + 1)) : (nl4 n y).toInt = n.toInt - t := by
  have hy : 0 ≤ y.toInt := Int.le_trans (Int.le_of_lt (Int.pow_pos (by decide))) h1
  have e1 := own_u4 y hy
  unfold nl4
  generalize ((y.toUInt32 >>> ((4 : Int32) &&& 31).toUInt32).toInt32) = C at *
  have q := own_nl4a _ _ _ _ t ht h1 h2 hn e1 (c_iadd n (-4)) (rng32 _)
  by_cases c : t < 4
  · rw [if_pos (own_ltk (a := 16) rfl (q.1 c))]; exact own_nl2 n y t c (by omega) h1 h2
  · obtain ⟨q1, q2, q3, q4⟩ := q.2 c
    rw [if_neg (own_nltk (a := 16) rfl q1), own_nl2 _ _ (t - 4) (by omega) (by rw [q2]; omega) q3 q4, q2]
    omega
theorem own_nl8a (n n2 C y : Int) (t : Nat) (ht : t < 16) (h1 : (2 : Int) ^ t ≤ y) (h2 : y < (2 : Int) ^ (t + 1)) (hn : 15 ≤ n ∧ n ≤ 31) (e1 : C = y / 256) (q2 : (n2 - (n + -8)) % 4294967296 = 0) (g3 : -2147483648 ≤ n2 ∧ n2 < 2147483648) : (t < 8 → y < 256) ∧ (¬ t < 8 → ¬ y < 256 ∧ n2 = n - 8 ∧ (2 : Int) ^ (t - 8) ≤ C ∧ C < (2 : Int) ^ (t - 8 + 1)) := by
  rcases (by omega : t = 0 ∨ t = 1 ∨ t = 2 ∨ t = 3 ∨ t = 4 ∨ t = 5 ∨ t = 6 ∨ t = 7 ∨ t = 8 ∨ t = 9 ∨ t = 10 ∨ t = 11 ∨ t = 12 ∨ t = 13 ∨ t = 14 ∨ t = 15) with rfl | rfl | rfl | rfl | rfl | rfl | rfl | rfl | rfl | rfl | rfl | rfl | rfl | rfl | rfl | rfl
  · simp only [Nat.zero_add, Nat.reduceAdd, Nat.reduceSub, Int.reducePow] at h1 h2 ⊢; omega
  · simp only [Nat.zero_add, Nat.reduceAdd, Nat.reduceSub, Int.reducePow] at h1 h2 ⊢; omega
  · simp only [Nat.zero_add, Nat.reduceAdd, Nat.reduceSub, Int.reducePow] at h1 h2 ⊢; omega
  · simp only [Nat.zero_add, Nat.reduceAdd, Nat.reduceSub, Int.reducePow] at h1 h2 ⊢; omega
  · simp only [Nat.zero_add, Nat.reduceAdd, Nat.reduceSub, Int.reducePow] at h1 h2 ⊢; omega
  · simp only [Nat.zero_add, Nat.reduceAdd, Nat.reduceSub, Int.reducePow] at h1 h2 ⊢; omega
  · simp only [Nat.zero_add, Nat.reduceAdd, Nat.reduceSub, Int.reducePow] at h1 h2 ⊢; omega
  · simp only [Nat.zero_add, Nat.reduceAdd, Nat.reduceSub, Int.reducePow] at h1 h2 ⊢; omega
  · simp only [Nat.zero_add, Nat.reduceAdd, Nat.reduceSub, Int.reducePow] at h1 h2 ⊢; omega
  · simp only [Nat.zero_add, Nat.reduceAdd, Nat.reduceSub, Int.reducePow] at h1 h2 ⊢; omega
  · simp only [Nat.zero_add, Nat.reduceAdd, Nat.reduceSub, Int.reducePow] at h1 h2 ⊢; omega
  · simp only [Nat.zero_add, Nat.reduceAdd, Nat.reduceSub, Int.reducePow] at h1 h2 ⊢; omega
  · simp only [Nat.zero_add, Nat.reduceAdd, Nat.reduceSub, Int.reducePow] at h1 h2 ⊢; omega
  · simp only [Nat.zero_add, Nat.reduceAdd, Nat.reduceSub, Int.reducePow] at h1 h2 ⊢; omega
  · simp only [Nat.zero_add, Nat.reduceAdd, Nat.reduceSub, Int.reducePow] at h1 h2 ⊢; omega
  · simp only [Nat.zero_add, Nat.reduceAdd, Nat.reduceSub, Int.reducePow] at h1 h2 ⊢; omega
theorem own_nl8 (n y : Int32) (t : Nat) (ht : t < 16) (hn : 15 ≤ n.toInt ∧ n.toInt ≤ 31) (h1 : (2 : Int) ^ t ≤ y.toInt) (h2 : y.toInt < (2 : Int) ^ (t + 1)) : (nl8 n y).toInt = n.toInt - t := by
  have hy : 0 ≤ y.toInt := Int.le_trans (Int.le_of_lt (Int.pow_pos (by decide))) h1
  have e1 := own_u8 y hy
  unfold nl8
  generalize ((y.toUInt32 >>> ((8 : Int32) &&& 31).toUInt32).toInt32) = C at *
  have q := own_nl8a _ _ _ _ t ht h1 h2 hn e1 (c_iadd n (-8)) (rng32 _)
  by_cases c : t < 8
  · rw [if_pos (own_ltk (a := 256) rfl (q.1 c))]; exact own_nl4 n y t c (by omega) h1 h2
  · obtain ⟨q1, q2, q3, q4⟩ := q.2 c
    rw [if_neg (own_nltk (a := 256) rfl q1), own_nl4 _ _ (t - 8) (by omega) (by rw [q2]; omega) q3 q4, q2]
    omega
theorem own_nl16a (n n2 C y : Int) (t : Nat) (ht : t < 31) (h1 : (2 : Int) ^ t ≤ y) (h2 : y < (2 : Int) ^ (t + 1)) (hn : 31 ≤ n ∧ n ≤ 31) (e1 : C = y / 65536) (q2 : (n2 - (n + -16)) % 4294967296 = 0) (g3 : -2147483648 ≤ n2 ∧ n2 < 2147483648) : (t < 16 → y < 65536) ∧ (¬ t < 16 → ¬ y < 65536 ∧ n2 = n - 16 ∧ (2 : Int) ^ (t - 16) ≤ C ∧ C < (2 : Int) ^ (t - 16 + 1)) := by
  rcases (by omega : t = 0 ∨ t = 1 ∨ t = 2 ∨ t = 3 ∨ t = 4 ∨ t = 5 ∨ t = 6 ∨ t = 7 ∨ t = 8 ∨ t = 9 ∨ t = 10 ∨ t = 11 ∨ t = 12 ∨ t = 13 ∨ t = 14 ∨ t = 15 ∨ t = 16 ∨ t = 17 ∨ t = 18 ∨ t = 19 ∨ t = 20 ∨ t = 21 ∨ t = 22 ∨ t = 23 ∨ t = 24 ∨ t = 25 ∨ t = 26 ∨ t = 27 ∨ t = 28 ∨ t = 29 ∨ t = 30) with rfl | rfl | rfl | rfl | rfl | rfl | rfl | rfl | rfl | rfl | rfl | rfl | rfl | rfl | rfl | rfl | rfl | rfl | rfl | rfl | rfl | rfl | rfl | rfl | rfl | rfl | rfl | rfl | rfl | rfl | rfl
  · simp only [Nat.zero_add, Nat.reduceAdd, Nat.reduceSub, Int.reducePow] at h1 h2 ⊢; omega
  · simp only [Nat.zero_add, Nat.reduceAdd, Nat.reduceSub, Int.reducePow] at h1 h2 ⊢; omega
  · simp only [Nat.zero_add, Nat.reduceAdd, Nat.reduceSub, Int.reducePow] at h1 h2 ⊢; omega
  · simp only [Nat.zero_add, Nat.reduceAdd, Nat.reduceSub, Int.reducePow] at h1 h2 ⊢; omega
  · simp only [Nat.zero_add, Nat.reduceAdd, Nat.reduceSub, Int.reducePow] at h1 h2 ⊢; omega
  · simp only [Nat.zero_add, Nat.reduceAdd, Nat.reduceSub, Int.reducePow] at h1 h2 ⊢; omega
  · simp only [Nat.zero_add, Nat.reduceAdd, Nat.reduceSub, Int.reducePow] at h1 h2 ⊢; omega
  · simp only [Nat.zero_add, Nat.reduceAdd, Nat.reduceSub, Int.reducePow] at h1 h2 ⊢; omega
  · simp only [Nat.zero_add, Nat.reduceAdd, Nat.reduceSub, Int.reducePow] at h1 h2 ⊢; omega
  · simp only [Nat.zero_add, Nat.reduceAdd, Nat.reduceSub, Int.reducePow] at h1 h2 ⊢; omega
  · simp only [Nat.zero_add, Nat.reduceAdd, Nat.reduceSub, Int.reducePow] at h1 h2 ⊢; omega
  · simp only [Nat.zero_add, Nat.reduceAdd, Nat.reduceSub, Int.reducePow] at h1 h2 ⊢; omega
  · simp only [Nat.zero_add, Nat.reduceAdd, Nat.reduceSub, Int.reducePow] at h1 h2 ⊢; omega
  · simp only [Nat.zero_add, Nat.reduceAdd, Nat.reduceSub, Int.reducePow] at h1 h2 ⊢; omega
  · simp only [Nat.zero_add, Nat.reduceAdd, Nat.reduceSub, Int.reducePow] at h1 h2 ⊢; omega
  · simp only [Nat.zero_add, Nat.reduceAdd, Nat.reduceSub, Int.reducePow] at h1 h2 ⊢; omega
  · simp only [Nat.zero_add, Nat.reduceAdd, Nat.reduceSub, Int.reducePow] at h1 h2 ⊢; omega
  · simp only [Nat.zero_add, Nat.reduceAdd, Nat.reduceSub, Int.reducePow] at h1 h2 ⊢; omega
  · simp only [Nat.zero_add, Nat.reduceAdd, Nat.reduceSub, Int.reducePow] at h1 h2 ⊢; omega
  · simp only [Nat.zero_add, Nat.reduceAdd, Nat.reduceSub, Int.reducePow] at h1 h2 ⊢; omega
  · simp only [Nat.zero_add, Nat.reduceAdd, Nat.reduceSub, Int.reducePow] at h1 h2 ⊢; omega
  · simp only [Nat.zero_add, Nat.reduceAdd, Nat.reduceSub, Int.reducePow] at h1 h2 ⊢; omega
  · simp only [Nat.zero_add, Nat.reduceAdd, Nat.reduceSub, Int.reducePow] at h1 h2 ⊢; omega
  · simp only [Nat.zero_add, Nat.reduceAdd, Nat.reduceSub, Int.reducePow] at h1 h2 ⊢; omega
  · simp only [Nat.zero_add, Nat.reduceAdd, Nat.reduceSub, Int.reducePow] at h1 h2 ⊢; omega
  · simp only [Nat.zero_add, Nat.reduceAdd, Nat.reduceSub, Int.reducePow] at h1 h2 ⊢; omega
  · simp only [Nat.zero_add, Nat.reduceAdd, Nat.reduceSub, Int.reducePow] at h1 h2 ⊢; omega
  · simp only [Nat.zero_add, Nat.reduceAdd, Nat.reduceSub, Int.reducePow] at h1 h2 ⊢; omega
  · simp only [Nat.zero_add, Nat.reduceAdd, Nat.reduceSub, Int.reducePow] at h1 h2 ⊢; omega
  · simp only [Nat.zero_add, Nat.reduceAdd, Nat.reduceSub, Int.reducePow] at h1 h2 ⊢; omega
  · simp only [Nat.zero_add, Nat.reduceAdd, Nat.reduceSub, Int.reducePow] at h1 h2 ⊢; omega
theorem own_nl16 (n y : Int32) (t : Nat) (ht : t < 31) (hn : 31 ≤ n.toInt ∧ n.toInt ≤ 31) (h1 : (2 : Int) ^ t ≤ y.toInt) (h2 : y.toInt < (2 : Int) ^ (t + 1)) : (nl16 n y).toInt = n.toInt - t := by
  have hy : 0 ≤ y.toInt := Int.le_trans (Int.le_of_lt (Int.pow_pos (by decide))) h1
  have e1 := own_u16 y hy
  unfold nl16
  generalize ((y.toUInt32 >>> ((16 : Int32) &&& 31).toUInt32).toInt32) = C at *
  have q := own_nl16a _ _ _ _ t ht h1 h2 hn e1 (c_iadd n (-16)) (rng32 _)
  by_cases c : t < 16
  · rw [if_pos (own_ltk (a := 65536) rfl (q.1 c))]; exact own_nl8 n y t c (by omega) h1 h2
  · obtain ⟨q1, q2, q3, q4⟩ := q.2 c
    rw [if_neg (own_nltk (a := 65536) rfl q1), own_nl8 _ _ (t - 16) (by omega) (by rw [q2]; omega) q3 q4, q2]
    omega
theorem own_nlzI (x : Int32) (t : Nat) (ht : t < 32) (h1 : x.toBitVec.getLsbD t = true) (h2 : ∀ b, t < b → b < 32 → x.toBitVec.getLsbD b = false) : (f_nlzI x).toInt = 31 - (t : Int) := by
  show (if (0 : Int32) < x then nl16 31 x else if x = (0 : Int32) then (32 : Int32) else (0 : Int32)).toInt = _
  have b1 : x.toBitVec.toNat.testBit t = true := h1
  have g1 : 2 ^ t ≤ x.toBitVec.toNat := Nat.ge_two_pow_of_testBit b1
  have g2 : x.toBitVec.toNat < 2 ^ (t + 1) := by
    apply Nat.lt_pow_two_of_testBit
    intro i hi
    by_cases c : i < 32
    · exact h2 i (by omega) c
    · exact Nat.testBit_lt_two_pow (Nat.lt_of_lt_of_le x.toBitVec.isLt (Nat.pow_le_pow_right (by decide) (by omega)))
  have hx : x.toInt = x.toBitVec.toInt := rfl
  rw [BitVec.toInt_eq_toNat_cond] at hx
  by_cases c : t = 31
  · subst c
    have hlt : x.toInt < 0 := by
      rw [hx, if_neg (by omega)]
      have := x.toBitVec.isLt
      omega
    have n1 : ¬ ((0 : Int32) < x) := by rw [Int32.lt_iff_toInt_lt, show (0 : Int32).toInt = 0 from rfl]; omega
    have n2 : ¬ (x = (0 : Int32)) := fun q => by rw [q] at hlt; exact absurd hlt (by decide)
    rw [if_neg n1, if_neg n2]; rfl
  · have p31 : 2 ^ (t + 1) ≤ 2 ^ 31 := Nat.pow_le_pow_right (by decide) (by omega)
    rw [if_pos (by omega)] at hx
    have k1 : (2 : Int) ^ t ≤ x.toInt := by rw [hx]; exact_mod_cast g1
    have k2 : x.toInt < (2 : Int) ^ (t + 1) := by rw [hx]; exact_mod_cast g2
    have hp : 0 < (2 : Int) ^ t := Int.pow_pos (by decide)
    have n1 : (0 : Int32) < x := by rw [Int32.lt_iff_toInt_lt, show (0 : Int32).toInt = 0 from rfl]; omega
    rw [if_pos n1]
    exact own_nl16 31 x t (by omega) (by decide) k1 k2
theorem own_nlzJ (w : Int64) (t : Nat) (h : High w t) : (f_nlzJ w).toInt = 63 - (t : Int) := by
  obtain ⟨h0, h1, h2⟩ := h
  unfold f_nlzJ
  by_cases c : 32 ≤ t
  · have e1 := hi32 w (t - 32) (by omega)
    rw [show 32 + (t - 32) = t by omega, h1] at e1
    have hne : ¬ ((((w.toUInt64 >>> ((32 : Int32) &&& 0x3f).toInt64.toUInt64).toInt64).toInt32) = 0) := fun q => by
      rw [q] at e1
      simp at e1
    rw [if_neg hne, own_nlzI _ (t - 32) (by omega) e1 (fun b hb hb' => by rw [hi32 _ _ hb']; exact h2 _ (by omega) (by omega))]
    omega
  · have hz : (((w.toUInt64 >>> ((32 : Int32) &&& 0x3f).toInt64.toUInt64).toInt64).toInt32) = 0 := ext32 fun b hb => by rw [hi32 w b hb, h2 _ (by omega) (by omega)]; simp
    rw [if_pos hz]
    have e := own_nlzI w.toInt32 t (by omega) (by rw [lo32 _ _ (by omega)]; exact h1) (fun b hb hb' => by rw [lo32 _ _ hb']; exact h2 b hb (by omega))
    have h3 := c_iadd 32 (f_nlzI w.toInt32)
    have r := rng32 ((32 : Int32) + f_nlzI w.toInt32)
    rw [show (32 : Int32).toInt = 32 from rfl, e] at h3
    omega
/-- a RankSet r: its levels' array lv, d levels, level k the array g k of len k words W k -/
def RS (Z : State) (h : Heap) (n0 : Nat) (r lv : Addr) (d : Nat) (g : Nat → Addr) (len : Nat → Nat) (W : Nat → Nat → Int64) : Prop :=
  Exa Z h r "com/example/slotwright/slotwright/core/RankSet" ∧ Fld Z h r "com/example/slotwright/slotwright/core/RankSet" "levels" "[[J" (.ref lv) ∧ GA Z h lv (.array .long) d (fun i => .ref (g i)) ∧ (∀ k, k < d → GA Z h (g k) .long (len k) (fun i => .long (W k i)) ∧ n0 ≤ g k) ∧ ∀ j k, j < d → k < d → g j = g k → j = k
theorem RS.wr {Z : State} {h h' : Heap} {n0 : Nat} {r lv : Addr} {d : Nat} {g : Nat → Addr} {len : Nat → Nat} {W : Nat → Nat → Int64} {a0 : Array Value} (F : RS Z h n0 r lv d g len W) (wi : (Jvm.Cond.instantiable "com/example/slotwright/slotwright/core/RankSet" 1).before a0 Z = true) {k i : Nat} {x : Int64} (hk : k < d) (Wr0 : Wr h h' (g k) i (.long x)) :
    RS Z h' n0 r lv d g len (upd W k (upd (W k) i x)) := by
  obtain ⟨E, L, G, A, J⟩ := F
  have n1 : r ≠ g k := GA.ne_obj E wi (A k hk).1
  have n2 : lv ≠ g k := GA.ne G (A k hk).1 (by decide)
  refine ⟨E.wr Wr0, L.other Wr0 (Or.inl n1), G.other Wr0 n2, fun j hj => ⟨?_, (A j hj).2⟩, J⟩
  by_cases q : j = k
  · subst q
    refine ((A j hj).1.set Wr0).congr fun i' hi' => ?_
    rw [upd_same]
    by_cases q' : i' = i
    · subst q'; rw [upd_same, upd_same]
    · rw [upd_ne _ _ q', upd_ne _ _ q']
  · rw [upd_ne _ _ q]
    exact (A j hj).1.other Wr0 fun z => q (J j k hj hk z)
/-- how many words level k has: the size's 64^(k+1)-th part, rounded up; the last level has one -/
def Fits (size d : Nat) (len : Nat → Nat) : Prop := 0 < d ∧ d ≤ 20 ∧ size ≤ 64 * len 0 ∧ (∀ k, k + 1 < d → len k ≤ 64 * len (k + 1)) ∧ len (d - 1) = 1 ∧ (∀ k, k < d → 0 < len k ∧ len k < 33554432)
theorem Fits.at {size d : Nat} {len : Nat → Nat} (F : Fits size d len) {n : Nat} (hn : n < size) : ∀ k, k < d → n / 64 ^ k / 64 < len k := by
  intro k
  induction k with
  | zero => intro _; have := F.2.2.1; simp only [Nat.pow_zero, Nat.div_one]; omega
  | succ k ih =>
    intro hk
    have h1 := ih (by omega)
    have h2 := F.2.2.2.1 k hk
    rw [dk_succ]; omega
theorem Fits.up {size d : Nat} {len : Nat → Nat} (F : Fits size d len) {n : Nat} (hn : n < size) : n / 64 ^ d = 0 := by
  have h := F.at hn (d - 1) (by have := F.1; omega)
  rw [F.2.2.2.2.1, ← dk_succ] at h
  have e : d - 1 + 1 = d := by have := F.1; omega
  rw [e] at h
  exact Nat.lt_one_iff.mp h
theorem own_m64 {x : Int32} {A : Nat} (h : x.toInt = (A : Int)) : (x &&& (-64 : Int32)).toInt = ((A - A % 64 : Nat) : Int) := by
  have hx := i32_nat h
  have hlt := x.toBitVec.isLt
  have r := rng32 x
  have e : (x &&& (-64 : Int32)).toBitVec.toNat = A - A % 64 := by
    show (x.toBitVec &&& (-64 : Int32).toBitVec).toNat = _
    have e2 : A - A % 64 = (A >>> 6) <<< 6 := by rw [Nat.shiftRight_eq_div_pow, Nat.shiftLeft_eq]; omega
    rw [e2, ← hx]
    apply Nat.eq_of_testBit_eq
    intro j
    rw [Nat.testBit_shiftLeft, Nat.testBit_shiftRight]
    by_cases c : j < 32
    · have m : ((-64 : Int32).toBitVec.getLsbD j) = decide (6 ≤ j) := (by decide +kernel : ∀ j : Fin 32, (-64 : Int32).toBitVec.getLsbD j.1 = decide (6 ≤ j.1)) ⟨j, c⟩
      have l : (x.toBitVec &&& (-64 : Int32).toBitVec).toNat.testBit j = (x.toBitVec.getLsbD j && (-64 : Int32).toBitVec.getLsbD j) := BitVec.getLsbD_and
      rw [l, m]
      by_cases c6 : 6 ≤ j
      · simp [c6, show 6 + (j - 6) = j by omega]; rfl
      · simp [c6]
    · have z1 : (x.toBitVec &&& (-64 : Int32).toBitVec).toNat.testBit j = false := Nat.testBit_lt_two_pow (Nat.lt_of_lt_of_le (x.toBitVec &&& (-64 : Int32).toBitVec).isLt (Nat.pow_le_pow_right (by decide) (by omega)))
      have z2 : x.toBitVec.toNat.testBit (6 + (j - 6)) = false := Nat.testBit_lt_two_pow (Nat.lt_of_lt_of_le hlt (Nat.pow_le_pow_right (by decide) (by omega)))
      rw [z1, z2]; simp
  show (x &&& (-64 : Int32)).toBitVec.toInt = _
  rw [BitVec.toInt_eq_toNat_cond, e, if_pos (by omega)]
theorem own_addt {x t : Int32} {a b : Nat} (hx : x.toInt = (a : Int)) (ht : t.toInt = (b : Int)) (h : a + b < 2147483648) : (x + t).toInt = ((a + b : Nat) : Int) := by
  have h1 := c_iadd x t
  have r := rng32 (x + t)
  omega
theorem own_shl6 {x : Int32} {a : Nat} (hx : x.toInt = (a : Int)) (h : a < 33554432) : (x <<< ((6 : Int32) &&& 31)).toInt = ((64 * a : Nat) : Int) := by
  have h1 := c_ishl x 6 6 (by decide)
  have r := rng32 (x <<< ((6 : Int32) &&& 31))
  generalize (x <<< ((6 : Int32) &&& 31)).toInt = v at *
  omega
theorem own_pos {x : Int32} {a : Nat} (hx : x.toInt = ((a + 1 : Nat) : Int)) : (0 : Int32) < x := by rw [Int32.lt_iff_toInt_lt, hx, show (0 : Int32).toInt = 0 from rfl]; omega
theorem own_zero {x : Int32} (hx : x.toInt = ((0 : Nat) : Int)) : ¬ (0 : Int32) < x := by rw [Int32.lt_iff_toInt_lt, hx, show (0 : Int32).toInt = 0 from rfl]; omega
theorem own_hi {x z : Int32} {a t : Nat} (hx : x.toInt = (a : Int)) (hz : z.toInt = 63 - (t : Int)) (ht : t < 64) (h : a + 63 < 2147483648) : ((x + (63 : Int32)) - z).toInt = ((a + t : Nat) : Int) := by
  have h1 := c_iadd x 63
  have h2 := c_isub (x + 63) z
  have r1 := rng32 (x + 63)
  have r2 := rng32 ((x + 63) - z)
  rw [show (63 : Int32).toInt = 63 from rfl] at h1
  generalize ((x + 63) - z).toInt = v2 at *
  generalize (x + 63).toInt = v1 at *
  have : v1 = a + 63 := by omega
  omega
theorem own_63 {x : Int32} {A : Nat} (h : x.toInt = (A : Int)) : ((63 : Int32) - (x &&& (63 : Int32))).toInt = ((63 - A % 64 : Nat) : Int) := by
  have h1 := c_mask x 63 6 (by decide) (by decide)
  have h2 := c_isub 63 (x &&& 63)
  have r := rng32 (63 - (x &&& 63))
  rw [show (63 : Int32).toInt = 63 from rfl, h1, h] at h2
  generalize (63 - (x &&& 63)).toInt = v at *
  omega
theorem own_sub1 {x : Int32} {a : Nat} (hx : x.toInt = (a : Int)) : (x - (1 : Int32)).toInt = (a : Int) - 1 := by
  have h1 := c_isub x 1
  have r := rng32 (x - 1)
  have r2 := rng32 x
  rw [show (1 : Int32).toInt = 1 from rfl] at h1
  generalize (x - 1).toInt = v at *
  omega
theorem own_nn {x : Int32} {a : Nat} (hx : x.toInt = (a : Int)) : ¬ x < (0 : Int32) := (own_nat hx).1
theorem own_ltn {x y : Int32} {a b : Nat} (hx : x.toInt = (a : Int)) (hy : y.toInt = (b : Int)) (h : x < y) : a < b := by rw [Int32.lt_iff_toInt_lt, hx, hy] at h; omega
theorem own_ge {x y : Int32} {a b : Nat} (hx : x.toInt = (a : Int)) (hy : y.toInt = (b : Int)) (h : ¬ x < y) : b ≤ a := by rw [Int32.lt_iff_toInt_lt, hx, hy] at h; omega
theorem own_lim {size d k A : Nat} {len : Nat → Nat} (FT : Fits size d len) (hk : k < d) (hA : (A : Int) < 64 * (len k : Int)) : -1 ≤ ((A / 64 : Nat) : Int) - 1 ∧ (k + 1 < d → ((A / 64 : Nat) : Int) - 1 < 64 * (len (k + 1) : Int)) ∧ (k + 1 = d → ((A / 64 : Nat) : Int) - 1 = -1) := by
  refine ⟨by omega, fun h => ?_, fun h => ?_⟩
  · have := FT.2.2.2.1 k h; omega
  · have e : k = d - 1 := by omega
    have := FT.2.2.2.2.1
    rw [e, this] at hA; omega
theorem own_neg1 {x : Int32} {A : Int} (hx : x.toInt = A) (h : A < 0) : x < (0 : Int32) := by rw [Int32.lt_iff_toInt_lt, hx, show (0 : Int32).toInt = 0 from rfl]; exact h
theorem d3_0 : decode prog_118_method_7_code 0 = .ok (.iload_n 0, 1) := by decide +kernel
theorem d3_1 : decode prog_118_method_7_code 1 = .ok (.bipush 63, 2) := by decide +kernel
theorem d3_3 : decode prog_118_method_7_code 3 = .ok (.iadd, 1) := by decide +kernel
theorem d3_4 : decode prog_118_method_7_code 4 = .ok (.bipush 6, 2) := by decide +kernel
theorem d3_6 : decode prog_118_method_7_code 6 = .ok (.iushr, 1) := by decide +kernel
theorem d3_7 : decode prog_118_method_7_code 7 = .ok (.ireturn, 1) := by decide +kernel
def f_wf (p0 : Int32)  : Int32 := (((p0 + (63 : Int32)).toUInt32 >>> ((6 : Int32) &&& 31).toUInt32).toInt32)
theorem ef_3_f_wf (m : MethodId) (p0 : Int32) : entryFrame m #[(.int p0)] 1 = mkF m 0 #[.val (.int p0)] [] := by first | (simp [entryFrame, mkF, argsToLocals, Value.category]; done) | rfl
theorem pn_3 : plainFor (⟨"com/example/slotwright/slotwright/core/RankSet", "wordsFor", "(I)I"⟩ : MethodName) = true := plainFor_of_name (by first | (simp [plainName, overriddenIn]; done) | decide +kernel)
set_option maxRecDepth 65536 in
set_option maxHeartbeats 40000000 in
theorem rm_f_wf (l : Launch) (Z : State) (a0 : Array Value) (hw : ∀ d ∈ tables_1, d.before a0 Z = true) (ws : List Jvm.Cond) (p0 : Int32) (h0 : Heap)  :
    OMet l (⟨"com/example/slotwright/slotwright/core/RankSet", "wordsFor", "(I)I"⟩ : MethodName) prog_118_method_7_code 1 (some .int) ws ({ frames := 0, cells := 0, slots := 0, locals := 0 } : Room) #[(.int p0)] Z h0 (fun v h L => v = some (Value.int (f_wf p0)) ∧ L = [] ∧ h = h0) := by
  refine OMet.of pn_3 (fun m => ef_3_f_wf m p0) ?_
  intro p e s m below meth c s₁ hx hby hml hown hnm hret hlk hZ X0 e0
  refine Owes.go ?_ fun t₀ k₀ => XS.iloadN X0.here hx rfl (hb hby d3_0) rfl k₀
  show Owes _ _ _ _ (s₁.setTop (mkF m 1 #[.val (.int p0)] [(.int p0)]))
  refine Owes.go ?_ fun t₀ k₀ => XS.bipush X0.here hx rfl (hb hby d3_1) k₀
  show Owes _ _ _ _ (s₁.setTop (mkF m 3 #[.val (.int p0)] [(.int (63 : Int32)), (.int p0)]))
  refine Owes.go ?_ fun t₀ k₀ => XS.iadd X0.here hx rfl (hb hby d3_3) rfl k₀
  show Owes _ _ _ _ (s₁.setTop (mkF m 4 #[.val (.int p0)] [(.int (p0 + (63 : Int32)))]))
  refine Owes.go ?_ fun t₀ k₀ => XS.bipush X0.here hx rfl (hb hby d3_4) k₀
  show Owes _ _ _ _ (s₁.setTop (mkF m 6 #[.val (.int p0)] [(.int (6 : Int32)), (.int (p0 + (63 : Int32)))]))
  refine Owes.go ?_ fun t₀ k₀ => XS.iushr X0.here hx rfl (hb hby d3_6) rfl k₀
  show Owes _ _ _ _ (s₁.setTop (mkF m 7 #[.val (.int p0)] [(.int (((p0 + (63 : Int32)).toUInt32 >>> ((6 : Int32) &&& 31).toUInt32).toInt32))]))
  exact Owes.retI X0 hx hlk hret (hb hby d3_7) (by decide) (by decide) ⟨congrArg (fun z => some (Value.int z)) (by unfold f_wf; first | done | rfl), rfl, e0⟩
theorem d4_0 : decode jdk_29_method_65_code 0 = .ok (.iload_n 0, 1) := by decide +kernel
theorem d4_1 : decode jdk_29_method_65_code 1 = .ok (.iload_n 1, 1) := by decide +kernel
theorem d4_2 : decode jdk_29_method_65_code 2 = .ok (.if_icmp .lt 7, 3) := by decide +kernel
theorem d4_9 : decode jdk_29_method_65_code 9 = .ok (.iload_n 1, 1) := by decide +kernel
theorem d4_10 : decode jdk_29_method_65_code 10 = .ok (.ireturn, 1) := by decide +kernel
theorem d4_5 : decode jdk_29_method_65_code 5 = .ok (.iload_n 0, 1) := by decide +kernel
theorem d4_6 : decode jdk_29_method_65_code 6 = .ok (.goto 4, 3) := by decide +kernel
def f_max (p0 : Int32) (p1 : Int32)  : Int32 := (if p0 < p1 then p1 else p0)
theorem ef_4_f_max (m : MethodId) (p0 : Int32) (p1 : Int32) : entryFrame m #[(.int p0), (.int p1)] 2 = mkF m 0 #[.val (.int p0), .val (.int p1)] [] := by first | (simp [entryFrame, mkF, argsToLocals, Value.category]; done) | rfl
theorem pn_4 : plainFor (⟨"java/lang/Math", "max", "(II)I"⟩ : MethodName) = true := Jvm.Free.JP.mathPlain rfl (by decide +kernel)
set_option maxRecDepth 65536 in
set_option maxHeartbeats 40000000 in
theorem rm_f_max (l : Launch) (Z : State) (a0 : Array Value) (hw : ∀ d ∈ tables_1, d.before a0 Z = true) (ws : List Jvm.Cond) (p0 : Int32) (p1 : Int32) (h0 : Heap)  :
    OMet l (⟨"java/lang/Math", "max", "(II)I"⟩ : MethodName) jdk_29_method_65_code 2 (some .int) ws ({ frames := 0, cells := 0, slots := 0, locals := 0 } : Room) #[(.int p0), (.int p1)] Z h0 (fun v h L => v = some (Value.int (f_max p0 p1)) ∧ L = [] ∧ h = h0) := by
  refine OMet.of pn_4 (fun m => ef_4_f_max m p0 p1) ?_
  intro p e s m below meth c s₁ hx hby hml hown hnm hret hlk hZ X0 e0
  refine Owes.go ?_ fun t₀ k₀ => XS.iloadN X0.here hx rfl (hb hby d4_0) rfl k₀
  show Owes _ _ _ _ (s₁.setTop (mkF m 1 #[.val (.int p0), .val (.int p1)] [(.int p0)]))
  refine Owes.go ?_ fun t₀ k₀ => XS.iloadN X0.here hx rfl (hb hby d4_1) rfl k₀
  show Owes _ _ _ _ (s₁.setTop (mkF m 2 #[.val (.int p0), .val (.int p1)] [(.int p1), (.int p0)]))
  by_cases hc1 : p0 < p1
  · skip
    refine Owes.go ?_ fun t₀ k₀ => XS.icmpYes X0.here hx rfl (pc0 := 2) (pc' := 9) rfl (hb hby d4_2) rfl (tlt hc1).1 (by decide) (by decide) k₀
    show Owes _ _ _ _ (s₁.setTop (mkF m 9 #[.val (.int p0), .val (.int p1)] []))
    refine Owes.go ?_ fun t₀ k₀ => XS.iloadN X0.here hx rfl (hb hby d4_9) rfl k₀
    show Owes _ _ _ _ (s₁.setTop (mkF m 10 #[.val (.int p0), .val (.int p1)] [(.int p1)]))
    exact Owes.retI X0 hx hlk hret (hb hby d4_10) (by decide) (by decide) ⟨congrArg (fun z => some (Value.int z)) (by unfold f_max; rw [if_pos hc1]; first | done | rfl), rfl, e0⟩
  · skip
    refine Owes.go ?_ fun t₀ k₀ => XS.icmpNo X0.here hx rfl (hb hby d4_2) rfl (flt hc1).1 k₀
    show Owes _ _ _ _ (s₁.setTop (mkF m 5 #[.val (.int p0), .val (.int p1)] []))
    refine Owes.go ?_ fun t₀ k₀ => XS.iloadN X0.here hx rfl (hb hby d4_5) rfl k₀
    show Owes _ _ _ _ (s₁.setTop (mkF m 6 #[.val (.int p0), .val (.int p1)] [(.int p0)]))
    refine Owes.go ?_ fun t₀ k₀ => XS.goto X0.here hx rfl (pc0 := 6) (pc' := 10) rfl (hb hby d4_6) (by decide) (by decide) k₀
    show Owes _ _ _ _ (s₁.setTop (mkF m 10 #[.val (.int p0), .val (.int p1)] [(.int p0)]))
    exact Owes.retI X0 hx hlk hret (hb hby d4_10) (by decide) (by decide) ⟨congrArg (fun z => some (Value.int z)) (by unfold f_max; rw [if_neg hc1]; first | done | rfl), rfl, e0⟩
/-- the words that hold so many bits, level by level -/
def wsz (size : Nat) : Nat → Nat
  | 0 => size
  | k + 1 => (wsz size k + 63) / 64
def used (size : Nat) : Nat → Nat
  | 0 => 0
  | k + 1 => used size k + wsz size (k + 1)
theorem own_wf {x : Int32} {a : Nat} (hx : x.toInt = (a : Int)) (h : a < 2147483000) : (f_wf x).toInt = (((a + 63) / 64 : Nat) : Int) := by
  unfold f_wf
  have h1 := c_iadd x 63
  have r := rng32 (x + 63)
  rw [show (63 : Int32).toInt = 63 from rfl] at h1
  have e : (x + 63).toInt = ((a + 63 : Nat) : Int) := by
    generalize (x + 63).toInt = v at *
    omega
  exact own_sh6 e
theorem own_max1 {x : Int32} {a : Nat} (hx : x.toInt = (a : Int)) (h : 0 < a) : f_max x (1 : Int32) = x := by
  unfold f_max
  by_cases c : x < (1 : Int32)
  · rw [Int32.lt_iff_toInt_lt, hx, show (1 : Int32).toInt = 1 from rfl] at c; omega
  · rw [if_neg c]
theorem wsz_pos {size : Nat} (h : 0 < size) (k : Nat) : 0 < wsz size k := by
  induction k with
  | zero => exact h
  | succ k ih => show 0 < (wsz size k + 63) / 64; omega
theorem wsz_le {size : Nat} (h : size ≤ 1073741824) (k : Nat) : wsz size k ≤ 1073741824 := by
  induction k with
  | zero => exact h
  | succ k ih => show (wsz size k + 63) / 64 ≤ _; omega
theorem wsz_5 {size : Nat} (h : size ≤ 1073741824) : wsz size 5 ≤ 1 := by
  show ((((((size + 63) / 64) + 63) / 64 + 63) / 64 + 63) / 64 + 63) / 64 ≤ 1
  omega
theorem used_mono {size : Nat} {a b : Nat} (h : a ≤ b) : used size a ≤ used size b := by
  induction h with
  | refl => exact Nat.le_refl _
  | step _ ih => exact Nat.le_trans ih (Nat.le_add_right _ _)
theorem own_fits {size d : Nat} (h0 : 0 < size) (h1 : size ≤ 1073741824) (hd : 0 < d ∧ d ≤ 5) (hl : wsz size d ≤ 1) : Fits size d (fun k => wsz size (k + 1)) := by
  refine ⟨hd.1, by omega, ?_, fun k _ => ?_, ?_, fun k _ => ⟨wsz_pos h0 _, ?_⟩⟩
  · show size ≤ 64 * ((wsz size 0 + 63) / 64)
    show size ≤ 64 * ((size + 63) / 64)
    omega
  · show wsz size (k + 1) ≤ 64 * ((wsz size (k + 1) + 63) / 64)
    omega
  · show wsz size (d - 1 + 1) = 1
    have e : d - 1 + 1 = d := by omega
    rw [e]
    have := wsz_pos h0 d
    omega
  · show (wsz size k + 63) / 64 < _
    have := wsz_le h1 k
    omega
/-- the set while it is made: k of its d levels stand -/
def RB (Z : State) (h : Heap) (n0 : Nat) (r lv : Addr) (d k : Nat) (g : Nat → Addr) (size : Nat) (cA : ClassId) : Prop :=
  Exa Z h r "com/example/slotwright/slotwright/core/RankSet" ∧ Fld Z h r "com/example/slotwright/slotwright/core/RankSet" "levels" "[[J" (.ref lv) ∧ GC Z h lv (.array .long) d (fun i => if i < k then .ref (g i) else .null) cA ∧ n0 ≤ lv ∧ n0 ≤ h.size ∧ (∀ j, j < k → GA Z h (g j) .long (wsz size (j + 1)) (fun _ => .long 0) ∧ n0 ≤ g j) ∧ ∀ j i, j < k → i < k → g j = g i → j = i
theorem RB.ext {Z : State} {h h' : Heap} {n0 : Nat} {r lv : Addr} {d k : Nat} {g : Nat → Addr} {size : Nat} {cA : ClassId} (F : RB Z h n0 r lv d k g size cA) (E : Ext h h') : RB Z h' n0 r lv d k g size cA := by
  obtain ⟨a1, a2, a3, a4, a5, a6, a7⟩ := F
  exact ⟨a1.ext E, a2.ext E, a3.ext E, a4, Nat.le_trans a5 E.1, fun j hj => ⟨(a6 j hj).1.ext E, (a6 j hj).2⟩, a7⟩
theorem RB.more {Z : State} {h h' : Heap} {n0 : Nat} {r lv x : Addr} {d k : Nat} {g : Nat → Addr} {size : Nat} {cA : ClassId} {a0 : Array Value} (F : RB Z h n0 r lv d k g size cA) (wi : (Jvm.Cond.instantiable "com/example/slotwright/slotwright/core/RankSet" 1).before a0 Z = true) (hx : ∀ j, j < k → g j ≠ x) (hn : n0 ≤ x) (A : GA Z h x .long (wsz size (k + 1)) (fun _ => .long 0)) (W : Wr h h' lv k (.ref x)) : RB Z h' n0 r lv d (k + 1) (upd g k x) size cA := by
  obtain ⟨a1, a2, a3, a4, a5, a6, a7⟩ := F
  have nl : r ≠ lv := GA.ne_obj a1 wi a3.ga
  refine ⟨a1.wr W, a2.other W (Or.inl nl), (a3.set W).congr fun i hi => ?_, a4, by rw [W.size]; exact a5, fun j hj => ?_, fun j i hj hi q => ?_⟩
  · by_cases q : i = k
    · subst q; rw [upd_same, if_pos (by omega), upd_same]
    · rw [upd_ne _ _ q, upd_ne _ _ q]
      by_cases c : i < k
      · rw [if_pos c, if_pos (by omega)]
      · rw [if_neg c, if_neg (by omega)]
  · by_cases q : j = k
    · subst q; rw [upd_same]; exact ⟨A.other W (GA.ne A a3.ga (by decide)), hn⟩
    · rw [upd_ne _ _ q]
      have := a6 j (by omega)
      exact ⟨this.1.other W (GA.ne this.1 a3.ga (by decide)), this.2⟩
  · by_cases q1 : j = k
    · by_cases q2 : i = k
      · omega
      · rw [q1, upd_same, upd_ne _ _ q2] at q
        exact absurd q.symm (hx i (by omega))
    · by_cases q2 : i = k
      · rw [q2, upd_same, upd_ne _ _ q1] at q
        exact absurd q (hx j (by omega))
      · rw [upd_ne _ _ q1, upd_ne _ _ q2] at q
        exact a7 j i (by omega) (by omega) q
theorem RB.done {Z : State} {h : Heap} {n0 : Nat} {r lv : Addr} {d : Nat} {g : Nat → Addr} {size : Nat} {cA : ClassId} (F : RB Z h n0 r lv d d g size cA) : RS Z h n0 r lv d g (fun k => wsz size (k + 1)) (fun _ _ => 0) := by
  obtain ⟨a1, a2, a3, a4, a5, a6, a7⟩ := F
  exact ⟨a1, a2, a3.ga.congr fun i hi => if_pos hi, a6, a7⟩
theorem d1_0 : decode prog_118_method_1_code 0 = .ok (.aload_n 0, 1) := by decide +kernel
theorem d1_1 : decode prog_118_method_1_code 1 = .ok (.invokespecial 1, 3) := by decide +kernel
theorem d1_4 : decode prog_118_method_1_code 4 = .ok (.iconst 1, 1) := by decide +kernel
theorem d1_5 : decode prog_118_method_1_code 5 = .ok (.istore_n 2, 1) := by decide +kernel
theorem d1_6 : decode prog_118_method_1_code 6 = .ok (.iload_n 1, 1) := by decide +kernel
theorem d1_7 : decode prog_118_method_1_code 7 = .ok (.invokestatic 7, 3) := by decide +kernel
theorem d1_10 : decode prog_118_method_1_code 10 = .ok (.istore_n 3, 1) := by decide +kernel
theorem d1_27 : decode prog_118_method_1_code 27 = .ok (.aload_n 0, 1) := by decide +kernel
theorem d1_28 : decode prog_118_method_1_code 28 = .ok (.iload_n 2, 1) := by decide +kernel
theorem d1_29 : decode prog_118_method_1_code 29 = .ok (.anewarray 13, 3) := by decide +kernel
theorem d1_32 : decode prog_118_method_1_code 32 = .ok (.putfield 15, 3) := by decide +kernel
theorem d1_35 : decode prog_118_method_1_code 35 = .ok (.iload_n 1, 1) := by decide +kernel
theorem d1_36 : decode prog_118_method_1_code 36 = .ok (.istore_n 3, 1) := by decide +kernel
theorem d1_37 : decode prog_118_method_1_code 37 = .ok (.iconst 0, 1) := by decide +kernel
theorem d1_38 : decode prog_118_method_1_code 38 = .ok (.istore 4, 2) := by decide +kernel
theorem d1_40 : decode prog_118_method_1_code 40 = .ok (.iload 4, 2) := by decide +kernel
theorem d1_42 : decode prog_118_method_1_code 42 = .ok (.iload_n 2, 1) := by decide +kernel
theorem d1_43 : decode prog_118_method_1_code 43 = .ok (.if_icmp .ge 35, 3) := by decide +kernel
theorem d1_78 : decode prog_118_method_1_code 78 = .ok (.return_, 1) := by decide +kernel
theorem d1_46 : decode prog_118_method_1_code 46 = .ok (.aload_n 0, 1) := by decide +kernel
theorem d1_47 : decode prog_118_method_1_code 47 = .ok (.getfield 15, 3) := by decide +kernel
theorem d1_50 : decode prog_118_method_1_code 50 = .ok (.iload 4, 2) := by decide +kernel
theorem d1_52 : decode prog_118_method_1_code 52 = .ok (.iload_n 3, 1) := by decide +kernel
theorem d1_53 : decode prog_118_method_1_code 53 = .ok (.invokestatic 7, 3) := by decide +kernel
theorem d1_56 : decode prog_118_method_1_code 56 = .ok (.iconst 1, 1) := by decide +kernel
theorem d1_57 : decode prog_118_method_1_code 57 = .ok (.invokestatic 19, 3) := by decide +kernel
theorem pd_1 : parseMethodDescriptor "(II)I" = some ⟨[.int, .int], some .int⟩ := by decide +kernel
theorem d1_60 : decode prog_118_method_1_code 60 = .ok (.newarray .long, 2) := by decide +kernel
theorem d1_62 : decode prog_118_method_1_code 62 = .ok (.aastore, 1) := by decide +kernel
theorem d1_63 : decode prog_118_method_1_code 63 = .ok (.aload_n 0, 1) := by decide +kernel
theorem d1_64 : decode prog_118_method_1_code 64 = .ok (.getfield 15, 3) := by decide +kernel
theorem d1_67 : decode prog_118_method_1_code 67 = .ok (.iload 4, 2) := by decide +kernel
theorem d1_69 : decode prog_118_method_1_code 69 = .ok (.aaload, 1) := by decide +kernel
theorem d1_70 : decode prog_118_method_1_code 70 = .ok (.arraylength, 1) := by decide +kernel
theorem d1_71 : decode prog_118_method_1_code 71 = .ok (.istore_n 3, 1) := by decide +kernel
theorem d1_72 : decode prog_118_method_1_code 72 = .ok (.iinc 4 1, 3) := by decide +kernel
theorem d1_75 : decode prog_118_method_1_code 75 = .ok (.goto (-35), 3) := by decide +kernel
theorem d1_11 : decode prog_118_method_1_code 11 = .ok (.iload_n 3, 1) := by decide +kernel
theorem d1_12 : decode prog_118_method_1_code 12 = .ok (.iconst 1, 1) := by decide +kernel
theorem d1_13 : decode prog_118_method_1_code 13 = .ok (.if_icmp .le 14, 3) := by decide +kernel
theorem d1_16 : decode prog_118_method_1_code 16 = .ok (.iinc 2 1, 3) := by decide +kernel
theorem d1_19 : decode prog_118_method_1_code 19 = .ok (.iload_n 3, 1) := by decide +kernel
theorem d1_20 : decode prog_118_method_1_code 20 = .ok (.invokestatic 7, 3) := by decide +kernel
theorem d1_23 : decode prog_118_method_1_code 23 = .ok (.istore_n 3, 1) := by decide +kernel
theorem d1_24 : decode prog_118_method_1_code 24 = .ok (.goto (-13), 3) := by decide +kernel
theorem ef_1 (m : MethodId) (r0 : Addr) (p1 : Int32) : entryFrame m #[(.ref r0), (.int p1)] 5 = mkF m 0 #[.val (.ref r0), .val (.int p1), .unset, .unset, .unset] [] := by first | (simp [entryFrame, mkF, argsToLocals, Value.category]; done) | rfl
theorem pn_1 : plainFor (⟨"com/example/slotwright/slotwright/core/RankSet", "<init>", "(I)V"⟩ : MethodName) = true := plainFor_of_name (by first | (simp [plainName, overriddenIn]; done) | decide +kernel)
set_option maxRecDepth 65536 in
set_option maxHeartbeats 40000000 in
theorem rm_init (l : Launch) (Z : State) (a0 : Array Value) (hw : ∀ d ∈ tables_1, d.before a0 Z = true) (ws : List Jvm.Cond) (r0 : Addr) (p1 : Int32) (h0 : Heap) (n0 : Nat) (Z0 : n0 ≤ h0.size) (g0 : n0 ≤ r0) (E00 : Exa Z h0 r0 "com/example/slotwright/slotwright/core/RankSet") (F00 : Fld Z h0 r0 "com/example/slotwright/slotwright/core/RankSet" "levels" "[[J" .null) (size : Nat) (hp : p1.toInt = (size : Int)) (hs0 : 0 < size) (hs1 : size ≤ 1073741824) (hSL : 5 + used size 5 ≤ 8400) :
    OMet l (⟨"com/example/slotwright/slotwright/core/RankSet", "<init>", "(I)V"⟩ : MethodName) prog_118_method_1_code 5 none ws ({ frames := 1, cells := 6, slots := 8400, locals := 15 } : Room) #[(.ref r0), (.int p1)] Z h0 (fun v h L => v = none ∧ Fr n0 L ∧ ∃ (lv : Addr) (d : Nat) (g : Nat → Addr), RS Z h n0 r0 lv d g (fun k => wsz size (k + 1)) (fun _ _ => 0) ∧ Fits size d (fun k => wsz size (k + 1))) := by
  refine OMet.of pn_1 (fun m => ef_1 m r0 p1) ?_
  intro p e s m below meth c s₁ hx hby hml hown hnm hret hlk hZ X0 e0
  have wi := (hw _ (List.mem_of_getElem? (i := 3) rfl))
  refine Owes.go ?_ fun t₀ k₀ => XS.aloadN X0.here hx rfl (hb hby d1_0) rfl rfl k₀
  show Owes _ _ _ _ (s₁.setTop (mkF m 1 #[.val (.ref r0), .val (.int p1), .unset, .unset, .unset] [(.ref r0)]))
  refine Owes.initO X0 hx hZ hown (hw _ (List.mem_of_getElem? (i := 8) rfl)) (hw _ (List.mem_of_getElem? (i := 9) rfl)) (hw _ (List.mem_of_getElem? (i := 10) rfl)) e0 (by rw [hml]; rfl) (hb hby d1_1) (by decide) (Nat.le_of_ble_eq_true rfl) ?_
  intro T5 X5 e5
  show Owes _ _ _ _ (T5.setTop (mkF m 4 #[.val (.ref r0), .val (.int p1), .unset, .unset, .unset] []))
  refine Owes.go ?_ fun t₀ k₀ => XS.iconst X5.here hx rfl (hb hby d1_4) k₀
  show Owes _ _ _ _ (T5.setTop (mkF m 5 #[.val (.ref r0), .val (.int p1), .unset, .unset, .unset] [(.int (1 : Int32))]))
  refine Owes.go ?_ fun t₀ k₀ => XS.istoreN X5.here hx rfl (hb hby d1_5) rfl (l' := #[.val (.ref r0), .val (.int p1), .val (.int (1 : Int32)), .unset, .unset]) rfl k₀
  show Owes _ _ _ _ (T5.setTop (mkF m 6 #[.val (.ref r0), .val (.int p1), .val (.int (1 : Int32)), .unset, .unset] []))
  refine Owes.go ?_ fun t₀ k₀ => XS.iloadN X5.here hx rfl (hb hby d1_6) rfl k₀
  show Owes _ _ _ _ (T5.setTop (mkF m 7 #[.val (.ref r0), .val (.int p1), .val (.int (1 : Int32)), .unset, .unset] [(.int p1)]))
  refine Owes.callS X5 hx hZ hown (hw _ (List.mem_of_getElem? (i := 11) rfl)) (hw _ (List.mem_of_getElem? (i := 12) rfl)) (hw _ (List.mem_of_getElem? (i := 4) rfl)) (hw _ (List.mem_of_getElem? (i := 13) rfl)) (by decide) (argsL := [(.int p1)]) (rest := []) (rm_f_wf l Z a0 hw [] p1 h0 ) e5 (by rw [hml]; rfl) pd_0 rfl rfl (hb hby d1_7) (by decide) (Nat.le_of_ble_eq_true rfl) (by decide) (by decide) ?_
  rintro T6 _ _ X6 ⟨rfl, rfl, e6⟩
  rw [List.append_nil] at X6
  show Owes _ _ _ _ (T6.setTop (mkF m 10 #[.val (.ref r0), .val (.int p1), .val (.int (1 : Int32)), .unset, .unset] [(.int (f_wf p1))]))
  refine Owes.go ?_ fun t₀ k₀ => XS.istoreN X6.here hx rfl (hb hby d1_10) rfl (l' := #[.val (.ref r0), .val (.int p1), .val (.int (1 : Int32)), .val (.int (f_wf p1)), .unset]) rfl k₀
  show Owes _ _ _ _ (T6.setTop (mkF m 11 #[.val (.ref r0), .val (.int p1), .val (.int (1 : Int32)), .val (.int (f_wf p1)), .unset] []))
  have l1 : ∀ (r k : Nat), k + r = 5 → 0 < k → ∀ (kI wI : Int32) (T : State), Stand p l e ({ frames := 1, cells := 6, slots := 8400, locals := 15 } : Room) s m #[(.ref r0), (.int p1)] below meth c T [] 0 0 → T.heap = h0 → kI.toInt = (k : Int) → wI.toInt = (wsz size k : Int) → Owes p e below (EndN s (fun v h L => v = none ∧ Fr n0 L ∧ ∃ (lv : Addr) (d : Nat) (g : Nat → Addr), RS Z h n0 r0 lv d g (fun k => wsz size (k + 1)) (fun _ _ => 0) ∧ Fits size d (fun k => wsz size (k + 1))) ({ frames := 1, cells := 6, slots := 8400, locals := 15 } : Room).cells ({ frames := 1, cells := 6, slots := 8400, locals := 15 } : Room).slots) (T.setTop (mkF m 11 #[.val (.ref r0), .val (.int p1), .val (.int kI), .val (.int wI), .unset] [])) := by
    have l2 : ∀ (d : Nat), 0 < d → d ≤ 5 → wsz size d ≤ 1 → ∀ (dI wI : Int32) (T : State), Stand p l e ({ frames := 1, cells := 6, slots := 8400, locals := 15 } : Room) s m #[(.ref r0), (.int p1)] below meth c T [] 0 0 → T.heap = h0 → dI.toInt = (d : Int) → Owes p e below (EndN s (fun v h L => v = none ∧ Fr n0 L ∧ ∃ (lv : Addr) (d : Nat) (g : Nat → Addr), RS Z h n0 r0 lv d g (fun k => wsz size (k + 1)) (fun _ _ => 0) ∧ Fits size d (fun k => wsz size (k + 1))) ({ frames := 1, cells := 6, slots := 8400, locals := 15 } : Room).cells ({ frames := 1, cells := 6, slots := 8400, locals := 15 } : Room).slots) (T.setTop (mkF m 27 #[.val (.ref r0), .val (.int p1), .val (.int dI), .val (.int wI), .unset] [])) := by
      intro d hd0 hd5 hdl dI wI T X eT hdI
      refine Owes.go ?_ fun t₀ k₀ => XS.aloadN X.here hx rfl (hb hby d1_27) rfl rfl k₀
      show Owes _ _ _ _ (T.setTop (mkF m 28 #[.val (.ref r0), .val (.int p1), .val (.int dI), .val (.int wI), .unset] [(.ref r0)]))
      refine Owes.go ?_ fun t₀ k₀ => XS.iloadN X.here hx rfl (hb hby d1_28) rfl k₀
      show Owes _ _ _ _ (T.setTop (mkF m 29 #[.val (.ref r0), .val (.int p1), .val (.int dI), .val (.int wI), .unset] [(.int dI), (.ref r0)]))
      refine Owes.newArrA X hx hZ hown (ty := .long) (by decide) (hw _ (List.mem_of_getElem? (i := 14) rfl)) (hw _ (List.mem_of_getElem? (i := 15) rfl)) eT hdI (by omega) (by decide) (show 0 + d ≤ 8400 by omega) (hb hby d1_29) ?_
      intro T7 h7 cA X7 e7 E7 A7 OV
      obtain ⟨lv, glv⟩ : ∃ z, z = h0.size := ⟨_, rfl⟩
      rw [← glv] at A7 ⊢
      show Owes _ _ _ _ (T7.setTop (mkF m 32 #[.val (.ref r0), .val (.int p1), .val (.int dI), .val (.int wI), .unset] [(.ref lv), (.ref r0)]))
      refine Owes.putF X7 hx hZ hown (host := "") (Or.inl (hw _ (List.mem_of_getElem? (i := 16) rfl))) Via.refl e7 (F00.ext E7) (E00.ext E7) (Or.inr ⟨(hw _ (List.mem_of_getElem? (i := 17) rfl)), rfl, hnm⟩) wi (ty := .array (.array .long)) (by decide) rfl rfl (hb hby d1_32) ?_
      intro T8 h8 X8 e8 W8
      have lv_r : r0 ≠ lv := by rw [glv]; exact Nat.ne_of_lt E00.lt
      have GL : GC Z h8 lv (.array .long) d (fun _ => .null) cA := (GC.new A7 hdI).other W8 (Ne.symm lv_r)
      have hbn : n0 ≤ h8.size := by rw [W8.size]; exact Nat.le_trans Z0 E7.1
      have FB0 : RB Z h8 n0 r0 lv d 0 (fun _ => 0) size cA := ⟨(E00.ext E7).wr W8, (F00.ext E7).same W8, GL.congr (fun i hi => (if_neg (Nat.not_lt_zero _)).symm), by rw [glv]; exact Z0, hbn, fun j hj => absurd hj (Nat.not_lt_zero _), fun j i hj => absurd hj (Nat.not_lt_zero _)⟩
      have N8 := Fr.snoc X8 (Fr.nil n0) g0
      show Owes _ _ _ _ (T8.setTop (mkF m 35 #[.val (.ref r0), .val (.int p1), .val (.int dI), .val (.int wI), .unset] []))
      refine Owes.go ?_ fun t₀ k₀ => XS.iloadN X8.here hx rfl (hb hby d1_35) rfl k₀
      show Owes _ _ _ _ (T8.setTop (mkF m 36 #[.val (.ref r0), .val (.int p1), .val (.int dI), .val (.int wI), .unset] [(.int p1)]))
      refine Owes.go ?_ fun t₀ k₀ => XS.istoreN X8.here hx rfl (hb hby d1_36) rfl (l' := #[.val (.ref r0), .val (.int p1), .val (.int dI), .val (.int p1), .unset]) rfl k₀
      show Owes _ _ _ _ (T8.setTop (mkF m 37 #[.val (.ref r0), .val (.int p1), .val (.int dI), .val (.int p1), .unset] []))
      refine Owes.go ?_ fun t₀ k₀ => XS.iconst X8.here hx rfl (hb hby d1_37) k₀
      show Owes _ _ _ _ (T8.setTop (mkF m 38 #[.val (.ref r0), .val (.int p1), .val (.int dI), .val (.int p1), .unset] [(.int (0 : Int32))]))
      refine Owes.go ?_ fun t₀ k₀ => XS.istore X8.here hx rfl (hb hby d1_38) rfl (l' := #[.val (.ref r0), .val (.int p1), .val (.int dI), .val (.int p1), .val (.int (0 : Int32))]) rfl k₀
      show Owes _ _ _ _ (T8.setTop (mkF m 40 #[.val (.ref r0), .val (.int p1), .val (.int dI), .val (.int p1), .val (.int (0 : Int32))] []))
      have l3 : ∀ (r k : Nat), k + r = d → ∀ (kI bI : Int32) (T : State) (locs : List Loc) (h : Heap) (g : Nat → Addr), Stand p l e ({ frames := 1, cells := 6, slots := 8400, locals := 15 } : Room) s m #[(.ref r0), (.int p1)] below meth c T locs (1 + k) (d + used size k) → T.heap = h → Fr n0 locs → RB Z h n0 r0 lv d k g size cA → kI.toInt = (k : Int) → bI.toInt = (wsz size k : Int) → Owes p e below (EndN s (fun v h L => v = none ∧ Fr n0 L ∧ ∃ (lv : Addr) (d : Nat) (g : Nat → Addr), RS Z h n0 r0 lv d g (fun k => wsz size (k + 1)) (fun _ _ => 0) ∧ Fits size d (fun k => wsz size (k + 1))) ({ frames := 1, cells := 6, slots := 8400, locals := 15 } : Room).cells ({ frames := 1, cells := 6, slots := 8400, locals := 15 } : Room).slots) (T.setTop (mkF m 40 #[.val (.ref r0), .val (.int p1), .val (.int dI), .val (.int bI), .val (.int kI)] [])) := by
        intro r
        induction r with
        | zero =>
          intro k hk0 kI bI T locs h g X eT N FB hkI hbI
          have hkd : k = d := by omega
          subst hkd
          refine Owes.go ?_ fun t₀ k₀ => XS.iload X.here hx rfl (hb hby d1_40) rfl k₀
          show Owes _ _ _ _ (T.setTop (mkF m 42 #[.val (.ref r0), .val (.int p1), .val (.int dI), .val (.int bI), .val (.int kI)] [(.int kI)]))
          refine Owes.go ?_ fun t₀ k₀ => XS.iloadN X.here hx rfl (hb hby d1_42) rfl k₀
          show Owes _ _ _ _ (T.setTop (mkF m 43 #[.val (.ref r0), .val (.int p1), .val (.int dI), .val (.int bI), .val (.int kI)] [(.int dI), (.int kI)]))
          refine Owes.go ?_ fun t₀ k₀ => XS.icmpYes X.here hx rfl (pc0 := 43) (pc' := 78) rfl (hb hby d1_43) rfl (flt (own_nlti hkI hdI (by omega))).2.1 (by decide) (by decide) k₀
          show Owes _ _ _ _ (T.setTop (mkF m 78 #[.val (.ref r0), .val (.int p1), .val (.int dI), .val (.int bI), .val (.int kI)] []))
          exact Owes.retV X hx hlk hret (hb hby d1_78) (show 1 + k ≤ 6 by omega) (show k + used size k ≤ 8400 by have := used_mono (size := size) hd5; omega) (by rw [eT]; exact ⟨rfl, N, lv, k, g, FB.done, own_fits hs0 hs1 ⟨hd0, hd5⟩ hdl⟩)
        | succ r ih =>
          intro k hk0 kI bI T locs h g X eT N FB hkI hbI
          have hk : k < d := by omega
          have hws := wsz_le hs1 k
          have hw1 : (f_wf bI).toInt = (wsz size (k + 1) : Int) := own_wf hbI (by omega)
          have hpos := wsz_pos hs0 (k + 1)
          have hmx : f_max (f_wf bI) (1 : Int32) = f_wf bI := own_max1 hw1 hpos
          have hus : used size (k + 1) ≤ used size 5 := used_mono (by omega)
          have hus' : used size (k + 1) = used size k + wsz size (k + 1) := rfl
          refine Owes.go ?_ fun t₀ k₀ => XS.iload X.here hx rfl (hb hby d1_40) rfl k₀
          show Owes _ _ _ _ (T.setTop (mkF m 42 #[.val (.ref r0), .val (.int p1), .val (.int dI), .val (.int bI), .val (.int kI)] [(.int kI)]))
          refine Owes.go ?_ fun t₀ k₀ => XS.iloadN X.here hx rfl (hb hby d1_42) rfl k₀
          show Owes _ _ _ _ (T.setTop (mkF m 43 #[.val (.ref r0), .val (.int p1), .val (.int dI), .val (.int bI), .val (.int kI)] [(.int dI), (.int kI)]))
          refine Owes.go ?_ fun t₀ k₀ => XS.icmpNo X.here hx rfl (hb hby d1_43) rfl (tlt (own_lti hkI hdI hk)).2.1 k₀
          show Owes _ _ _ _ (T.setTop (mkF m 46 #[.val (.ref r0), .val (.int p1), .val (.int dI), .val (.int bI), .val (.int kI)] []))
          refine Owes.go ?_ fun t₀ k₀ => XS.aloadN X.here hx rfl (hb hby d1_46) rfl rfl k₀
          show Owes _ _ _ _ (T.setTop (mkF m 47 #[.val (.ref r0), .val (.int p1), .val (.int dI), .val (.int bI), .val (.int kI)] [(.ref r0)]))
          obtain ⟨T9, X9, e9, st9⟩ := getF X hx hZ hown (host := "") (Or.inl (hw _ (List.mem_of_getElem? (i := 16) rfl))) Via.refl eT FB.2.1 (g := (mkF m 47 #[.val (.ref r0), .val (.int p1), .val (.int dI), .val (.int bI), .val (.int kI)] [(.ref r0)])) rfl rfl (hb hby d1_47)
          refine Owes.go ?_ st9
          show Owes _ _ _ _ (T9.setTop (mkF m 50 #[.val (.ref r0), .val (.int p1), .val (.int dI), .val (.int bI), .val (.int kI)] [(.ref lv)]))
          refine Owes.go ?_ fun t₀ k₀ => XS.iload X9.here hx rfl (hb hby d1_50) rfl k₀
          show Owes _ _ _ _ (T9.setTop (mkF m 52 #[.val (.ref r0), .val (.int p1), .val (.int dI), .val (.int bI), .val (.int kI)] [(.int kI), (.ref lv)]))
          refine Owes.go ?_ fun t₀ k₀ => XS.iloadN X9.here hx rfl (hb hby d1_52) rfl k₀
          show Owes _ _ _ _ (T9.setTop (mkF m 53 #[.val (.ref r0), .val (.int p1), .val (.int dI), .val (.int bI), .val (.int kI)] [(.int bI), (.int kI), (.ref lv)]))
          refine Owes.callS X9 hx hZ hown (hw _ (List.mem_of_getElem? (i := 11) rfl)) (hw _ (List.mem_of_getElem? (i := 12) rfl)) (hw _ (List.mem_of_getElem? (i := 4) rfl)) (hw _ (List.mem_of_getElem? (i := 13) rfl)) (by decide) (argsL := [(.int bI)]) (rest := [(.int kI), (.ref lv)]) (rm_f_wf l Z a0 hw [] bI h ) e9 (by rw [hml]; rfl) pd_0 rfl rfl (hb hby d1_53) (by decide) (Nat.le_of_ble_eq_true rfl) (show 1 + k ≤ 6 by omega) (show d + used size k ≤ 8400 by omega) ?_
          rintro T10 _ _ X10 ⟨rfl, rfl, e10⟩
          rw [List.append_nil] at X10
          show Owes _ _ _ _ (T10.setTop (mkF m 56 #[.val (.ref r0), .val (.int p1), .val (.int dI), .val (.int bI), .val (.int kI)] [(.int (f_wf bI)), (.int kI), (.ref lv)]))
          refine Owes.go ?_ fun t₀ k₀ => XS.iconst X10.here hx rfl (hb hby d1_56) k₀
          show Owes _ _ _ _ (T10.setTop (mkF m 57 #[.val (.ref r0), .val (.int p1), .val (.int dI), .val (.int bI), .val (.int kI)] [(.int (1 : Int32)), (.int (f_wf bI)), (.int kI), (.ref lv)]))
          refine Owes.callS X10 hx hZ hown (hw _ (List.mem_of_getElem? (i := 18) rfl)) (hw _ (List.mem_of_getElem? (i := 19) rfl)) (hw _ (List.mem_of_getElem? (i := 20) rfl)) (hw _ (List.mem_of_getElem? (i := 21) rfl)) (by decide) (argsL := [(.int (f_wf bI)), (.int (1 : Int32))]) (rest := [(.int kI), (.ref lv)]) (rm_f_max l Z a0 hw [] (f_wf bI) (1 : Int32) h ) e10 (by rw [hml]; rfl) pd_1 rfl rfl (hb hby d1_57) (by decide) (Nat.le_of_ble_eq_true rfl) (show 1 + k ≤ 6 by omega) (show d + used size k ≤ 8400 by omega) ?_
          rintro T11 _ _ X11 ⟨rfl, rfl, e11⟩
          rw [List.append_nil] at X11
          show Owes _ _ _ _ (T11.setTop (mkF m 60 #[.val (.ref r0), .val (.int p1), .val (.int dI), .val (.int bI), .val (.int kI)] [(.int (f_max (f_wf bI) (1 : Int32))), (.int kI), (.ref lv)]))
          rw [hmx]
          refine Owes.newArr X11 hx hZ (aty := .long) (hw _ (List.mem_of_getElem? (i := 22) rfl)) e11 hw1 (by have := wsz_le hs1 (k + 1); omega) (show 1 + k + 1 ≤ 6 by omega) (show d + used size k + wsz size (k + 1) ≤ 8400 by omega) (ad := "[J") (by decide) (hb hby d1_60) ?_
          intro T12 h12 X12 e12 E12 A12 EX12
          have FB1 := FB.ext E12
          obtain ⟨x, gx⟩ : ∃ z, z = h.size := ⟨_, rfl⟩
          rw [← gx] at A12 EX12 ⊢
          have hxn : n0 ≤ x := by rw [gx]; exact FB.2.2.2.2.1
          have hxg : ∀ j, j < k → g j ≠ x := fun j hj => by rw [gx]; exact Nat.ne_of_lt (FB.2.2.2.2.2.1 j hj).1.lt
          show Owes _ _ _ _ (T12.setTop (mkF m 62 #[.val (.ref r0), .val (.int p1), .val (.int dI), .val (.int bI), .val (.int kI)] [(.ref x), (.int kI), (.ref lv)]))
          refine Owes.sR X12 hx hZ e12 FB1.2.2.1.ga rfl hkI hk (FB1.2.2.1.sto OV (Ins.self EX12)) (hb hby d1_62) ?_
          intro T13 h13 X13 e13 W13 _
          have FB2 := FB1.more wi hxg hxn A12 W13
          have N13 := Fr.snoc X13 N FB.2.2.2.1
          show Owes _ _ _ _ (T13.setTop (mkF m 63 #[.val (.ref r0), .val (.int p1), .val (.int dI), .val (.int bI), .val (.int kI)] []))
          refine Owes.go ?_ fun t₀ k₀ => XS.aloadN X13.here hx rfl (hb hby d1_63) rfl rfl k₀
          show Owes _ _ _ _ (T13.setTop (mkF m 64 #[.val (.ref r0), .val (.int p1), .val (.int dI), .val (.int bI), .val (.int kI)] [(.ref r0)]))
          obtain ⟨T14, X14, e14, st14⟩ := getF X13 hx hZ hown (host := "") (Or.inl (hw _ (List.mem_of_getElem? (i := 16) rfl))) Via.refl e13 FB2.2.1 (g := (mkF m 64 #[.val (.ref r0), .val (.int p1), .val (.int dI), .val (.int bI), .val (.int kI)] [(.ref r0)])) rfl rfl (hb hby d1_64)
          refine Owes.go ?_ st14
          show Owes _ _ _ _ (T14.setTop (mkF m 67 #[.val (.ref r0), .val (.int p1), .val (.int dI), .val (.int bI), .val (.int kI)] [(.ref lv)]))
          refine Owes.go ?_ fun t₀ k₀ => XS.iload X14.here hx rfl (hb hby d1_67) rfl k₀
          show Owes _ _ _ _ (T14.setTop (mkF m 69 #[.val (.ref r0), .val (.int p1), .val (.int dI), .val (.int bI), .val (.int kI)] [(.int kI), (.ref lv)]))
          refine Owes.gR X14 hx hZ e14 FB2.2.2.1.ga rfl hkI hk (v := .ref x) (by rw [if_pos (by omega), upd_same]) (hb hby d1_69) ?_
          show Owes _ _ _ _ (T14.setTop (mkF m 70 #[.val (.ref r0), .val (.int p1), .val (.int dI), .val (.int bI), .val (.int kI)] [(.ref x)]))
          have AX := (FB2.2.2.2.2.2.1 k (by omega)).1
          rw [upd_same] at AX
          refine Owes.glen X14 hx hZ e14 AX hw1 (hb hby d1_70) ?_
          show Owes _ _ _ _ (T14.setTop (mkF m 71 #[.val (.ref r0), .val (.int p1), .val (.int dI), .val (.int bI), .val (.int kI)] [(.int (f_wf bI))]))
          refine Owes.go ?_ fun t₀ k₀ => XS.istoreN X14.here hx rfl (hb hby d1_71) rfl (l' := #[.val (.ref r0), .val (.int p1), .val (.int dI), .val (.int (f_wf bI)), .val (.int kI)]) rfl k₀
          show Owes _ _ _ _ (T14.setTop (mkF m 72 #[.val (.ref r0), .val (.int p1), .val (.int dI), .val (.int (f_wf bI)), .val (.int kI)] []))
          refine Owes.go ?_ fun t₀ k₀ => XS.iinc X14.here hx rfl (hb hby d1_72) rfl (l' := #[.val (.ref r0), .val (.int p1), .val (.int dI), .val (.int (f_wf bI)), .val (.int (kI + (1 : Int32)))]) rfl k₀
          show Owes _ _ _ _ (T14.setTop (mkF m 75 #[.val (.ref r0), .val (.int p1), .val (.int dI), .val (.int (f_wf bI)), .val (.int (kI + (1 : Int32)))] []))
          refine Owes.go ?_ fun t₀ k₀ => XS.goto X14.here hx rfl (pc0 := 75) (pc' := 40) rfl (hb hby d1_75) (by decide) (by decide) k₀
          show Owes _ _ _ _ (T14.setTop (mkF m 40 #[.val (.ref r0), .val (.int p1), .val (.int dI), .val (.int (f_wf bI)), .val (.int (kI + (1 : Int32)))] []))
          exact ih (k + 1) (by omega) _ _ _ _ _ _ (own_st X14 (show 1 + k + 1 = 1 + (k + 1) by omega) (show d + used size k + wsz size (k + 1) = d + used size (k + 1) by rw [hus']; omega)) e14 N13 FB2 (own_inc hkI (by omega)) hw1
      exact l3 d 0 (by omega) _ _ _ _ _ _ (own_st X8 (show 0 + 1 = 1 + 0 by omega) (show 0 + d = d + 0 by omega)) e8 N8 FB0 rfl hp
    intro r
    induction r with
    | zero =>
      intro k hk0 hkp kI wI T X eT hkI hwI
      have hk5 : k = 5 := by omega
      have h5 : wsz size k ≤ 1 := by rw [hk5]; exact wsz_5 hs1
      refine Owes.go ?_ fun t₀ k₀ => XS.iloadN X.here hx rfl (hb hby d1_11) rfl k₀
      show Owes _ _ _ _ (T.setTop (mkF m 12 #[.val (.ref r0), .val (.int p1), .val (.int kI), .val (.int wI), .unset] [(.int wI)]))
      refine Owes.go ?_ fun t₀ k₀ => XS.iconst X.here hx rfl (hb hby d1_12) k₀
      show Owes _ _ _ _ (T.setTop (mkF m 13 #[.val (.ref r0), .val (.int p1), .val (.int kI), .val (.int wI), .unset] [(.int (1 : Int32)), (.int wI)]))
      refine Owes.go ?_ fun t₀ k₀ => XS.icmpYes X.here hx rfl (pc0 := 13) (pc' := 27) rfl (hb hby d1_13) rfl (flt (own_nlti (a := 1) rfl hwI (by omega))).2.2.2 (by decide) (by decide) k₀
      show Owes _ _ _ _ (T.setTop (mkF m 27 #[.val (.ref r0), .val (.int p1), .val (.int kI), .val (.int wI), .unset] []))
      exact l2 k hkp (by omega) h5 _ _ _ X eT hkI
    | succ r ih =>
      intro k hk0 hkp kI wI T X eT hkI hwI
      by_cases h5 : wsz size k ≤ 1
      · skip
        refine Owes.go ?_ fun t₀ k₀ => XS.iloadN X.here hx rfl (hb hby d1_11) rfl k₀
        show Owes _ _ _ _ (T.setTop (mkF m 12 #[.val (.ref r0), .val (.int p1), .val (.int kI), .val (.int wI), .unset] [(.int wI)]))
        refine Owes.go ?_ fun t₀ k₀ => XS.iconst X.here hx rfl (hb hby d1_12) k₀
        show Owes _ _ _ _ (T.setTop (mkF m 13 #[.val (.ref r0), .val (.int p1), .val (.int kI), .val (.int wI), .unset] [(.int (1 : Int32)), (.int wI)]))
        refine Owes.go ?_ fun t₀ k₀ => XS.icmpYes X.here hx rfl (pc0 := 13) (pc' := 27) rfl (hb hby d1_13) rfl (flt (own_nlti (a := 1) rfl hwI (by omega))).2.2.2 (by decide) (by decide) k₀
        show Owes _ _ _ _ (T.setTop (mkF m 27 #[.val (.ref r0), .val (.int p1), .val (.int kI), .val (.int wI), .unset] []))
        exact l2 k hkp (by omega) h5 _ _ _ X eT hkI
      · skip
        refine Owes.go ?_ fun t₀ k₀ => XS.iloadN X.here hx rfl (hb hby d1_11) rfl k₀
        show Owes _ _ _ _ (T.setTop (mkF m 12 #[.val (.ref r0), .val (.int p1), .val (.int kI), .val (.int wI), .unset] [(.int wI)]))
        refine Owes.go ?_ fun t₀ k₀ => XS.iconst X.here hx rfl (hb hby d1_12) k₀
        show Owes _ _ _ _ (T.setTop (mkF m 13 #[.val (.ref r0), .val (.int p1), .val (.int kI), .val (.int wI), .unset] [(.int (1 : Int32)), (.int wI)]))
        refine Owes.go ?_ fun t₀ k₀ => XS.icmpNo X.here hx rfl (hb hby d1_13) rfl (tlt (own_lti (a := 1) rfl hwI (by omega))).2.2.2 k₀
        show Owes _ _ _ _ (T.setTop (mkF m 16 #[.val (.ref r0), .val (.int p1), .val (.int kI), .val (.int wI), .unset] []))
        refine Owes.go ?_ fun t₀ k₀ => XS.iinc X.here hx rfl (hb hby d1_16) rfl (l' := #[.val (.ref r0), .val (.int p1), .val (.int (kI + (1 : Int32))), .val (.int wI), .unset]) rfl k₀
        show Owes _ _ _ _ (T.setTop (mkF m 19 #[.val (.ref r0), .val (.int p1), .val (.int (kI + (1 : Int32))), .val (.int wI), .unset] []))
        refine Owes.go ?_ fun t₀ k₀ => XS.iloadN X.here hx rfl (hb hby d1_19) rfl k₀
        show Owes _ _ _ _ (T.setTop (mkF m 20 #[.val (.ref r0), .val (.int p1), .val (.int (kI + (1 : Int32))), .val (.int wI), .unset] [(.int wI)]))
        refine Owes.callS X hx hZ hown (hw _ (List.mem_of_getElem? (i := 11) rfl)) (hw _ (List.mem_of_getElem? (i := 12) rfl)) (hw _ (List.mem_of_getElem? (i := 4) rfl)) (hw _ (List.mem_of_getElem? (i := 13) rfl)) (by decide) (argsL := [(.int wI)]) (rest := []) (rm_f_wf l Z a0 hw [] wI h0 ) eT (by rw [hml]; rfl) pd_0 rfl rfl (hb hby d1_20) (by decide) (Nat.le_of_ble_eq_true rfl) (by decide) (by decide) ?_
        rintro T15 _ _ X15 ⟨rfl, rfl, e15⟩
        rw [List.append_nil] at X15
        show Owes _ _ _ _ (T15.setTop (mkF m 23 #[.val (.ref r0), .val (.int p1), .val (.int (kI + (1 : Int32))), .val (.int wI), .unset] [(.int (f_wf wI))]))
        refine Owes.go ?_ fun t₀ k₀ => XS.istoreN X15.here hx rfl (hb hby d1_23) rfl (l' := #[.val (.ref r0), .val (.int p1), .val (.int (kI + (1 : Int32))), .val (.int (f_wf wI)), .unset]) rfl k₀
        show Owes _ _ _ _ (T15.setTop (mkF m 24 #[.val (.ref r0), .val (.int p1), .val (.int (kI + (1 : Int32))), .val (.int (f_wf wI)), .unset] []))
        refine Owes.go ?_ fun t₀ k₀ => XS.goto X15.here hx rfl (pc0 := 24) (pc' := 11) rfl (hb hby d1_24) (by decide) (by decide) k₀
        show Owes _ _ _ _ (T15.setTop (mkF m 11 #[.val (.ref r0), .val (.int p1), .val (.int (kI + (1 : Int32))), .val (.int (f_wf wI)), .unset] []))
        exact ih (k + 1) (by omega) (by omega) _ _ _ X15 e15 (own_inc hkI (by omega)) (own_wf hwI (by have := wsz_le hs1 k; omega))
  exact l1 4 1 (by omega) (by omega) _ _ _ X6 e6 rfl (own_wf hp (show size < 2147483000 by omega))
theorem d5_0 : decode prog_118_method_2_code 0 = .ok (.iload_n 1, 1) := by decide +kernel
theorem d5_1 : decode prog_118_method_2_code 1 = .ok (.istore_n 2, 1) := by decide +kernel
theorem d5_2 : decode prog_118_method_2_code 2 = .ok (.aload_n 0, 1) := by decide +kernel
theorem d5_3 : decode prog_118_method_2_code 3 = .ok (.getfield 15, 3) := by decide +kernel
theorem d5_6 : decode prog_118_method_2_code 6 = .ok (.astore_n 3, 1) := by decide +kernel
theorem d5_7 : decode prog_118_method_2_code 7 = .ok (.aload_n 3, 1) := by decide +kernel
theorem d5_8 : decode prog_118_method_2_code 8 = .ok (.arraylength, 1) := by decide +kernel
theorem d5_9 : decode prog_118_method_2_code 9 = .ok (.istore 4, 2) := by decide +kernel
theorem d5_11 : decode prog_118_method_2_code 11 = .ok (.iconst 0, 1) := by decide +kernel
theorem d5_12 : decode prog_118_method_2_code 12 = .ok (.istore 5, 2) := by decide +kernel
theorem d5_14 : decode prog_118_method_2_code 14 = .ok (.iload 5, 2) := by decide +kernel
theorem d5_16 : decode prog_118_method_2_code 16 = .ok (.iload 4, 2) := by decide +kernel
theorem d5_18 : decode prog_118_method_2_code 18 = .ok (.if_icmp .ge 58, 3) := by decide +kernel
theorem d5_76 : decode prog_118_method_2_code 76 = .ok (.return_, 1) := by decide +kernel
theorem d5_21 : decode prog_118_method_2_code 21 = .ok (.aload_n 3, 1) := by decide +kernel
theorem d5_22 : decode prog_118_method_2_code 22 = .ok (.iload 5, 2) := by decide +kernel
theorem d5_24 : decode prog_118_method_2_code 24 = .ok (.aaload, 1) := by decide +kernel
theorem d5_25 : decode prog_118_method_2_code 25 = .ok (.astore 6, 2) := by decide +kernel
theorem d5_27 : decode prog_118_method_2_code 27 = .ok (.aload 6, 2) := by decide +kernel
theorem d5_29 : decode prog_118_method_2_code 29 = .ok (.iload_n 2, 1) := by decide +kernel
theorem d5_30 : decode prog_118_method_2_code 30 = .ok (.bipush 6, 2) := by decide +kernel
theorem d5_32 : decode prog_118_method_2_code 32 = .ok (.iushr, 1) := by decide +kernel
theorem d5_33 : decode prog_118_method_2_code 33 = .ok (.laload, 1) := by decide +kernel
theorem d5_34 : decode prog_118_method_2_code 34 = .ok (.lconst 0, 1) := by decide +kernel
theorem d5_35 : decode prog_118_method_2_code 35 = .ok (.lcmp, 1) := by decide +kernel
theorem d5_36 : decode prog_118_method_2_code 36 = .ok (.ifCond .ne 7, 3) := by decide +kernel
theorem d5_39 : decode prog_118_method_2_code 39 = .ok (.iconst 1, 1) := by decide +kernel
theorem d5_40 : decode prog_118_method_2_code 40 = .ok (.goto 4, 3) := by decide +kernel
theorem d5_44 : decode prog_118_method_2_code 44 = .ok (.istore 7, 2) := by decide +kernel
theorem d5_46 : decode prog_118_method_2_code 46 = .ok (.aload 6, 2) := by decide +kernel
theorem d5_48 : decode prog_118_method_2_code 48 = .ok (.iload_n 2, 1) := by decide +kernel
theorem d5_49 : decode prog_118_method_2_code 49 = .ok (.bipush 6, 2) := by decide +kernel
theorem d5_51 : decode prog_118_method_2_code 51 = .ok (.iushr, 1) := by decide +kernel
theorem d5_52 : decode prog_118_method_2_code 52 = .ok (.dup2, 1) := by decide +kernel
theorem d5_53 : decode prog_118_method_2_code 53 = .ok (.laload, 1) := by decide +kernel
theorem d5_54 : decode prog_118_method_2_code 54 = .ok (.lconst 1, 1) := by decide +kernel
theorem d5_55 : decode prog_118_method_2_code 55 = .ok (.iload_n 2, 1) := by decide +kernel
theorem d5_56 : decode prog_118_method_2_code 56 = .ok (.lshl, 1) := by decide +kernel
theorem d5_57 : decode prog_118_method_2_code 57 = .ok (.lor, 1) := by decide +kernel
theorem d5_58 : decode prog_118_method_2_code 58 = .ok (.lastore, 1) := by decide +kernel
theorem d5_59 : decode prog_118_method_2_code 59 = .ok (.iload 7, 2) := by decide +kernel
theorem d5_61 : decode prog_118_method_2_code 61 = .ok (.ifCond .ne 4, 3) := by decide +kernel
theorem d5_65 : decode prog_118_method_2_code 65 = .ok (.iload_n 2, 1) := by decide +kernel
theorem d5_66 : decode prog_118_method_2_code 66 = .ok (.bipush 6, 2) := by decide +kernel
theorem d5_68 : decode prog_118_method_2_code 68 = .ok (.iushr, 1) := by decide +kernel
theorem d5_69 : decode prog_118_method_2_code 69 = .ok (.istore_n 2, 1) := by decide +kernel
theorem d5_70 : decode prog_118_method_2_code 70 = .ok (.iinc 5 1, 3) := by decide +kernel
theorem d5_73 : decode prog_118_method_2_code 73 = .ok (.goto (-59), 3) := by decide +kernel
theorem d5_43 : decode prog_118_method_2_code 43 = .ok (.iconst 0, 1) := by decide +kernel
theorem d5_64 : decode prog_118_method_2_code 64 = .ok (.return_, 1) := by decide +kernel
theorem ef_5 (m : MethodId) (r0 : Addr) (p1 : Int32) : entryFrame m #[(.ref r0), (.int p1)] 8 = mkF m 0 #[.val (.ref r0), .val (.int p1), .unset, .unset, .unset, .unset, .unset, .unset] [] := by first | (simp [entryFrame, mkF, argsToLocals, Value.category]; done) | rfl
theorem pn_5 : plainFor (⟨"com/example/slotwright/slotwright/core/RankSet", "add", "(I)V"⟩ : MethodName) = true := plainFor_of_name (by first | (simp [plainName, overriddenIn]; done) | decide +kernel)
set_option maxRecDepth 65536 in
set_option maxHeartbeats 40000000 in
theorem rm_add (l : Launch) (Z : State) (a0 : Array Value) (hw : ∀ d ∈ tables_1, d.before a0 Z = true) (ws : List Jvm.Cond) (r0 : Addr) (p1 : Int32) (h0 : Heap) (n0 : Nat) (lv : Addr) (d : Nat) (g : Nat → Addr) (len : Nat → Nat) (W : Nat → Nat → Int64) (M : Nat → Prop) (size : Nat) (F0 : RS Z h0 n0 r0 lv d g len W) (H0 : ∀ k, k < d → LV M k (len k) (W k)) (FT : Fits size d len) (n : Nat) (hn : n < size) (hp : p1.toInt = (n : Int)) :
    OMet l (⟨"com/example/slotwright/slotwright/core/RankSet", "add", "(I)V"⟩ : MethodName) prog_118_method_2_code 8 none ws ({ frames := 0, cells := 0, slots := 0, locals := 0 } : Room) #[(.ref r0), (.int p1)] Z h0 (fun v h L => v = none ∧ Fr n0 L ∧ ∃ W', RS Z h n0 r0 lv d g len W' ∧ ∀ k, k < d → LV (fun x => M x ∨ x = n) k (len k) (W' k)) := by
  refine OMet.of pn_5 (fun m => ef_5 m r0 p1) ?_
  intro p e s m below meth c s₁ hx hby hml hown hnm hret hlk hZ X0 e0
  have wi := (hw _ (List.mem_of_getElem? (i := 3) rfl))
  have hd20 := FT.2.1
  refine Owes.go ?_ fun t₀ k₀ => XS.iloadN X0.here hx rfl (hb hby d5_0) rfl k₀
  show Owes _ _ _ _ (s₁.setTop (mkF m 1 #[.val (.ref r0), .val (.int p1), .unset, .unset, .unset, .unset, .unset, .unset] [(.int p1)]))
  refine Owes.go ?_ fun t₀ k₀ => XS.istoreN X0.here hx rfl (hb hby d5_1) rfl (l' := #[.val (.ref r0), .val (.int p1), .val (.int p1), .unset, .unset, .unset, .unset, .unset]) rfl k₀
  show Owes _ _ _ _ (s₁.setTop (mkF m 2 #[.val (.ref r0), .val (.int p1), .val (.int p1), .unset, .unset, .unset, .unset, .unset] []))
  refine Owes.go ?_ fun t₀ k₀ => XS.aloadN X0.here hx rfl (hb hby d5_2) rfl rfl k₀
  show Owes _ _ _ _ (s₁.setTop (mkF m 3 #[.val (.ref r0), .val (.int p1), .val (.int p1), .unset, .unset, .unset, .unset, .unset] [(.ref r0)]))
  obtain ⟨T16, X16, e16, st16⟩ := getF X0 hx hZ hown (host := "") (Or.inl (hw _ (List.mem_of_getElem? (i := 16) rfl))) Via.refl e0 F0.2.1 (g := (mkF m 3 #[.val (.ref r0), .val (.int p1), .val (.int p1), .unset, .unset, .unset, .unset, .unset] [(.ref r0)])) rfl rfl (hb hby d5_3)
  refine Owes.go ?_ st16
  show Owes _ _ _ _ (T16.setTop (mkF m 6 #[.val (.ref r0), .val (.int p1), .val (.int p1), .unset, .unset, .unset, .unset, .unset] [(.ref lv)]))
  refine Owes.go ?_ fun t₀ k₀ => XS.astoreN X16.here hx rfl (hb hby d5_6) rfl rfl (l' := #[.val (.ref r0), .val (.int p1), .val (.int p1), .val (.ref lv), .unset, .unset, .unset, .unset]) rfl k₀
  show Owes _ _ _ _ (T16.setTop (mkF m 7 #[.val (.ref r0), .val (.int p1), .val (.int p1), .val (.ref lv), .unset, .unset, .unset, .unset] []))
  refine Owes.go ?_ fun t₀ k₀ => XS.aloadN X16.here hx rfl (hb hby d5_7) rfl rfl k₀
  show Owes _ _ _ _ (T16.setTop (mkF m 8 #[.val (.ref r0), .val (.int p1), .val (.int p1), .val (.ref lv), .unset, .unset, .unset, .unset] [(.ref lv)]))
  refine Owes.glen X16 hx hZ e16 F0.2.2.1 (z := Int32.ofNat d) (own_ofNat (by omega)) (hb hby d5_8) ?_
  show Owes _ _ _ _ (T16.setTop (mkF m 9 #[.val (.ref r0), .val (.int p1), .val (.int p1), .val (.ref lv), .unset, .unset, .unset, .unset] [(.int (Int32.ofNat d))]))
  refine Owes.go ?_ fun t₀ k₀ => XS.istore X16.here hx rfl (hb hby d5_9) rfl (l' := #[.val (.ref r0), .val (.int p1), .val (.int p1), .val (.ref lv), .val (.int (Int32.ofNat d)), .unset, .unset, .unset]) rfl k₀
  show Owes _ _ _ _ (T16.setTop (mkF m 11 #[.val (.ref r0), .val (.int p1), .val (.int p1), .val (.ref lv), .val (.int (Int32.ofNat d)), .unset, .unset, .unset] []))
  refine Owes.go ?_ fun t₀ k₀ => XS.iconst X16.here hx rfl (hb hby d5_11) k₀
  show Owes _ _ _ _ (T16.setTop (mkF m 12 #[.val (.ref r0), .val (.int p1), .val (.int p1), .val (.ref lv), .val (.int (Int32.ofNat d)), .unset, .unset, .unset] [(.int (0 : Int32))]))
  refine Owes.go ?_ fun t₀ k₀ => XS.istore X16.here hx rfl (hb hby d5_12) rfl (l' := #[.val (.ref r0), .val (.int p1), .val (.int p1), .val (.ref lv), .val (.int (Int32.ofNat d)), .val (.int (0 : Int32)), .unset, .unset]) rfl k₀
  show Owes _ _ _ _ (T16.setTop (mkF m 14 #[.val (.ref r0), .val (.int p1), .val (.int p1), .val (.ref lv), .val (.int (Int32.ofNat d)), .val (.int (0 : Int32)), .unset, .unset] []))
  have loop : ∀ (r k : Nat), k + r = d → ∀ (at_ kI : Int32) (T : State) (locs : List Loc) (h : Heap) (W : Nat → Nat → Int64) (s6 s7 : Slot), One s6 → One s7 → Stand p l e ({ frames := 0, cells := 0, slots := 0, locals := 0 } : Room) s m #[(.ref r0), (.int p1)] below meth c T locs 0 0 → T.heap = h → Fr n0 locs → RS Z h n0 r0 lv d g len W → (∀ j, j < k → LV (fun x => M x ∨ x = n) j (len j) (W j)) → (∀ j, k ≤ j → j < d → LV M j (len j) (W j)) → at_.toInt = ((n / 64 ^ k : Nat) : Int) → kI.toInt = (k : Int) → Owes p e below (EndN s (fun v h L => v = none ∧ Fr n0 L ∧ ∃ W', RS Z h n0 r0 lv d g len W' ∧ ∀ k, k < d → LV (fun x => M x ∨ x = n) k (len k) (W' k)) ({ frames := 0, cells := 0, slots := 0, locals := 0 } : Room).cells ({ frames := 0, cells := 0, slots := 0, locals := 0 } : Room).slots) (T.setTop (mkF m 14 #[.val (.ref r0), .val (.int p1), .val (.int at_), .val (.ref lv), .val (.int (Int32.ofNat d)), .val (.int kI), s6, s7] [])) := by
    intro r
    induction r with
    | zero =>
      intro k hk0 at_ kI T locs h W s6 s7 o6 o7 X e0 N F H1 H2 ha hkI
      refine Owes.go ?_ fun t₀ k₀ => XS.iload X.here hx rfl (hb hby d5_14) rfl k₀
      show Owes _ _ _ _ (T.setTop (mkF m 16 #[.val (.ref r0), .val (.int p1), .val (.int at_), .val (.ref lv), .val (.int (Int32.ofNat d)), .val (.int kI), s6, s7] [(.int kI)]))
      refine Owes.go ?_ fun t₀ k₀ => XS.iload X.here hx rfl (hb hby d5_16) rfl k₀
      show Owes _ _ _ _ (T.setTop (mkF m 18 #[.val (.ref r0), .val (.int p1), .val (.int at_), .val (.ref lv), .val (.int (Int32.ofNat d)), .val (.int kI), s6, s7] [(.int (Int32.ofNat d)), (.int kI)]))
      refine Owes.go ?_ fun t₀ k₀ => XS.icmpYes X.here hx rfl (pc0 := 18) (pc' := 76) rfl (hb hby d5_18) rfl (flt (own_nlti hkI (own_ofNat (by omega)) (by omega))).2.1 (by decide) (by decide) k₀
      show Owes _ _ _ _ (T.setTop (mkF m 76 #[.val (.ref r0), .val (.int p1), .val (.int at_), .val (.ref lv), .val (.int (Int32.ofNat d)), .val (.int kI), s6, s7] []))
      exact Owes.retV X hx hlk hret (hb hby d5_76) (by decide) (by decide) (by rw [e0]; exact ⟨rfl, N, W, F, fun j hj => H1 j (by omega)⟩)
    | succ r ih =>
      intro k hk0 at_ kI T locs h W s6 s7 o6 o7 X e0 N F H1 H2 ha hkI
      have hk : k < d := by omega
      have hidx := FT.at hn k hk
      have F0 := F
      refine Owes.go ?_ fun t₀ k₀ => XS.iload X.here hx rfl (hb hby d5_14) rfl k₀
      show Owes _ _ _ _ (T.setTop (mkF m 16 #[.val (.ref r0), .val (.int p1), .val (.int at_), .val (.ref lv), .val (.int (Int32.ofNat d)), .val (.int kI), s6, s7] [(.int kI)]))
      refine Owes.go ?_ fun t₀ k₀ => XS.iload X.here hx rfl (hb hby d5_16) rfl k₀
      show Owes _ _ _ _ (T.setTop (mkF m 18 #[.val (.ref r0), .val (.int p1), .val (.int at_), .val (.ref lv), .val (.int (Int32.ofNat d)), .val (.int kI), s6, s7] [(.int (Int32.ofNat d)), (.int kI)]))
      refine Owes.go ?_ fun t₀ k₀ => XS.icmpNo X.here hx rfl (hb hby d5_18) rfl (tlt (own_lti hkI (own_ofNat (by omega)) hk)).2.1 k₀
      show Owes _ _ _ _ (T.setTop (mkF m 21 #[.val (.ref r0), .val (.int p1), .val (.int at_), .val (.ref lv), .val (.int (Int32.ofNat d)), .val (.int kI), s6, s7] []))
      refine Owes.go ?_ fun t₀ k₀ => XS.aloadN X.here hx rfl (hb hby d5_21) rfl rfl k₀
      show Owes _ _ _ _ (T.setTop (mkF m 22 #[.val (.ref r0), .val (.int p1), .val (.int at_), .val (.ref lv), .val (.int (Int32.ofNat d)), .val (.int kI), s6, s7] [(.ref lv)]))
      refine Owes.go ?_ fun t₀ k₀ => XS.iload X.here hx rfl (hb hby d5_22) rfl k₀
      show Owes _ _ _ _ (T.setTop (mkF m 24 #[.val (.ref r0), .val (.int p1), .val (.int at_), .val (.ref lv), .val (.int (Int32.ofNat d)), .val (.int kI), s6, s7] [(.int kI), (.ref lv)]))
      refine Owes.gR X hx hZ e0 F.2.2.1 rfl hkI hk (v := .ref (g k)) rfl (hb hby d5_24) ?_
      show Owes _ _ _ _ (T.setTop (mkF m 25 #[.val (.ref r0), .val (.int p1), .val (.int at_), .val (.ref lv), .val (.int (Int32.ofNat d)), .val (.int kI), s6, s7] [(.ref (g k))]))
      refine Owes.go ?_ fun t₀ k₀ => XS.astore X.here hx rfl (hb hby d5_25) rfl rfl (l' := #[.val (.ref r0), .val (.int p1), .val (.int at_), .val (.ref lv), .val (.int (Int32.ofNat d)), .val (.int kI), .val (.ref (g k)), s7]) (XS.store1 rfl o6 rfl) k₀
      show Owes _ _ _ _ (T.setTop (mkF m 27 #[.val (.ref r0), .val (.int p1), .val (.int at_), .val (.ref lv), .val (.int (Int32.ofNat d)), .val (.int kI), .val (.ref (g k)), s7] []))
      refine Owes.go ?_ fun t₀ k₀ => XS.aload X.here hx rfl (hb hby d5_27) rfl rfl k₀
      show Owes _ _ _ _ (T.setTop (mkF m 29 #[.val (.ref r0), .val (.int p1), .val (.int at_), .val (.ref lv), .val (.int (Int32.ofNat d)), .val (.int kI), .val (.ref (g k)), s7] [(.ref (g k))]))
      refine Owes.go ?_ fun t₀ k₀ => XS.iloadN X.here hx rfl (hb hby d5_29) rfl k₀
      show Owes _ _ _ _ (T.setTop (mkF m 30 #[.val (.ref r0), .val (.int p1), .val (.int at_), .val (.ref lv), .val (.int (Int32.ofNat d)), .val (.int kI), .val (.ref (g k)), s7] [(.int at_), (.ref (g k))]))
      refine Owes.go ?_ fun t₀ k₀ => XS.bipush X.here hx rfl (hb hby d5_30) k₀
      show Owes _ _ _ _ (T.setTop (mkF m 32 #[.val (.ref r0), .val (.int p1), .val (.int at_), .val (.ref lv), .val (.int (Int32.ofNat d)), .val (.int kI), .val (.ref (g k)), s7] [(.int (6 : Int32)), (.int at_), (.ref (g k))]))
      refine Owes.go ?_ fun t₀ k₀ => XS.iushr X.here hx rfl (hb hby d5_32) rfl k₀
      show Owes _ _ _ _ (T.setTop (mkF m 33 #[.val (.ref r0), .val (.int p1), .val (.int at_), .val (.ref lv), .val (.int (Int32.ofNat d)), .val (.int kI), .val (.ref (g k)), s7] [(.int ((at_.toUInt32 >>> ((6 : Int32) &&& 31).toUInt32).toInt32)), (.ref (g k))]))
      refine Owes.gJ X hx hZ e0 (F.2.2.2.1 k hk).1 (own_sh6 ha) hidx (v := .long (W k (n / 64 ^ k / 64))) rfl (hb hby d5_33) ?_
      show Owes _ _ _ _ (T.setTop (mkF m 34 #[.val (.ref r0), .val (.int p1), .val (.int at_), .val (.ref lv), .val (.int (Int32.ofNat d)), .val (.int kI), .val (.ref (g k)), s7] [(.long (W k (n / 64 ^ k / 64)))]))
      refine Owes.go ?_ fun t₀ k₀ => XS.lconst X.here hx rfl (hb hby d5_34) k₀
      show Owes _ _ _ _ (T.setTop (mkF m 35 #[.val (.ref r0), .val (.int p1), .val (.int at_), .val (.ref lv), .val (.int (Int32.ofNat d)), .val (.int kI), .val (.ref (g k)), s7] [(.long (0 : Int64)), (.long (W k (n / 64 ^ k / 64)))]))
      refine Owes.go ?_ fun t₀ k₀ => XS.lcmp X.here hx rfl (hb hby d5_35) rfl k₀
      show Owes _ _ _ _ (T.setTop (mkF m 36 #[.val (.ref r0), .val (.int p1), .val (.int at_), .val (.ref lv), .val (.int (Int32.ofNat d)), .val (.int kI), .val (.ref (g k)), s7] [(.int (lcmpW (W k (n / 64 ^ k / 64)) (0 : Int64)))]))
      by_cases hc1 : (W k (n / 64 ^ k / 64)) = (0 : Int64)
      · skip
        refine Owes.go ?_ fun t₀ k₀ => XS.ifNo X.here hx rfl (hb hby d5_36) rfl ((if0 _ _).trans (teq ((lw_eq _ _).mpr hc1)).2) k₀
        show Owes _ _ _ _ (T.setTop (mkF m 39 #[.val (.ref r0), .val (.int p1), .val (.int at_), .val (.ref lv), .val (.int (Int32.ofNat d)), .val (.int kI), .val (.ref (g k)), s7] []))
        refine Owes.go ?_ fun t₀ k₀ => XS.iconst X.here hx rfl (hb hby d5_39) k₀
        show Owes _ _ _ _ (T.setTop (mkF m 40 #[.val (.ref r0), .val (.int p1), .val (.int at_), .val (.ref lv), .val (.int (Int32.ofNat d)), .val (.int kI), .val (.ref (g k)), s7] [(.int (1 : Int32))]))
        refine Owes.go ?_ fun t₀ k₀ => XS.goto X.here hx rfl (pc0 := 40) (pc' := 44) rfl (hb hby d5_40) (by decide) (by decide) k₀
        show Owes _ _ _ _ (T.setTop (mkF m 44 #[.val (.ref r0), .val (.int p1), .val (.int at_), .val (.ref lv), .val (.int (Int32.ofNat d)), .val (.int kI), .val (.ref (g k)), s7] [(.int (1 : Int32))]))
        refine Owes.go ?_ fun t₀ k₀ => XS.istore X.here hx rfl (hb hby d5_44) rfl (l' := #[.val (.ref r0), .val (.int p1), .val (.int at_), .val (.ref lv), .val (.int (Int32.ofNat d)), .val (.int kI), .val (.ref (g k)), .val (.int (1 : Int32))]) (XS.store1 rfl o7 rfl) k₀
        show Owes _ _ _ _ (T.setTop (mkF m 46 #[.val (.ref r0), .val (.int p1), .val (.int at_), .val (.ref lv), .val (.int (Int32.ofNat d)), .val (.int kI), .val (.ref (g k)), .val (.int (1 : Int32))] []))
        refine Owes.go ?_ fun t₀ k₀ => XS.aload X.here hx rfl (hb hby d5_46) rfl rfl k₀
        show Owes _ _ _ _ (T.setTop (mkF m 48 #[.val (.ref r0), .val (.int p1), .val (.int at_), .val (.ref lv), .val (.int (Int32.ofNat d)), .val (.int kI), .val (.ref (g k)), .val (.int (1 : Int32))] [(.ref (g k))]))
        refine Owes.go ?_ fun t₀ k₀ => XS.iloadN X.here hx rfl (hb hby d5_48) rfl k₀
        show Owes _ _ _ _ (T.setTop (mkF m 49 #[.val (.ref r0), .val (.int p1), .val (.int at_), .val (.ref lv), .val (.int (Int32.ofNat d)), .val (.int kI), .val (.ref (g k)), .val (.int (1 : Int32))] [(.int at_), (.ref (g k))]))
        refine Owes.go ?_ fun t₀ k₀ => XS.bipush X.here hx rfl (hb hby d5_49) k₀
        show Owes _ _ _ _ (T.setTop (mkF m 51 #[.val (.ref r0), .val (.int p1), .val (.int at_), .val (.ref lv), .val (.int (Int32.ofNat d)), .val (.int kI), .val (.ref (g k)), .val (.int (1 : Int32))] [(.int (6 : Int32)), (.int at_), (.ref (g k))]))
        refine Owes.go ?_ fun t₀ k₀ => XS.iushr X.here hx rfl (hb hby d5_51) rfl k₀
        show Owes _ _ _ _ (T.setTop (mkF m 52 #[.val (.ref r0), .val (.int p1), .val (.int at_), .val (.ref lv), .val (.int (Int32.ofNat d)), .val (.int kI), .val (.ref (g k)), .val (.int (1 : Int32))] [(.int ((at_.toUInt32 >>> ((6 : Int32) &&& 31).toUInt32).toInt32)), (.ref (g k))]))
        refine Owes.go ?_ fun t₀ k₀ => Jvm.Free.XT.dup2 X.here hx rfl (hb hby d5_52) rfl rfl rfl k₀
        show Owes _ _ _ _ (T.setTop (mkF m 53 #[.val (.ref r0), .val (.int p1), .val (.int at_), .val (.ref lv), .val (.int (Int32.ofNat d)), .val (.int kI), .val (.ref (g k)), .val (.int (1 : Int32))] [(.int ((at_.toUInt32 >>> ((6 : Int32) &&& 31).toUInt32).toInt32)), (.ref (g k)), (.int ((at_.toUInt32 >>> ((6 : Int32) &&& 31).toUInt32).toInt32)), (.ref (g k))]))
        refine Owes.gJ X hx hZ e0 (F.2.2.2.1 k hk).1 (own_sh6 ha) hidx (v := .long (W k (n / 64 ^ k / 64))) rfl (hb hby d5_53) ?_
        show Owes _ _ _ _ (T.setTop (mkF m 54 #[.val (.ref r0), .val (.int p1), .val (.int at_), .val (.ref lv), .val (.int (Int32.ofNat d)), .val (.int kI), .val (.ref (g k)), .val (.int (1 : Int32))] [(.long (W k (n / 64 ^ k / 64))), (.int ((at_.toUInt32 >>> ((6 : Int32) &&& 31).toUInt32).toInt32)), (.ref (g k))]))
        refine Owes.go ?_ fun t₀ k₀ => XS.lconst X.here hx rfl (hb hby d5_54) k₀
        show Owes _ _ _ _ (T.setTop (mkF m 55 #[.val (.ref r0), .val (.int p1), .val (.int at_), .val (.ref lv), .val (.int (Int32.ofNat d)), .val (.int kI), .val (.ref (g k)), .val (.int (1 : Int32))] [(.long (1 : Int64)), (.long (W k (n / 64 ^ k / 64))), (.int ((at_.toUInt32 >>> ((6 : Int32) &&& 31).toUInt32).toInt32)), (.ref (g k))]))
        refine Owes.go ?_ fun t₀ k₀ => XS.iloadN X.here hx rfl (hb hby d5_55) rfl k₀
        show Owes _ _ _ _ (T.setTop (mkF m 56 #[.val (.ref r0), .val (.int p1), .val (.int at_), .val (.ref lv), .val (.int (Int32.ofNat d)), .val (.int kI), .val (.ref (g k)), .val (.int (1 : Int32))] [(.int at_), (.long (1 : Int64)), (.long (W k (n / 64 ^ k / 64))), (.int ((at_.toUInt32 >>> ((6 : Int32) &&& 31).toUInt32).toInt32)), (.ref (g k))]))
        refine Owes.go ?_ fun t₀ k₀ => XS.lshl X.here hx rfl (hb hby d5_56) rfl k₀
        show Owes _ _ _ _ (T.setTop (mkF m 57 #[.val (.ref r0), .val (.int p1), .val (.int at_), .val (.ref lv), .val (.int (Int32.ofNat d)), .val (.int kI), .val (.ref (g k)), .val (.int (1 : Int32))] [(.long ((1 : Int64) <<< (at_ &&& 0x3f).toInt64)), (.long (W k (n / 64 ^ k / 64))), (.int ((at_.toUInt32 >>> ((6 : Int32) &&& 31).toUInt32).toInt32)), (.ref (g k))]))
        refine Owes.go ?_ fun t₀ k₀ => XS.lor X.here hx rfl (hb hby d5_57) rfl k₀
        show Owes _ _ _ _ (T.setTop (mkF m 58 #[.val (.ref r0), .val (.int p1), .val (.int at_), .val (.ref lv), .val (.int (Int32.ofNat d)), .val (.int kI), .val (.ref (g k)), .val (.int (1 : Int32))] [(.long ((W k (n / 64 ^ k / 64)) ||| ((1 : Int64) <<< (at_ &&& 0x3f).toInt64))), (.int ((at_.toUInt32 >>> ((6 : Int32) &&& 31).toUInt32).toInt32)), (.ref (g k))]))
        refine Owes.sJ X hx hZ e0 (F.2.2.2.1 k hk).1 (own_sh6 ha) hidx (hb hby d5_58) ?_
        intro T17 h17 X17 e17 W17 G17
        have F17 := F.wr wi hk W17
        have N17 := Fr.snoc X17 N (F.2.2.2.1 k hk).2
        have HL17 : LV (fun x => M x ∨ x = n) k (len k) (upd (W k) (n / 64 ^ k / 64) ((W k (n / 64 ^ k / 64)) ||| ((1 : Int64) <<< (at_ &&& 0x3f).toInt64))) := (H2 k (Nat.le_refl _) hk).add n at_ ha
        show Owes _ _ _ _ (T17.setTop (mkF m 59 #[.val (.ref r0), .val (.int p1), .val (.int at_), .val (.ref lv), .val (.int (Int32.ofNat d)), .val (.int kI), .val (.ref (g k)), .val (.int (1 : Int32))] []))
        refine Owes.go ?_ fun t₀ k₀ => XS.iload X17.here hx rfl (hb hby d5_59) rfl k₀
        show Owes _ _ _ _ (T17.setTop (mkF m 61 #[.val (.ref r0), .val (.int p1), .val (.int at_), .val (.ref lv), .val (.int (Int32.ofNat d)), .val (.int kI), .val (.ref (g k)), .val (.int (1 : Int32))] [(.int (1 : Int32))]))
        refine Owes.go ?_ fun t₀ k₀ => XS.ifYes X17.here hx rfl (pc0 := 61) (pc' := 65) rfl (hb hby d5_61) rfl ((if0 _ _).trans (feq (by decide : ¬ ((1 : Int32) = (0 : Int32)))).2) (by decide) (by decide) k₀
        show Owes _ _ _ _ (T17.setTop (mkF m 65 #[.val (.ref r0), .val (.int p1), .val (.int at_), .val (.ref lv), .val (.int (Int32.ofNat d)), .val (.int kI), .val (.ref (g k)), .val (.int (1 : Int32))] []))
        refine Owes.go ?_ fun t₀ k₀ => XS.iloadN X17.here hx rfl (hb hby d5_65) rfl k₀
        show Owes _ _ _ _ (T17.setTop (mkF m 66 #[.val (.ref r0), .val (.int p1), .val (.int at_), .val (.ref lv), .val (.int (Int32.ofNat d)), .val (.int kI), .val (.ref (g k)), .val (.int (1 : Int32))] [(.int at_)]))
        refine Owes.go ?_ fun t₀ k₀ => XS.bipush X17.here hx rfl (hb hby d5_66) k₀
        show Owes _ _ _ _ (T17.setTop (mkF m 68 #[.val (.ref r0), .val (.int p1), .val (.int at_), .val (.ref lv), .val (.int (Int32.ofNat d)), .val (.int kI), .val (.ref (g k)), .val (.int (1 : Int32))] [(.int (6 : Int32)), (.int at_)]))
        refine Owes.go ?_ fun t₀ k₀ => XS.iushr X17.here hx rfl (hb hby d5_68) rfl k₀
        show Owes _ _ _ _ (T17.setTop (mkF m 69 #[.val (.ref r0), .val (.int p1), .val (.int at_), .val (.ref lv), .val (.int (Int32.ofNat d)), .val (.int kI), .val (.ref (g k)), .val (.int (1 : Int32))] [(.int ((at_.toUInt32 >>> ((6 : Int32) &&& 31).toUInt32).toInt32))]))
        refine Owes.go ?_ fun t₀ k₀ => XS.istoreN X17.here hx rfl (hb hby d5_69) rfl (l' := #[.val (.ref r0), .val (.int p1), .val (.int ((at_.toUInt32 >>> ((6 : Int32) &&& 31).toUInt32).toInt32)), .val (.ref lv), .val (.int (Int32.ofNat d)), .val (.int kI), .val (.ref (g k)), .val (.int (1 : Int32))]) rfl k₀
        show Owes _ _ _ _ (T17.setTop (mkF m 70 #[.val (.ref r0), .val (.int p1), .val (.int ((at_.toUInt32 >>> ((6 : Int32) &&& 31).toUInt32).toInt32)), .val (.ref lv), .val (.int (Int32.ofNat d)), .val (.int kI), .val (.ref (g k)), .val (.int (1 : Int32))] []))
        refine Owes.go ?_ fun t₀ k₀ => XS.iinc X17.here hx rfl (hb hby d5_70) rfl (l' := #[.val (.ref r0), .val (.int p1), .val (.int ((at_.toUInt32 >>> ((6 : Int32) &&& 31).toUInt32).toInt32)), .val (.ref lv), .val (.int (Int32.ofNat d)), .val (.int (kI + (1 : Int32))), .val (.ref (g k)), .val (.int (1 : Int32))]) rfl k₀
        show Owes _ _ _ _ (T17.setTop (mkF m 73 #[.val (.ref r0), .val (.int p1), .val (.int ((at_.toUInt32 >>> ((6 : Int32) &&& 31).toUInt32).toInt32)), .val (.ref lv), .val (.int (Int32.ofNat d)), .val (.int (kI + (1 : Int32))), .val (.ref (g k)), .val (.int (1 : Int32))] []))
        refine Owes.go ?_ fun t₀ k₀ => XS.goto X17.here hx rfl (pc0 := 73) (pc' := 14) rfl (hb hby d5_73) (by decide) (by decide) k₀
        show Owes _ _ _ _ (T17.setTop (mkF m 14 #[.val (.ref r0), .val (.int p1), .val (.int ((at_.toUInt32 >>> ((6 : Int32) &&& 31).toUInt32).toInt32)), .val (.ref lv), .val (.int (Int32.ofNat d)), .val (.int (kI + (1 : Int32))), .val (.ref (g k)), .val (.int (1 : Int32))] []))
        exact ih (k + 1) (by omega) _ _ T17 _ h17 _ _ _ (One.val rfl) (One.val rfl) X17 e17 N17 F17 (fun j hj => by
            by_cases q : j = k
            · subst q; rw [upd_same]; exact HL17
            · rw [upd_ne _ _ q]; exact H1 j (by omega)) (fun j hj hj' => by rw [upd_ne _ _ (by omega)]; exact H2 j (by omega) hj') (by rw [dk_succ]; exact own_sh6 ha) (own_inc hkI (by omega))
      · skip
        refine Owes.go ?_ fun t₀ k₀ => XS.ifYes X.here hx rfl (pc0 := 36) (pc' := 43) rfl (hb hby d5_36) rfl ((if0 _ _).trans (feq (fun q => hc1 ((lw_eq _ _).mp q))).2) (by decide) (by decide) k₀
        show Owes _ _ _ _ (T.setTop (mkF m 43 #[.val (.ref r0), .val (.int p1), .val (.int at_), .val (.ref lv), .val (.int (Int32.ofNat d)), .val (.int kI), .val (.ref (g k)), s7] []))
        refine Owes.go ?_ fun t₀ k₀ => XS.iconst X.here hx rfl (hb hby d5_43) k₀
        show Owes _ _ _ _ (T.setTop (mkF m 44 #[.val (.ref r0), .val (.int p1), .val (.int at_), .val (.ref lv), .val (.int (Int32.ofNat d)), .val (.int kI), .val (.ref (g k)), s7] [(.int (0 : Int32))]))
        refine Owes.go ?_ fun t₀ k₀ => XS.istore X.here hx rfl (hb hby d5_44) rfl (l' := #[.val (.ref r0), .val (.int p1), .val (.int at_), .val (.ref lv), .val (.int (Int32.ofNat d)), .val (.int kI), .val (.ref (g k)), .val (.int (0 : Int32))]) (XS.store1 rfl o7 rfl) k₀
        show Owes _ _ _ _ (T.setTop (mkF m 46 #[.val (.ref r0), .val (.int p1), .val (.int at_), .val (.ref lv), .val (.int (Int32.ofNat d)), .val (.int kI), .val (.ref (g k)), .val (.int (0 : Int32))] []))
        refine Owes.go ?_ fun t₀ k₀ => XS.aload X.here hx rfl (hb hby d5_46) rfl rfl k₀
        show Owes _ _ _ _ (T.setTop (mkF m 48 #[.val (.ref r0), .val (.int p1), .val (.int at_), .val (.ref lv), .val (.int (Int32.ofNat d)), .val (.int kI), .val (.ref (g k)), .val (.int (0 : Int32))] [(.ref (g k))]))
        refine Owes.go ?_ fun t₀ k₀ => XS.iloadN X.here hx rfl (hb hby d5_48) rfl k₀
        show Owes _ _ _ _ (T.setTop (mkF m 49 #[.val (.ref r0), .val (.int p1), .val (.int at_), .val (.ref lv), .val (.int (Int32.ofNat d)), .val (.int kI), .val (.ref (g k)), .val (.int (0 : Int32))] [(.int at_), (.ref (g k))]))
        refine Owes.go ?_ fun t₀ k₀ => XS.bipush X.here hx rfl (hb hby d5_49) k₀
        show Owes _ _ _ _ (T.setTop (mkF m 51 #[.val (.ref r0), .val (.int p1), .val (.int at_), .val (.ref lv), .val (.int (Int32.ofNat d)), .val (.int kI), .val (.ref (g k)), .val (.int (0 : Int32))] [(.int (6 : Int32)), (.int at_), (.ref (g k))]))
        refine Owes.go ?_ fun t₀ k₀ => XS.iushr X.here hx rfl (hb hby d5_51) rfl k₀
        show Owes _ _ _ _ (T.setTop (mkF m 52 #[.val (.ref r0), .val (.int p1), .val (.int at_), .val (.ref lv), .val (.int (Int32.ofNat d)), .val (.int kI), .val (.ref (g k)), .val (.int (0 : Int32))] [(.int ((at_.toUInt32 >>> ((6 : Int32) &&& 31).toUInt32).toInt32)), (.ref (g k))]))
        refine Owes.go ?_ fun t₀ k₀ => Jvm.Free.XT.dup2 X.here hx rfl (hb hby d5_52) rfl rfl rfl k₀
        show Owes _ _ _ _ (T.setTop (mkF m 53 #[.val (.ref r0), .val (.int p1), .val (.int at_), .val (.ref lv), .val (.int (Int32.ofNat d)), .val (.int kI), .val (.ref (g k)), .val (.int (0 : Int32))] [(.int ((at_.toUInt32 >>> ((6 : Int32) &&& 31).toUInt32).toInt32)), (.ref (g k)), (.int ((at_.toUInt32 >>> ((6 : Int32) &&& 31).toUInt32).toInt32)), (.ref (g k))]))
        refine Owes.gJ X hx hZ e0 (F.2.2.2.1 k hk).1 (own_sh6 ha) hidx (v := .long (W k (n / 64 ^ k / 64))) rfl (hb hby d5_53) ?_
        show Owes _ _ _ _ (T.setTop (mkF m 54 #[.val (.ref r0), .val (.int p1), .val (.int at_), .val (.ref lv), .val (.int (Int32.ofNat d)), .val (.int kI), .val (.ref (g k)), .val (.int (0 : Int32))] [(.long (W k (n / 64 ^ k / 64))), (.int ((at_.toUInt32 >>> ((6 : Int32) &&& 31).toUInt32).toInt32)), (.ref (g k))]))
        refine Owes.go ?_ fun t₀ k₀ => XS.lconst X.here hx rfl (hb hby d5_54) k₀
        show Owes _ _ _ _ (T.setTop (mkF m 55 #[.val (.ref r0), .val (.int p1), .val (.int at_), .val (.ref lv), .val (.int (Int32.ofNat d)), .val (.int kI), .val (.ref (g k)), .val (.int (0 : Int32))] [(.long (1 : Int64)), (.long (W k (n / 64 ^ k / 64))), (.int ((at_.toUInt32 >>> ((6 : Int32) &&& 31).toUInt32).toInt32)), (.ref (g k))]))
        refine Owes.go ?_ fun t₀ k₀ => XS.iloadN X.here hx rfl (hb hby d5_55) rfl k₀
        show Owes _ _ _ _ (T.setTop (mkF m 56 #[.val (.ref r0), .val (.int p1), .val (.int at_), .val (.ref lv), .val (.int (Int32.ofNat d)), .val (.int kI), .val (.ref (g k)), .val (.int (0 : Int32))] [(.int at_), (.long (1 : Int64)), (.long (W k (n / 64 ^ k / 64))), (.int ((at_.toUInt32 >>> ((6 : Int32) &&& 31).toUInt32).toInt32)), (.ref (g k))]))
        refine Owes.go ?_ fun t₀ k₀ => XS.lshl X.here hx rfl (hb hby d5_56) rfl k₀
        show Owes _ _ _ _ (T.setTop (mkF m 57 #[.val (.ref r0), .val (.int p1), .val (.int at_), .val (.ref lv), .val (.int (Int32.ofNat d)), .val (.int kI), .val (.ref (g k)), .val (.int (0 : Int32))] [(.long ((1 : Int64) <<< (at_ &&& 0x3f).toInt64)), (.long (W k (n / 64 ^ k / 64))), (.int ((at_.toUInt32 >>> ((6 : Int32) &&& 31).toUInt32).toInt32)), (.ref (g k))]))
        refine Owes.go ?_ fun t₀ k₀ => XS.lor X.here hx rfl (hb hby d5_57) rfl k₀
        show Owes _ _ _ _ (T.setTop (mkF m 58 #[.val (.ref r0), .val (.int p1), .val (.int at_), .val (.ref lv), .val (.int (Int32.ofNat d)), .val (.int kI), .val (.ref (g k)), .val (.int (0 : Int32))] [(.long ((W k (n / 64 ^ k / 64)) ||| ((1 : Int64) <<< (at_ &&& 0x3f).toInt64))), (.int ((at_.toUInt32 >>> ((6 : Int32) &&& 31).toUInt32).toInt32)), (.ref (g k))]))
        refine Owes.sJ X hx hZ e0 (F.2.2.2.1 k hk).1 (own_sh6 ha) hidx (hb hby d5_58) ?_
        intro T18 h18 X18 e18 W18 G18
        have F18 := F.wr wi hk W18
        have N18 := Fr.snoc X18 N (F.2.2.2.1 k hk).2
        have HL18 : LV (fun x => M x ∨ x = n) k (len k) (upd (W k) (n / 64 ^ k / 64) ((W k (n / 64 ^ k / 64)) ||| ((1 : Int64) <<< (at_ &&& 0x3f).toInt64))) := (H2 k (Nat.le_refl _) hk).add n at_ ha
        show Owes _ _ _ _ (T18.setTop (mkF m 59 #[.val (.ref r0), .val (.int p1), .val (.int at_), .val (.ref lv), .val (.int (Int32.ofNat d)), .val (.int kI), .val (.ref (g k)), .val (.int (0 : Int32))] []))
        refine Owes.go ?_ fun t₀ k₀ => XS.iload X18.here hx rfl (hb hby d5_59) rfl k₀
        show Owes _ _ _ _ (T18.setTop (mkF m 61 #[.val (.ref r0), .val (.int p1), .val (.int at_), .val (.ref lv), .val (.int (Int32.ofNat d)), .val (.int kI), .val (.ref (g k)), .val (.int (0 : Int32))] [(.int (0 : Int32))]))
        refine Owes.go ?_ fun t₀ k₀ => XS.ifNo X18.here hx rfl (hb hby d5_61) rfl ((if0 _ _).trans (teq (by decide : ((0 : Int32) = (0 : Int32)))).2) k₀
        show Owes _ _ _ _ (T18.setTop (mkF m 64 #[.val (.ref r0), .val (.int p1), .val (.int at_), .val (.ref lv), .val (.int (Int32.ofNat d)), .val (.int kI), .val (.ref (g k)), .val (.int (0 : Int32))] []))
        exact Owes.retV X18 hx hlk hret (hb hby d5_64) (by decide) (by decide) (by rw [e18]; exact ⟨rfl, N18, _, F18, fun j hj => by
            by_cases q : j = k
            · subst q; rw [upd_same]; exact HL18
            · rw [upd_ne _ _ q]
              by_cases q' : j < k
              · exact H1 j q'
              · exact (H2 j (by omega) hj).more (show k + 1 ≤ j by omega) ((H2 k (Nat.le_refl _) hk).up hidx hc1)⟩)
  exact loop d 0 (by omega) p1 _ T16 _ h0 W .unset .unset One.u One.u X16 e16 (Fr.nil n0) F0 (fun j hj => absurd hj (Nat.not_lt_zero _)) (fun j _ hj => H0 j hj) (by rw [Nat.pow_zero, Nat.div_one]; exact hp) rfl
theorem d6_89 : decode prog_118_method_5_code 89 = .ok (.iload_n 2, 1) := by decide +kernel
theorem d6_90 : decode prog_118_method_5_code 90 = .ok (.ifCond .le 26, 3) := by decide +kernel
theorem d6_116 : decode prog_118_method_5_code 116 = .ok (.iload_n 3, 1) := by decide +kernel
theorem d6_117 : decode prog_118_method_5_code 117 = .ok (.ireturn, 1) := by decide +kernel
theorem d6_93 : decode prog_118_method_5_code 93 = .ok (.iinc 2 (-1), 3) := by decide +kernel
theorem d6_96 : decode prog_118_method_5_code 96 = .ok (.iload_n 3, 1) := by decide +kernel
theorem d6_97 : decode prog_118_method_5_code 97 = .ok (.bipush 6, 2) := by decide +kernel
theorem d6_99 : decode prog_118_method_5_code 99 = .ok (.ishl, 1) := by decide +kernel
theorem d6_100 : decode prog_118_method_5_code 100 = .ok (.aload_n 0, 1) := by decide +kernel
theorem d6_101 : decode prog_118_method_5_code 101 = .ok (.getfield 15, 3) := by decide +kernel
theorem d6_104 : decode prog_118_method_5_code 104 = .ok (.iload_n 2, 1) := by decide +kernel
theorem d6_105 : decode prog_118_method_5_code 105 = .ok (.aaload, 1) := by decide +kernel
theorem d6_106 : decode prog_118_method_5_code 106 = .ok (.iload_n 3, 1) := by decide +kernel
theorem d6_107 : decode prog_118_method_5_code 107 = .ok (.laload, 1) := by decide +kernel
theorem d6_108 : decode prog_118_method_5_code 108 = .ok (.invokestatic 33, 3) := by decide +kernel
theorem pd_2 : parseMethodDescriptor "(J)I" = some ⟨[.long], some .int⟩ := by decide +kernel
theorem d6_111 : decode prog_118_method_5_code 111 = .ok (.iadd, 1) := by decide +kernel
theorem d6_112 : decode prog_118_method_5_code 112 = .ok (.istore_n 3, 1) := by decide +kernel
theorem d6_113 : decode prog_118_method_5_code 113 = .ok (.goto (-24), 3) := by decide +kernel
theorem d6_7 : decode prog_118_method_5_code 7 = .ok (.lload 4, 2) := by decide +kernel
theorem d6_9 : decode prog_118_method_5_code 9 = .ok (.lconst 0, 1) := by decide +kernel
theorem d6_10 : decode prog_118_method_5_code 10 = .ok (.lcmp, 1) := by decide +kernel
theorem d6_11 : decode prog_118_method_5_code 11 = .ok (.ifCond .ne 67, 3) := by decide +kernel
theorem d6_14 : decode prog_118_method_5_code 14 = .ok (.iload_n 2, 1) := by decide +kernel
theorem d6_15 : decode prog_118_method_5_code 15 = .ok (.aload_n 0, 1) := by decide +kernel
theorem d6_16 : decode prog_118_method_5_code 16 = .ok (.getfield 15, 3) := by decide +kernel
theorem d6_19 : decode prog_118_method_5_code 19 = .ok (.arraylength, 1) := by decide +kernel
theorem d6_20 : decode prog_118_method_5_code 20 = .ok (.if_icmp .eq 17, 3) := by decide +kernel
theorem d6_37 : decode prog_118_method_5_code 37 = .ok (.iconst (-1), 1) := by decide +kernel
theorem d6_38 : decode prog_118_method_5_code 38 = .ok (.ireturn, 1) := by decide +kernel
theorem d6_23 : decode prog_118_method_5_code 23 = .ok (.iload_n 3, 1) := by decide +kernel
theorem d6_24 : decode prog_118_method_5_code 24 = .ok (.bipush 6, 2) := by decide +kernel
theorem d6_26 : decode prog_118_method_5_code 26 = .ok (.iushr, 1) := by decide +kernel
theorem d6_27 : decode prog_118_method_5_code 27 = .ok (.aload_n 0, 1) := by decide +kernel
theorem d6_28 : decode prog_118_method_5_code 28 = .ok (.getfield 15, 3) := by decide +kernel
theorem d6_31 : decode prog_118_method_5_code 31 = .ok (.iload_n 2, 1) := by decide +kernel
theorem d6_32 : decode prog_118_method_5_code 32 = .ok (.aaload, 1) := by decide +kernel
theorem d6_33 : decode prog_118_method_5_code 33 = .ok (.arraylength, 1) := by decide +kernel
theorem d6_34 : decode prog_118_method_5_code 34 = .ok (.if_icmp .lt 5, 3) := by decide +kernel
theorem d6_39 : decode prog_118_method_5_code 39 = .ok (.aload_n 0, 1) := by decide +kernel
theorem d6_40 : decode prog_118_method_5_code 40 = .ok (.getfield 15, 3) := by decide +kernel
theorem d6_43 : decode prog_118_method_5_code 43 = .ok (.iload_n 2, 1) := by decide +kernel
theorem d6_44 : decode prog_118_method_5_code 44 = .ok (.aaload, 1) := by decide +kernel
theorem d6_45 : decode prog_118_method_5_code 45 = .ok (.iload_n 3, 1) := by decide +kernel
theorem d6_46 : decode prog_118_method_5_code 46 = .ok (.bipush 6, 2) := by decide +kernel
theorem d6_48 : decode prog_118_method_5_code 48 = .ok (.iushr, 1) := by decide +kernel
theorem d6_49 : decode prog_118_method_5_code 49 = .ok (.laload, 1) := by decide +kernel
theorem d6_50 : decode prog_118_method_5_code 50 = .ok (.ldc2_w 25, 3) := by decide +kernel
theorem d6_53 : decode prog_118_method_5_code 53 = .ok (.iload_n 3, 1) := by decide +kernel
theorem d6_54 : decode prog_118_method_5_code 54 = .ok (.lshl, 1) := by decide +kernel
theorem d6_55 : decode prog_118_method_5_code 55 = .ok (.land, 1) := by decide +kernel
theorem d6_56 : decode prog_118_method_5_code 56 = .ok (.lstore 4, 2) := by decide +kernel
theorem d6_58 : decode prog_118_method_5_code 58 = .ok (.lload 4, 2) := by decide +kernel
theorem d6_60 : decode prog_118_method_5_code 60 = .ok (.lconst 0, 1) := by decide +kernel
theorem d6_61 : decode prog_118_method_5_code 61 = .ok (.lcmp, 1) := by decide +kernel
theorem d6_62 : decode prog_118_method_5_code 62 = .ok (.ifCond .ne (-55), 3) := by decide +kernel
theorem d6_65 : decode prog_118_method_5_code 65 = .ok (.iload_n 3, 1) := by decide +kernel
theorem d6_66 : decode prog_118_method_5_code 66 = .ok (.bipush 6, 2) := by decide +kernel
theorem d6_68 : decode prog_118_method_5_code 68 = .ok (.iushr, 1) := by decide +kernel
theorem d6_69 : decode prog_118_method_5_code 69 = .ok (.iconst 1, 1) := by decide +kernel
theorem d6_70 : decode prog_118_method_5_code 70 = .ok (.iadd, 1) := by decide +kernel
theorem d6_71 : decode prog_118_method_5_code 71 = .ok (.istore_n 3, 1) := by decide +kernel
theorem d6_72 : decode prog_118_method_5_code 72 = .ok (.iinc 2 1, 3) := by decide +kernel
theorem d6_75 : decode prog_118_method_5_code 75 = .ok (.goto (-68), 3) := by decide +kernel
theorem d6_78 : decode prog_118_method_5_code 78 = .ok (.iload_n 3, 1) := by decide +kernel
theorem d6_79 : decode prog_118_method_5_code 79 = .ok (.bipush (-64), 2) := by decide +kernel
theorem d6_81 : decode prog_118_method_5_code 81 = .ok (.iand, 1) := by decide +kernel
theorem d6_82 : decode prog_118_method_5_code 82 = .ok (.lload 4, 2) := by decide +kernel
theorem d6_84 : decode prog_118_method_5_code 84 = .ok (.invokestatic 33, 3) := by decide +kernel
theorem d6_87 : decode prog_118_method_5_code 87 = .ok (.iadd, 1) := by decide +kernel
theorem d6_88 : decode prog_118_method_5_code 88 = .ok (.istore_n 3, 1) := by decide +kernel
theorem d6_0 : decode prog_118_method_5_code 0 = .ok (.iconst 0, 1) := by decide +kernel
theorem d6_1 : decode prog_118_method_5_code 1 = .ok (.istore_n 2, 1) := by decide +kernel
theorem d6_2 : decode prog_118_method_5_code 2 = .ok (.iload_n 1, 1) := by decide +kernel
theorem d6_3 : decode prog_118_method_5_code 3 = .ok (.istore_n 3, 1) := by decide +kernel
theorem d6_4 : decode prog_118_method_5_code 4 = .ok (.lconst 0, 1) := by decide +kernel
theorem d6_5 : decode prog_118_method_5_code 5 = .ok (.lstore 4, 2) := by decide +kernel
theorem ef_6 (m : MethodId) (r0 : Addr) (p1 : Int32) : entryFrame m #[(.ref r0), (.int p1)] 6 = mkF m 0 #[.val (.ref r0), .val (.int p1), .unset, .unset, .unset, .unset] [] := by first | (simp [entryFrame, mkF, argsToLocals, Value.category]; done) | rfl
theorem pn_6 : plainFor (⟨"com/example/slotwright/slotwright/core/RankSet", "next", "(I)I"⟩ : MethodName) = true := plainFor_of_name (by first | (simp [plainName, overriddenIn]; done) | decide +kernel)
set_option maxRecDepth 65536 in
set_option maxHeartbeats 40000000 in
theorem rm_next (l : Launch) (Z : State) (a0 : Array Value) (hw : ∀ d ∈ tables_1, d.before a0 Z = true) (ws : List Jvm.Cond) (r0 : Addr) (p1 : Int32) (h0 : Heap) (n0 : Nat) (lv : Addr) (d : Nat) (g : Nat → Addr) (len : Nat → Nat) (W : Nat → Nat → Int64) (M : Nat → Prop) (size : Nat) (F0 : RS Z h0 n0 r0 lv d g len W) (H0 : ∀ k, k < d → LV M k (len k) (W k)) (FT : Fits size d len) (HM : ∀ x, M x → x < size) (fr : Nat) (hp : p1.toInt = (fr : Int)) :
    OMet l (⟨"com/example/slotwright/slotwright/core/RankSet", "next", "(I)I"⟩ : MethodName) prog_118_method_5_code 6 (some .int) ws ({ frames := 2, cells := 0, slots := 0, locals := 31 } : Room) #[(.ref r0), (.int p1)] Z h0 (fun v h L => ∃ r : Int32, v = some (.int r) ∧ L = [] ∧ h = h0 ∧ NextIs M fr r.toInt) := by
  refine OMet.of pn_6 (fun m => ef_6 m r0 p1) ?_
  intro p e s m below meth c s₁ hx hby hml hown hnm hret hlk hZ X0 e0
  have hd20 := FT.2.1
  have hd0 := FT.1
  have dn : ∀ (k : Nat), k < d → ∀ (kI yI : Int32) (bz : Int64) (T : State), Stand p l e ({ frames := 2, cells := 0, slots := 0, locals := 31 } : Room) s m #[(.ref r0), (.int p1)] below meth c T [] 0 0 → T.heap = h0 → kI.toInt = (k : Int) → ∀ y : Nat, yI.toInt = (y : Int) → Dn M fr k y → Owes p e below (EndN s (fun v h L => ∃ r : Int32, v = some (.int r) ∧ L = [] ∧ h = h0 ∧ NextIs M fr r.toInt) ({ frames := 2, cells := 0, slots := 0, locals := 31 } : Room).cells ({ frames := 2, cells := 0, slots := 0, locals := 31 } : Room).slots) (T.setTop (mkF m 89 #[.val (.ref r0), .val (.int p1), .val (.int kI), .val (.int yI), .val (.long bz), .second] [])) := by
    intro k
    induction k with
    | zero =>
      intro _ kI yI bz T X eT hkI y hy D
      refine Owes.go ?_ fun t₀ k₀ => XS.iloadN X.here hx rfl (hb hby d6_89) rfl k₀
      show Owes _ _ _ _ (T.setTop (mkF m 90 #[.val (.ref r0), .val (.int p1), .val (.int kI), .val (.int yI), .val (.long bz), .second] [(.int kI)]))
      refine Owes.go ?_ fun t₀ k₀ => XS.ifYes X.here hx rfl (pc0 := 90) (pc' := 116) rfl (hb hby d6_90) rfl ((if0 _ _).trans (flt (own_zero hkI)).2.2.2) (by decide) (by decide) k₀
      show Owes _ _ _ _ (T.setTop (mkF m 116 #[.val (.ref r0), .val (.int p1), .val (.int kI), .val (.int yI), .val (.long bz), .second] []))
      refine Owes.go ?_ fun t₀ k₀ => XS.iloadN X.here hx rfl (hb hby d6_116) rfl k₀
      show Owes _ _ _ _ (T.setTop (mkF m 117 #[.val (.ref r0), .val (.int p1), .val (.int kI), .val (.int yI), .val (.long bz), .second] [(.int yI)]))
      exact Owes.retI X hx hlk hret (hb hby d6_117) (by decide) (by decide) ⟨yI, rfl, rfl, eT, by rw [hy]; exact D.last⟩
    | succ k ih =>
      intro hk1 kI yI bz T X eT hkI y hy D
      have hk : k < d := by omega
      have hidx : y < len k := by
        obtain ⟨x, q1, q2⟩ := D.1
        rw [← q2, dk_succ]
        exact FT.at (HM x q1) k hk
      have hlen := FT.2.2.2.2.2 k hk
      obtain ⟨t, ht⟩ := Low.ex (D.word (H0 k hk) hidx)
      have hz := own_ntzJ _ t ht
      refine Owes.go ?_ fun t₀ k₀ => XS.iloadN X.here hx rfl (hb hby d6_89) rfl k₀
      show Owes _ _ _ _ (T.setTop (mkF m 90 #[.val (.ref r0), .val (.int p1), .val (.int kI), .val (.int yI), .val (.long bz), .second] [(.int kI)]))
      refine Owes.go ?_ fun t₀ k₀ => XS.ifNo X.here hx rfl (hb hby d6_90) rfl ((if0 _ _).trans (tlt (own_pos hkI)).2.2.2) k₀
      show Owes _ _ _ _ (T.setTop (mkF m 93 #[.val (.ref r0), .val (.int p1), .val (.int kI), .val (.int yI), .val (.long bz), .second] []))
      refine Owes.go ?_ fun t₀ k₀ => XS.iinc X.here hx rfl (hb hby d6_93) rfl (l' := #[.val (.ref r0), .val (.int p1), .val (.int (kI + (-1 : Int32))), .val (.int yI), .val (.long bz), .second]) rfl k₀
      show Owes _ _ _ _ (T.setTop (mkF m 96 #[.val (.ref r0), .val (.int p1), .val (.int (kI + (-1 : Int32))), .val (.int yI), .val (.long bz), .second] []))
      refine Owes.go ?_ fun t₀ k₀ => XS.iloadN X.here hx rfl (hb hby d6_96) rfl k₀
      show Owes _ _ _ _ (T.setTop (mkF m 97 #[.val (.ref r0), .val (.int p1), .val (.int (kI + (-1 : Int32))), .val (.int yI), .val (.long bz), .second] [(.int yI)]))
      refine Owes.go ?_ fun t₀ k₀ => XS.bipush X.here hx rfl (hb hby d6_97) k₀
      show Owes _ _ _ _ (T.setTop (mkF m 99 #[.val (.ref r0), .val (.int p1), .val (.int (kI + (-1 : Int32))), .val (.int yI), .val (.long bz), .second] [(.int (6 : Int32)), (.int yI)]))
      refine Owes.go ?_ fun t₀ k₀ => XS.ishl X.here hx rfl (hb hby d6_99) rfl k₀
      show Owes _ _ _ _ (T.setTop (mkF m 100 #[.val (.ref r0), .val (.int p1), .val (.int (kI + (-1 : Int32))), .val (.int yI), .val (.long bz), .second] [(.int (yI <<< ((6 : Int32) &&& 31)))]))
      refine Owes.go ?_ fun t₀ k₀ => XS.aloadN X.here hx rfl (hb hby d6_100) rfl rfl k₀
      show Owes _ _ _ _ (T.setTop (mkF m 101 #[.val (.ref r0), .val (.int p1), .val (.int (kI + (-1 : Int32))), .val (.int yI), .val (.long bz), .second] [(.ref r0), (.int (yI <<< ((6 : Int32) &&& 31)))]))
      obtain ⟨T19, X19, e19, st19⟩ := getF X hx hZ hown (host := "") (Or.inl (hw _ (List.mem_of_getElem? (i := 16) rfl))) Via.refl eT F0.2.1 (g := (mkF m 101 #[.val (.ref r0), .val (.int p1), .val (.int (kI + (-1 : Int32))), .val (.int yI), .val (.long bz), .second] [(.ref r0), (.int (yI <<< ((6 : Int32) &&& 31)))])) rfl rfl (hb hby d6_101)
      refine Owes.go ?_ st19
      show Owes _ _ _ _ (T19.setTop (mkF m 104 #[.val (.ref r0), .val (.int p1), .val (.int (kI + (-1 : Int32))), .val (.int yI), .val (.long bz), .second] [(.ref lv), (.int (yI <<< ((6 : Int32) &&& 31)))]))
      refine Owes.go ?_ fun t₀ k₀ => XS.iloadN X19.here hx rfl (hb hby d6_104) rfl k₀
      show Owes _ _ _ _ (T19.setTop (mkF m 105 #[.val (.ref r0), .val (.int p1), .val (.int (kI + (-1 : Int32))), .val (.int yI), .val (.long bz), .second] [(.int (kI + (-1 : Int32))), (.ref lv), (.int (yI <<< ((6 : Int32) &&& 31)))]))
      refine Owes.gR X19 hx hZ e19 F0.2.2.1 rfl (own_dec hkI) hk (v := .ref (g k)) rfl (hb hby d6_105) ?_
      show Owes _ _ _ _ (T19.setTop (mkF m 106 #[.val (.ref r0), .val (.int p1), .val (.int (kI + (-1 : Int32))), .val (.int yI), .val (.long bz), .second] [(.ref (g k)), (.int (yI <<< ((6 : Int32) &&& 31)))]))
      refine Owes.go ?_ fun t₀ k₀ => XS.iloadN X19.here hx rfl (hb hby d6_106) rfl k₀
      show Owes _ _ _ _ (T19.setTop (mkF m 107 #[.val (.ref r0), .val (.int p1), .val (.int (kI + (-1 : Int32))), .val (.int yI), .val (.long bz), .second] [(.int yI), (.ref (g k)), (.int (yI <<< ((6 : Int32) &&& 31)))]))
      refine Owes.gJ X19 hx hZ e19 (F0.2.2.2.1 k hk).1 hy hidx (v := .long (W k y)) rfl (hb hby d6_107) ?_
      show Owes _ _ _ _ (T19.setTop (mkF m 108 #[.val (.ref r0), .val (.int p1), .val (.int (kI + (-1 : Int32))), .val (.int yI), .val (.long bz), .second] [(.long (W k y)), (.int (yI <<< ((6 : Int32) &&& 31)))]))
      refine Owes.callS X19 hx hZ hown (hw _ (List.mem_of_getElem? (i := 35) rfl)) (hw _ (List.mem_of_getElem? (i := 36) rfl)) (hw _ (List.mem_of_getElem? (i := 37) rfl)) (hw _ (List.mem_of_getElem? (i := 38) rfl)) (by decide) (argsL := [(.long (W k y))]) (rest := [(.int (yI <<< ((6 : Int32) &&& 31)))]) (rm_f_ntzJ l Z a0 hw [] (W k y) h0 ) e19 (by rw [hml]; rfl) pd_2 rfl rfl (hb hby d6_108) (by decide) (Nat.le_of_ble_eq_true rfl) (by decide) (by decide) ?_
      rintro T20 _ _ X20 ⟨rfl, rfl, e20⟩
      rw [List.append_nil] at X20
      show Owes _ _ _ _ (T20.setTop (mkF m 111 #[.val (.ref r0), .val (.int p1), .val (.int (kI + (-1 : Int32))), .val (.int yI), .val (.long bz), .second] [(.int (f_ntzJ (W k y))), (.int (yI <<< ((6 : Int32) &&& 31)))]))
      refine Owes.go ?_ fun t₀ k₀ => XS.iadd X20.here hx rfl (hb hby d6_111) rfl k₀
      show Owes _ _ _ _ (T20.setTop (mkF m 112 #[.val (.ref r0), .val (.int p1), .val (.int (kI + (-1 : Int32))), .val (.int yI), .val (.long bz), .second] [(.int ((yI <<< ((6 : Int32) &&& 31)) + (f_ntzJ (W k y))))]))
      refine Owes.go ?_ fun t₀ k₀ => XS.istoreN X20.here hx rfl (hb hby d6_112) rfl (l' := #[.val (.ref r0), .val (.int p1), .val (.int (kI + (-1 : Int32))), .val (.int ((yI <<< ((6 : Int32) &&& 31)) + (f_ntzJ (W k y)))), .val (.long bz), .second]) rfl k₀
      show Owes _ _ _ _ (T20.setTop (mkF m 113 #[.val (.ref r0), .val (.int p1), .val (.int (kI + (-1 : Int32))), .val (.int ((yI <<< ((6 : Int32) &&& 31)) + (f_ntzJ (W k y)))), .val (.long bz), .second] []))
      refine Owes.go ?_ fun t₀ k₀ => XS.goto X20.here hx rfl (pc0 := 113) (pc' := 89) rfl (hb hby d6_113) (by decide) (by decide) k₀
      show Owes _ _ _ _ (T20.setTop (mkF m 89 #[.val (.ref r0), .val (.int p1), .val (.int (kI + (-1 : Int32))), .val (.int ((yI <<< ((6 : Int32) &&& 31)) + (f_ntzJ (W k y)))), .val (.long bz), .second] []))
      exact ih hk _ _ _ _ X20 e20 (own_dec hkI) (64 * y + t) (own_addt (own_shl6 hy (by omega)) hz (by have := ht.1; omega)) (D.down (H0 k hk) hidx ht)
  have up : ∀ (r k : Nat), k + r = d → ∀ (kI aI : Int32) (bz : Int64) (T : State), Stand p l e ({ frames := 2, cells := 0, slots := 0, locals := 31 } : Room) s m #[(.ref r0), (.int p1)] below meth c T [] 0 0 → T.heap = h0 → kI.toInt = (k : Int) → ∀ A : Nat, aI.toInt = (A : Int) → Up M fr k A → (k = 0 ∨ 0 < A) → bz = 0 → Owes p e below (EndN s (fun v h L => ∃ r : Int32, v = some (.int r) ∧ L = [] ∧ h = h0 ∧ NextIs M fr r.toInt) ({ frames := 2, cells := 0, slots := 0, locals := 31 } : Room).cells ({ frames := 2, cells := 0, slots := 0, locals := 31 } : Room).slots) (T.setTop (mkF m 7 #[.val (.ref r0), .val (.int p1), .val (.int kI), .val (.int aI), .val (.long bz), .second] [])) := by
    intro r
    induction r with
    | zero =>
      intro k hk0 kI aI bz T X eT hkI A hA U hpos hbz
      have hkd : k = d := by omega
      refine Owes.go ?_ fun t₀ k₀ => XS.lload X.here hx rfl (hb hby d6_7) rfl k₀
      show Owes _ _ _ _ (T.setTop (mkF m 9 #[.val (.ref r0), .val (.int p1), .val (.int kI), .val (.int aI), .val (.long bz), .second] [(.long bz)]))
      refine Owes.go ?_ fun t₀ k₀ => XS.lconst X.here hx rfl (hb hby d6_9) k₀
      show Owes _ _ _ _ (T.setTop (mkF m 10 #[.val (.ref r0), .val (.int p1), .val (.int kI), .val (.int aI), .val (.long bz), .second] [(.long (0 : Int64)), (.long bz)]))
      refine Owes.go ?_ fun t₀ k₀ => XS.lcmp X.here hx rfl (hb hby d6_10) rfl k₀
      show Owes _ _ _ _ (T.setTop (mkF m 11 #[.val (.ref r0), .val (.int p1), .val (.int kI), .val (.int aI), .val (.long bz), .second] [(.int (lcmpW bz (0 : Int64)))]))
      refine Owes.go ?_ fun t₀ k₀ => XS.ifNo X.here hx rfl (hb hby d6_11) rfl ((if0 _ _).trans (teq ((lw_eq _ _).mpr hbz)).2) k₀
      show Owes _ _ _ _ (T.setTop (mkF m 14 #[.val (.ref r0), .val (.int p1), .val (.int kI), .val (.int aI), .val (.long bz), .second] []))
      refine Owes.go ?_ fun t₀ k₀ => XS.iloadN X.here hx rfl (hb hby d6_14) rfl k₀
      show Owes _ _ _ _ (T.setTop (mkF m 15 #[.val (.ref r0), .val (.int p1), .val (.int kI), .val (.int aI), .val (.long bz), .second] [(.int kI)]))
      refine Owes.go ?_ fun t₀ k₀ => XS.aloadN X.here hx rfl (hb hby d6_15) rfl rfl k₀
      show Owes _ _ _ _ (T.setTop (mkF m 16 #[.val (.ref r0), .val (.int p1), .val (.int kI), .val (.int aI), .val (.long bz), .second] [(.ref r0), (.int kI)]))
      obtain ⟨T21, X21, e21, st21⟩ := getF X hx hZ hown (host := "") (Or.inl (hw _ (List.mem_of_getElem? (i := 16) rfl))) Via.refl eT F0.2.1 (g := (mkF m 16 #[.val (.ref r0), .val (.int p1), .val (.int kI), .val (.int aI), .val (.long bz), .second] [(.ref r0), (.int kI)])) rfl rfl (hb hby d6_16)
      refine Owes.go ?_ st21
      show Owes _ _ _ _ (T21.setTop (mkF m 19 #[.val (.ref r0), .val (.int p1), .val (.int kI), .val (.int aI), .val (.long bz), .second] [(.ref lv), (.int kI)]))
      refine Owes.glen X21 hx hZ e21 F0.2.2.1 (z := Int32.ofNat d) (own_ofNat (by omega)) (hb hby d6_19) ?_
      show Owes _ _ _ _ (T21.setTop (mkF m 20 #[.val (.ref r0), .val (.int p1), .val (.int kI), .val (.int aI), .val (.long bz), .second] [(.int (Int32.ofNat d)), (.int kI)]))
      refine Owes.go ?_ fun t₀ k₀ => XS.icmpYes X21.here hx rfl (pc0 := 20) (pc' := 37) rfl (hb hby d6_20) rfl (teq (own_eqi hkI (own_ofNat (by omega)) hkd)).1 (by decide) (by decide) k₀
      show Owes _ _ _ _ (T21.setTop (mkF m 37 #[.val (.ref r0), .val (.int p1), .val (.int kI), .val (.int aI), .val (.long bz), .second] []))
      refine Owes.go ?_ fun t₀ k₀ => XS.iconst X21.here hx rfl (hb hby d6_37) k₀
      show Owes _ _ _ _ (T21.setTop (mkF m 38 #[.val (.ref r0), .val (.int p1), .val (.int kI), .val (.int aI), .val (.long bz), .second] [(.int (-1 : Int32))]))
      exact Owes.retI X21 hx hlk hret (hb hby d6_38) (by decide) (by decide) ⟨_, rfl, rfl, e21, Or.inl ⟨rfl, fun x hx hf => by have h1 := U.1 x hx hf; rw [hkd, FT.up (HM x hx)] at h1; omega⟩⟩
    | succ r ih =>
      intro k hk0 kI aI bz T X eT hkI A hA U hpos hbz
      have hk : k < d := by omega
      have hlen := FT.2.2.2.2.2 k hk
      refine Owes.go ?_ fun t₀ k₀ => XS.lload X.here hx rfl (hb hby d6_7) rfl k₀
      show Owes _ _ _ _ (T.setTop (mkF m 9 #[.val (.ref r0), .val (.int p1), .val (.int kI), .val (.int aI), .val (.long bz), .second] [(.long bz)]))
      refine Owes.go ?_ fun t₀ k₀ => XS.lconst X.here hx rfl (hb hby d6_9) k₀
      show Owes _ _ _ _ (T.setTop (mkF m 10 #[.val (.ref r0), .val (.int p1), .val (.int kI), .val (.int aI), .val (.long bz), .second] [(.long (0 : Int64)), (.long bz)]))
      refine Owes.go ?_ fun t₀ k₀ => XS.lcmp X.here hx rfl (hb hby d6_10) rfl k₀
      show Owes _ _ _ _ (T.setTop (mkF m 11 #[.val (.ref r0), .val (.int p1), .val (.int kI), .val (.int aI), .val (.long bz), .second] [(.int (lcmpW bz (0 : Int64)))]))
      refine Owes.go ?_ fun t₀ k₀ => XS.ifNo X.here hx rfl (hb hby d6_11) rfl ((if0 _ _).trans (teq ((lw_eq _ _).mpr hbz)).2) k₀
      show Owes _ _ _ _ (T.setTop (mkF m 14 #[.val (.ref r0), .val (.int p1), .val (.int kI), .val (.int aI), .val (.long bz), .second] []))
      refine Owes.go ?_ fun t₀ k₀ => XS.iloadN X.here hx rfl (hb hby d6_14) rfl k₀
      show Owes _ _ _ _ (T.setTop (mkF m 15 #[.val (.ref r0), .val (.int p1), .val (.int kI), .val (.int aI), .val (.long bz), .second] [(.int kI)]))
      refine Owes.go ?_ fun t₀ k₀ => XS.aloadN X.here hx rfl (hb hby d6_15) rfl rfl k₀
      show Owes _ _ _ _ (T.setTop (mkF m 16 #[.val (.ref r0), .val (.int p1), .val (.int kI), .val (.int aI), .val (.long bz), .second] [(.ref r0), (.int kI)]))
      obtain ⟨T22, X22, e22, st22⟩ := getF X hx hZ hown (host := "") (Or.inl (hw _ (List.mem_of_getElem? (i := 16) rfl))) Via.refl eT F0.2.1 (g := (mkF m 16 #[.val (.ref r0), .val (.int p1), .val (.int kI), .val (.int aI), .val (.long bz), .second] [(.ref r0), (.int kI)])) rfl rfl (hb hby d6_16)
      refine Owes.go ?_ st22
      show Owes _ _ _ _ (T22.setTop (mkF m 19 #[.val (.ref r0), .val (.int p1), .val (.int kI), .val (.int aI), .val (.long bz), .second] [(.ref lv), (.int kI)]))
      refine Owes.glen X22 hx hZ e22 F0.2.2.1 (z := Int32.ofNat d) (own_ofNat (by omega)) (hb hby d6_19) ?_
      show Owes _ _ _ _ (T22.setTop (mkF m 20 #[.val (.ref r0), .val (.int p1), .val (.int kI), .val (.int aI), .val (.long bz), .second] [(.int (Int32.ofNat d)), (.int kI)]))
      refine Owes.go ?_ fun t₀ k₀ => XS.icmpNo X22.here hx rfl (hb hby d6_20) rfl (feq (own_nei hkI (own_ofNat (by omega)) (by omega))).1 k₀
      show Owes _ _ _ _ (T22.setTop (mkF m 23 #[.val (.ref r0), .val (.int p1), .val (.int kI), .val (.int aI), .val (.long bz), .second] []))
      refine Owes.go ?_ fun t₀ k₀ => XS.iloadN X22.here hx rfl (hb hby d6_23) rfl k₀
      show Owes _ _ _ _ (T22.setTop (mkF m 24 #[.val (.ref r0), .val (.int p1), .val (.int kI), .val (.int aI), .val (.long bz), .second] [(.int aI)]))
      refine Owes.go ?_ fun t₀ k₀ => XS.bipush X22.here hx rfl (hb hby d6_24) k₀
      show Owes _ _ _ _ (T22.setTop (mkF m 26 #[.val (.ref r0), .val (.int p1), .val (.int kI), .val (.int aI), .val (.long bz), .second] [(.int (6 : Int32)), (.int aI)]))
      refine Owes.go ?_ fun t₀ k₀ => XS.iushr X22.here hx rfl (hb hby d6_26) rfl k₀
      show Owes _ _ _ _ (T22.setTop (mkF m 27 #[.val (.ref r0), .val (.int p1), .val (.int kI), .val (.int aI), .val (.long bz), .second] [(.int ((aI.toUInt32 >>> ((6 : Int32) &&& 31).toUInt32).toInt32))]))
      refine Owes.go ?_ fun t₀ k₀ => XS.aloadN X22.here hx rfl (hb hby d6_27) rfl rfl k₀
      show Owes _ _ _ _ (T22.setTop (mkF m 28 #[.val (.ref r0), .val (.int p1), .val (.int kI), .val (.int aI), .val (.long bz), .second] [(.ref r0), (.int ((aI.toUInt32 >>> ((6 : Int32) &&& 31).toUInt32).toInt32))]))
      obtain ⟨T23, X23, e23, st23⟩ := getF X22 hx hZ hown (host := "") (Or.inl (hw _ (List.mem_of_getElem? (i := 16) rfl))) Via.refl e22 F0.2.1 (g := (mkF m 28 #[.val (.ref r0), .val (.int p1), .val (.int kI), .val (.int aI), .val (.long bz), .second] [(.ref r0), (.int ((aI.toUInt32 >>> ((6 : Int32) &&& 31).toUInt32).toInt32))])) rfl rfl (hb hby d6_28)
      refine Owes.go ?_ st23
      show Owes _ _ _ _ (T23.setTop (mkF m 31 #[.val (.ref r0), .val (.int p1), .val (.int kI), .val (.int aI), .val (.long bz), .second] [(.ref lv), (.int ((aI.toUInt32 >>> ((6 : Int32) &&& 31).toUInt32).toInt32))]))
      refine Owes.go ?_ fun t₀ k₀ => XS.iloadN X23.here hx rfl (hb hby d6_31) rfl k₀
      show Owes _ _ _ _ (T23.setTop (mkF m 32 #[.val (.ref r0), .val (.int p1), .val (.int kI), .val (.int aI), .val (.long bz), .second] [(.int kI), (.ref lv), (.int ((aI.toUInt32 >>> ((6 : Int32) &&& 31).toUInt32).toInt32))]))
      refine Owes.gR X23 hx hZ e23 F0.2.2.1 rfl hkI hk (v := .ref (g k)) rfl (hb hby d6_32) ?_
      show Owes _ _ _ _ (T23.setTop (mkF m 33 #[.val (.ref r0), .val (.int p1), .val (.int kI), .val (.int aI), .val (.long bz), .second] [(.ref (g k)), (.int ((aI.toUInt32 >>> ((6 : Int32) &&& 31).toUInt32).toInt32))]))
      refine Owes.glen X23 hx hZ e23 (F0.2.2.2.1 k hk).1 (z := Int32.ofNat (len k)) (own_ofNat (by have := FT.2.2.2.2.2 k hk; omega)) (hb hby d6_33) ?_
      show Owes _ _ _ _ (T23.setTop (mkF m 34 #[.val (.ref r0), .val (.int p1), .val (.int kI), .val (.int aI), .val (.long bz), .second] [(.int (Int32.ofNat (len k))), (.int ((aI.toUInt32 >>> ((6 : Int32) &&& 31).toUInt32).toInt32))]))
      by_cases hc1 : ((aI.toUInt32 >>> ((6 : Int32) &&& 31).toUInt32).toInt32) < (Int32.ofNat (len k))
      · skip
        refine Owes.go ?_ fun t₀ k₀ => XS.icmpYes X23.here hx rfl (pc0 := 34) (pc' := 39) rfl (hb hby d6_34) rfl (tlt hc1).1 (by decide) (by decide) k₀
        show Owes _ _ _ _ (T23.setTop (mkF m 39 #[.val (.ref r0), .val (.int p1), .val (.int kI), .val (.int aI), .val (.long bz), .second] []))
        have hidx : A / 64 < len k := own_ltn (own_sh6 hA) (own_ofNat (show len k < 2147483648 by omega)) hc1
        refine Owes.go ?_ fun t₀ k₀ => XS.aloadN X23.here hx rfl (hb hby d6_39) rfl rfl k₀
        show Owes _ _ _ _ (T23.setTop (mkF m 40 #[.val (.ref r0), .val (.int p1), .val (.int kI), .val (.int aI), .val (.long bz), .second] [(.ref r0)]))
        obtain ⟨T24, X24, e24, st24⟩ := getF X23 hx hZ hown (host := "") (Or.inl (hw _ (List.mem_of_getElem? (i := 16) rfl))) Via.refl e23 F0.2.1 (g := (mkF m 40 #[.val (.ref r0), .val (.int p1), .val (.int kI), .val (.int aI), .val (.long bz), .second] [(.ref r0)])) rfl rfl (hb hby d6_40)
        refine Owes.go ?_ st24
        show Owes _ _ _ _ (T24.setTop (mkF m 43 #[.val (.ref r0), .val (.int p1), .val (.int kI), .val (.int aI), .val (.long bz), .second] [(.ref lv)]))
        refine Owes.go ?_ fun t₀ k₀ => XS.iloadN X24.here hx rfl (hb hby d6_43) rfl k₀
        show Owes _ _ _ _ (T24.setTop (mkF m 44 #[.val (.ref r0), .val (.int p1), .val (.int kI), .val (.int aI), .val (.long bz), .second] [(.int kI), (.ref lv)]))
        refine Owes.gR X24 hx hZ e24 F0.2.2.1 rfl hkI hk (v := .ref (g k)) rfl (hb hby d6_44) ?_
        show Owes _ _ _ _ (T24.setTop (mkF m 45 #[.val (.ref r0), .val (.int p1), .val (.int kI), .val (.int aI), .val (.long bz), .second] [(.ref (g k))]))
        refine Owes.go ?_ fun t₀ k₀ => XS.iloadN X24.here hx rfl (hb hby d6_45) rfl k₀
        show Owes _ _ _ _ (T24.setTop (mkF m 46 #[.val (.ref r0), .val (.int p1), .val (.int kI), .val (.int aI), .val (.long bz), .second] [(.int aI), (.ref (g k))]))
        refine Owes.go ?_ fun t₀ k₀ => XS.bipush X24.here hx rfl (hb hby d6_46) k₀
        show Owes _ _ _ _ (T24.setTop (mkF m 48 #[.val (.ref r0), .val (.int p1), .val (.int kI), .val (.int aI), .val (.long bz), .second] [(.int (6 : Int32)), (.int aI), (.ref (g k))]))
        refine Owes.go ?_ fun t₀ k₀ => XS.iushr X24.here hx rfl (hb hby d6_48) rfl k₀
        show Owes _ _ _ _ (T24.setTop (mkF m 49 #[.val (.ref r0), .val (.int p1), .val (.int kI), .val (.int aI), .val (.long bz), .second] [(.int ((aI.toUInt32 >>> ((6 : Int32) &&& 31).toUInt32).toInt32)), (.ref (g k))]))
        refine Owes.gJ X24 hx hZ e24 (F0.2.2.2.1 k hk).1 (own_sh6 hA) hidx (v := .long (W k (A / 64))) rfl (hb hby d6_49) ?_
        show Owes _ _ _ _ (T24.setTop (mkF m 50 #[.val (.ref r0), .val (.int p1), .val (.int kI), .val (.int aI), .val (.long bz), .second] [(.long (W k (A / 64)))]))
        refine Owes.go ?_ fun t₀ k₀ => X24.ldc2Long hx hown (mvT hZ (hw _ (List.mem_of_getElem? (i := 34) rfl))) (g := (mkF m 50 #[.val (.ref r0), .val (.int p1), .val (.int kI), .val (.int aI), .val (.long bz), .second] [(.long (W k (A / 64)))])) rfl (hb hby d6_50) _ k₀
        show Owes _ _ _ _ (T24.setTop (mkF m 53 #[.val (.ref r0), .val (.int p1), .val (.int kI), .val (.int aI), .val (.long bz), .second] [(.long (-1 : Int64)), (.long (W k (A / 64)))]))
        refine Owes.go ?_ fun t₀ k₀ => XS.iloadN X24.here hx rfl (hb hby d6_53) rfl k₀
        show Owes _ _ _ _ (T24.setTop (mkF m 54 #[.val (.ref r0), .val (.int p1), .val (.int kI), .val (.int aI), .val (.long bz), .second] [(.int aI), (.long (-1 : Int64)), (.long (W k (A / 64)))]))
        refine Owes.go ?_ fun t₀ k₀ => XS.lshl X24.here hx rfl (hb hby d6_54) rfl k₀
        show Owes _ _ _ _ (T24.setTop (mkF m 55 #[.val (.ref r0), .val (.int p1), .val (.int kI), .val (.int aI), .val (.long bz), .second] [(.long ((-1 : Int64) <<< (aI &&& 0x3f).toInt64)), (.long (W k (A / 64)))]))
        refine Owes.go ?_ fun t₀ k₀ => XS.land X24.here hx rfl (hb hby d6_55) rfl k₀
        show Owes _ _ _ _ (T24.setTop (mkF m 56 #[.val (.ref r0), .val (.int p1), .val (.int kI), .val (.int aI), .val (.long bz), .second] [(.long ((W k (A / 64)) &&& ((-1 : Int64) <<< (aI &&& 0x3f).toInt64)))]))
        refine Owes.go ?_ fun t₀ k₀ => XS.lstore X24.here hx rfl (hb hby d6_56) rfl (l' := #[.val (.ref r0), .val (.int p1), .val (.int kI), .val (.int aI), .val (.long ((W k (A / 64)) &&& ((-1 : Int64) <<< (aI &&& 0x3f).toInt64))), .second]) rfl k₀
        show Owes _ _ _ _ (T24.setTop (mkF m 58 #[.val (.ref r0), .val (.int p1), .val (.int kI), .val (.int aI), .val (.long ((W k (A / 64)) &&& ((-1 : Int64) <<< (aI &&& 0x3f).toInt64))), .second] []))
        refine Owes.go ?_ fun t₀ k₀ => XS.lload X24.here hx rfl (hb hby d6_58) rfl k₀
        show Owes _ _ _ _ (T24.setTop (mkF m 60 #[.val (.ref r0), .val (.int p1), .val (.int kI), .val (.int aI), .val (.long ((W k (A / 64)) &&& ((-1 : Int64) <<< (aI &&& 0x3f).toInt64))), .second] [(.long ((W k (A / 64)) &&& ((-1 : Int64) <<< (aI &&& 0x3f).toInt64)))]))
        refine Owes.go ?_ fun t₀ k₀ => XS.lconst X24.here hx rfl (hb hby d6_60) k₀
        show Owes _ _ _ _ (T24.setTop (mkF m 61 #[.val (.ref r0), .val (.int p1), .val (.int kI), .val (.int aI), .val (.long ((W k (A / 64)) &&& ((-1 : Int64) <<< (aI &&& 0x3f).toInt64))), .second] [(.long (0 : Int64)), (.long ((W k (A / 64)) &&& ((-1 : Int64) <<< (aI &&& 0x3f).toInt64)))]))
        refine Owes.go ?_ fun t₀ k₀ => XS.lcmp X24.here hx rfl (hb hby d6_61) rfl k₀
        show Owes _ _ _ _ (T24.setTop (mkF m 62 #[.val (.ref r0), .val (.int p1), .val (.int kI), .val (.int aI), .val (.long ((W k (A / 64)) &&& ((-1 : Int64) <<< (aI &&& 0x3f).toInt64))), .second] [(.int (lcmpW ((W k (A / 64)) &&& ((-1 : Int64) <<< (aI &&& 0x3f).toInt64)) (0 : Int64)))]))
        by_cases hc2 : ((W k (A / 64)) &&& ((-1 : Int64) <<< (aI &&& 0x3f).toInt64)) = (0 : Int64)
        · skip
          refine Owes.go ?_ fun t₀ k₀ => XS.ifNo X24.here hx rfl (hb hby d6_62) rfl ((if0 _ _).trans (teq ((lw_eq _ _).mpr hc2)).2) k₀
          show Owes _ _ _ _ (T24.setTop (mkF m 65 #[.val (.ref r0), .val (.int p1), .val (.int kI), .val (.int aI), .val (.long ((W k (A / 64)) &&& ((-1 : Int64) <<< (aI &&& 0x3f).toInt64))), .second] []))
          refine Owes.go ?_ fun t₀ k₀ => XS.iloadN X24.here hx rfl (hb hby d6_65) rfl k₀
          show Owes _ _ _ _ (T24.setTop (mkF m 66 #[.val (.ref r0), .val (.int p1), .val (.int kI), .val (.int aI), .val (.long ((W k (A / 64)) &&& ((-1 : Int64) <<< (aI &&& 0x3f).toInt64))), .second] [(.int aI)]))
          refine Owes.go ?_ fun t₀ k₀ => XS.bipush X24.here hx rfl (hb hby d6_66) k₀
          show Owes _ _ _ _ (T24.setTop (mkF m 68 #[.val (.ref r0), .val (.int p1), .val (.int kI), .val (.int aI), .val (.long ((W k (A / 64)) &&& ((-1 : Int64) <<< (aI &&& 0x3f).toInt64))), .second] [(.int (6 : Int32)), (.int aI)]))
          refine Owes.go ?_ fun t₀ k₀ => XS.iushr X24.here hx rfl (hb hby d6_68) rfl k₀
          show Owes _ _ _ _ (T24.setTop (mkF m 69 #[.val (.ref r0), .val (.int p1), .val (.int kI), .val (.int aI), .val (.long ((W k (A / 64)) &&& ((-1 : Int64) <<< (aI &&& 0x3f).toInt64))), .second] [(.int ((aI.toUInt32 >>> ((6 : Int32) &&& 31).toUInt32).toInt32))]))
          refine Owes.go ?_ fun t₀ k₀ => XS.iconst X24.here hx rfl (hb hby d6_69) k₀
          show Owes _ _ _ _ (T24.setTop (mkF m 70 #[.val (.ref r0), .val (.int p1), .val (.int kI), .val (.int aI), .val (.long ((W k (A / 64)) &&& ((-1 : Int64) <<< (aI &&& 0x3f).toInt64))), .second] [(.int (1 : Int32)), (.int ((aI.toUInt32 >>> ((6 : Int32) &&& 31).toUInt32).toInt32))]))
          refine Owes.go ?_ fun t₀ k₀ => XS.iadd X24.here hx rfl (hb hby d6_70) rfl k₀
          show Owes _ _ _ _ (T24.setTop (mkF m 71 #[.val (.ref r0), .val (.int p1), .val (.int kI), .val (.int aI), .val (.long ((W k (A / 64)) &&& ((-1 : Int64) <<< (aI &&& 0x3f).toInt64))), .second] [(.int (((aI.toUInt32 >>> ((6 : Int32) &&& 31).toUInt32).toInt32) + (1 : Int32)))]))
          refine Owes.go ?_ fun t₀ k₀ => XS.istoreN X24.here hx rfl (hb hby d6_71) rfl (l' := #[.val (.ref r0), .val (.int p1), .val (.int kI), .val (.int (((aI.toUInt32 >>> ((6 : Int32) &&& 31).toUInt32).toInt32) + (1 : Int32))), .val (.long ((W k (A / 64)) &&& ((-1 : Int64) <<< (aI &&& 0x3f).toInt64))), .second]) rfl k₀
          show Owes _ _ _ _ (T24.setTop (mkF m 72 #[.val (.ref r0), .val (.int p1), .val (.int kI), .val (.int (((aI.toUInt32 >>> ((6 : Int32) &&& 31).toUInt32).toInt32) + (1 : Int32))), .val (.long ((W k (A / 64)) &&& ((-1 : Int64) <<< (aI &&& 0x3f).toInt64))), .second] []))
          refine Owes.go ?_ fun t₀ k₀ => XS.iinc X24.here hx rfl (hb hby d6_72) rfl (l' := #[.val (.ref r0), .val (.int p1), .val (.int (kI + (1 : Int32))), .val (.int (((aI.toUInt32 >>> ((6 : Int32) &&& 31).toUInt32).toInt32) + (1 : Int32))), .val (.long ((W k (A / 64)) &&& ((-1 : Int64) <<< (aI &&& 0x3f).toInt64))), .second]) rfl k₀
          show Owes _ _ _ _ (T24.setTop (mkF m 75 #[.val (.ref r0), .val (.int p1), .val (.int (kI + (1 : Int32))), .val (.int (((aI.toUInt32 >>> ((6 : Int32) &&& 31).toUInt32).toInt32) + (1 : Int32))), .val (.long ((W k (A / 64)) &&& ((-1 : Int64) <<< (aI &&& 0x3f).toInt64))), .second] []))
          refine Owes.go ?_ fun t₀ k₀ => XS.goto X24.here hx rfl (pc0 := 75) (pc' := 7) rfl (hb hby d6_75) (by decide) (by decide) k₀
          show Owes _ _ _ _ (T24.setTop (mkF m 7 #[.val (.ref r0), .val (.int p1), .val (.int (kI + (1 : Int32))), .val (.int (((aI.toUInt32 >>> ((6 : Int32) &&& 31).toUInt32).toInt32) + (1 : Int32))), .val (.long ((W k (A / 64)) &&& ((-1 : Int64) <<< (aI &&& 0x3f).toInt64))), .second] []))
          exact ih (k + 1) (by omega) _ _ _ _ X24 e24 (own_inc hkI (by omega)) (A / 64 + 1) (own_inc (own_sh6 hA) (by omega)) (U.next (H0 k hk) hidx aI hA hc2) (Or.inr (by omega)) hc2
        · skip
          refine Owes.go ?_ fun t₀ k₀ => XS.ifYes X24.here hx rfl (pc0 := 62) (pc' := 7) rfl (hb hby d6_62) rfl ((if0 _ _).trans (feq (fun q => hc2 ((lw_eq _ _).mp q))).2) (by decide) (by decide) k₀
          show Owes _ _ _ _ (T24.setTop (mkF m 7 #[.val (.ref r0), .val (.int p1), .val (.int kI), .val (.int aI), .val (.long ((W k (A / 64)) &&& ((-1 : Int64) <<< (aI &&& 0x3f).toInt64))), .second] []))
          obtain ⟨t, ht⟩ := Low.ex hc2
          have hz := own_ntzJ _ t ht
          refine Owes.go ?_ fun t₀ k₀ => XS.lload X24.here hx rfl (hb hby d6_7) rfl k₀
          show Owes _ _ _ _ (T24.setTop (mkF m 9 #[.val (.ref r0), .val (.int p1), .val (.int kI), .val (.int aI), .val (.long ((W k (A / 64)) &&& ((-1 : Int64) <<< (aI &&& 0x3f).toInt64))), .second] [(.long ((W k (A / 64)) &&& ((-1 : Int64) <<< (aI &&& 0x3f).toInt64)))]))
          refine Owes.go ?_ fun t₀ k₀ => XS.lconst X24.here hx rfl (hb hby d6_9) k₀
          show Owes _ _ _ _ (T24.setTop (mkF m 10 #[.val (.ref r0), .val (.int p1), .val (.int kI), .val (.int aI), .val (.long ((W k (A / 64)) &&& ((-1 : Int64) <<< (aI &&& 0x3f).toInt64))), .second] [(.long (0 : Int64)), (.long ((W k (A / 64)) &&& ((-1 : Int64) <<< (aI &&& 0x3f).toInt64)))]))
          refine Owes.go ?_ fun t₀ k₀ => XS.lcmp X24.here hx rfl (hb hby d6_10) rfl k₀
          show Owes _ _ _ _ (T24.setTop (mkF m 11 #[.val (.ref r0), .val (.int p1), .val (.int kI), .val (.int aI), .val (.long ((W k (A / 64)) &&& ((-1 : Int64) <<< (aI &&& 0x3f).toInt64))), .second] [(.int (lcmpW ((W k (A / 64)) &&& ((-1 : Int64) <<< (aI &&& 0x3f).toInt64)) (0 : Int64)))]))
          refine Owes.go ?_ fun t₀ k₀ => XS.ifYes X24.here hx rfl (pc0 := 11) (pc' := 78) rfl (hb hby d6_11) rfl ((if0 _ _).trans (feq (fun q => hc2 ((lw_eq _ _).mp q))).2) (by decide) (by decide) k₀
          show Owes _ _ _ _ (T24.setTop (mkF m 78 #[.val (.ref r0), .val (.int p1), .val (.int kI), .val (.int aI), .val (.long ((W k (A / 64)) &&& ((-1 : Int64) <<< (aI &&& 0x3f).toInt64))), .second] []))
          refine Owes.go ?_ fun t₀ k₀ => XS.iloadN X24.here hx rfl (hb hby d6_78) rfl k₀
          show Owes _ _ _ _ (T24.setTop (mkF m 79 #[.val (.ref r0), .val (.int p1), .val (.int kI), .val (.int aI), .val (.long ((W k (A / 64)) &&& ((-1 : Int64) <<< (aI &&& 0x3f).toInt64))), .second] [(.int aI)]))
          refine Owes.go ?_ fun t₀ k₀ => XS.bipush X24.here hx rfl (hb hby d6_79) k₀
          show Owes _ _ _ _ (T24.setTop (mkF m 81 #[.val (.ref r0), .val (.int p1), .val (.int kI), .val (.int aI), .val (.long ((W k (A / 64)) &&& ((-1 : Int64) <<< (aI &&& 0x3f).toInt64))), .second] [(.int (-64 : Int32)), (.int aI)]))
          refine Owes.go ?_ fun t₀ k₀ => XS.iand X24.here hx rfl (hb hby d6_81) rfl k₀
          show Owes _ _ _ _ (T24.setTop (mkF m 82 #[.val (.ref r0), .val (.int p1), .val (.int kI), .val (.int aI), .val (.long ((W k (A / 64)) &&& ((-1 : Int64) <<< (aI &&& 0x3f).toInt64))), .second] [(.int (aI &&& (-64 : Int32)))]))
          refine Owes.go ?_ fun t₀ k₀ => XS.lload X24.here hx rfl (hb hby d6_82) rfl k₀
          show Owes _ _ _ _ (T24.setTop (mkF m 84 #[.val (.ref r0), .val (.int p1), .val (.int kI), .val (.int aI), .val (.long ((W k (A / 64)) &&& ((-1 : Int64) <<< (aI &&& 0x3f).toInt64))), .second] [(.long ((W k (A / 64)) &&& ((-1 : Int64) <<< (aI &&& 0x3f).toInt64))), (.int (aI &&& (-64 : Int32)))]))
          refine Owes.callS X24 hx hZ hown (hw _ (List.mem_of_getElem? (i := 35) rfl)) (hw _ (List.mem_of_getElem? (i := 36) rfl)) (hw _ (List.mem_of_getElem? (i := 37) rfl)) (hw _ (List.mem_of_getElem? (i := 38) rfl)) (by decide) (argsL := [(.long ((W k (A / 64)) &&& ((-1 : Int64) <<< (aI &&& 0x3f).toInt64)))]) (rest := [(.int (aI &&& (-64 : Int32)))]) (rm_f_ntzJ l Z a0 hw [] ((W k (A / 64)) &&& ((-1 : Int64) <<< (aI &&& 0x3f).toInt64)) h0 ) e24 (by rw [hml]; rfl) pd_2 rfl rfl (hb hby d6_84) (by decide) (Nat.le_of_ble_eq_true rfl) (by decide) (by decide) ?_
          rintro T25 _ _ X25 ⟨rfl, rfl, e25⟩
          rw [List.append_nil] at X25
          show Owes _ _ _ _ (T25.setTop (mkF m 87 #[.val (.ref r0), .val (.int p1), .val (.int kI), .val (.int aI), .val (.long ((W k (A / 64)) &&& ((-1 : Int64) <<< (aI &&& 0x3f).toInt64))), .second] [(.int (f_ntzJ ((W k (A / 64)) &&& ((-1 : Int64) <<< (aI &&& 0x3f).toInt64)))), (.int (aI &&& (-64 : Int32)))]))
          refine Owes.go ?_ fun t₀ k₀ => XS.iadd X25.here hx rfl (hb hby d6_87) rfl k₀
          show Owes _ _ _ _ (T25.setTop (mkF m 88 #[.val (.ref r0), .val (.int p1), .val (.int kI), .val (.int aI), .val (.long ((W k (A / 64)) &&& ((-1 : Int64) <<< (aI &&& 0x3f).toInt64))), .second] [(.int ((aI &&& (-64 : Int32)) + (f_ntzJ ((W k (A / 64)) &&& ((-1 : Int64) <<< (aI &&& 0x3f).toInt64)))))]))
          refine Owes.go ?_ fun t₀ k₀ => XS.istoreN X25.here hx rfl (hb hby d6_88) rfl (l' := #[.val (.ref r0), .val (.int p1), .val (.int kI), .val (.int ((aI &&& (-64 : Int32)) + (f_ntzJ ((W k (A / 64)) &&& ((-1 : Int64) <<< (aI &&& 0x3f).toInt64))))), .val (.long ((W k (A / 64)) &&& ((-1 : Int64) <<< (aI &&& 0x3f).toInt64))), .second]) rfl k₀
          show Owes _ _ _ _ (T25.setTop (mkF m 89 #[.val (.ref r0), .val (.int p1), .val (.int kI), .val (.int ((aI &&& (-64 : Int32)) + (f_ntzJ ((W k (A / 64)) &&& ((-1 : Int64) <<< (aI &&& 0x3f).toInt64))))), .val (.long ((W k (A / 64)) &&& ((-1 : Int64) <<< (aI &&& 0x3f).toInt64))), .second] []))
          exact dn k hk _ _ _ _ X25 e25 hkI (A - A % 64 + t) (own_addt (own_m64 hA) hz (by have := ht.1; have := rng32 aI; omega)) (U.found (H0 k hk) hidx aI hA ht)
      · skip
        refine Owes.go ?_ fun t₀ k₀ => XS.icmpNo X23.here hx rfl (hb hby d6_34) rfl (flt hc1).1 k₀
        show Owes _ _ _ _ (T23.setTop (mkF m 37 #[.val (.ref r0), .val (.int p1), .val (.int kI), .val (.int aI), .val (.long bz), .second] []))
        refine Owes.go ?_ fun t₀ k₀ => XS.iconst X23.here hx rfl (hb hby d6_37) k₀
        show Owes _ _ _ _ (T23.setTop (mkF m 38 #[.val (.ref r0), .val (.int p1), .val (.int kI), .val (.int aI), .val (.long bz), .second] [(.int (-1 : Int32))]))
        exact Owes.retI X23 hx hlk hret (hb hby d6_38) (by decide) (by decide) ⟨_, rfl, rfl, e23, Or.inl ⟨rfl, fun x hx hf => by have h1 := U.1 x hx hf; have h2 := FT.at (HM x hx) k hk; have h3 := own_ge (own_sh6 hA) (own_ofNat (show len k < 2147483648 by omega)) hc1; omega⟩⟩
  refine Owes.go ?_ fun t₀ k₀ => XS.iconst X0.here hx rfl (hb hby d6_0) k₀
  show Owes _ _ _ _ (s₁.setTop (mkF m 1 #[.val (.ref r0), .val (.int p1), .unset, .unset, .unset, .unset] [(.int (0 : Int32))]))
  refine Owes.go ?_ fun t₀ k₀ => XS.istoreN X0.here hx rfl (hb hby d6_1) rfl (l' := #[.val (.ref r0), .val (.int p1), .val (.int (0 : Int32)), .unset, .unset, .unset]) rfl k₀
  show Owes _ _ _ _ (s₁.setTop (mkF m 2 #[.val (.ref r0), .val (.int p1), .val (.int (0 : Int32)), .unset, .unset, .unset] []))
  refine Owes.go ?_ fun t₀ k₀ => XS.iloadN X0.here hx rfl (hb hby d6_2) rfl k₀
  show Owes _ _ _ _ (s₁.setTop (mkF m 3 #[.val (.ref r0), .val (.int p1), .val (.int (0 : Int32)), .unset, .unset, .unset] [(.int p1)]))
  refine Owes.go ?_ fun t₀ k₀ => XS.istoreN X0.here hx rfl (hb hby d6_3) rfl (l' := #[.val (.ref r0), .val (.int p1), .val (.int (0 : Int32)), .val (.int p1), .unset, .unset]) rfl k₀
  show Owes _ _ _ _ (s₁.setTop (mkF m 4 #[.val (.ref r0), .val (.int p1), .val (.int (0 : Int32)), .val (.int p1), .unset, .unset] []))
  refine Owes.go ?_ fun t₀ k₀ => XS.lconst X0.here hx rfl (hb hby d6_4) k₀
  show Owes _ _ _ _ (s₁.setTop (mkF m 5 #[.val (.ref r0), .val (.int p1), .val (.int (0 : Int32)), .val (.int p1), .unset, .unset] [(.long (0 : Int64))]))
  refine Owes.go ?_ fun t₀ k₀ => XS.lstore X0.here hx rfl (hb hby d6_5) rfl (l' := #[.val (.ref r0), .val (.int p1), .val (.int (0 : Int32)), .val (.int p1), .val (.long (0 : Int64)), .second]) rfl k₀
  show Owes _ _ _ _ (s₁.setTop (mkF m 7 #[.val (.ref r0), .val (.int p1), .val (.int (0 : Int32)), .val (.int p1), .val (.long (0 : Int64)), .second] []))
  exact up d 0 (by omega) _ _ _ _ X0 e0 rfl fr hp (Up.start M fr) (Or.inl rfl) rfl
theorem d9_79 : decode prog_118_method_6_code 79 = .ok (.iload_n 2, 1) := by decide +kernel
theorem d9_80 : decode prog_118_method_6_code 80 = .ok (.ifCond .le 29, 3) := by decide +kernel
theorem d9_109 : decode prog_118_method_6_code 109 = .ok (.iload_n 3, 1) := by decide +kernel
theorem d9_110 : decode prog_118_method_6_code 110 = .ok (.ireturn, 1) := by decide +kernel
theorem d9_83 : decode prog_118_method_6_code 83 = .ok (.iinc 2 (-1), 3) := by decide +kernel
theorem d9_86 : decode prog_118_method_6_code 86 = .ok (.iload_n 3, 1) := by decide +kernel
theorem d9_87 : decode prog_118_method_6_code 87 = .ok (.bipush 6, 2) := by decide +kernel
theorem d9_89 : decode prog_118_method_6_code 89 = .ok (.ishl, 1) := by decide +kernel
theorem d9_90 : decode prog_118_method_6_code 90 = .ok (.bipush 63, 2) := by decide +kernel
theorem d9_92 : decode prog_118_method_6_code 92 = .ok (.iadd, 1) := by decide +kernel
theorem d9_93 : decode prog_118_method_6_code 93 = .ok (.aload_n 0, 1) := by decide +kernel
theorem d9_94 : decode prog_118_method_6_code 94 = .ok (.getfield 15, 3) := by decide +kernel
theorem d9_97 : decode prog_118_method_6_code 97 = .ok (.iload_n 2, 1) := by decide +kernel
theorem d9_98 : decode prog_118_method_6_code 98 = .ok (.aaload, 1) := by decide +kernel
theorem d9_99 : decode prog_118_method_6_code 99 = .ok (.iload_n 3, 1) := by decide +kernel
theorem d9_100 : decode prog_118_method_6_code 100 = .ok (.laload, 1) := by decide +kernel
theorem d9_101 : decode prog_118_method_6_code 101 = .ok (.invokestatic 39, 3) := by decide +kernel
theorem d9_104 : decode prog_118_method_6_code 104 = .ok (.isub, 1) := by decide +kernel
theorem d9_105 : decode prog_118_method_6_code 105 = .ok (.istore_n 3, 1) := by decide +kernel
theorem d9_106 : decode prog_118_method_6_code 106 = .ok (.goto (-27), 3) := by decide +kernel
theorem d9_7 : decode prog_118_method_6_code 7 = .ok (.lload 4, 2) := by decide +kernel
theorem d9_9 : decode prog_118_method_6_code 9 = .ok (.lconst 0, 1) := by decide +kernel
theorem d9_10 : decode prog_118_method_6_code 10 = .ok (.lcmp, 1) := by decide +kernel
theorem d9_11 : decode prog_118_method_6_code 11 = .ok (.ifCond .ne 54, 3) := by decide +kernel
theorem d9_14 : decode prog_118_method_6_code 14 = .ok (.iload_n 3, 1) := by decide +kernel
theorem d9_15 : decode prog_118_method_6_code 15 = .ok (.ifCond .ge 5, 3) := by decide +kernel
theorem d9_18 : decode prog_118_method_6_code 18 = .ok (.iconst (-1), 1) := by decide +kernel
theorem d9_19 : decode prog_118_method_6_code 19 = .ok (.ireturn, 1) := by decide +kernel
theorem d9_20 : decode prog_118_method_6_code 20 = .ok (.aload_n 0, 1) := by decide +kernel
theorem d9_21 : decode prog_118_method_6_code 21 = .ok (.getfield 15, 3) := by decide +kernel
theorem d9_24 : decode prog_118_method_6_code 24 = .ok (.iload_n 2, 1) := by decide +kernel
theorem d9_25 : decode prog_118_method_6_code 25 = .ok (.aaload, 1) := by decide +kernel
theorem d9_26 : decode prog_118_method_6_code 26 = .ok (.iload_n 3, 1) := by decide +kernel
theorem d9_27 : decode prog_118_method_6_code 27 = .ok (.bipush 6, 2) := by decide +kernel
theorem d9_29 : decode prog_118_method_6_code 29 = .ok (.iushr, 1) := by decide +kernel
theorem d9_30 : decode prog_118_method_6_code 30 = .ok (.laload, 1) := by decide +kernel
theorem d9_31 : decode prog_118_method_6_code 31 = .ok (.ldc2_w 25, 3) := by decide +kernel
theorem d9_34 : decode prog_118_method_6_code 34 = .ok (.bipush 63, 2) := by decide +kernel
theorem d9_36 : decode prog_118_method_6_code 36 = .ok (.iload_n 3, 1) := by decide +kernel
theorem d9_37 : decode prog_118_method_6_code 37 = .ok (.bipush 63, 2) := by decide +kernel
theorem d9_39 : decode prog_118_method_6_code 39 = .ok (.iand, 1) := by decide +kernel
theorem d9_40 : decode prog_118_method_6_code 40 = .ok (.isub, 1) := by decide +kernel
theorem d9_41 : decode prog_118_method_6_code 41 = .ok (.lushr, 1) := by decide +kernel
theorem d9_42 : decode prog_118_method_6_code 42 = .ok (.land, 1) := by decide +kernel
theorem d9_43 : decode prog_118_method_6_code 43 = .ok (.lstore 4, 2) := by decide +kernel
theorem d9_45 : decode prog_118_method_6_code 45 = .ok (.lload 4, 2) := by decide +kernel
theorem d9_47 : decode prog_118_method_6_code 47 = .ok (.lconst 0, 1) := by decide +kernel
theorem d9_48 : decode prog_118_method_6_code 48 = .ok (.lcmp, 1) := by decide +kernel
theorem d9_49 : decode prog_118_method_6_code 49 = .ok (.ifCond .ne (-42), 3) := by decide +kernel
theorem d9_52 : decode prog_118_method_6_code 52 = .ok (.iload_n 3, 1) := by decide +kernel
theorem d9_53 : decode prog_118_method_6_code 53 = .ok (.bipush 6, 2) := by decide +kernel
theorem d9_55 : decode prog_118_method_6_code 55 = .ok (.iushr, 1) := by decide +kernel
theorem d9_56 : decode prog_118_method_6_code 56 = .ok (.iconst 1, 1) := by decide +kernel
theorem d9_57 : decode prog_118_method_6_code 57 = .ok (.isub, 1) := by decide +kernel
theorem d9_58 : decode prog_118_method_6_code 58 = .ok (.istore_n 3, 1) := by decide +kernel
theorem d9_59 : decode prog_118_method_6_code 59 = .ok (.iinc 2 1, 3) := by decide +kernel
theorem d9_62 : decode prog_118_method_6_code 62 = .ok (.goto (-55), 3) := by decide +kernel
theorem d9_65 : decode prog_118_method_6_code 65 = .ok (.iload_n 3, 1) := by decide +kernel
theorem d9_66 : decode prog_118_method_6_code 66 = .ok (.bipush (-64), 2) := by decide +kernel
theorem d9_68 : decode prog_118_method_6_code 68 = .ok (.iand, 1) := by decide +kernel
theorem d9_69 : decode prog_118_method_6_code 69 = .ok (.bipush 63, 2) := by decide +kernel
theorem d9_71 : decode prog_118_method_6_code 71 = .ok (.iadd, 1) := by decide +kernel
theorem d9_72 : decode prog_118_method_6_code 72 = .ok (.lload 4, 2) := by decide +kernel
theorem d9_74 : decode prog_118_method_6_code 74 = .ok (.invokestatic 39, 3) := by decide +kernel
theorem d9_77 : decode prog_118_method_6_code 77 = .ok (.isub, 1) := by decide +kernel
theorem d9_78 : decode prog_118_method_6_code 78 = .ok (.istore_n 3, 1) := by decide +kernel
theorem d9_0 : decode prog_118_method_6_code 0 = .ok (.iconst 0, 1) := by decide +kernel
theorem d9_1 : decode prog_118_method_6_code 1 = .ok (.istore_n 2, 1) := by decide +kernel
theorem d9_2 : decode prog_118_method_6_code 2 = .ok (.iload_n 1, 1) := by decide +kernel
theorem d9_3 : decode prog_118_method_6_code 3 = .ok (.istore_n 3, 1) := by decide +kernel
theorem d9_4 : decode prog_118_method_6_code 4 = .ok (.lconst 0, 1) := by decide +kernel
theorem d9_5 : decode prog_118_method_6_code 5 = .ok (.lstore 4, 2) := by decide +kernel
theorem ef_9 (m : MethodId) (r0 : Addr) (p1 : Int32) : entryFrame m #[(.ref r0), (.int p1)] 6 = mkF m 0 #[.val (.ref r0), .val (.int p1), .unset, .unset, .unset, .unset] [] := by first | (simp [entryFrame, mkF, argsToLocals, Value.category]; done) | rfl
theorem pn_9 : plainFor (⟨"com/example/slotwright/slotwright/core/RankSet", "previous", "(I)I"⟩ : MethodName) = true := plainFor_of_name (by first | (simp [plainName, overriddenIn]; done) | decide +kernel)
set_option maxRecDepth 65536 in
set_option maxHeartbeats 40000000 in
theorem rm_previous (l : Launch) (Z : State) (a0 : Array Value) (hw : ∀ d ∈ tables_1, d.before a0 Z = true) (ws : List Jvm.Cond) (r0 : Addr) (p1 : Int32) (h0 : Heap) (n0 : Nat) (lv : Addr) (d : Nat) (g : Nat → Addr) (len : Nat → Nat) (W : Nat → Nat → Int64) (M : Nat → Prop) (size : Nat) (F0 : RS Z h0 n0 r0 lv d g len W) (H0 : ∀ k, k < d → LV M k (len k) (W k)) (FT : Fits size d len) (HM : ∀ x, M x → x < size) (fr : Int) (hp : p1.toInt = fr) (hfr : -1 ≤ fr ∧ fr < size) :
    OMet l (⟨"com/example/slotwright/slotwright/core/RankSet", "previous", "(I)I"⟩ : MethodName) prog_118_method_6_code 6 (some .int) ws ({ frames := 2, cells := 0, slots := 0, locals := 31 } : Room) #[(.ref r0), (.int p1)] Z h0 (fun v h L => ∃ r : Int32, v = some (.int r) ∧ L = [] ∧ h = h0 ∧ PrevIs M fr r.toInt) := by
  refine OMet.of pn_9 (fun m => ef_9 m r0 p1) ?_
  intro p e s m below meth c s₁ hx hby hml hown hnm hret hlk hZ X0 e0
  have hd20 := FT.2.1
  have hd0 := FT.1
  have dn : ∀ (k : Nat), k < d → ∀ (kI yI : Int32) (bz : Int64) (T : State), Stand p l e ({ frames := 2, cells := 0, slots := 0, locals := 31 } : Room) s m #[(.ref r0), (.int p1)] below meth c T [] 0 0 → T.heap = h0 → kI.toInt = (k : Int) → ∀ y : Nat, yI.toInt = (y : Int) → DnP M fr k y → Owes p e below (EndN s (fun v h L => ∃ r : Int32, v = some (.int r) ∧ L = [] ∧ h = h0 ∧ PrevIs M fr r.toInt) ({ frames := 2, cells := 0, slots := 0, locals := 31 } : Room).cells ({ frames := 2, cells := 0, slots := 0, locals := 31 } : Room).slots) (T.setTop (mkF m 79 #[.val (.ref r0), .val (.int p1), .val (.int kI), .val (.int yI), .val (.long bz), .second] [])) := by
    intro k
    induction k with
    | zero =>
      intro _ kI yI bz T X eT hkI y hy D
      refine Owes.go ?_ fun t₀ k₀ => XS.iloadN X.here hx rfl (hb hby d9_79) rfl k₀
      show Owes _ _ _ _ (T.setTop (mkF m 80 #[.val (.ref r0), .val (.int p1), .val (.int kI), .val (.int yI), .val (.long bz), .second] [(.int kI)]))
      refine Owes.go ?_ fun t₀ k₀ => XS.ifYes X.here hx rfl (pc0 := 80) (pc' := 109) rfl (hb hby d9_80) rfl ((if0 _ _).trans (flt (own_zero hkI)).2.2.2) (by decide) (by decide) k₀
      show Owes _ _ _ _ (T.setTop (mkF m 109 #[.val (.ref r0), .val (.int p1), .val (.int kI), .val (.int yI), .val (.long bz), .second] []))
      refine Owes.go ?_ fun t₀ k₀ => XS.iloadN X.here hx rfl (hb hby d9_109) rfl k₀
      show Owes _ _ _ _ (T.setTop (mkF m 110 #[.val (.ref r0), .val (.int p1), .val (.int kI), .val (.int yI), .val (.long bz), .second] [(.int yI)]))
      exact Owes.retI X hx hlk hret (hb hby d9_110) (by decide) (by decide) ⟨yI, rfl, rfl, eT, by rw [hy]; exact D.last⟩
    | succ k ih =>
      intro hk1 kI yI bz T X eT hkI y hy D
      have hk : k < d := by omega
      have hidx : y < len k := by
        obtain ⟨x, q1, q2⟩ := D.1
        rw [← q2, dk_succ]
        exact FT.at (HM x q1) k hk
      have hlen := FT.2.2.2.2.2 k hk
      obtain ⟨t, ht⟩ := High.ex (D.word (H0 k hk) hidx)
      have hz := own_nlzJ _ t ht
      refine Owes.go ?_ fun t₀ k₀ => XS.iloadN X.here hx rfl (hb hby d9_79) rfl k₀
      show Owes _ _ _ _ (T.setTop (mkF m 80 #[.val (.ref r0), .val (.int p1), .val (.int kI), .val (.int yI), .val (.long bz), .second] [(.int kI)]))
      refine Owes.go ?_ fun t₀ k₀ => XS.ifNo X.here hx rfl (hb hby d9_80) rfl ((if0 _ _).trans (tlt (own_pos hkI)).2.2.2) k₀
      show Owes _ _ _ _ (T.setTop (mkF m 83 #[.val (.ref r0), .val (.int p1), .val (.int kI), .val (.int yI), .val (.long bz), .second] []))
      refine Owes.go ?_ fun t₀ k₀ => XS.iinc X.here hx rfl (hb hby d9_83) rfl (l' := #[.val (.ref r0), .val (.int p1), .val (.int (kI + (-1 : Int32))), .val (.int yI), .val (.long bz), .second]) rfl k₀
      show Owes _ _ _ _ (T.setTop (mkF m 86 #[.val (.ref r0), .val (.int p1), .val (.int (kI + (-1 : Int32))), .val (.int yI), .val (.long bz), .second] []))
      refine Owes.go ?_ fun t₀ k₀ => XS.iloadN X.here hx rfl (hb hby d9_86) rfl k₀
      show Owes _ _ _ _ (T.setTop (mkF m 87 #[.val (.ref r0), .val (.int p1), .val (.int (kI + (-1 : Int32))), .val (.int yI), .val (.long bz), .second] [(.int yI)]))
      refine Owes.go ?_ fun t₀ k₀ => XS.bipush X.here hx rfl (hb hby d9_87) k₀
      show Owes _ _ _ _ (T.setTop (mkF m 89 #[.val (.ref r0), .val (.int p1), .val (.int (kI + (-1 : Int32))), .val (.int yI), .val (.long bz), .second] [(.int (6 : Int32)), (.int yI)]))
      refine Owes.go ?_ fun t₀ k₀ => XS.ishl X.here hx rfl (hb hby d9_89) rfl k₀
      show Owes _ _ _ _ (T.setTop (mkF m 90 #[.val (.ref r0), .val (.int p1), .val (.int (kI + (-1 : Int32))), .val (.int yI), .val (.long bz), .second] [(.int (yI <<< ((6 : Int32) &&& 31)))]))
      refine Owes.go ?_ fun t₀ k₀ => XS.bipush X.here hx rfl (hb hby d9_90) k₀
      show Owes _ _ _ _ (T.setTop (mkF m 92 #[.val (.ref r0), .val (.int p1), .val (.int (kI + (-1 : Int32))), .val (.int yI), .val (.long bz), .second] [(.int (63 : Int32)), (.int (yI <<< ((6 : Int32) &&& 31)))]))
      refine Owes.go ?_ fun t₀ k₀ => XS.iadd X.here hx rfl (hb hby d9_92) rfl k₀
      show Owes _ _ _ _ (T.setTop (mkF m 93 #[.val (.ref r0), .val (.int p1), .val (.int (kI + (-1 : Int32))), .val (.int yI), .val (.long bz), .second] [(.int ((yI <<< ((6 : Int32) &&& 31)) + (63 : Int32)))]))
      refine Owes.go ?_ fun t₀ k₀ => XS.aloadN X.here hx rfl (hb hby d9_93) rfl rfl k₀
      show Owes _ _ _ _ (T.setTop (mkF m 94 #[.val (.ref r0), .val (.int p1), .val (.int (kI + (-1 : Int32))), .val (.int yI), .val (.long bz), .second] [(.ref r0), (.int ((yI <<< ((6 : Int32) &&& 31)) + (63 : Int32)))]))
      obtain ⟨T26, X26, e26, st26⟩ := getF X hx hZ hown (host := "") (Or.inl (hw _ (List.mem_of_getElem? (i := 16) rfl))) Via.refl eT F0.2.1 (g := (mkF m 94 #[.val (.ref r0), .val (.int p1), .val (.int (kI + (-1 : Int32))), .val (.int yI), .val (.long bz), .second] [(.ref r0), (.int ((yI <<< ((6 : Int32) &&& 31)) + (63 : Int32)))])) rfl rfl (hb hby d9_94)
      refine Owes.go ?_ st26
      show Owes _ _ _ _ (T26.setTop (mkF m 97 #[.val (.ref r0), .val (.int p1), .val (.int (kI + (-1 : Int32))), .val (.int yI), .val (.long bz), .second] [(.ref lv), (.int ((yI <<< ((6 : Int32) &&& 31)) + (63 : Int32)))]))
      refine Owes.go ?_ fun t₀ k₀ => XS.iloadN X26.here hx rfl (hb hby d9_97) rfl k₀
      show Owes _ _ _ _ (T26.setTop (mkF m 98 #[.val (.ref r0), .val (.int p1), .val (.int (kI + (-1 : Int32))), .val (.int yI), .val (.long bz), .second] [(.int (kI + (-1 : Int32))), (.ref lv), (.int ((yI <<< ((6 : Int32) &&& 31)) + (63 : Int32)))]))
      refine Owes.gR X26 hx hZ e26 F0.2.2.1 rfl (own_dec hkI) hk (v := .ref (g k)) rfl (hb hby d9_98) ?_
      show Owes _ _ _ _ (T26.setTop (mkF m 99 #[.val (.ref r0), .val (.int p1), .val (.int (kI + (-1 : Int32))), .val (.int yI), .val (.long bz), .second] [(.ref (g k)), (.int ((yI <<< ((6 : Int32) &&& 31)) + (63 : Int32)))]))
      refine Owes.go ?_ fun t₀ k₀ => XS.iloadN X26.here hx rfl (hb hby d9_99) rfl k₀
      show Owes _ _ _ _ (T26.setTop (mkF m 100 #[.val (.ref r0), .val (.int p1), .val (.int (kI + (-1 : Int32))), .val (.int yI), .val (.long bz), .second] [(.int yI), (.ref (g k)), (.int ((yI <<< ((6 : Int32) &&& 31)) + (63 : Int32)))]))
      refine Owes.gJ X26 hx hZ e26 (F0.2.2.2.1 k hk).1 hy hidx (v := .long (W k y)) rfl (hb hby d9_100) ?_
      show Owes _ _ _ _ (T26.setTop (mkF m 101 #[.val (.ref r0), .val (.int p1), .val (.int (kI + (-1 : Int32))), .val (.int yI), .val (.long bz), .second] [(.long (W k y)), (.int ((yI <<< ((6 : Int32) &&& 31)) + (63 : Int32)))]))
      refine Owes.callS X26 hx hZ hown (hw _ (List.mem_of_getElem? (i := 48) rfl)) (hw _ (List.mem_of_getElem? (i := 49) rfl)) (hw _ (List.mem_of_getElem? (i := 37) rfl)) (hw _ (List.mem_of_getElem? (i := 50) rfl)) (by decide) (argsL := [(.long (W k y))]) (rest := [(.int ((yI <<< ((6 : Int32) &&& 31)) + (63 : Int32)))]) (rm_f_nlzJ l Z a0 hw [] (W k y) h0 ) e26 (by rw [hml]; rfl) pd_2 rfl rfl (hb hby d9_101) (by decide) (Nat.le_of_ble_eq_true rfl) (by decide) (by decide) ?_
      rintro T27 _ _ X27 ⟨rfl, rfl, e27⟩
      rw [List.append_nil] at X27
      show Owes _ _ _ _ (T27.setTop (mkF m 104 #[.val (.ref r0), .val (.int p1), .val (.int (kI + (-1 : Int32))), .val (.int yI), .val (.long bz), .second] [(.int (f_nlzJ (W k y))), (.int ((yI <<< ((6 : Int32) &&& 31)) + (63 : Int32)))]))
      refine Owes.go ?_ fun t₀ k₀ => XS.isub X27.here hx rfl (hb hby d9_104) rfl k₀
      show Owes _ _ _ _ (T27.setTop (mkF m 105 #[.val (.ref r0), .val (.int p1), .val (.int (kI + (-1 : Int32))), .val (.int yI), .val (.long bz), .second] [(.int (((yI <<< ((6 : Int32) &&& 31)) + (63 : Int32)) - (f_nlzJ (W k y))))]))
      refine Owes.go ?_ fun t₀ k₀ => XS.istoreN X27.here hx rfl (hb hby d9_105) rfl (l' := #[.val (.ref r0), .val (.int p1), .val (.int (kI + (-1 : Int32))), .val (.int (((yI <<< ((6 : Int32) &&& 31)) + (63 : Int32)) - (f_nlzJ (W k y)))), .val (.long bz), .second]) rfl k₀
      show Owes _ _ _ _ (T27.setTop (mkF m 106 #[.val (.ref r0), .val (.int p1), .val (.int (kI + (-1 : Int32))), .val (.int (((yI <<< ((6 : Int32) &&& 31)) + (63 : Int32)) - (f_nlzJ (W k y)))), .val (.long bz), .second] []))
      refine Owes.go ?_ fun t₀ k₀ => XS.goto X27.here hx rfl (pc0 := 106) (pc' := 79) rfl (hb hby d9_106) (by decide) (by decide) k₀
      show Owes _ _ _ _ (T27.setTop (mkF m 79 #[.val (.ref r0), .val (.int p1), .val (.int (kI + (-1 : Int32))), .val (.int (((yI <<< ((6 : Int32) &&& 31)) + (63 : Int32)) - (f_nlzJ (W k y)))), .val (.long bz), .second] []))
      exact ih hk _ _ _ _ X27 e27 (own_dec hkI) (64 * y + t) (own_hi (own_shl6 hy (by omega)) hz ht.1 (by omega)) (D.down (H0 k hk) hidx ht)
  have up : ∀ (r k : Nat), k + r = d → ∀ (kI aI : Int32) (bz : Int64) (T : State), Stand p l e ({ frames := 2, cells := 0, slots := 0, locals := 31 } : Room) s m #[(.ref r0), (.int p1)] below meth c T [] 0 0 → T.heap = h0 → kI.toInt = (k : Int) → ∀ A : Int, aI.toInt = A → UpP M fr k A → (-1 ≤ A ∧ (k < d → A < 64 * (len k : Int)) ∧ (k = d → A = -1)) → bz = 0 → Owes p e below (EndN s (fun v h L => ∃ r : Int32, v = some (.int r) ∧ L = [] ∧ h = h0 ∧ PrevIs M fr r.toInt) ({ frames := 2, cells := 0, slots := 0, locals := 31 } : Room).cells ({ frames := 2, cells := 0, slots := 0, locals := 31 } : Room).slots) (T.setTop (mkF m 7 #[.val (.ref r0), .val (.int p1), .val (.int kI), .val (.int aI), .val (.long bz), .second] [])) := by
    intro r
    induction r with
    | zero =>
      intro k hk0 kI aI bz T X eT hkI A hA U hpos hbz
      have hkd : k = d := by omega
      refine Owes.go ?_ fun t₀ k₀ => XS.lload X.here hx rfl (hb hby d9_7) rfl k₀
      show Owes _ _ _ _ (T.setTop (mkF m 9 #[.val (.ref r0), .val (.int p1), .val (.int kI), .val (.int aI), .val (.long bz), .second] [(.long bz)]))
      refine Owes.go ?_ fun t₀ k₀ => XS.lconst X.here hx rfl (hb hby d9_9) k₀
      show Owes _ _ _ _ (T.setTop (mkF m 10 #[.val (.ref r0), .val (.int p1), .val (.int kI), .val (.int aI), .val (.long bz), .second] [(.long (0 : Int64)), (.long bz)]))
      refine Owes.go ?_ fun t₀ k₀ => XS.lcmp X.here hx rfl (hb hby d9_10) rfl k₀
      show Owes _ _ _ _ (T.setTop (mkF m 11 #[.val (.ref r0), .val (.int p1), .val (.int kI), .val (.int aI), .val (.long bz), .second] [(.int (lcmpW bz (0 : Int64)))]))
      refine Owes.go ?_ fun t₀ k₀ => XS.ifNo X.here hx rfl (hb hby d9_11) rfl ((if0 _ _).trans (teq ((lw_eq _ _).mpr hbz)).2) k₀
      show Owes _ _ _ _ (T.setTop (mkF m 14 #[.val (.ref r0), .val (.int p1), .val (.int kI), .val (.int aI), .val (.long bz), .second] []))
      refine Owes.go ?_ fun t₀ k₀ => XS.iloadN X.here hx rfl (hb hby d9_14) rfl k₀
      show Owes _ _ _ _ (T.setTop (mkF m 15 #[.val (.ref r0), .val (.int p1), .val (.int kI), .val (.int aI), .val (.long bz), .second] [(.int aI)]))
      refine Owes.go ?_ fun t₀ k₀ => XS.ifNo X.here hx rfl (hb hby d9_15) rfl ((if0 _ _).trans (tlt (own_neg1 hA (by have := hpos.2.2 hkd; omega))).2.1) k₀
      show Owes _ _ _ _ (T.setTop (mkF m 18 #[.val (.ref r0), .val (.int p1), .val (.int kI), .val (.int aI), .val (.long bz), .second] []))
      refine Owes.go ?_ fun t₀ k₀ => XS.iconst X.here hx rfl (hb hby d9_18) k₀
      show Owes _ _ _ _ (T.setTop (mkF m 19 #[.val (.ref r0), .val (.int p1), .val (.int kI), .val (.int aI), .val (.long bz), .second] [(.int (-1 : Int32))]))
      exact Owes.retI X hx hlk hret (hb hby d9_19) (by decide) (by decide) ⟨_, rfl, rfl, eT, Or.inl ⟨rfl, fun x hx hf => by have h1 := U.1 x hx hf; have h2 := Int.natCast_nonneg (x / 64 ^ k); have := hpos.2.2 hkd; omega⟩⟩
    | succ r ih =>
      intro k hk0 kI aI bz T X eT hkI A hA U hpos hbz
      have hk : k < d := by omega
      have hlen := FT.2.2.2.2.2 k hk
      by_cases hneg : A < 0
      · skip
        refine Owes.go ?_ fun t₀ k₀ => XS.lload X.here hx rfl (hb hby d9_7) rfl k₀
        show Owes _ _ _ _ (T.setTop (mkF m 9 #[.val (.ref r0), .val (.int p1), .val (.int kI), .val (.int aI), .val (.long bz), .second] [(.long bz)]))
        refine Owes.go ?_ fun t₀ k₀ => XS.lconst X.here hx rfl (hb hby d9_9) k₀
        show Owes _ _ _ _ (T.setTop (mkF m 10 #[.val (.ref r0), .val (.int p1), .val (.int kI), .val (.int aI), .val (.long bz), .second] [(.long (0 : Int64)), (.long bz)]))
        refine Owes.go ?_ fun t₀ k₀ => XS.lcmp X.here hx rfl (hb hby d9_10) rfl k₀
        show Owes _ _ _ _ (T.setTop (mkF m 11 #[.val (.ref r0), .val (.int p1), .val (.int kI), .val (.int aI), .val (.long bz), .second] [(.int (lcmpW bz (0 : Int64)))]))
        refine Owes.go ?_ fun t₀ k₀ => XS.ifNo X.here hx rfl (hb hby d9_11) rfl ((if0 _ _).trans (teq ((lw_eq _ _).mpr hbz)).2) k₀
        show Owes _ _ _ _ (T.setTop (mkF m 14 #[.val (.ref r0), .val (.int p1), .val (.int kI), .val (.int aI), .val (.long bz), .second] []))
        refine Owes.go ?_ fun t₀ k₀ => XS.iloadN X.here hx rfl (hb hby d9_14) rfl k₀
        show Owes _ _ _ _ (T.setTop (mkF m 15 #[.val (.ref r0), .val (.int p1), .val (.int kI), .val (.int aI), .val (.long bz), .second] [(.int aI)]))
        refine Owes.go ?_ fun t₀ k₀ => XS.ifNo X.here hx rfl (hb hby d9_15) rfl ((if0 _ _).trans (tlt (own_neg1 hA hneg)).2.1) k₀
        show Owes _ _ _ _ (T.setTop (mkF m 18 #[.val (.ref r0), .val (.int p1), .val (.int kI), .val (.int aI), .val (.long bz), .second] []))
        refine Owes.go ?_ fun t₀ k₀ => XS.iconst X.here hx rfl (hb hby d9_18) k₀
        show Owes _ _ _ _ (T.setTop (mkF m 19 #[.val (.ref r0), .val (.int p1), .val (.int kI), .val (.int aI), .val (.long bz), .second] [(.int (-1 : Int32))]))
        exact Owes.retI X hx hlk hret (hb hby d9_19) (by decide) (by decide) ⟨_, rfl, rfl, eT, Or.inl ⟨rfl, fun x hx hf => by have h1 := U.1 x hx hf; have h2 := Int.natCast_nonneg (x / 64 ^ k); omega⟩⟩
      · skip
        obtain ⟨A, rfl⟩ := Int.eq_ofNat_of_zero_le (Int.not_lt.mp hneg)
        have hAl := hpos.2.1 hk
        have hidx : A / 64 < len k := by omega
        refine Owes.go ?_ fun t₀ k₀ => XS.lload X.here hx rfl (hb hby d9_7) rfl k₀
        show Owes _ _ _ _ (T.setTop (mkF m 9 #[.val (.ref r0), .val (.int p1), .val (.int kI), .val (.int aI), .val (.long bz), .second] [(.long bz)]))
        refine Owes.go ?_ fun t₀ k₀ => XS.lconst X.here hx rfl (hb hby d9_9) k₀
        show Owes _ _ _ _ (T.setTop (mkF m 10 #[.val (.ref r0), .val (.int p1), .val (.int kI), .val (.int aI), .val (.long bz), .second] [(.long (0 : Int64)), (.long bz)]))
        refine Owes.go ?_ fun t₀ k₀ => XS.lcmp X.here hx rfl (hb hby d9_10) rfl k₀
        show Owes _ _ _ _ (T.setTop (mkF m 11 #[.val (.ref r0), .val (.int p1), .val (.int kI), .val (.int aI), .val (.long bz), .second] [(.int (lcmpW bz (0 : Int64)))]))
        refine Owes.go ?_ fun t₀ k₀ => XS.ifNo X.here hx rfl (hb hby d9_11) rfl ((if0 _ _).trans (teq ((lw_eq _ _).mpr hbz)).2) k₀
        show Owes _ _ _ _ (T.setTop (mkF m 14 #[.val (.ref r0), .val (.int p1), .val (.int kI), .val (.int aI), .val (.long bz), .second] []))
        refine Owes.go ?_ fun t₀ k₀ => XS.iloadN X.here hx rfl (hb hby d9_14) rfl k₀
        show Owes _ _ _ _ (T.setTop (mkF m 15 #[.val (.ref r0), .val (.int p1), .val (.int kI), .val (.int aI), .val (.long bz), .second] [(.int aI)]))
        refine Owes.go ?_ fun t₀ k₀ => XS.ifYes X.here hx rfl (pc0 := 15) (pc' := 20) rfl (hb hby d9_15) rfl ((if0 _ _).trans (flt (own_nn hA)).2.1) (by decide) (by decide) k₀
        show Owes _ _ _ _ (T.setTop (mkF m 20 #[.val (.ref r0), .val (.int p1), .val (.int kI), .val (.int aI), .val (.long bz), .second] []))
        refine Owes.go ?_ fun t₀ k₀ => XS.aloadN X.here hx rfl (hb hby d9_20) rfl rfl k₀
        show Owes _ _ _ _ (T.setTop (mkF m 21 #[.val (.ref r0), .val (.int p1), .val (.int kI), .val (.int aI), .val (.long bz), .second] [(.ref r0)]))
        obtain ⟨T28, X28, e28, st28⟩ := getF X hx hZ hown (host := "") (Or.inl (hw _ (List.mem_of_getElem? (i := 16) rfl))) Via.refl eT F0.2.1 (g := (mkF m 21 #[.val (.ref r0), .val (.int p1), .val (.int kI), .val (.int aI), .val (.long bz), .second] [(.ref r0)])) rfl rfl (hb hby d9_21)
        refine Owes.go ?_ st28
        show Owes _ _ _ _ (T28.setTop (mkF m 24 #[.val (.ref r0), .val (.int p1), .val (.int kI), .val (.int aI), .val (.long bz), .second] [(.ref lv)]))
        refine Owes.go ?_ fun t₀ k₀ => XS.iloadN X28.here hx rfl (hb hby d9_24) rfl k₀
        show Owes _ _ _ _ (T28.setTop (mkF m 25 #[.val (.ref r0), .val (.int p1), .val (.int kI), .val (.int aI), .val (.long bz), .second] [(.int kI), (.ref lv)]))
        refine Owes.gR X28 hx hZ e28 F0.2.2.1 rfl hkI hk (v := .ref (g k)) rfl (hb hby d9_25) ?_
        show Owes _ _ _ _ (T28.setTop (mkF m 26 #[.val (.ref r0), .val (.int p1), .val (.int kI), .val (.int aI), .val (.long bz), .second] [(.ref (g k))]))
        refine Owes.go ?_ fun t₀ k₀ => XS.iloadN X28.here hx rfl (hb hby d9_26) rfl k₀
        show Owes _ _ _ _ (T28.setTop (mkF m 27 #[.val (.ref r0), .val (.int p1), .val (.int kI), .val (.int aI), .val (.long bz), .second] [(.int aI), (.ref (g k))]))
        refine Owes.go ?_ fun t₀ k₀ => XS.bipush X28.here hx rfl (hb hby d9_27) k₀
        show Owes _ _ _ _ (T28.setTop (mkF m 29 #[.val (.ref r0), .val (.int p1), .val (.int kI), .val (.int aI), .val (.long bz), .second] [(.int (6 : Int32)), (.int aI), (.ref (g k))]))
        refine Owes.go ?_ fun t₀ k₀ => XS.iushr X28.here hx rfl (hb hby d9_29) rfl k₀
        show Owes _ _ _ _ (T28.setTop (mkF m 30 #[.val (.ref r0), .val (.int p1), .val (.int kI), .val (.int aI), .val (.long bz), .second] [(.int ((aI.toUInt32 >>> ((6 : Int32) &&& 31).toUInt32).toInt32)), (.ref (g k))]))
        refine Owes.gJ X28 hx hZ e28 (F0.2.2.2.1 k hk).1 (own_sh6 hA) hidx (v := .long (W k (A / 64))) rfl (hb hby d9_30) ?_
        show Owes _ _ _ _ (T28.setTop (mkF m 31 #[.val (.ref r0), .val (.int p1), .val (.int kI), .val (.int aI), .val (.long bz), .second] [(.long (W k (A / 64)))]))
        refine Owes.go ?_ fun t₀ k₀ => X28.ldc2Long hx hown (mvT hZ (hw _ (List.mem_of_getElem? (i := 34) rfl))) (g := (mkF m 31 #[.val (.ref r0), .val (.int p1), .val (.int kI), .val (.int aI), .val (.long bz), .second] [(.long (W k (A / 64)))])) rfl (hb hby d9_31) _ k₀
        show Owes _ _ _ _ (T28.setTop (mkF m 34 #[.val (.ref r0), .val (.int p1), .val (.int kI), .val (.int aI), .val (.long bz), .second] [(.long (-1 : Int64)), (.long (W k (A / 64)))]))
        refine Owes.go ?_ fun t₀ k₀ => XS.bipush X28.here hx rfl (hb hby d9_34) k₀
        show Owes _ _ _ _ (T28.setTop (mkF m 36 #[.val (.ref r0), .val (.int p1), .val (.int kI), .val (.int aI), .val (.long bz), .second] [(.int (63 : Int32)), (.long (-1 : Int64)), (.long (W k (A / 64)))]))
        refine Owes.go ?_ fun t₀ k₀ => XS.iloadN X28.here hx rfl (hb hby d9_36) rfl k₀
        show Owes _ _ _ _ (T28.setTop (mkF m 37 #[.val (.ref r0), .val (.int p1), .val (.int kI), .val (.int aI), .val (.long bz), .second] [(.int aI), (.int (63 : Int32)), (.long (-1 : Int64)), (.long (W k (A / 64)))]))
        refine Owes.go ?_ fun t₀ k₀ => XS.bipush X28.here hx rfl (hb hby d9_37) k₀
        show Owes _ _ _ _ (T28.setTop (mkF m 39 #[.val (.ref r0), .val (.int p1), .val (.int kI), .val (.int aI), .val (.long bz), .second] [(.int (63 : Int32)), (.int aI), (.int (63 : Int32)), (.long (-1 : Int64)), (.long (W k (A / 64)))]))
        refine Owes.go ?_ fun t₀ k₀ => XS.iand X28.here hx rfl (hb hby d9_39) rfl k₀
        show Owes _ _ _ _ (T28.setTop (mkF m 40 #[.val (.ref r0), .val (.int p1), .val (.int kI), .val (.int aI), .val (.long bz), .second] [(.int (aI &&& (63 : Int32))), (.int (63 : Int32)), (.long (-1 : Int64)), (.long (W k (A / 64)))]))
        refine Owes.go ?_ fun t₀ k₀ => XS.isub X28.here hx rfl (hb hby d9_40) rfl k₀
        show Owes _ _ _ _ (T28.setTop (mkF m 41 #[.val (.ref r0), .val (.int p1), .val (.int kI), .val (.int aI), .val (.long bz), .second] [(.int ((63 : Int32) - (aI &&& (63 : Int32)))), (.long (-1 : Int64)), (.long (W k (A / 64)))]))
        refine Owes.go ?_ fun t₀ k₀ => XS.lushr X28.here hx rfl (hb hby d9_41) rfl k₀
        show Owes _ _ _ _ (T28.setTop (mkF m 42 #[.val (.ref r0), .val (.int p1), .val (.int kI), .val (.int aI), .val (.long bz), .second] [(.long (((-1 : Int64).toUInt64 >>> (((63 : Int32) - (aI &&& (63 : Int32))) &&& 0x3f).toInt64.toUInt64).toInt64)), (.long (W k (A / 64)))]))
        refine Owes.go ?_ fun t₀ k₀ => XS.land X28.here hx rfl (hb hby d9_42) rfl k₀
        show Owes _ _ _ _ (T28.setTop (mkF m 43 #[.val (.ref r0), .val (.int p1), .val (.int kI), .val (.int aI), .val (.long bz), .second] [(.long ((W k (A / 64)) &&& (((-1 : Int64).toUInt64 >>> (((63 : Int32) - (aI &&& (63 : Int32))) &&& 0x3f).toInt64.toUInt64).toInt64)))]))
        refine Owes.go ?_ fun t₀ k₀ => XS.lstore X28.here hx rfl (hb hby d9_43) rfl (l' := #[.val (.ref r0), .val (.int p1), .val (.int kI), .val (.int aI), .val (.long ((W k (A / 64)) &&& (((-1 : Int64).toUInt64 >>> (((63 : Int32) - (aI &&& (63 : Int32))) &&& 0x3f).toInt64.toUInt64).toInt64))), .second]) rfl k₀
        show Owes _ _ _ _ (T28.setTop (mkF m 45 #[.val (.ref r0), .val (.int p1), .val (.int kI), .val (.int aI), .val (.long ((W k (A / 64)) &&& (((-1 : Int64).toUInt64 >>> (((63 : Int32) - (aI &&& (63 : Int32))) &&& 0x3f).toInt64.toUInt64).toInt64))), .second] []))
        refine Owes.go ?_ fun t₀ k₀ => XS.lload X28.here hx rfl (hb hby d9_45) rfl k₀
        show Owes _ _ _ _ (T28.setTop (mkF m 47 #[.val (.ref r0), .val (.int p1), .val (.int kI), .val (.int aI), .val (.long ((W k (A / 64)) &&& (((-1 : Int64).toUInt64 >>> (((63 : Int32) - (aI &&& (63 : Int32))) &&& 0x3f).toInt64.toUInt64).toInt64))), .second] [(.long ((W k (A / 64)) &&& (((-1 : Int64).toUInt64 >>> (((63 : Int32) - (aI &&& (63 : Int32))) &&& 0x3f).toInt64.toUInt64).toInt64)))]))
        refine Owes.go ?_ fun t₀ k₀ => XS.lconst X28.here hx rfl (hb hby d9_47) k₀
        show Owes _ _ _ _ (T28.setTop (mkF m 48 #[.val (.ref r0), .val (.int p1), .val (.int kI), .val (.int aI), .val (.long ((W k (A / 64)) &&& (((-1 : Int64).toUInt64 >>> (((63 : Int32) - (aI &&& (63 : Int32))) &&& 0x3f).toInt64.toUInt64).toInt64))), .second] [(.long (0 : Int64)), (.long ((W k (A / 64)) &&& (((-1 : Int64).toUInt64 >>> (((63 : Int32) - (aI &&& (63 : Int32))) &&& 0x3f).toInt64.toUInt64).toInt64)))]))
        refine Owes.go ?_ fun t₀ k₀ => XS.lcmp X28.here hx rfl (hb hby d9_48) rfl k₀
        show Owes _ _ _ _ (T28.setTop (mkF m 49 #[.val (.ref r0), .val (.int p1), .val (.int kI), .val (.int aI), .val (.long ((W k (A / 64)) &&& (((-1 : Int64).toUInt64 >>> (((63 : Int32) - (aI &&& (63 : Int32))) &&& 0x3f).toInt64.toUInt64).toInt64))), .second] [(.int (lcmpW ((W k (A / 64)) &&& (((-1 : Int64).toUInt64 >>> (((63 : Int32) - (aI &&& (63 : Int32))) &&& 0x3f).toInt64.toUInt64).toInt64)) (0 : Int64)))]))
        by_cases hc1 : ((W k (A / 64)) &&& (((-1 : Int64).toUInt64 >>> (((63 : Int32) - (aI &&& (63 : Int32))) &&& 0x3f).toInt64.toUInt64).toInt64)) = (0 : Int64)
        · skip
          refine Owes.go ?_ fun t₀ k₀ => XS.ifNo X28.here hx rfl (hb hby d9_49) rfl ((if0 _ _).trans (teq ((lw_eq _ _).mpr hc1)).2) k₀
          show Owes _ _ _ _ (T28.setTop (mkF m 52 #[.val (.ref r0), .val (.int p1), .val (.int kI), .val (.int aI), .val (.long ((W k (A / 64)) &&& (((-1 : Int64).toUInt64 >>> (((63 : Int32) - (aI &&& (63 : Int32))) &&& 0x3f).toInt64.toUInt64).toInt64))), .second] []))
          refine Owes.go ?_ fun t₀ k₀ => XS.iloadN X28.here hx rfl (hb hby d9_52) rfl k₀
          show Owes _ _ _ _ (T28.setTop (mkF m 53 #[.val (.ref r0), .val (.int p1), .val (.int kI), .val (.int aI), .val (.long ((W k (A / 64)) &&& (((-1 : Int64).toUInt64 >>> (((63 : Int32) - (aI &&& (63 : Int32))) &&& 0x3f).toInt64.toUInt64).toInt64))), .second] [(.int aI)]))
          refine Owes.go ?_ fun t₀ k₀ => XS.bipush X28.here hx rfl (hb hby d9_53) k₀
          show Owes _ _ _ _ (T28.setTop (mkF m 55 #[.val (.ref r0), .val (.int p1), .val (.int kI), .val (.int aI), .val (.long ((W k (A / 64)) &&& (((-1 : Int64).toUInt64 >>> (((63 : Int32) - (aI &&& (63 : Int32))) &&& 0x3f).toInt64.toUInt64).toInt64))), .second] [(.int (6 : Int32)), (.int aI)]))
          refine Owes.go ?_ fun t₀ k₀ => XS.iushr X28.here hx rfl (hb hby d9_55) rfl k₀
          show Owes _ _ _ _ (T28.setTop (mkF m 56 #[.val (.ref r0), .val (.int p1), .val (.int kI), .val (.int aI), .val (.long ((W k (A / 64)) &&& (((-1 : Int64).toUInt64 >>> (((63 : Int32) - (aI &&& (63 : Int32))) &&& 0x3f).toInt64.toUInt64).toInt64))), .second] [(.int ((aI.toUInt32 >>> ((6 : Int32) &&& 31).toUInt32).toInt32))]))
          refine Owes.go ?_ fun t₀ k₀ => XS.iconst X28.here hx rfl (hb hby d9_56) k₀
          show Owes _ _ _ _ (T28.setTop (mkF m 57 #[.val (.ref r0), .val (.int p1), .val (.int kI), .val (.int aI), .val (.long ((W k (A / 64)) &&& (((-1 : Int64).toUInt64 >>> (((63 : Int32) - (aI &&& (63 : Int32))) &&& 0x3f).toInt64.toUInt64).toInt64))), .second] [(.int (1 : Int32)), (.int ((aI.toUInt32 >>> ((6 : Int32) &&& 31).toUInt32).toInt32))]))
          refine Owes.go ?_ fun t₀ k₀ => XS.isub X28.here hx rfl (hb hby d9_57) rfl k₀
          show Owes _ _ _ _ (T28.setTop (mkF m 58 #[.val (.ref r0), .val (.int p1), .val (.int kI), .val (.int aI), .val (.long ((W k (A / 64)) &&& (((-1 : Int64).toUInt64 >>> (((63 : Int32) - (aI &&& (63 : Int32))) &&& 0x3f).toInt64.toUInt64).toInt64))), .second] [(.int (((aI.toUInt32 >>> ((6 : Int32) &&& 31).toUInt32).toInt32) - (1 : Int32)))]))
          refine Owes.go ?_ fun t₀ k₀ => XS.istoreN X28.here hx rfl (hb hby d9_58) rfl (l' := #[.val (.ref r0), .val (.int p1), .val (.int kI), .val (.int (((aI.toUInt32 >>> ((6 : Int32) &&& 31).toUInt32).toInt32) - (1 : Int32))), .val (.long ((W k (A / 64)) &&& (((-1 : Int64).toUInt64 >>> (((63 : Int32) - (aI &&& (63 : Int32))) &&& 0x3f).toInt64.toUInt64).toInt64))), .second]) rfl k₀
          show Owes _ _ _ _ (T28.setTop (mkF m 59 #[.val (.ref r0), .val (.int p1), .val (.int kI), .val (.int (((aI.toUInt32 >>> ((6 : Int32) &&& 31).toUInt32).toInt32) - (1 : Int32))), .val (.long ((W k (A / 64)) &&& (((-1 : Int64).toUInt64 >>> (((63 : Int32) - (aI &&& (63 : Int32))) &&& 0x3f).toInt64.toUInt64).toInt64))), .second] []))
          refine Owes.go ?_ fun t₀ k₀ => XS.iinc X28.here hx rfl (hb hby d9_59) rfl (l' := #[.val (.ref r0), .val (.int p1), .val (.int (kI + (1 : Int32))), .val (.int (((aI.toUInt32 >>> ((6 : Int32) &&& 31).toUInt32).toInt32) - (1 : Int32))), .val (.long ((W k (A / 64)) &&& (((-1 : Int64).toUInt64 >>> (((63 : Int32) - (aI &&& (63 : Int32))) &&& 0x3f).toInt64.toUInt64).toInt64))), .second]) rfl k₀
          show Owes _ _ _ _ (T28.setTop (mkF m 62 #[.val (.ref r0), .val (.int p1), .val (.int (kI + (1 : Int32))), .val (.int (((aI.toUInt32 >>> ((6 : Int32) &&& 31).toUInt32).toInt32) - (1 : Int32))), .val (.long ((W k (A / 64)) &&& (((-1 : Int64).toUInt64 >>> (((63 : Int32) - (aI &&& (63 : Int32))) &&& 0x3f).toInt64.toUInt64).toInt64))), .second] []))
          refine Owes.go ?_ fun t₀ k₀ => XS.goto X28.here hx rfl (pc0 := 62) (pc' := 7) rfl (hb hby d9_62) (by decide) (by decide) k₀
          show Owes _ _ _ _ (T28.setTop (mkF m 7 #[.val (.ref r0), .val (.int p1), .val (.int (kI + (1 : Int32))), .val (.int (((aI.toUInt32 >>> ((6 : Int32) &&& 31).toUInt32).toInt32) - (1 : Int32))), .val (.long ((W k (A / 64)) &&& (((-1 : Int64).toUInt64 >>> (((63 : Int32) - (aI &&& (63 : Int32))) &&& 0x3f).toInt64.toUInt64).toInt64))), .second] []))
          exact ih (k + 1) (by omega) _ _ _ _ X28 e28 (own_inc hkI (by omega)) _ (own_sub1 (own_sh6 hA)) (U.next (H0 k hk) hidx _ (own_63 hA) hc1) (own_lim FT hk hAl) hc1
        · skip
          refine Owes.go ?_ fun t₀ k₀ => XS.ifYes X28.here hx rfl (pc0 := 49) (pc' := 7) rfl (hb hby d9_49) rfl ((if0 _ _).trans (feq (fun q => hc1 ((lw_eq _ _).mp q))).2) (by decide) (by decide) k₀
          show Owes _ _ _ _ (T28.setTop (mkF m 7 #[.val (.ref r0), .val (.int p1), .val (.int kI), .val (.int aI), .val (.long ((W k (A / 64)) &&& (((-1 : Int64).toUInt64 >>> (((63 : Int32) - (aI &&& (63 : Int32))) &&& 0x3f).toInt64.toUInt64).toInt64))), .second] []))
          obtain ⟨t, ht⟩ := High.ex hc1
          have hz := own_nlzJ _ t ht
          refine Owes.go ?_ fun t₀ k₀ => XS.lload X28.here hx rfl (hb hby d9_7) rfl k₀
          show Owes _ _ _ _ (T28.setTop (mkF m 9 #[.val (.ref r0), .val (.int p1), .val (.int kI), .val (.int aI), .val (.long ((W k (A / 64)) &&& (((-1 : Int64).toUInt64 >>> (((63 : Int32) - (aI &&& (63 : Int32))) &&& 0x3f).toInt64.toUInt64).toInt64))), .second] [(.long ((W k (A / 64)) &&& (((-1 : Int64).toUInt64 >>> (((63 : Int32) - (aI &&& (63 : Int32))) &&& 0x3f).toInt64.toUInt64).toInt64)))]))
          refine Owes.go ?_ fun t₀ k₀ => XS.lconst X28.here hx rfl (hb hby d9_9) k₀
          show Owes _ _ _ _ (T28.setTop (mkF m 10 #[.val (.ref r0), .val (.int p1), .val (.int kI), .val (.int aI), .val (.long ((W k (A / 64)) &&& (((-1 : Int64).toUInt64 >>> (((63 : Int32) - (aI &&& (63 : Int32))) &&& 0x3f).toInt64.toUInt64).toInt64))), .second] [(.long (0 : Int64)), (.long ((W k (A / 64)) &&& (((-1 : Int64).toUInt64 >>> (((63 : Int32) - (aI &&& (63 : Int32))) &&& 0x3f).toInt64.toUInt64).toInt64)))]))
          refine Owes.go ?_ fun t₀ k₀ => XS.lcmp X28.here hx rfl (hb hby d9_10) rfl k₀
          show Owes _ _ _ _ (T28.setTop (mkF m 11 #[.val (.ref r0), .val (.int p1), .val (.int kI), .val (.int aI), .val (.long ((W k (A / 64)) &&& (((-1 : Int64).toUInt64 >>> (((63 : Int32) - (aI &&& (63 : Int32))) &&& 0x3f).toInt64.toUInt64).toInt64))), .second] [(.int (lcmpW ((W k (A / 64)) &&& (((-1 : Int64).toUInt64 >>> (((63 : Int32) - (aI &&& (63 : Int32))) &&& 0x3f).toInt64.toUInt64).toInt64)) (0 : Int64)))]))
          refine Owes.go ?_ fun t₀ k₀ => XS.ifYes X28.here hx rfl (pc0 := 11) (pc' := 65) rfl (hb hby d9_11) rfl ((if0 _ _).trans (feq (fun q => hc1 ((lw_eq _ _).mp q))).2) (by decide) (by decide) k₀
          show Owes _ _ _ _ (T28.setTop (mkF m 65 #[.val (.ref r0), .val (.int p1), .val (.int kI), .val (.int aI), .val (.long ((W k (A / 64)) &&& (((-1 : Int64).toUInt64 >>> (((63 : Int32) - (aI &&& (63 : Int32))) &&& 0x3f).toInt64.toUInt64).toInt64))), .second] []))
          refine Owes.go ?_ fun t₀ k₀ => XS.iloadN X28.here hx rfl (hb hby d9_65) rfl k₀
          show Owes _ _ _ _ (T28.setTop (mkF m 66 #[.val (.ref r0), .val (.int p1), .val (.int kI), .val (.int aI), .val (.long ((W k (A / 64)) &&& (((-1 : Int64).toUInt64 >>> (((63 : Int32) - (aI &&& (63 : Int32))) &&& 0x3f).toInt64.toUInt64).toInt64))), .second] [(.int aI)]))
          refine Owes.go ?_ fun t₀ k₀ => XS.bipush X28.here hx rfl (hb hby d9_66) k₀
          show Owes _ _ _ _ (T28.setTop (mkF m 68 #[.val (.ref r0), .val (.int p1), .val (.int kI), .val (.int aI), .val (.long ((W k (A / 64)) &&& (((-1 : Int64).toUInt64 >>> (((63 : Int32) - (aI &&& (63 : Int32))) &&& 0x3f).toInt64.toUInt64).toInt64))), .second] [(.int (-64 : Int32)), (.int aI)]))
          refine Owes.go ?_ fun t₀ k₀ => XS.iand X28.here hx rfl (hb hby d9_68) rfl k₀
          show Owes _ _ _ _ (T28.setTop (mkF m 69 #[.val (.ref r0), .val (.int p1), .val (.int kI), .val (.int aI), .val (.long ((W k (A / 64)) &&& (((-1 : Int64).toUInt64 >>> (((63 : Int32) - (aI &&& (63 : Int32))) &&& 0x3f).toInt64.toUInt64).toInt64))), .second] [(.int (aI &&& (-64 : Int32)))]))
          refine Owes.go ?_ fun t₀ k₀ => XS.bipush X28.here hx rfl (hb hby d9_69) k₀
          show Owes _ _ _ _ (T28.setTop (mkF m 71 #[.val (.ref r0), .val (.int p1), .val (.int kI), .val (.int aI), .val (.long ((W k (A / 64)) &&& (((-1 : Int64).toUInt64 >>> (((63 : Int32) - (aI &&& (63 : Int32))) &&& 0x3f).toInt64.toUInt64).toInt64))), .second] [(.int (63 : Int32)), (.int (aI &&& (-64 : Int32)))]))
          refine Owes.go ?_ fun t₀ k₀ => XS.iadd X28.here hx rfl (hb hby d9_71) rfl k₀
          show Owes _ _ _ _ (T28.setTop (mkF m 72 #[.val (.ref r0), .val (.int p1), .val (.int kI), .val (.int aI), .val (.long ((W k (A / 64)) &&& (((-1 : Int64).toUInt64 >>> (((63 : Int32) - (aI &&& (63 : Int32))) &&& 0x3f).toInt64.toUInt64).toInt64))), .second] [(.int ((aI &&& (-64 : Int32)) + (63 : Int32)))]))
          refine Owes.go ?_ fun t₀ k₀ => XS.lload X28.here hx rfl (hb hby d9_72) rfl k₀
          show Owes _ _ _ _ (T28.setTop (mkF m 74 #[.val (.ref r0), .val (.int p1), .val (.int kI), .val (.int aI), .val (.long ((W k (A / 64)) &&& (((-1 : Int64).toUInt64 >>> (((63 : Int32) - (aI &&& (63 : Int32))) &&& 0x3f).toInt64.toUInt64).toInt64))), .second] [(.long ((W k (A / 64)) &&& (((-1 : Int64).toUInt64 >>> (((63 : Int32) - (aI &&& (63 : Int32))) &&& 0x3f).toInt64.toUInt64).toInt64))), (.int ((aI &&& (-64 : Int32)) + (63 : Int32)))]))
          refine Owes.callS X28 hx hZ hown (hw _ (List.mem_of_getElem? (i := 48) rfl)) (hw _ (List.mem_of_getElem? (i := 49) rfl)) (hw _ (List.mem_of_getElem? (i := 37) rfl)) (hw _ (List.mem_of_getElem? (i := 50) rfl)) (by decide) (argsL := [(.long ((W k (A / 64)) &&& (((-1 : Int64).toUInt64 >>> (((63 : Int32) - (aI &&& (63 : Int32))) &&& 0x3f).toInt64.toUInt64).toInt64)))]) (rest := [(.int ((aI &&& (-64 : Int32)) + (63 : Int32)))]) (rm_f_nlzJ l Z a0 hw [] ((W k (A / 64)) &&& (((-1 : Int64).toUInt64 >>> (((63 : Int32) - (aI &&& (63 : Int32))) &&& 0x3f).toInt64.toUInt64).toInt64)) h0 ) e28 (by rw [hml]; rfl) pd_2 rfl rfl (hb hby d9_74) (by decide) (Nat.le_of_ble_eq_true rfl) (by decide) (by decide) ?_
          rintro T29 _ _ X29 ⟨rfl, rfl, e29⟩
          rw [List.append_nil] at X29
          show Owes _ _ _ _ (T29.setTop (mkF m 77 #[.val (.ref r0), .val (.int p1), .val (.int kI), .val (.int aI), .val (.long ((W k (A / 64)) &&& (((-1 : Int64).toUInt64 >>> (((63 : Int32) - (aI &&& (63 : Int32))) &&& 0x3f).toInt64.toUInt64).toInt64))), .second] [(.int (f_nlzJ ((W k (A / 64)) &&& (((-1 : Int64).toUInt64 >>> (((63 : Int32) - (aI &&& (63 : Int32))) &&& 0x3f).toInt64.toUInt64).toInt64)))), (.int ((aI &&& (-64 : Int32)) + (63 : Int32)))]))
          refine Owes.go ?_ fun t₀ k₀ => XS.isub X29.here hx rfl (hb hby d9_77) rfl k₀
          show Owes _ _ _ _ (T29.setTop (mkF m 78 #[.val (.ref r0), .val (.int p1), .val (.int kI), .val (.int aI), .val (.long ((W k (A / 64)) &&& (((-1 : Int64).toUInt64 >>> (((63 : Int32) - (aI &&& (63 : Int32))) &&& 0x3f).toInt64.toUInt64).toInt64))), .second] [(.int (((aI &&& (-64 : Int32)) + (63 : Int32)) - (f_nlzJ ((W k (A / 64)) &&& (((-1 : Int64).toUInt64 >>> (((63 : Int32) - (aI &&& (63 : Int32))) &&& 0x3f).toInt64.toUInt64).toInt64)))))]))
          refine Owes.go ?_ fun t₀ k₀ => XS.istoreN X29.here hx rfl (hb hby d9_78) rfl (l' := #[.val (.ref r0), .val (.int p1), .val (.int kI), .val (.int (((aI &&& (-64 : Int32)) + (63 : Int32)) - (f_nlzJ ((W k (A / 64)) &&& (((-1 : Int64).toUInt64 >>> (((63 : Int32) - (aI &&& (63 : Int32))) &&& 0x3f).toInt64.toUInt64).toInt64))))), .val (.long ((W k (A / 64)) &&& (((-1 : Int64).toUInt64 >>> (((63 : Int32) - (aI &&& (63 : Int32))) &&& 0x3f).toInt64.toUInt64).toInt64))), .second]) rfl k₀
          show Owes _ _ _ _ (T29.setTop (mkF m 79 #[.val (.ref r0), .val (.int p1), .val (.int kI), .val (.int (((aI &&& (-64 : Int32)) + (63 : Int32)) - (f_nlzJ ((W k (A / 64)) &&& (((-1 : Int64).toUInt64 >>> (((63 : Int32) - (aI &&& (63 : Int32))) &&& 0x3f).toInt64.toUInt64).toInt64))))), .val (.long ((W k (A / 64)) &&& (((-1 : Int64).toUInt64 >>> (((63 : Int32) - (aI &&& (63 : Int32))) &&& 0x3f).toInt64.toUInt64).toInt64))), .second] []))
          exact dn k hk _ _ _ _ X29 e29 hkI (A - A % 64 + t) (own_hi (own_m64 hA) hz ht.1 (by have := rng32 aI; omega)) (U.found (H0 k hk) hidx _ (own_63 hA) ht)
  refine Owes.go ?_ fun t₀ k₀ => XS.iconst X0.here hx rfl (hb hby d9_0) k₀
  show Owes _ _ _ _ (s₁.setTop (mkF m 1 #[.val (.ref r0), .val (.int p1), .unset, .unset, .unset, .unset] [(.int (0 : Int32))]))
  refine Owes.go ?_ fun t₀ k₀ => XS.istoreN X0.here hx rfl (hb hby d9_1) rfl (l' := #[.val (.ref r0), .val (.int p1), .val (.int (0 : Int32)), .unset, .unset, .unset]) rfl k₀
  show Owes _ _ _ _ (s₁.setTop (mkF m 2 #[.val (.ref r0), .val (.int p1), .val (.int (0 : Int32)), .unset, .unset, .unset] []))
  refine Owes.go ?_ fun t₀ k₀ => XS.iloadN X0.here hx rfl (hb hby d9_2) rfl k₀
  show Owes _ _ _ _ (s₁.setTop (mkF m 3 #[.val (.ref r0), .val (.int p1), .val (.int (0 : Int32)), .unset, .unset, .unset] [(.int p1)]))
  refine Owes.go ?_ fun t₀ k₀ => XS.istoreN X0.here hx rfl (hb hby d9_3) rfl (l' := #[.val (.ref r0), .val (.int p1), .val (.int (0 : Int32)), .val (.int p1), .unset, .unset]) rfl k₀
  show Owes _ _ _ _ (s₁.setTop (mkF m 4 #[.val (.ref r0), .val (.int p1), .val (.int (0 : Int32)), .val (.int p1), .unset, .unset] []))
  refine Owes.go ?_ fun t₀ k₀ => XS.lconst X0.here hx rfl (hb hby d9_4) k₀
  show Owes _ _ _ _ (s₁.setTop (mkF m 5 #[.val (.ref r0), .val (.int p1), .val (.int (0 : Int32)), .val (.int p1), .unset, .unset] [(.long (0 : Int64))]))
  refine Owes.go ?_ fun t₀ k₀ => XS.lstore X0.here hx rfl (hb hby d9_5) rfl (l' := #[.val (.ref r0), .val (.int p1), .val (.int (0 : Int32)), .val (.int p1), .val (.long (0 : Int64)), .second]) rfl k₀
  show Owes _ _ _ _ (s₁.setTop (mkF m 7 #[.val (.ref r0), .val (.int p1), .val (.int (0 : Int32)), .val (.int p1), .val (.long (0 : Int64)), .second] []))
  exact up d 0 (by omega) _ _ _ _ X0 e0 rfl fr hp (UpP.start M fr) ⟨hfr.1, fun _ => by have := FT.2.2.1; omega, fun q => absurd q (by omega)⟩ rfl
theorem d12_0 : decode method_2_code 0 = .ok (.iconst (-1), 1) := by decide +kernel
theorem d12_1 : decode method_2_code 1 = .ok (.istore 4, 2) := by decide +kernel
theorem d12_3 : decode method_2_code 3 = .ok (.iload_n 0, 1) := by decide +kernel
theorem d12_4 : decode method_2_code 4 = .ok (.iload_n 3, 1) := by decide +kernel
theorem d12_5 : decode method_2_code 5 = .ok (.if_icmp .lt 6, 3) := by decide +kernel
theorem d12_11 : decode method_2_code 11 = .ok (.iload_n 1, 1) := by decide +kernel
theorem d12_12 : decode method_2_code 12 = .ok (.iload_n 3, 1) := by decide +kernel
theorem d12_13 : decode method_2_code 13 = .ok (.if_icmp .lt 17, 3) := by decide +kernel
theorem d12_30 : decode method_2_code 30 = .ok (.iload_n 2, 1) := by decide +kernel
theorem d12_31 : decode method_2_code 31 = .ok (.iload_n 3, 1) := by decide +kernel
theorem d12_32 : decode method_2_code 32 = .ok (.if_icmp .lt 17, 3) := by decide +kernel
theorem d12_49 : decode method_2_code 49 = .ok (.iload 4, 2) := by decide +kernel
theorem d12_51 : decode method_2_code 51 = .ok (.ireturn, 1) := by decide +kernel
theorem d12_35 : decode method_2_code 35 = .ok (.iload 4, 2) := by decide +kernel
theorem d12_37 : decode method_2_code 37 = .ok (.ifCond .lt 9, 3) := by decide +kernel
theorem d12_46 : decode method_2_code 46 = .ok (.iload_n 2, 1) := by decide +kernel
theorem d12_47 : decode method_2_code 47 = .ok (.istore 4, 2) := by decide +kernel
theorem d12_16 : decode method_2_code 16 = .ok (.iload 4, 2) := by decide +kernel
theorem d12_18 : decode method_2_code 18 = .ok (.ifCond .lt 9, 3) := by decide +kernel
theorem d12_27 : decode method_2_code 27 = .ok (.iload_n 1, 1) := by decide +kernel
theorem d12_28 : decode method_2_code 28 = .ok (.istore 4, 2) := by decide +kernel
theorem d12_40 : decode method_2_code 40 = .ok (.iload_n 2, 1) := by decide +kernel
theorem d12_41 : decode method_2_code 41 = .ok (.iload 4, 2) := by decide +kernel
theorem d12_43 : decode method_2_code 43 = .ok (.if_icmp .ge 6, 3) := by decide +kernel
theorem d12_8 : decode method_2_code 8 = .ok (.iload_n 0, 1) := by decide +kernel
theorem d12_9 : decode method_2_code 9 = .ok (.istore 4, 2) := by decide +kernel
theorem d12_21 : decode method_2_code 21 = .ok (.iload_n 1, 1) := by decide +kernel
theorem d12_22 : decode method_2_code 22 = .ok (.iload 4, 2) := by decide +kernel
theorem d12_24 : decode method_2_code 24 = .ok (.if_icmp .ge 6, 3) := by decide +kernel
def f_nr (p0 : Int32) (p1 : Int32) (p2 : Int32) (p3 : Int32)  : Int32 := (if p0 < p3 then (if p1 < p3 then (if p2 < p3 then (-1 : Int32) else p2) else (if p2 < p3 then p1 else (if p1 < (0 : Int32) then p2 else (if p2 < p1 then p2 else p1)))) else (if p1 < p3 then (if p2 < p3 then p0 else (if p0 < (0 : Int32) then p2 else (if p2 < p0 then p2 else p0))) else (if p0 < (0 : Int32) then (if p2 < p3 then p1 else (if p1 < (0 : Int32) then p2 else (if p2 < p1 then p2 else p1))) else (if p1 < p0 then (if p2 < p3 then p1 else (if p1 < (0 : Int32) then p2 else (if p2 < p1 then p2 else p1))) else (if p2 < p3 then p0 else (if p2 < p0 then p2 else p0))))))
theorem ef_12_f_nr (m : MethodId) (p0 : Int32) (p1 : Int32) (p2 : Int32) (p3 : Int32) : entryFrame m #[(.int p0), (.int p1), (.int p2), (.int p3)] 5 = mkF m 0 #[.val (.int p0), .val (.int p1), .val (.int p2), .val (.int p3), .unset] [] := by first | (simp [entryFrame, mkF, argsToLocals, Value.category]; done) | rfl
theorem pn_12 : plainFor (⟨"com/example/slotwright/slotwright/core/RankSetAddPinLaw", "nextRef", "(IIII)I"⟩ : MethodName) = true := plainFor_of_name (by first | (simp [plainName, overriddenIn]; done) | decide +kernel)
set_option maxRecDepth 65536 in
set_option maxHeartbeats 40000000 in
theorem rm_f_nr (l : Launch) (Z : State) (a0 : Array Value) (hw : ∀ d ∈ tables_1, d.before a0 Z = true) (ws : List Jvm.Cond) (p0 : Int32) (p1 : Int32) (p2 : Int32) (p3 : Int32) (h0 : Heap)  :
    OMet l (⟨"com/example/slotwright/slotwright/core/RankSetAddPinLaw", "nextRef", "(IIII)I"⟩ : MethodName) method_2_code 5 (some .int) ws ({ frames := 0, cells := 0, slots := 0, locals := 0 } : Room) #[(.int p0), (.int p1), (.int p2), (.int p3)] Z h0 (fun v h L => v = some (Value.int (f_nr p0 p1 p2 p3)) ∧ L = [] ∧ h = h0) := by
  refine OMet.of pn_12 (fun m => ef_12_f_nr m p0 p1 p2 p3) ?_
  intro p e s m below meth c s₁ hx hby hml hown hnm hret hlk hZ X0 e0
  refine Owes.go ?_ fun t₀ k₀ => XS.iconst X0.here hx rfl (hb hby d12_0) k₀
  show Owes _ _ _ _ (s₁.setTop (mkF m 1 #[.val (.int p0), .val (.int p1), .val (.int p2), .val (.int p3), .unset] [(.int (-1 : Int32))]))
  refine Owes.go ?_ fun t₀ k₀ => XS.istore X0.here hx rfl (hb hby d12_1) rfl (l' := #[.val (.int p0), .val (.int p1), .val (.int p2), .val (.int p3), .val (.int (-1 : Int32))]) rfl k₀
  show Owes _ _ _ _ (s₁.setTop (mkF m 3 #[.val (.int p0), .val (.int p1), .val (.int p2), .val (.int p3), .val (.int (-1 : Int32))] []))
  refine Owes.go ?_ fun t₀ k₀ => XS.iloadN X0.here hx rfl (hb hby d12_3) rfl k₀
  show Owes _ _ _ _ (s₁.setTop (mkF m 4 #[.val (.int p0), .val (.int p1), .val (.int p2), .val (.int p3), .val (.int (-1 : Int32))] [(.int p0)]))
  refine Owes.go ?_ fun t₀ k₀ => XS.iloadN X0.here hx rfl (hb hby d12_4) rfl k₀
  show Owes _ _ _ _ (s₁.setTop (mkF m 5 #[.val (.int p0), .val (.int p1), .val (.int p2), .val (.int p3), .val (.int (-1 : Int32))] [(.int p3), (.int p0)]))
  by_cases hc1 : p0 < p3
  · skip
    refine Owes.go ?_ fun t₀ k₀ => XS.icmpYes X0.here hx rfl (pc0 := 5) (pc' := 11) rfl (hb hby d12_5) rfl (tlt hc1).1 (by decide) (by decide) k₀
    show Owes _ _ _ _ (s₁.setTop (mkF m 11 #[.val (.int p0), .val (.int p1), .val (.int p2), .val (.int p3), .val (.int (-1 : Int32))] []))
    refine Owes.go ?_ fun t₀ k₀ => XS.iloadN X0.here hx rfl (hb hby d12_11) rfl k₀
    show Owes _ _ _ _ (s₁.setTop (mkF m 12 #[.val (.int p0), .val (.int p1), .val (.int p2), .val (.int p3), .val (.int (-1 : Int32))] [(.int p1)]))
    refine Owes.go ?_ fun t₀ k₀ => XS.iloadN X0.here hx rfl (hb hby d12_12) rfl k₀
    show Owes _ _ _ _ (s₁.setTop (mkF m 13 #[.val (.int p0), .val (.int p1), .val (.int p2), .val (.int p3), .val (.int (-1 : Int32))] [(.int p3), (.int p1)]))
    by_cases hc2 : p1 < p3
    · skip
      refine Owes.go ?_ fun t₀ k₀ => XS.icmpYes X0.here hx rfl (pc0 := 13) (pc' := 30) rfl (hb hby d12_13) rfl (tlt hc2).1 (by decide) (by decide) k₀
      show Owes _ _ _ _ (s₁.setTop (mkF m 30 #[.val (.int p0), .val (.int p1), .val (.int p2), .val (.int p3), .val (.int (-1 : Int32))] []))
      refine Owes.go ?_ fun t₀ k₀ => XS.iloadN X0.here hx rfl (hb hby d12_30) rfl k₀
      show Owes _ _ _ _ (s₁.setTop (mkF m 31 #[.val (.int p0), .val (.int p1), .val (.int p2), .val (.int p3), .val (.int (-1 : Int32))] [(.int p2)]))
      refine Owes.go ?_ fun t₀ k₀ => XS.iloadN X0.here hx rfl (hb hby d12_31) rfl k₀
      show Owes _ _ _ _ (s₁.setTop (mkF m 32 #[.val (.int p0), .val (.int p1), .val (.int p2), .val (.int p3), .val (.int (-1 : Int32))] [(.int p3), (.int p2)]))
      by_cases hc3 : p2 < p3
      · skip
        refine Owes.go ?_ fun t₀ k₀ => XS.icmpYes X0.here hx rfl (pc0 := 32) (pc' := 49) rfl (hb hby d12_32) rfl (tlt hc3).1 (by decide) (by decide) k₀
        show Owes _ _ _ _ (s₁.setTop (mkF m 49 #[.val (.int p0), .val (.int p1), .val (.int p2), .val (.int p3), .val (.int (-1 : Int32))] []))
        refine Owes.go ?_ fun t₀ k₀ => XS.iload X0.here hx rfl (hb hby d12_49) rfl k₀
        show Owes _ _ _ _ (s₁.setTop (mkF m 51 #[.val (.int p0), .val (.int p1), .val (.int p2), .val (.int p3), .val (.int (-1 : Int32))] [(.int (-1 : Int32))]))
        exact Owes.retI X0 hx hlk hret (hb hby d12_51) (by decide) (by decide) ⟨congrArg (fun z => some (Value.int z)) (by unfold f_nr; rw [if_pos hc1, if_pos hc2, if_pos hc3]; first | done | rfl), rfl, e0⟩
      · skip
        refine Owes.go ?_ fun t₀ k₀ => XS.icmpNo X0.here hx rfl (hb hby d12_32) rfl (flt hc3).1 k₀
        show Owes _ _ _ _ (s₁.setTop (mkF m 35 #[.val (.int p0), .val (.int p1), .val (.int p2), .val (.int p3), .val (.int (-1 : Int32))] []))
        refine Owes.go ?_ fun t₀ k₀ => XS.iload X0.here hx rfl (hb hby d12_35) rfl k₀
        show Owes _ _ _ _ (s₁.setTop (mkF m 37 #[.val (.int p0), .val (.int p1), .val (.int p2), .val (.int p3), .val (.int (-1 : Int32))] [(.int (-1 : Int32))]))
        refine Owes.go ?_ fun t₀ k₀ => XS.ifYes X0.here hx rfl (pc0 := 37) (pc' := 46) rfl (hb hby d12_37) rfl ((if0 _ _).trans (tlt (by decide : ((-1 : Int32) < (0 : Int32)))).1) (by decide) (by decide) k₀
        show Owes _ _ _ _ (s₁.setTop (mkF m 46 #[.val (.int p0), .val (.int p1), .val (.int p2), .val (.int p3), .val (.int (-1 : Int32))] []))
        refine Owes.go ?_ fun t₀ k₀ => XS.iloadN X0.here hx rfl (hb hby d12_46) rfl k₀
        show Owes _ _ _ _ (s₁.setTop (mkF m 47 #[.val (.int p0), .val (.int p1), .val (.int p2), .val (.int p3), .val (.int (-1 : Int32))] [(.int p2)]))
        refine Owes.go ?_ fun t₀ k₀ => XS.istore X0.here hx rfl (hb hby d12_47) rfl (l' := #[.val (.int p0), .val (.int p1), .val (.int p2), .val (.int p3), .val (.int p2)]) rfl k₀
        show Owes _ _ _ _ (s₁.setTop (mkF m 49 #[.val (.int p0), .val (.int p1), .val (.int p2), .val (.int p3), .val (.int p2)] []))
        refine Owes.go ?_ fun t₀ k₀ => XS.iload X0.here hx rfl (hb hby d12_49) rfl k₀
        show Owes _ _ _ _ (s₁.setTop (mkF m 51 #[.val (.int p0), .val (.int p1), .val (.int p2), .val (.int p3), .val (.int p2)] [(.int p2)]))
        exact Owes.retI X0 hx hlk hret (hb hby d12_51) (by decide) (by decide) ⟨congrArg (fun z => some (Value.int z)) (by unfold f_nr; rw [if_pos hc1, if_pos hc2, if_neg hc3]; first | done | rfl), rfl, e0⟩
    · skip
      refine Owes.go ?_ fun t₀ k₀ => XS.icmpNo X0.here hx rfl (hb hby d12_13) rfl (flt hc2).1 k₀
      show Owes _ _ _ _ (s₁.setTop (mkF m 16 #[.val (.int p0), .val (.int p1), .val (.int p2), .val (.int p3), .val (.int (-1 : Int32))] []))
      refine Owes.go ?_ fun t₀ k₀ => XS.iload X0.here hx rfl (hb hby d12_16) rfl k₀
      show Owes _ _ _ _ (s₁.setTop (mkF m 18 #[.val (.int p0), .val (.int p1), .val (.int p2), .val (.int p3), .val (.int (-1 : Int32))] [(.int (-1 : Int32))]))
      refine Owes.go ?_ fun t₀ k₀ => XS.ifYes X0.here hx rfl (pc0 := 18) (pc' := 27) rfl (hb hby d12_18) rfl ((if0 _ _).trans (tlt (by decide : ((-1 : Int32) < (0 : Int32)))).1) (by decide) (by decide) k₀
      show Owes _ _ _ _ (s₁.setTop (mkF m 27 #[.val (.int p0), .val (.int p1), .val (.int p2), .val (.int p3), .val (.int (-1 : Int32))] []))
      refine Owes.go ?_ fun t₀ k₀ => XS.iloadN X0.here hx rfl (hb hby d12_27) rfl k₀
      show Owes _ _ _ _ (s₁.setTop (mkF m 28 #[.val (.int p0), .val (.int p1), .val (.int p2), .val (.int p3), .val (.int (-1 : Int32))] [(.int p1)]))
      refine Owes.go ?_ fun t₀ k₀ => XS.istore X0.here hx rfl (hb hby d12_28) rfl (l' := #[.val (.int p0), .val (.int p1), .val (.int p2), .val (.int p3), .val (.int p1)]) rfl k₀
      show Owes _ _ _ _ (s₁.setTop (mkF m 30 #[.val (.int p0), .val (.int p1), .val (.int p2), .val (.int p3), .val (.int p1)] []))
      refine Owes.go ?_ fun t₀ k₀ => XS.iloadN X0.here hx rfl (hb hby d12_30) rfl k₀
      show Owes _ _ _ _ (s₁.setTop (mkF m 31 #[.val (.int p0), .val (.int p1), .val (.int p2), .val (.int p3), .val (.int p1)] [(.int p2)]))
      refine Owes.go ?_ fun t₀ k₀ => XS.iloadN X0.here hx rfl (hb hby d12_31) rfl k₀
      show Owes _ _ _ _ (s₁.setTop (mkF m 32 #[.val (.int p0), .val (.int p1), .val (.int p2), .val (.int p3), .val (.int p1)] [(.int p3), (.int p2)]))
      by_cases hc4 : p2 < p3
      · skip
        refine Owes.go ?_ fun t₀ k₀ => XS.icmpYes X0.here hx rfl (pc0 := 32) (pc' := 49) rfl (hb hby d12_32) rfl (tlt hc4).1 (by decide) (by decide) k₀
        show Owes _ _ _ _ (s₁.setTop (mkF m 49 #[.val (.int p0), .val (.int p1), .val (.int p2), .val (.int p3), .val (.int p1)] []))
        refine Owes.go ?_ fun t₀ k₀ => XS.iload X0.here hx rfl (hb hby d12_49) rfl k₀
        show Owes _ _ _ _ (s₁.setTop (mkF m 51 #[.val (.int p0), .val (.int p1), .val (.int p2), .val (.int p3), .val (.int p1)] [(.int p1)]))
        exact Owes.retI X0 hx hlk hret (hb hby d12_51) (by decide) (by decide) ⟨congrArg (fun z => some (Value.int z)) (by unfold f_nr; rw [if_pos hc1, if_neg hc2, if_pos hc4]; first | done | rfl), rfl, e0⟩
      · skip
        refine Owes.go ?_ fun t₀ k₀ => XS.icmpNo X0.here hx rfl (hb hby d12_32) rfl (flt hc4).1 k₀
        show Owes _ _ _ _ (s₁.setTop (mkF m 35 #[.val (.int p0), .val (.int p1), .val (.int p2), .val (.int p3), .val (.int p1)] []))
        refine Owes.go ?_ fun t₀ k₀ => XS.iload X0.here hx rfl (hb hby d12_35) rfl k₀
        show Owes _ _ _ _ (s₁.setTop (mkF m 37 #[.val (.int p0), .val (.int p1), .val (.int p2), .val (.int p3), .val (.int p1)] [(.int p1)]))
        by_cases hc5 : p1 < (0 : Int32)
        · skip
          refine Owes.go ?_ fun t₀ k₀ => XS.ifYes X0.here hx rfl (pc0 := 37) (pc' := 46) rfl (hb hby d12_37) rfl ((if0 _ _).trans (tlt hc5).1) (by decide) (by decide) k₀
          show Owes _ _ _ _ (s₁.setTop (mkF m 46 #[.val (.int p0), .val (.int p1), .val (.int p2), .val (.int p3), .val (.int p1)] []))
          refine Owes.go ?_ fun t₀ k₀ => XS.iloadN X0.here hx rfl (hb hby d12_46) rfl k₀
          show Owes _ _ _ _ (s₁.setTop (mkF m 47 #[.val (.int p0), .val (.int p1), .val (.int p2), .val (.int p3), .val (.int p1)] [(.int p2)]))
          refine Owes.go ?_ fun t₀ k₀ => XS.istore X0.here hx rfl (hb hby d12_47) rfl (l' := #[.val (.int p0), .val (.int p1), .val (.int p2), .val (.int p3), .val (.int p2)]) rfl k₀
          show Owes _ _ _ _ (s₁.setTop (mkF m 49 #[.val (.int p0), .val (.int p1), .val (.int p2), .val (.int p3), .val (.int p2)] []))
          refine Owes.go ?_ fun t₀ k₀ => XS.iload X0.here hx rfl (hb hby d12_49) rfl k₀
          show Owes _ _ _ _ (s₁.setTop (mkF m 51 #[.val (.int p0), .val (.int p1), .val (.int p2), .val (.int p3), .val (.int p2)] [(.int p2)]))
          exact Owes.retI X0 hx hlk hret (hb hby d12_51) (by decide) (by decide) ⟨congrArg (fun z => some (Value.int z)) (by unfold f_nr; rw [if_pos hc1, if_neg hc2, if_neg hc4, if_pos hc5]; first | done | rfl), rfl, e0⟩
        · skip
          refine Owes.go ?_ fun t₀ k₀ => XS.ifNo X0.here hx rfl (hb hby d12_37) rfl ((if0 _ _).trans (flt hc5).1) k₀
          show Owes _ _ _ _ (s₁.setTop (mkF m 40 #[.val (.int p0), .val (.int p1), .val (.int p2), .val (.int p3), .val (.int p1)] []))
          refine Owes.go ?_ fun t₀ k₀ => XS.iloadN X0.here hx rfl (hb hby d12_40) rfl k₀
          show Owes _ _ _ _ (s₁.setTop (mkF m 41 #[.val (.int p0), .val (.int p1), .val (.int p2), .val (.int p3), .val (.int p1)] [(.int p2)]))
          refine Owes.go ?_ fun t₀ k₀ => XS.iload X0.here hx rfl (hb hby d12_41) rfl k₀
          show Owes _ _ _ _ (s₁.setTop (mkF m 43 #[.val (.int p0), .val (.int p1), .val (.int p2), .val (.int p3), .val (.int p1)] [(.int p1), (.int p2)]))
          by_cases hc6 : p2 < p1
          · skip
            refine Owes.go ?_ fun t₀ k₀ => XS.icmpNo X0.here hx rfl (hb hby d12_43) rfl (tlt hc6).2.1 k₀
            show Owes _ _ _ _ (s₁.setTop (mkF m 46 #[.val (.int p0), .val (.int p1), .val (.int p2), .val (.int p3), .val (.int p1)] []))
            refine Owes.go ?_ fun t₀ k₀ => XS.iloadN X0.here hx rfl (hb hby d12_46) rfl k₀
            show Owes _ _ _ _ (s₁.setTop (mkF m 47 #[.val (.int p0), .val (.int p1), .val (.int p2), .val (.int p3), .val (.int p1)] [(.int p2)]))
            refine Owes.go ?_ fun t₀ k₀ => XS.istore X0.here hx rfl (hb hby d12_47) rfl (l' := #[.val (.int p0), .val (.int p1), .val (.int p2), .val (.int p3), .val (.int p2)]) rfl k₀
            show Owes _ _ _ _ (s₁.setTop (mkF m 49 #[.val (.int p0), .val (.int p1), .val (.int p2), .val (.int p3), .val (.int p2)] []))
            refine Owes.go ?_ fun t₀ k₀ => XS.iload X0.here hx rfl (hb hby d12_49) rfl k₀
            show Owes _ _ _ _ (s₁.setTop (mkF m 51 #[.val (.int p0), .val (.int p1), .val (.int p2), .val (.int p3), .val (.int p2)] [(.int p2)]))
            exact Owes.retI X0 hx hlk hret (hb hby d12_51) (by decide) (by decide) ⟨congrArg (fun z => some (Value.int z)) (by unfold f_nr; rw [if_pos hc1, if_neg hc2, if_neg hc4, if_neg hc5, if_pos hc6]; first | done | rfl), rfl, e0⟩
          · skip
            refine Owes.go ?_ fun t₀ k₀ => XS.icmpYes X0.here hx rfl (pc0 := 43) (pc' := 49) rfl (hb hby d12_43) rfl (flt hc6).2.1 (by decide) (by decide) k₀
            show Owes _ _ _ _ (s₁.setTop (mkF m 49 #[.val (.int p0), .val (.int p1), .val (.int p2), .val (.int p3), .val (.int p1)] []))
            refine Owes.go ?_ fun t₀ k₀ => XS.iload X0.here hx rfl (hb hby d12_49) rfl k₀
            show Owes _ _ _ _ (s₁.setTop (mkF m 51 #[.val (.int p0), .val (.int p1), .val (.int p2), .val (.int p3), .val (.int p1)] [(.int p1)]))
            exact Owes.retI X0 hx hlk hret (hb hby d12_51) (by decide) (by decide) ⟨congrArg (fun z => some (Value.int z)) (by unfold f_nr; rw [if_pos hc1, if_neg hc2, if_neg hc4, if_neg hc5, if_neg hc6]; first | done | rfl), rfl, e0⟩
  · skip
    refine Owes.go ?_ fun t₀ k₀ => XS.icmpNo X0.here hx rfl (hb hby d12_5) rfl (flt hc1).1 k₀
    show Owes _ _ _ _ (s₁.setTop (mkF m 8 #[.val (.int p0), .val (.int p1), .val (.int p2), .val (.int p3), .val (.int (-1 : Int32))] []))
    refine Owes.go ?_ fun t₀ k₀ => XS.iloadN X0.here hx rfl (hb hby d12_8) rfl k₀
    show Owes _ _ _ _ (s₁.setTop (mkF m 9 #[.val (.int p0), .val (.int p1), .val (.int p2), .val (.int p3), .val (.int (-1 : Int32))] [(.int p0)]))
    refine Owes.go ?_ fun t₀ k₀ => XS.istore X0.here hx rfl (hb hby d12_9) rfl (l' := #[.val (.int p0), .val (.int p1), .val (.int p2), .val (.int p3), .val (.int p0)]) rfl k₀
    show Owes _ _ _ _ (s₁.setTop (mkF m 11 #[.val (.int p0), .val (.int p1), .val (.int p2), .val (.int p3), .val (.int p0)] []))
    refine Owes.go ?_ fun t₀ k₀ => XS.iloadN X0.here hx rfl (hb hby d12_11) rfl k₀
    show Owes _ _ _ _ (s₁.setTop (mkF m 12 #[.val (.int p0), .val (.int p1), .val (.int p2), .val (.int p3), .val (.int p0)] [(.int p1)]))
    refine Owes.go ?_ fun t₀ k₀ => XS.iloadN X0.here hx rfl (hb hby d12_12) rfl k₀
    show Owes _ _ _ _ (s₁.setTop (mkF m 13 #[.val (.int p0), .val (.int p1), .val (.int p2), .val (.int p3), .val (.int p0)] [(.int p3), (.int p1)]))
    by_cases hc7 : p1 < p3
    · skip
      refine Owes.go ?_ fun t₀ k₀ => XS.icmpYes X0.here hx rfl (pc0 := 13) (pc' := 30) rfl (hb hby d12_13) rfl (tlt hc7).1 (by decide) (by decide) k₀
      show Owes _ _ _ _ (s₁.setTop (mkF m 30 #[.val (.int p0), .val (.int p1), .val (.int p2), .val (.int p3), .val (.int p0)] []))
      refine Owes.go ?_ fun t₀ k₀ => XS.iloadN X0.here hx rfl (hb hby d12_30) rfl k₀
      show Owes _ _ _ _ (s₁.setTop (mkF m 31 #[.val (.int p0), .val (.int p1), .val (.int p2), .val (.int p3), .val (.int p0)] [(.int p2)]))
      refine Owes.go ?_ fun t₀ k₀ => XS.iloadN X0.here hx rfl (hb hby d12_31) rfl k₀
      show Owes _ _ _ _ (s₁.setTop (mkF m 32 #[.val (.int p0), .val (.int p1), .val (.int p2), .val (.int p3), .val (.int p0)] [(.int p3), (.int p2)]))
      by_cases hc8 : p2 < p3
      · skip
        refine Owes.go ?_ fun t₀ k₀ => XS.icmpYes X0.here hx rfl (pc0 := 32) (pc' := 49) rfl (hb hby d12_32) rfl (tlt hc8).1 (by decide) (by decide) k₀
        show Owes _ _ _ _ (s₁.setTop (mkF m 49 #[.val (.int p0), .val (.int p1), .val (.int p2), .val (.int p3), .val (.int p0)] []))
        refine Owes.go ?_ fun t₀ k₀ => XS.iload X0.here hx rfl (hb hby d12_49) rfl k₀
        show Owes _ _ _ _ (s₁.setTop (mkF m 51 #[.val (.int p0), .val (.int p1), .val (.int p2), .val (.int p3), .val (.int p0)] [(.int p0)]))
        exact Owes.retI X0 hx hlk hret (hb hby d12_51) (by decide) (by decide) ⟨congrArg (fun z => some (Value.int z)) (by unfold f_nr; rw [if_neg hc1, if_pos hc7, if_pos hc8]; first | done | rfl), rfl, e0⟩
      · skip
        refine Owes.go ?_ fun t₀ k₀ => XS.icmpNo X0.here hx rfl (hb hby d12_32) rfl (flt hc8).1 k₀
        show Owes _ _ _ _ (s₁.setTop (mkF m 35 #[.val (.int p0), .val (.int p1), .val (.int p2), .val (.int p3), .val (.int p0)] []))
        refine Owes.go ?_ fun t₀ k₀ => XS.iload X0.here hx rfl (hb hby d12_35) rfl k₀
        show Owes _ _ _ _ (s₁.setTop (mkF m 37 #[.val (.int p0), .val (.int p1), .val (.int p2), .val (.int p3), .val (.int p0)] [(.int p0)]))
        by_cases hc9 : p0 < (0 : Int32)
        · skip
          refine Owes.go ?_ fun t₀ k₀ => XS.ifYes X0.here hx rfl (pc0 := 37) (pc' := 46) rfl (hb hby d12_37) rfl ((if0 _ _).trans (tlt hc9).1) (by decide) (by decide) k₀
          show Owes _ _ _ _ (s₁.setTop (mkF m 46 #[.val (.int p0), .val (.int p1), .val (.int p2), .val (.int p3), .val (.int p0)] []))
          refine Owes.go ?_ fun t₀ k₀ => XS.iloadN X0.here hx rfl (hb hby d12_46) rfl k₀
          show Owes _ _ _ _ (s₁.setTop (mkF m 47 #[.val (.int p0), .val (.int p1), .val (.int p2), .val (.int p3), .val (.int p0)] [(.int p2)]))
          refine Owes.go ?_ fun t₀ k₀ => XS.istore X0.here hx rfl (hb hby d12_47) rfl (l' := #[.val (.int p0), .val (.int p1), .val (.int p2), .val (.int p3), .val (.int p2)]) rfl k₀
          show Owes _ _ _ _ (s₁.setTop (mkF m 49 #[.val (.int p0), .val (.int p1), .val (.int p2), .val (.int p3), .val (.int p2)] []))
          refine Owes.go ?_ fun t₀ k₀ => XS.iload X0.here hx rfl (hb hby d12_49) rfl k₀
          show Owes _ _ _ _ (s₁.setTop (mkF m 51 #[.val (.int p0), .val (.int p1), .val (.int p2), .val (.int p3), .val (.int p2)] [(.int p2)]))
          exact Owes.retI X0 hx hlk hret (hb hby d12_51) (by decide) (by decide) ⟨congrArg (fun z => some (Value.int z)) (by unfold f_nr; rw [if_neg hc1, if_pos hc7, if_neg hc8, if_pos hc9]; first | done | rfl), rfl, e0⟩
        · skip
          refine Owes.go ?_ fun t₀ k₀ => XS.ifNo X0.here hx rfl (hb hby d12_37) rfl ((if0 _ _).trans (flt hc9).1) k₀
          show Owes _ _ _ _ (s₁.setTop (mkF m 40 #[.val (.int p0), .val (.int p1), .val (.int p2), .val (.int p3), .val (.int p0)] []))
          refine Owes.go ?_ fun t₀ k₀ => XS.iloadN X0.here hx rfl (hb hby d12_40) rfl k₀
          show Owes _ _ _ _ (s₁.setTop (mkF m 41 #[.val (.int p0), .val (.int p1), .val (.int p2), .val (.int p3), .val (.int p0)] [(.int p2)]))
          refine Owes.go ?_ fun t₀ k₀ => XS.iload X0.here hx rfl (hb hby d12_41) rfl k₀
          show Owes _ _ _ _ (s₁.setTop (mkF m 43 #[.val (.int p0), .val (.int p1), .val (.int p2), .val (.int p3), .val (.int p0)] [(.int p0), (.int p2)]))
          by_cases hc10 : p2 < p0
          · skip
            refine Owes.go ?_ fun t₀ k₀ => XS.icmpNo X0.here hx rfl (hb hby d12_43) rfl (tlt hc10).2.1 k₀
            show Owes _ _ _ _ (s₁.setTop (mkF m 46 #[.val (.int p0), .val (.int p1), .val (.int p2), .val (.int p3), .val (.int p0)] []))
            refine Owes.go ?_ fun t₀ k₀ => XS.iloadN X0.here hx rfl (hb hby d12_46) rfl k₀
            show Owes _ _ _ _ (s₁.setTop (mkF m 47 #[.val (.int p0), .val (.int p1), .val (.int p2), .val (.int p3), .val (.int p0)] [(.int p2)]))
            refine Owes.go ?_ fun t₀ k₀ => XS.istore X0.here hx rfl (hb hby d12_47) rfl (l' := #[.val (.int p0), .val (.int p1), .val (.int p2), .val (.int p3), .val (.int p2)]) rfl k₀
            show Owes _ _ _ _ (s₁.setTop (mkF m 49 #[.val (.int p0), .val (.int p1), .val (.int p2), .val (.int p3), .val (.int p2)] []))
            refine Owes.go ?_ fun t₀ k₀ => XS.iload X0.here hx rfl (hb hby d12_49) rfl k₀
            show Owes _ _ _ _ (s₁.setTop (mkF m 51 #[.val (.int p0), .val (.int p1), .val (.int p2), .val (.int p3), .val (.int p2)] [(.int p2)]))
            exact Owes.retI X0 hx hlk hret (hb hby d12_51) (by decide) (by decide) ⟨congrArg (fun z => some (Value.int z)) (by unfold f_nr; rw [if_neg hc1, if_pos hc7, if_neg hc8, if_neg hc9, if_pos hc10]; first | done | rfl), rfl, e0⟩
          · skip
            refine Owes.go ?_ fun t₀ k₀ => XS.icmpYes X0.here hx rfl (pc0 := 43) (pc' := 49) rfl (hb hby d12_43) rfl (flt hc10).2.1 (by decide) (by decide) k₀
            show Owes _ _ _ _ (s₁.setTop (mkF m 49 #[.val (.int p0), .val (.int p1), .val (.int p2), .val (.int p3), .val (.int p0)] []))
            refine Owes.go ?_ fun t₀ k₀ => XS.iload X0.here hx rfl (hb hby d12_49) rfl k₀
            show Owes _ _ _ _ (s₁.setTop (mkF m 51 #[.val (.int p0), .val (.int p1), .val (.int p2), .val (.int p3), .val (.int p0)] [(.int p0)]))
            exact Owes.retI X0 hx hlk hret (hb hby d12_51) (by decide) (by decide) ⟨congrArg (fun z => some (Value.int z)) (by unfold f_nr; rw [if_neg hc1, if_pos hc7, if_neg hc8, if_neg hc9, if_neg hc10]; first | done | rfl), rfl, e0⟩
    · skip
      refine Owes.go ?_ fun t₀ k₀ => XS.icmpNo X0.here hx rfl (hb hby d12_13) rfl (flt hc7).1 k₀
      show Owes _ _ _ _ (s₁.setTop (mkF m 16 #[.val (.int p0), .val (.int p1), .val (.int p2), .val (.int p3), .val (.int p0)] []))
      refine Owes.go ?_ fun t₀ k₀ => XS.iload X0.here hx rfl (hb hby d12_16) rfl k₀
      show Owes _ _ _ _ (s₁.setTop (mkF m 18 #[.val (.int p0), .val (.int p1), .val (.int p2), .val (.int p3), .val (.int p0)] [(.int p0)]))
      by_cases hc11 : p0 < (0 : Int32)
      · skip
        refine Owes.go ?_ fun t₀ k₀ => XS.ifYes X0.here hx rfl (pc0 := 18) (pc' := 27) rfl (hb hby d12_18) rfl ((if0 _ _).trans (tlt hc11).1) (by decide) (by decide) k₀
        show Owes _ _ _ _ (s₁.setTop (mkF m 27 #[.val (.int p0), .val (.int p1), .val (.int p2), .val (.int p3), .val (.int p0)] []))
        refine Owes.go ?_ fun t₀ k₀ => XS.iloadN X0.here hx rfl (hb hby d12_27) rfl k₀
        show Owes _ _ _ _ (s₁.setTop (mkF m 28 #[.val (.int p0), .val (.int p1), .val (.int p2), .val (.int p3), .val (.int p0)] [(.int p1)]))
        refine Owes.go ?_ fun t₀ k₀ => XS.istore X0.here hx rfl (hb hby d12_28) rfl (l' := #[.val (.int p0), .val (.int p1), .val (.int p2), .val (.int p3), .val (.int p1)]) rfl k₀
        show Owes _ _ _ _ (s₁.setTop (mkF m 30 #[.val (.int p0), .val (.int p1), .val (.int p2), .val (.int p3), .val (.int p1)] []))
        refine Owes.go ?_ fun t₀ k₀ => XS.iloadN X0.here hx rfl (hb hby d12_30) rfl k₀
        show Owes _ _ _ _ (s₁.setTop (mkF m 31 #[.val (.int p0), .val (.int p1), .val (.int p2), .val (.int p3), .val (.int p1)] [(.int p2)]))
        refine Owes.go ?_ fun t₀ k₀ => XS.iloadN X0.here hx rfl (hb hby d12_31) rfl k₀
        show Owes _ _ _ _ (s₁.setTop (mkF m 32 #[.val (.int p0), .val (.int p1), .val (.int p2), .val (.int p3), .val (.int p1)] [(.int p3), (.int p2)]))
        by_cases hc12 : p2 < p3
        · skip
          refine Owes.go ?_ fun t₀ k₀ => XS.icmpYes X0.here hx rfl (pc0 := 32) (pc' := 49) rfl (hb hby d12_32) rfl (tlt hc12).1 (by decide) (by decide) k₀
          show Owes _ _ _ _ (s₁.setTop (mkF m 49 #[.val (.int p0), .val (.int p1), .val (.int p2), .val (.int p3), .val (.int p1)] []))
          refine Owes.go ?_ fun t₀ k₀ => XS.iload X0.here hx rfl (hb hby d12_49) rfl k₀
          show Owes _ _ _ _ (s₁.setTop (mkF m 51 #[.val (.int p0), .val (.int p1), .val (.int p2), .val (.int p3), .val (.int p1)] [(.int p1)]))
          exact Owes.retI X0 hx hlk hret (hb hby d12_51) (by decide) (by decide) ⟨congrArg (fun z => some (Value.int z)) (by unfold f_nr; rw [if_neg hc1, if_neg hc7, if_pos hc11, if_pos hc12]; first | done | rfl), rfl, e0⟩
        · skip
          refine Owes.go ?_ fun t₀ k₀ => XS.icmpNo X0.here hx rfl (hb hby d12_32) rfl (flt hc12).1 k₀
          show Owes _ _ _ _ (s₁.setTop (mkF m 35 #[.val (.int p0), .val (.int p1), .val (.int p2), .val (.int p3), .val (.int p1)] []))
          refine Owes.go ?_ fun t₀ k₀ => XS.iload X0.here hx rfl (hb hby d12_35) rfl k₀
          show Owes _ _ _ _ (s₁.setTop (mkF m 37 #[.val (.int p0), .val (.int p1), .val (.int p2), .val (.int p3), .val (.int p1)] [(.int p1)]))
          by_cases hc13 : p1 < (0 : Int32)
          · skip
            refine Owes.go ?_ fun t₀ k₀ => XS.ifYes X0.here hx rfl (pc0 := 37) (pc' := 46) rfl (hb hby d12_37) rfl ((if0 _ _).trans (tlt hc13).1) (by decide) (by decide) k₀
            show Owes _ _ _ _ (s₁.setTop (mkF m 46 #[.val (.int p0), .val (.int p1), .val (.int p2), .val (.int p3), .val (.int p1)] []))
            refine Owes.go ?_ fun t₀ k₀ => XS.iloadN X0.here hx rfl (hb hby d12_46) rfl k₀
            show Owes _ _ _ _ (s₁.setTop (mkF m 47 #[.val (.int p0), .val (.int p1), .val (.int p2), .val (.int p3), .val (.int p1)] [(.int p2)]))
            refine Owes.go ?_ fun t₀ k₀ => XS.istore X0.here hx rfl (hb hby d12_47) rfl (l' := #[.val (.int p0), .val (.int p1), .val (.int p2), .val (.int p3), .val (.int p2)]) rfl k₀
            show Owes _ _ _ _ (s₁.setTop (mkF m 49 #[.val (.int p0), .val (.int p1), .val (.int p2), .val (.int p3), .val (.int p2)] []))
            refine Owes.go ?_ fun t₀ k₀ => XS.iload X0.here hx rfl (hb hby d12_49) rfl k₀
            show Owes _ _ _ _ (s₁.setTop (mkF m 51 #[.val (.int p0), .val (.int p1), .val (.int p2), .val (.int p3), .val (.int p2)] [(.int p2)]))
            exact Owes.retI X0 hx hlk hret (hb hby d12_51) (by decide) (by decide) ⟨congrArg (fun z => some (Value.int z)) (by unfold f_nr; rw [if_neg hc1, if_neg hc7, if_pos hc11, if_neg hc12, if_pos hc13]; first | done | rfl), rfl, e0⟩
          · skip
            refine Owes.go ?_ fun t₀ k₀ => XS.ifNo X0.here hx rfl (hb hby d12_37) rfl ((if0 _ _).trans (flt hc13).1) k₀
            show Owes _ _ _ _ (s₁.setTop (mkF m 40 #[.val (.int p0), .val (.int p1), .val (.int p2), .val (.int p3), .val (.int p1)] []))
            refine Owes.go ?_ fun t₀ k₀ => XS.iloadN X0.here hx rfl (hb hby d12_40) rfl k₀
            show Owes _ _ _ _ (s₁.setTop (mkF m 41 #[.val (.int p0), .val (.int p1), .val (.int p2), .val (.int p3), .val (.int p1)] [(.int p2)]))
            refine Owes.go ?_ fun t₀ k₀ => XS.iload X0.here hx rfl (hb hby d12_41) rfl k₀
            show Owes _ _ _ _ (s₁.setTop (mkF m 43 #[.val (.int p0), .val (.int p1), .val (.int p2), .val (.int p3), .val (.int p1)] [(.int p1), (.int p2)]))
            by_cases hc14 : p2 < p1
            · skip
              refine Owes.go ?_ fun t₀ k₀ => XS.icmpNo X0.here hx rfl (hb hby d12_43) rfl (tlt hc14).2.1 k₀
              show Owes _ _ _ _ (s₁.setTop (mkF m 46 #[.val (.int p0), .val (.int p1), .val (.int p2), .val (.int p3), .val (.int p1)] []))
              refine Owes.go ?_ fun t₀ k₀ => XS.iloadN X0.here hx rfl (hb hby d12_46) rfl k₀
              show Owes _ _ _ _ (s₁.setTop (mkF m 47 #[.val (.int p0), .val (.int p1), .val (.int p2), .val (.int p3), .val (.int p1)] [(.int p2)]))
              refine Owes.go ?_ fun t₀ k₀ => XS.istore X0.here hx rfl (hb hby d12_47) rfl (l' := #[.val (.int p0), .val (.int p1), .val (.int p2), .val (.int p3), .val (.int p2)]) rfl k₀
              show Owes _ _ _ _ (s₁.setTop (mkF m 49 #[.val (.int p0), .val (.int p1), .val (.int p2), .val (.int p3), .val (.int p2)] []))
              refine Owes.go ?_ fun t₀ k₀ => XS.iload X0.here hx rfl (hb hby d12_49) rfl k₀
              show Owes _ _ _ _ (s₁.setTop (mkF m 51 #[.val (.int p0), .val (.int p1), .val (.int p2), .val (.int p3), .val (.int p2)] [(.int p2)]))
              exact Owes.retI X0 hx hlk hret (hb hby d12_51) (by decide) (by decide) ⟨congrArg (fun z => some (Value.int z)) (by unfold f_nr; rw [if_neg hc1, if_neg hc7, if_pos hc11, if_neg hc12, if_neg hc13, if_pos hc14]; first | done | rfl), rfl, e0⟩
            · skip
              refine Owes.go ?_ fun t₀ k₀ => XS.icmpYes X0.here hx rfl (pc0 := 43) (pc' := 49) rfl (hb hby d12_43) rfl (flt hc14).2.1 (by decide) (by decide) k₀
              show Owes _ _ _ _ (s₁.setTop (mkF m 49 #[.val (.int p0), .val (.int p1), .val (.int p2), .val (.int p3), .val (.int p1)] []))
              refine Owes.go ?_ fun t₀ k₀ => XS.iload X0.here hx rfl (hb hby d12_49) rfl k₀
              show Owes _ _ _ _ (s₁.setTop (mkF m 51 #[.val (.int p0), .val (.int p1), .val (.int p2), .val (.int p3), .val (.int p1)] [(.int p1)]))
              exact Owes.retI X0 hx hlk hret (hb hby d12_51) (by decide) (by decide) ⟨congrArg (fun z => some (Value.int z)) (by unfold f_nr; rw [if_neg hc1, if_neg hc7, if_pos hc11, if_neg hc12, if_neg hc13, if_neg hc14]; first | done | rfl), rfl, e0⟩
      · skip
        refine Owes.go ?_ fun t₀ k₀ => XS.ifNo X0.here hx rfl (hb hby d12_18) rfl ((if0 _ _).trans (flt hc11).1) k₀
        show Owes _ _ _ _ (s₁.setTop (mkF m 21 #[.val (.int p0), .val (.int p1), .val (.int p2), .val (.int p3), .val (.int p0)] []))
        refine Owes.go ?_ fun t₀ k₀ => XS.iloadN X0.here hx rfl (hb hby d12_21) rfl k₀
        show Owes _ _ _ _ (s₁.setTop (mkF m 22 #[.val (.int p0), .val (.int p1), .val (.int p2), .val (.int p3), .val (.int p0)] [(.int p1)]))
        refine Owes.go ?_ fun t₀ k₀ => XS.iload X0.here hx rfl (hb hby d12_22) rfl k₀
        show Owes _ _ _ _ (s₁.setTop (mkF m 24 #[.val (.int p0), .val (.int p1), .val (.int p2), .val (.int p3), .val (.int p0)] [(.int p0), (.int p1)]))
        by_cases hc15 : p1 < p0
        · skip
          refine Owes.go ?_ fun t₀ k₀ => XS.icmpNo X0.here hx rfl (hb hby d12_24) rfl (tlt hc15).2.1 k₀
          show Owes _ _ _ _ (s₁.setTop (mkF m 27 #[.val (.int p0), .val (.int p1), .val (.int p2), .val (.int p3), .val (.int p0)] []))
          refine Owes.go ?_ fun t₀ k₀ => XS.iloadN X0.here hx rfl (hb hby d12_27) rfl k₀
          show Owes _ _ _ _ (s₁.setTop (mkF m 28 #[.val (.int p0), .val (.int p1), .val (.int p2), .val (.int p3), .val (.int p0)] [(.int p1)]))
          refine Owes.go ?_ fun t₀ k₀ => XS.istore X0.here hx rfl (hb hby d12_28) rfl (l' := #[.val (.int p0), .val (.int p1), .val (.int p2), .val (.int p3), .val (.int p1)]) rfl k₀
          show Owes _ _ _ _ (s₁.setTop (mkF m 30 #[.val (.int p0), .val (.int p1), .val (.int p2), .val (.int p3), .val (.int p1)] []))
          refine Owes.go ?_ fun t₀ k₀ => XS.iloadN X0.here hx rfl (hb hby d12_30) rfl k₀
          show Owes _ _ _ _ (s₁.setTop (mkF m 31 #[.val (.int p0), .val (.int p1), .val (.int p2), .val (.int p3), .val (.int p1)] [(.int p2)]))
          refine Owes.go ?_ fun t₀ k₀ => XS.iloadN X0.here hx rfl (hb hby d12_31) rfl k₀
          show Owes _ _ _ _ (s₁.setTop (mkF m 32 #[.val (.int p0), .val (.int p1), .val (.int p2), .val (.int p3), .val (.int p1)] [(.int p3), (.int p2)]))
          by_cases hc16 : p2 < p3
          · skip
            refine Owes.go ?_ fun t₀ k₀ => XS.icmpYes X0.here hx rfl (pc0 := 32) (pc' := 49) rfl (hb hby d12_32) rfl (tlt hc16).1 (by decide) (by decide) k₀
            show Owes _ _ _ _ (s₁.setTop (mkF m 49 #[.val (.int p0), .val (.int p1), .val (.int p2), .val (.int p3), .val (.int p1)] []))
            refine Owes.go ?_ fun t₀ k₀ => XS.iload X0.here hx rfl (hb hby d12_49) rfl k₀
            show Owes _ _ _ _ (s₁.setTop (mkF m 51 #[.val (.int p0), .val (.int p1), .val (.int p2), .val (.int p3), .val (.int p1)] [(.int p1)]))
            exact Owes.retI X0 hx hlk hret (hb hby d12_51) (by decide) (by decide) ⟨congrArg (fun z => some (Value.int z)) (by unfold f_nr; rw [if_neg hc1, if_neg hc7, if_neg hc11, if_pos hc15, if_pos hc16]; first | done | rfl), rfl, e0⟩
          · skip
            refine Owes.go ?_ fun t₀ k₀ => XS.icmpNo X0.here hx rfl (hb hby d12_32) rfl (flt hc16).1 k₀
            show Owes _ _ _ _ (s₁.setTop (mkF m 35 #[.val (.int p0), .val (.int p1), .val (.int p2), .val (.int p3), .val (.int p1)] []))
            refine Owes.go ?_ fun t₀ k₀ => XS.iload X0.here hx rfl (hb hby d12_35) rfl k₀
            show Owes _ _ _ _ (s₁.setTop (mkF m 37 #[.val (.int p0), .val (.int p1), .val (.int p2), .val (.int p3), .val (.int p1)] [(.int p1)]))
            by_cases hc17 : p1 < (0 : Int32)
            · skip
              refine Owes.go ?_ fun t₀ k₀ => XS.ifYes X0.here hx rfl (pc0 := 37) (pc' := 46) rfl (hb hby d12_37) rfl ((if0 _ _).trans (tlt hc17).1) (by decide) (by decide) k₀
              show Owes _ _ _ _ (s₁.setTop (mkF m 46 #[.val (.int p0), .val (.int p1), .val (.int p2), .val (.int p3), .val (.int p1)] []))
              refine Owes.go ?_ fun t₀ k₀ => XS.iloadN X0.here hx rfl (hb hby d12_46) rfl k₀
              show Owes _ _ _ _ (s₁.setTop (mkF m 47 #[.val (.int p0), .val (.int p1), .val (.int p2), .val (.int p3), .val (.int p1)] [(.int p2)]))
              refine Owes.go ?_ fun t₀ k₀ => XS.istore X0.here hx rfl (hb hby d12_47) rfl (l' := #[.val (.int p0), .val (.int p1), .val (.int p2), .val (.int p3), .val (.int p2)]) rfl k₀
              show Owes _ _ _ _ (s₁.setTop (mkF m 49 #[.val (.int p0), .val (.int p1), .val (.int p2), .val (.int p3), .val (.int p2)] []))
              refine Owes.go ?_ fun t₀ k₀ => XS.iload X0.here hx rfl (hb hby d12_49) rfl k₀
              show Owes _ _ _ _ (s₁.setTop (mkF m 51 #[.val (.int p0), .val (.int p1), .val (.int p2), .val (.int p3), .val (.int p2)] [(.int p2)]))
              exact Owes.retI X0 hx hlk hret (hb hby d12_51) (by decide) (by decide) ⟨congrArg (fun z => some (Value.int z)) (by unfold f_nr; rw [if_neg hc1, if_neg hc7, if_neg hc11, if_pos hc15, if_neg hc16, if_pos hc17]; first | done | rfl), rfl, e0⟩
            · skip
              refine Owes.go ?_ fun t₀ k₀ => XS.ifNo X0.here hx rfl (hb hby d12_37) rfl ((if0 _ _).trans (flt hc17).1) k₀
              show Owes _ _ _ _ (s₁.setTop (mkF m 40 #[.val (.int p0), .val (.int p1), .val (.int p2), .val (.int p3), .val (.int p1)] []))
              refine Owes.go ?_ fun t₀ k₀ => XS.iloadN X0.here hx rfl (hb hby d12_40) rfl k₀
              show Owes _ _ _ _ (s₁.setTop (mkF m 41 #[.val (.int p0), .val (.int p1), .val (.int p2), .val (.int p3), .val (.int p1)] [(.int p2)]))
              refine Owes.go ?_ fun t₀ k₀ => XS.iload X0.here hx rfl (hb hby d12_41) rfl k₀
              show Owes _ _ _ _ (s₁.setTop (mkF m 43 #[.val (.int p0), .val (.int p1), .val (.int p2), .val (.int p3), .val (.int p1)] [(.int p1), (.int p2)]))
              by_cases hc18 : p2 < p1
              · skip
                refine Owes.go ?_ fun t₀ k₀ => XS.icmpNo X0.here hx rfl (hb hby d12_43) rfl (tlt hc18).2.1 k₀
                show Owes _ _ _ _ (s₁.setTop (mkF m 46 #[.val (.int p0), .val (.int p1), .val (.int p2), .val (.int p3), .val (.int p1)] []))
                refine Owes.go ?_ fun t₀ k₀ => XS.iloadN X0.here hx rfl (hb hby d12_46) rfl k₀
                show Owes _ _ _ _ (s₁.setTop (mkF m 47 #[.val (.int p0), .val (.int p1), .val (.int p2), .val (.int p3), .val (.int p1)] [(.int p2)]))
                refine Owes.go ?_ fun t₀ k₀ => XS.istore X0.here hx rfl (hb hby d12_47) rfl (l' := #[.val (.int p0), .val (.int p1), .val (.int p2), .val (.int p3), .val (.int p2)]) rfl k₀
                show Owes _ _ _ _ (s₁.setTop (mkF m 49 #[.val (.int p0), .val (.int p1), .val (.int p2), .val (.int p3), .val (.int p2)] []))
                refine Owes.go ?_ fun t₀ k₀ => XS.iload X0.here hx rfl (hb hby d12_49) rfl k₀
                show Owes _ _ _ _ (s₁.setTop (mkF m 51 #[.val (.int p0), .val (.int p1), .val (.int p2), .val (.int p3), .val (.int p2)] [(.int p2)]))
                exact Owes.retI X0 hx hlk hret (hb hby d12_51) (by decide) (by decide) ⟨congrArg (fun z => some (Value.int z)) (by unfold f_nr; rw [if_neg hc1, if_neg hc7, if_neg hc11, if_pos hc15, if_neg hc16, if_neg hc17, if_pos hc18]; first | done | rfl), rfl, e0⟩
              · skip
                refine Owes.go ?_ fun t₀ k₀ => XS.icmpYes X0.here hx rfl (pc0 := 43) (pc' := 49) rfl (hb hby d12_43) rfl (flt hc18).2.1 (by decide) (by decide) k₀
                show Owes _ _ _ _ (s₁.setTop (mkF m 49 #[.val (.int p0), .val (.int p1), .val (.int p2), .val (.int p3), .val (.int p1)] []))
                refine Owes.go ?_ fun t₀ k₀ => XS.iload X0.here hx rfl (hb hby d12_49) rfl k₀
                show Owes _ _ _ _ (s₁.setTop (mkF m 51 #[.val (.int p0), .val (.int p1), .val (.int p2), .val (.int p3), .val (.int p1)] [(.int p1)]))
                exact Owes.retI X0 hx hlk hret (hb hby d12_51) (by decide) (by decide) ⟨congrArg (fun z => some (Value.int z)) (by unfold f_nr; rw [if_neg hc1, if_neg hc7, if_neg hc11, if_pos hc15, if_neg hc16, if_neg hc17, if_neg hc18]; first | done | rfl), rfl, e0⟩
        · skip
          refine Owes.go ?_ fun t₀ k₀ => XS.icmpYes X0.here hx rfl (pc0 := 24) (pc' := 30) rfl (hb hby d12_24) rfl (flt hc15).2.1 (by decide) (by decide) k₀
          show Owes _ _ _ _ (s₁.setTop (mkF m 30 #[.val (.int p0), .val (.int p1), .val (.int p2), .val (.int p3), .val (.int p0)] []))
          refine Owes.go ?_ fun t₀ k₀ => XS.iloadN X0.here hx rfl (hb hby d12_30) rfl k₀
          show Owes _ _ _ _ (s₁.setTop (mkF m 31 #[.val (.int p0), .val (.int p1), .val (.int p2), .val (.int p3), .val (.int p0)] [(.int p2)]))
          refine Owes.go ?_ fun t₀ k₀ => XS.iloadN X0.here hx rfl (hb hby d12_31) rfl k₀
          show Owes _ _ _ _ (s₁.setTop (mkF m 32 #[.val (.int p0), .val (.int p1), .val (.int p2), .val (.int p3), .val (.int p0)] [(.int p3), (.int p2)]))
          by_cases hc19 : p2 < p3
          · skip
            refine Owes.go ?_ fun t₀ k₀ => XS.icmpYes X0.here hx rfl (pc0 := 32) (pc' := 49) rfl (hb hby d12_32) rfl (tlt hc19).1 (by decide) (by decide) k₀
            show Owes _ _ _ _ (s₁.setTop (mkF m 49 #[.val (.int p0), .val (.int p1), .val (.int p2), .val (.int p3), .val (.int p0)] []))
            refine Owes.go ?_ fun t₀ k₀ => XS.iload X0.here hx rfl (hb hby d12_49) rfl k₀
            show Owes _ _ _ _ (s₁.setTop (mkF m 51 #[.val (.int p0), .val (.int p1), .val (.int p2), .val (.int p3), .val (.int p0)] [(.int p0)]))
            exact Owes.retI X0 hx hlk hret (hb hby d12_51) (by decide) (by decide) ⟨congrArg (fun z => some (Value.int z)) (by unfold f_nr; rw [if_neg hc1, if_neg hc7, if_neg hc11, if_neg hc15, if_pos hc19]; first | done | rfl), rfl, e0⟩
          · skip
            refine Owes.go ?_ fun t₀ k₀ => XS.icmpNo X0.here hx rfl (hb hby d12_32) rfl (flt hc19).1 k₀
            show Owes _ _ _ _ (s₁.setTop (mkF m 35 #[.val (.int p0), .val (.int p1), .val (.int p2), .val (.int p3), .val (.int p0)] []))
            refine Owes.go ?_ fun t₀ k₀ => XS.iload X0.here hx rfl (hb hby d12_35) rfl k₀
            show Owes _ _ _ _ (s₁.setTop (mkF m 37 #[.val (.int p0), .val (.int p1), .val (.int p2), .val (.int p3), .val (.int p0)] [(.int p0)]))
            refine Owes.go ?_ fun t₀ k₀ => XS.ifNo X0.here hx rfl (hb hby d12_37) rfl ((if0 _ _).trans (flt hc11).1) k₀
            show Owes _ _ _ _ (s₁.setTop (mkF m 40 #[.val (.int p0), .val (.int p1), .val (.int p2), .val (.int p3), .val (.int p0)] []))
            refine Owes.go ?_ fun t₀ k₀ => XS.iloadN X0.here hx rfl (hb hby d12_40) rfl k₀
            show Owes _ _ _ _ (s₁.setTop (mkF m 41 #[.val (.int p0), .val (.int p1), .val (.int p2), .val (.int p3), .val (.int p0)] [(.int p2)]))
            refine Owes.go ?_ fun t₀ k₀ => XS.iload X0.here hx rfl (hb hby d12_41) rfl k₀
            show Owes _ _ _ _ (s₁.setTop (mkF m 43 #[.val (.int p0), .val (.int p1), .val (.int p2), .val (.int p3), .val (.int p0)] [(.int p0), (.int p2)]))
            by_cases hc20 : p2 < p0
            · skip
              refine Owes.go ?_ fun t₀ k₀ => XS.icmpNo X0.here hx rfl (hb hby d12_43) rfl (tlt hc20).2.1 k₀
              show Owes _ _ _ _ (s₁.setTop (mkF m 46 #[.val (.int p0), .val (.int p1), .val (.int p2), .val (.int p3), .val (.int p0)] []))
              refine Owes.go ?_ fun t₀ k₀ => XS.iloadN X0.here hx rfl (hb hby d12_46) rfl k₀
              show Owes _ _ _ _ (s₁.setTop (mkF m 47 #[.val (.int p0), .val (.int p1), .val (.int p2), .val (.int p3), .val (.int p0)] [(.int p2)]))
              refine Owes.go ?_ fun t₀ k₀ => XS.istore X0.here hx rfl (hb hby d12_47) rfl (l' := #[.val (.int p0), .val (.int p1), .val (.int p2), .val (.int p3), .val (.int p2)]) rfl k₀
              show Owes _ _ _ _ (s₁.setTop (mkF m 49 #[.val (.int p0), .val (.int p1), .val (.int p2), .val (.int p3), .val (.int p2)] []))
              refine Owes.go ?_ fun t₀ k₀ => XS.iload X0.here hx rfl (hb hby d12_49) rfl k₀
              show Owes _ _ _ _ (s₁.setTop (mkF m 51 #[.val (.int p0), .val (.int p1), .val (.int p2), .val (.int p3), .val (.int p2)] [(.int p2)]))
              exact Owes.retI X0 hx hlk hret (hb hby d12_51) (by decide) (by decide) ⟨congrArg (fun z => some (Value.int z)) (by unfold f_nr; rw [if_neg hc1, if_neg hc7, if_neg hc11, if_neg hc15, if_neg hc19, if_pos hc20]; first | done | rfl), rfl, e0⟩
            · skip
              refine Owes.go ?_ fun t₀ k₀ => XS.icmpYes X0.here hx rfl (pc0 := 43) (pc' := 49) rfl (hb hby d12_43) rfl (flt hc20).2.1 (by decide) (by decide) k₀
              show Owes _ _ _ _ (s₁.setTop (mkF m 49 #[.val (.int p0), .val (.int p1), .val (.int p2), .val (.int p3), .val (.int p0)] []))
              refine Owes.go ?_ fun t₀ k₀ => XS.iload X0.here hx rfl (hb hby d12_49) rfl k₀
              show Owes _ _ _ _ (s₁.setTop (mkF m 51 #[.val (.int p0), .val (.int p1), .val (.int p2), .val (.int p3), .val (.int p0)] [(.int p0)]))
              exact Owes.retI X0 hx hlk hret (hb hby d12_51) (by decide) (by decide) ⟨congrArg (fun z => some (Value.int z)) (by unfold f_nr; rw [if_neg hc1, if_neg hc7, if_neg hc11, if_neg hc15, if_neg hc19, if_neg hc20]; first | done | rfl), rfl, e0⟩
theorem d13_0 : decode method_3_code 0 = .ok (.iconst (-1), 1) := by decide +kernel
theorem d13_1 : decode method_3_code 1 = .ok (.istore 4, 2) := by decide +kernel
theorem d13_3 : decode method_3_code 3 = .ok (.iload_n 0, 1) := by decide +kernel
theorem d13_4 : decode method_3_code 4 = .ok (.iload_n 3, 1) := by decide +kernel
theorem d13_5 : decode method_3_code 5 = .ok (.if_icmp .gt 12, 3) := by decide +kernel
theorem d13_17 : decode method_3_code 17 = .ok (.iload_n 1, 1) := by decide +kernel
theorem d13_18 : decode method_3_code 18 = .ok (.iload_n 3, 1) := by decide +kernel
theorem d13_19 : decode method_3_code 19 = .ok (.if_icmp .gt 12, 3) := by decide +kernel
theorem d13_31 : decode method_3_code 31 = .ok (.iload_n 2, 1) := by decide +kernel
theorem d13_32 : decode method_3_code 32 = .ok (.iload_n 3, 1) := by decide +kernel
theorem d13_33 : decode method_3_code 33 = .ok (.if_icmp .gt 12, 3) := by decide +kernel
theorem d13_45 : decode method_3_code 45 = .ok (.iload 4, 2) := by decide +kernel
theorem d13_47 : decode method_3_code 47 = .ok (.ireturn, 1) := by decide +kernel
theorem d13_36 : decode method_3_code 36 = .ok (.iload_n 2, 1) := by decide +kernel
theorem d13_37 : decode method_3_code 37 = .ok (.iload 4, 2) := by decide +kernel
theorem d13_39 : decode method_3_code 39 = .ok (.if_icmp .le 6, 3) := by decide +kernel
theorem d13_42 : decode method_3_code 42 = .ok (.iload_n 2, 1) := by decide +kernel
theorem d13_43 : decode method_3_code 43 = .ok (.istore 4, 2) := by decide +kernel
theorem d13_22 : decode method_3_code 22 = .ok (.iload_n 1, 1) := by decide +kernel
theorem d13_23 : decode method_3_code 23 = .ok (.iload 4, 2) := by decide +kernel
theorem d13_25 : decode method_3_code 25 = .ok (.if_icmp .le 6, 3) := by decide +kernel
theorem d13_28 : decode method_3_code 28 = .ok (.iload_n 1, 1) := by decide +kernel
theorem d13_29 : decode method_3_code 29 = .ok (.istore 4, 2) := by decide +kernel
theorem d13_8 : decode method_3_code 8 = .ok (.iload_n 0, 1) := by decide +kernel
theorem d13_9 : decode method_3_code 9 = .ok (.iload 4, 2) := by decide +kernel
theorem d13_11 : decode method_3_code 11 = .ok (.if_icmp .le 6, 3) := by decide +kernel
theorem d13_14 : decode method_3_code 14 = .ok (.iload_n 0, 1) := by decide +kernel
theorem d13_15 : decode method_3_code 15 = .ok (.istore 4, 2) := by decide +kernel
def f_pr (p0 : Int32) (p1 : Int32) (p2 : Int32) (p3 : Int32)  : Int32 := (if p3 < p0 then (if p3 < p1 then (if p3 < p2 then (-1 : Int32) else (if (-1 : Int32) < p2 then p2 else (-1 : Int32))) else (if (-1 : Int32) < p1 then (if p3 < p2 then p1 else (if p1 < p2 then p2 else p1)) else (if p3 < p2 then (-1 : Int32) else (if (-1 : Int32) < p2 then p2 else (-1 : Int32))))) else (if (-1 : Int32) < p0 then (if p3 < p1 then (if p3 < p2 then p0 else (if p0 < p2 then p2 else p0)) else (if p0 < p1 then (if p3 < p2 then p1 else (if p1 < p2 then p2 else p1)) else (if p3 < p2 then p0 else (if p0 < p2 then p2 else p0)))) else (if p3 < p1 then (if p3 < p2 then (-1 : Int32) else (if (-1 : Int32) < p2 then p2 else (-1 : Int32))) else (if (-1 : Int32) < p1 then (if p3 < p2 then p1 else (if p1 < p2 then p2 else p1)) else (if p3 < p2 then (-1 : Int32) else (if (-1 : Int32) < p2 then p2 else (-1 : Int32)))))))
theorem ef_13_f_pr (m : MethodId) (p0 : Int32) (p1 : Int32) (p2 : Int32) (p3 : Int32) : entryFrame m #[(.int p0), (.int p1), (.int p2), (.int p3)] 5 = mkF m 0 #[.val (.int p0), .val (.int p1), .val (.int p2), .val (.int p3), .unset] [] := by first | (simp [entryFrame, mkF, argsToLocals, Value.category]; done) | rfl
theorem pn_13 : plainFor (⟨"com/example/slotwright/slotwright/core/RankSetAddPinLaw", "prevRef", "(IIII)I"⟩ : MethodName) = true := plainFor_of_name (by first | (simp [plainName, overriddenIn]; done) | decide +kernel)
set_option maxRecDepth 65536 in
set_option maxHeartbeats 40000000 in
theorem rm_f_pr (l : Launch) (Z : State) (a0 : Array Value) (hw : ∀ d ∈ tables_1, d.before a0 Z = true) (ws : List Jvm.Cond) (p0 : Int32) (p1 : Int32) (p2 : Int32) (p3 : Int32) (h0 : Heap)  :
    OMet l (⟨"com/example/slotwright/slotwright/core/RankSetAddPinLaw", "prevRef", "(IIII)I"⟩ : MethodName) method_3_code 5 (some .int) ws ({ frames := 0, cells := 0, slots := 0, locals := 0 } : Room) #[(.int p0), (.int p1), (.int p2), (.int p3)] Z h0 (fun v h L => v = some (Value.int (f_pr p0 p1 p2 p3)) ∧ L = [] ∧ h = h0) := by
  refine OMet.of pn_13 (fun m => ef_13_f_pr m p0 p1 p2 p3) ?_
  intro p e s m below meth c s₁ hx hby hml hown hnm hret hlk hZ X0 e0
  refine Owes.go ?_ fun t₀ k₀ => XS.iconst X0.here hx rfl (hb hby d13_0) k₀
  show Owes _ _ _ _ (s₁.setTop (mkF m 1 #[.val (.int p0), .val (.int p1), .val (.int p2), .val (.int p3), .unset] [(.int (-1 : Int32))]))
  refine Owes.go ?_ fun t₀ k₀ => XS.istore X0.here hx rfl (hb hby d13_1) rfl (l' := #[.val (.int p0), .val (.int p1), .val (.int p2), .val (.int p3), .val (.int (-1 : Int32))]) rfl k₀
  show Owes _ _ _ _ (s₁.setTop (mkF m 3 #[.val (.int p0), .val (.int p1), .val (.int p2), .val (.int p3), .val (.int (-1 : Int32))] []))
  refine Owes.go ?_ fun t₀ k₀ => XS.iloadN X0.here hx rfl (hb hby d13_3) rfl k₀
  show Owes _ _ _ _ (s₁.setTop (mkF m 4 #[.val (.int p0), .val (.int p1), .val (.int p2), .val (.int p3), .val (.int (-1 : Int32))] [(.int p0)]))
  refine Owes.go ?_ fun t₀ k₀ => XS.iloadN X0.here hx rfl (hb hby d13_4) rfl k₀
  show Owes _ _ _ _ (s₁.setTop (mkF m 5 #[.val (.int p0), .val (.int p1), .val (.int p2), .val (.int p3), .val (.int (-1 : Int32))] [(.int p3), (.int p0)]))
  by_cases hc1 : p3 < p0
  · skip
    refine Owes.go ?_ fun t₀ k₀ => XS.icmpYes X0.here hx rfl (pc0 := 5) (pc' := 17) rfl (hb hby d13_5) rfl (tlt hc1).2.2.1 (by decide) (by decide) k₀
    show Owes _ _ _ _ (s₁.setTop (mkF m 17 #[.val (.int p0), .val (.int p1), .val (.int p2), .val (.int p3), .val (.int (-1 : Int32))] []))
    refine Owes.go ?_ fun t₀ k₀ => XS.iloadN X0.here hx rfl (hb hby d13_17) rfl k₀
    show Owes _ _ _ _ (s₁.setTop (mkF m 18 #[.val (.int p0), .val (.int p1), .val (.int p2), .val (.int p3), .val (.int (-1 : Int32))] [(.int p1)]))
    refine Owes.go ?_ fun t₀ k₀ => XS.iloadN X0.here hx rfl (hb hby d13_18) rfl k₀
    show Owes _ _ _ _ (s₁.setTop (mkF m 19 #[.val (.int p0), .val (.int p1), .val (.int p2), .val (.int p3), .val (.int (-1 : Int32))] [(.int p3), (.int p1)]))
    by_cases hc2 : p3 < p1
    · skip
      refine Owes.go ?_ fun t₀ k₀ => XS.icmpYes X0.here hx rfl (pc0 := 19) (pc' := 31) rfl (hb hby d13_19) rfl (tlt hc2).2.2.1 (by decide) (by decide) k₀
      show Owes _ _ _ _ (s₁.setTop (mkF m 31 #[.val (.int p0), .val (.int p1), .val (.int p2), .val (.int p3), .val (.int (-1 : Int32))] []))
      refine Owes.go ?_ fun t₀ k₀ => XS.iloadN X0.here hx rfl (hb hby d13_31) rfl k₀
      show Owes _ _ _ _ (s₁.setTop (mkF m 32 #[.val (.int p0), .val (.int p1), .val (.int p2), .val (.int p3), .val (.int (-1 : Int32))] [(.int p2)]))
      refine Owes.go ?_ fun t₀ k₀ => XS.iloadN X0.here hx rfl (hb hby d13_32) rfl k₀
      show Owes _ _ _ _ (s₁.setTop (mkF m 33 #[.val (.int p0), .val (.int p1), .val (.int p2), .val (.int p3), .val (.int (-1 : Int32))] [(.int p3), (.int p2)]))
      by_cases hc3 : p3 < p2
      · skip
        refine Owes.go ?_ fun t₀ k₀ => XS.icmpYes X0.here hx rfl (pc0 := 33) (pc' := 45) rfl (hb hby d13_33) rfl (tlt hc3).2.2.1 (by decide) (by decide) k₀
        show Owes _ _ _ _ (s₁.setTop (mkF m 45 #[.val (.int p0), .val (.int p1), .val (.int p2), .val (.int p3), .val (.int (-1 : Int32))] []))
        refine Owes.go ?_ fun t₀ k₀ => XS.iload X0.here hx rfl (hb hby d13_45) rfl k₀
        show Owes _ _ _ _ (s₁.setTop (mkF m 47 #[.val (.int p0), .val (.int p1), .val (.int p2), .val (.int p3), .val (.int (-1 : Int32))] [(.int (-1 : Int32))]))
        exact Owes.retI X0 hx hlk hret (hb hby d13_47) (by decide) (by decide) ⟨congrArg (fun z => some (Value.int z)) (by unfold f_pr; rw [if_pos hc1, if_pos hc2, if_pos hc3]; first | done | rfl), rfl, e0⟩
      · skip
        refine Owes.go ?_ fun t₀ k₀ => XS.icmpNo X0.here hx rfl (hb hby d13_33) rfl (flt hc3).2.2.1 k₀
        show Owes _ _ _ _ (s₁.setTop (mkF m 36 #[.val (.int p0), .val (.int p1), .val (.int p2), .val (.int p3), .val (.int (-1 : Int32))] []))
        refine Owes.go ?_ fun t₀ k₀ => XS.iloadN X0.here hx rfl (hb hby d13_36) rfl k₀
        show Owes _ _ _ _ (s₁.setTop (mkF m 37 #[.val (.int p0), .val (.int p1), .val (.int p2), .val (.int p3), .val (.int (-1 : Int32))] [(.int p2)]))
        refine Owes.go ?_ fun t₀ k₀ => XS.iload X0.here hx rfl (hb hby d13_37) rfl k₀
        show Owes _ _ _ _ (s₁.setTop (mkF m 39 #[.val (.int p0), .val (.int p1), .val (.int p2), .val (.int p3), .val (.int (-1 : Int32))] [(.int (-1 : Int32)), (.int p2)]))
        by_cases hc4 : (-1 : Int32) < p2
        · skip
          refine Owes.go ?_ fun t₀ k₀ => XS.icmpNo X0.here hx rfl (hb hby d13_39) rfl (tlt hc4).2.2.2 k₀
          show Owes _ _ _ _ (s₁.setTop (mkF m 42 #[.val (.int p0), .val (.int p1), .val (.int p2), .val (.int p3), .val (.int (-1 : Int32))] []))
          refine Owes.go ?_ fun t₀ k₀ => XS.iloadN X0.here hx rfl (hb hby d13_42) rfl k₀
          show Owes _ _ _ _ (s₁.setTop (mkF m 43 #[.val (.int p0), .val (.int p1), .val (.int p2), .val (.int p3), .val (.int (-1 : Int32))] [(.int p2)]))
          refine Owes.go ?_ fun t₀ k₀ => XS.istore X0.here hx rfl (hb hby d13_43) rfl (l' := #[.val (.int p0), .val (.int p1), .val (.int p2), .val (.int p3), .val (.int p2)]) rfl k₀
          show Owes _ _ _ _ (s₁.setTop (mkF m 45 #[.val (.int p0), .val (.int p1), .val (.int p2), .val (.int p3), .val (.int p2)] []))
          refine Owes.go ?_ fun t₀ k₀ => XS.iload X0.here hx rfl (hb hby d13_45) rfl k₀
          show Owes _ _ _ _ (s₁.setTop (mkF m 47 #[.val (.int p0), .val (.int p1), .val (.int p2), .val (.int p3), .val (.int p2)] [(.int p2)]))
          exact Owes.retI X0 hx hlk hret (hb hby d13_47) (by decide) (by decide) ⟨congrArg (fun z => some (Value.int z)) (by unfold f_pr; rw [if_pos hc1, if_pos hc2, if_neg hc3, if_pos hc4]; first | done | rfl), rfl, e0⟩
        · skip
          refine Owes.go ?_ fun t₀ k₀ => XS.icmpYes X0.here hx rfl (pc0 := 39) (pc' := 45) rfl (hb hby d13_39) rfl (flt hc4).2.2.2 (by decide) (by decide) k₀
          show Owes _ _ _ _ (s₁.setTop (mkF m 45 #[.val (.int p0), .val (.int p1), .val (.int p2), .val (.int p3), .val (.int (-1 : Int32))] []))
          refine Owes.go ?_ fun t₀ k₀ => XS.iload X0.here hx rfl (hb hby d13_45) rfl k₀
          show Owes _ _ _ _ (s₁.setTop (mkF m 47 #[.val (.int p0), .val (.int p1), .val (.int p2), .val (.int p3), .val (.int (-1 : Int32))] [(.int (-1 : Int32))]))
          exact Owes.retI X0 hx hlk hret (hb hby d13_47) (by decide) (by decide) ⟨congrArg (fun z => some (Value.int z)) (by unfold f_pr; rw [if_pos hc1, if_pos hc2, if_neg hc3, if_neg hc4]; first | done | rfl), rfl, e0⟩
    · skip
      refine Owes.go ?_ fun t₀ k₀ => XS.icmpNo X0.here hx rfl (hb hby d13_19) rfl (flt hc2).2.2.1 k₀
      show Owes _ _ _ _ (s₁.setTop (mkF m 22 #[.val (.int p0), .val (.int p1), .val (.int p2), .val (.int p3), .val (.int (-1 : Int32))] []))
      refine Owes.go ?_ fun t₀ k₀ => XS.iloadN X0.here hx rfl (hb hby d13_22) rfl k₀
      show Owes _ _ _ _ (s₁.setTop (mkF m 23 #[.val (.int p0), .val (.int p1), .val (.int p2), .val (.int p3), .val (.int (-1 : Int32))] [(.int p1)]))
      refine Owes.go ?_ fun t₀ k₀ => XS.iload X0.here hx rfl (hb hby d13_23) rfl k₀
      show Owes _ _ _ _ (s₁.setTop (mkF m 25 #[.val (.int p0), .val (.int p1), .val (.int p2), .val (.int p3), .val (.int (-1 : Int32))] [(.int (-1 : Int32)), (.int p1)]))
      by_cases hc5 : (-1 : Int32) < p1
      · skip
        refine Owes.go ?_ fun t₀ k₀ => XS.icmpNo X0.here hx rfl (hb hby d13_25) rfl (tlt hc5).2.2.2 k₀
        show Owes _ _ _ _ (s₁.setTop (mkF m 28 #[.val (.int p0), .val (.int p1), .val (.int p2), .val (.int p3), .val (.int (-1 : Int32))] []))
        refine Owes.go ?_ fun t₀ k₀ => XS.iloadN X0.here hx rfl (hb hby d13_28) rfl k₀
        show Owes _ _ _ _ (s₁.setTop (mkF m 29 #[.val (.int p0), .val (.int p1), .val (.int p2), .val (.int p3), .val (.int (-1 : Int32))] [(.int p1)]))
        refine Owes.go ?_ fun t₀ k₀ => XS.istore X0.here hx rfl (hb hby d13_29) rfl (l' := #[.val (.int p0), .val (.int p1), .val (.int p2), .val (.int p3), .val (.int p1)]) rfl k₀
        show Owes _ _ _ _ (s₁.setTop (mkF m 31 #[.val (.int p0), .val (.int p1), .val (.int p2), .val (.int p3), .val (.int p1)] []))
        refine Owes.go ?_ fun t₀ k₀ => XS.iloadN X0.here hx rfl (hb hby d13_31) rfl k₀
        show Owes _ _ _ _ (s₁.setTop (mkF m 32 #[.val (.int p0), .val (.int p1), .val (.int p2), .val (.int p3), .val (.int p1)] [(.int p2)]))
        refine Owes.go ?_ fun t₀ k₀ => XS.iloadN X0.here hx rfl (hb hby d13_32) rfl k₀
        show Owes _ _ _ _ (s₁.setTop (mkF m 33 #[.val (.int p0), .val (.int p1), .val (.int p2), .val (.int p3), .val (.int p1)] [(.int p3), (.int p2)]))
        by_cases hc6 : p3 < p2
        · skip
          refine Owes.go ?_ fun t₀ k₀ => XS.icmpYes X0.here hx rfl (pc0 := 33) (pc' := 45) rfl (hb hby d13_33) rfl (tlt hc6).2.2.1 (by decide) (by decide) k₀
          show Owes _ _ _ _ (s₁.setTop (mkF m 45 #[.val (.int p0), .val (.int p1), .val (.int p2), .val (.int p3), .val (.int p1)] []))
          refine Owes.go ?_ fun t₀ k₀ => XS.iload X0.here hx rfl (hb hby d13_45) rfl k₀
          show Owes _ _ _ _ (s₁.setTop (mkF m 47 #[.val (.int p0), .val (.int p1), .val (.int p2), .val (.int p3), .val (.int p1)] [(.int p1)]))
          exact Owes.retI X0 hx hlk hret (hb hby d13_47) (by decide) (by decide) ⟨congrArg (fun z => some (Value.int z)) (by unfold f_pr; rw [if_pos hc1, if_neg hc2, if_pos hc5, if_pos hc6]; first | done | rfl), rfl, e0⟩
        · skip
          refine Owes.go ?_ fun t₀ k₀ => XS.icmpNo X0.here hx rfl (hb hby d13_33) rfl (flt hc6).2.2.1 k₀
          show Owes _ _ _ _ (s₁.setTop (mkF m 36 #[.val (.int p0), .val (.int p1), .val (.int p2), .val (.int p3), .val (.int p1)] []))
          refine Owes.go ?_ fun t₀ k₀ => XS.iloadN X0.here hx rfl (hb hby d13_36) rfl k₀
          show Owes _ _ _ _ (s₁.setTop (mkF m 37 #[.val (.int p0), .val (.int p1), .val (.int p2), .val (.int p3), .val (.int p1)] [(.int p2)]))
          refine Owes.go ?_ fun t₀ k₀ => XS.iload X0.here hx rfl (hb hby d13_37) rfl k₀
          show Owes _ _ _ _ (s₁.setTop (mkF m 39 #[.val (.int p0), .val (.int p1), .val (.int p2), .val (.int p3), .val (.int p1)] [(.int p1), (.int p2)]))
          by_cases hc7 : p1 < p2
          · skip
            refine Owes.go ?_ fun t₀ k₀ => XS.icmpNo X0.here hx rfl (hb hby d13_39) rfl (tlt hc7).2.2.2 k₀
            show Owes _ _ _ _ (s₁.setTop (mkF m 42 #[.val (.int p0), .val (.int p1), .val (.int p2), .val (.int p3), .val (.int p1)] []))
            refine Owes.go ?_ fun t₀ k₀ => XS.iloadN X0.here hx rfl (hb hby d13_42) rfl k₀
            show Owes _ _ _ _ (s₁.setTop (mkF m 43 #[.val (.int p0), .val (.int p1), .val (.int p2), .val (.int p3), .val (.int p1)] [(.int p2)]))
            refine Owes.go ?_ fun t₀ k₀ => XS.istore X0.here hx rfl (hb hby d13_43) rfl (l' := #[.val (.int p0), .val (.int p1), .val (.int p2), .val (.int p3), .val (.int p2)]) rfl k₀
            show Owes _ _ _ _ (s₁.setTop (mkF m 45 #[.val (.int p0), .val (.int p1), .val (.int p2), .val (.int p3), .val (.int p2)] []))
            refine Owes.go ?_ fun t₀ k₀ => XS.iload X0.here hx rfl (hb hby d13_45) rfl k₀
            show Owes _ _ _ _ (s₁.setTop (mkF m 47 #[.val (.int p0), .val (.int p1), .val (.int p2), .val (.int p3), .val (.int p2)] [(.int p2)]))
            exact Owes.retI X0 hx hlk hret (hb hby d13_47) (by decide) (by decide) ⟨congrArg (fun z => some (Value.int z)) (by unfold f_pr; rw [if_pos hc1, if_neg hc2, if_pos hc5, if_neg hc6, if_pos hc7]; first | done | rfl), rfl, e0⟩
          · skip
            refine Owes.go ?_ fun t₀ k₀ => XS.icmpYes X0.here hx rfl (pc0 := 39) (pc' := 45) rfl (hb hby d13_39) rfl (flt hc7).2.2.2 (by decide) (by decide) k₀
            show Owes _ _ _ _ (s₁.setTop (mkF m 45 #[.val (.int p0), .val (.int p1), .val (.int p2), .val (.int p3), .val (.int p1)] []))
            refine Owes.go ?_ fun t₀ k₀ => XS.iload X0.here hx rfl (hb hby d13_45) rfl k₀
            show Owes _ _ _ _ (s₁.setTop (mkF m 47 #[.val (.int p0), .val (.int p1), .val (.int p2), .val (.int p3), .val (.int p1)] [(.int p1)]))
            exact Owes.retI X0 hx hlk hret (hb hby d13_47) (by decide) (by decide) ⟨congrArg (fun z => some (Value.int z)) (by unfold f_pr; rw [if_pos hc1, if_neg hc2, if_pos hc5, if_neg hc6, if_neg hc7]; first | done | rfl), rfl, e0⟩
      · skip
        refine Owes.go ?_ fun t₀ k₀ => XS.icmpYes X0.here hx rfl (pc0 := 25) (pc' := 31) rfl (hb hby d13_25) rfl (flt hc5).2.2.2 (by decide) (by decide) k₀
        show Owes _ _ _ _ (s₁.setTop (mkF m 31 #[.val (.int p0), .val (.int p1), .val (.int p2), .val (.int p3), .val (.int (-1 : Int32))] []))
        refine Owes.go ?_ fun t₀ k₀ => XS.iloadN X0.here hx rfl (hb hby d13_31) rfl k₀
        show Owes _ _ _ _ (s₁.setTop (mkF m 32 #[.val (.int p0), .val (.int p1), .val (.int p2), .val (.int p3), .val (.int (-1 : Int32))] [(.int p2)]))
        refine Owes.go ?_ fun t₀ k₀ => XS.iloadN X0.here hx rfl (hb hby d13_32) rfl k₀
        show Owes _ _ _ _ (s₁.setTop (mkF m 33 #[.val (.int p0), .val (.int p1), .val (.int p2), .val (.int p3), .val (.int (-1 : Int32))] [(.int p3), (.int p2)]))
        by_cases hc8 : p3 < p2
        · skip
          refine Owes.go ?_ fun t₀ k₀ => XS.icmpYes X0.here hx rfl (pc0 := 33) (pc' := 45) rfl (hb hby d13_33) rfl (tlt hc8).2.2.1 (by decide) (by decide) k₀
          show Owes _ _ _ _ (s₁.setTop (mkF m 45 #[.val (.int p0), .val (.int p1), .val (.int p2), .val (.int p3), .val (.int (-1 : Int32))] []))
          refine Owes.go ?_ fun t₀ k₀ => XS.iload X0.here hx rfl (hb hby d13_45) rfl k₀
          show Owes _ _ _ _ (s₁.setTop (mkF m 47 #[.val (.int p0), .val (.int p1), .val (.int p2), .val (.int p3), .val (.int (-1 : Int32))] [(.int (-1 : Int32))]))
          exact Owes.retI X0 hx hlk hret (hb hby d13_47) (by decide) (by decide) ⟨congrArg (fun z => some (Value.int z)) (by unfold f_pr; rw [if_pos hc1, if_neg hc2, if_neg hc5, if_pos hc8]; first | done | rfl), rfl, e0⟩
        · skip
          refine Owes.go ?_ fun t₀ k₀ => XS.icmpNo X0.here hx rfl (hb hby d13_33) rfl (flt hc8).2.2.1 k₀
          show Owes _ _ _ _ (s₁.setTop (mkF m 36 #[.val (.int p0), .val (.int p1), .val (.int p2), .val (.int p3), .val (.int (-1 : Int32))] []))
          refine Owes.go ?_ fun t₀ k₀ => XS.iloadN X0.here hx rfl (hb hby d13_36) rfl k₀
          show Owes _ _ _ _ (s₁.setTop (mkF m 37 #[.val (.int p0), .val (.int p1), .val (.int p2), .val (.int p3), .val (.int (-1 : Int32))] [(.int p2)]))
          refine Owes.go ?_ fun t₀ k₀ => XS.iload X0.here hx rfl (hb hby d13_37) rfl k₀
          show Owes _ _ _ _ (s₁.setTop (mkF m 39 #[.val (.int p0), .val (.int p1), .val (.int p2), .val (.int p3), .val (.int (-1 : Int32))] [(.int (-1 : Int32)), (.int p2)]))
          by_cases hc9 : (-1 : Int32) < p2
          · skip
            refine Owes.go ?_ fun t₀ k₀ => XS.icmpNo X0.here hx rfl (hb hby d13_39) rfl (tlt hc9).2.2.2 k₀
            show Owes _ _ _ _ (s₁.setTop (mkF m 42 #[.val (.int p0), .val (.int p1), .val (.int p2), .val (.int p3), .val (.int (-1 : Int32))] []))
            refine Owes.go ?_ fun t₀ k₀ => XS.iloadN X0.here hx rfl (hb hby d13_42) rfl k₀
            show Owes _ _ _ _ (s₁.setTop (mkF m 43 #[.val (.int p0), .val (.int p1), .val (.int p2), .val (.int p3), .val (.int (-1 : Int32))] [(.int p2)]))
            refine Owes.go ?_ fun t₀ k₀ => XS.istore X0.here hx rfl (hb hby d13_43) rfl (l' := #[.val (.int p0), .val (.int p1), .val (.int p2), .val (.int p3), .val (.int p2)]) rfl k₀
            show Owes _ _ _ _ (s₁.setTop (mkF m 45 #[.val (.int p0), .val (.int p1), .val (.int p2), .val (.int p3), .val (.int p2)] []))
            refine Owes.go ?_ fun t₀ k₀ => XS.iload X0.here hx rfl (hb hby d13_45) rfl k₀
            show Owes _ _ _ _ (s₁.setTop (mkF m 47 #[.val (.int p0), .val (.int p1), .val (.int p2), .val (.int p3), .val (.int p2)] [(.int p2)]))
            exact Owes.retI X0 hx hlk hret (hb hby d13_47) (by decide) (by decide) ⟨congrArg (fun z => some (Value.int z)) (by unfold f_pr; rw [if_pos hc1, if_neg hc2, if_neg hc5, if_neg hc8, if_pos hc9]; first | done | rfl), rfl, e0⟩
          · skip
            refine Owes.go ?_ fun t₀ k₀ => XS.icmpYes X0.here hx rfl (pc0 := 39) (pc' := 45) rfl (hb hby d13_39) rfl (flt hc9).2.2.2 (by decide) (by decide) k₀
            show Owes _ _ _ _ (s₁.setTop (mkF m 45 #[.val (.int p0), .val (.int p1), .val (.int p2), .val (.int p3), .val (.int (-1 : Int32))] []))
            refine Owes.go ?_ fun t₀ k₀ => XS.iload X0.here hx rfl (hb hby d13_45) rfl k₀
            show Owes _ _ _ _ (s₁.setTop (mkF m 47 #[.val (.int p0), .val (.int p1), .val (.int p2), .val (.int p3), .val (.int (-1 : Int32))] [(.int (-1 : Int32))]))
            exact Owes.retI X0 hx hlk hret (hb hby d13_47) (by decide) (by decide) ⟨congrArg (fun z => some (Value.int z)) (by unfold f_pr; rw [if_pos hc1, if_neg hc2, if_neg hc5, if_neg hc8, if_neg hc9]; first | done | rfl), rfl, e0⟩
  · skip
    refine Owes.go ?_ fun t₀ k₀ => XS.icmpNo X0.here hx rfl (hb hby d13_5) rfl (flt hc1).2.2.1 k₀
    show Owes _ _ _ _ (s₁.setTop (mkF m 8 #[.val (.int p0), .val (.int p1), .val (.int p2), .val (.int p3), .val (.int (-1 : Int32))] []))
    refine Owes.go ?_ fun t₀ k₀ => XS.iloadN X0.here hx rfl (hb hby d13_8) rfl k₀
    show Owes _ _ _ _ (s₁.setTop (mkF m 9 #[.val (.int p0), .val (.int p1), .val (.int p2), .val (.int p3), .val (.int (-1 : Int32))] [(.int p0)]))
    refine Owes.go ?_ fun t₀ k₀ => XS.iload X0.here hx rfl (hb hby d13_9) rfl k₀
    show Owes _ _ _ _ (s₁.setTop (mkF m 11 #[.val (.int p0), .val (.int p1), .val (.int p2), .val (.int p3), .val (.int (-1 : Int32))] [(.int (-1 : Int32)), (.int p0)]))
    by_cases hc10 : (-1 : Int32) < p0
    · skip
      refine Owes.go ?_ fun t₀ k₀ => XS.icmpNo X0.here hx rfl (hb hby d13_11) rfl (tlt hc10).2.2.2 k₀
      show Owes _ _ _ _ (s₁.setTop (mkF m 14 #[.val (.int p0), .val (.int p1), .val (.int p2), .val (.int p3), .val (.int (-1 : Int32))] []))
      refine Owes.go ?_ fun t₀ k₀ => XS.iloadN X0.here hx rfl (hb hby d13_14) rfl k₀
      show Owes _ _ _ _ (s₁.setTop (mkF m 15 #[.val (.int p0), .val (.int p1), .val (.int p2), .val (.int p3), .val (.int (-1 : Int32))] [(.int p0)]))
      refine Owes.go ?_ fun t₀ k₀ => XS.istore X0.here hx rfl (hb hby d13_15) rfl (l' := #[.val (.int p0), .val (.int p1), .val (.int p2), .val (.int p3), .val (.int p0)]) rfl k₀
      show Owes _ _ _ _ (s₁.setTop (mkF m 17 #[.val (.int p0), .val (.int p1), .val (.int p2), .val (.int p3), .val (.int p0)] []))
      refine Owes.go ?_ fun t₀ k₀ => XS.iloadN X0.here hx rfl (hb hby d13_17) rfl k₀
      show Owes _ _ _ _ (s₁.setTop (mkF m 18 #[.val (.int p0), .val (.int p1), .val (.int p2), .val (.int p3), .val (.int p0)] [(.int p1)]))
      refine Owes.go ?_ fun t₀ k₀ => XS.iloadN X0.here hx rfl (hb hby d13_18) rfl k₀
      show Owes _ _ _ _ (s₁.setTop (mkF m 19 #[.val (.int p0), .val (.int p1), .val (.int p2), .val (.int p3), .val (.int p0)] [(.int p3), (.int p1)]))
      by_cases hc11 : p3 < p1
      · skip
        refine Owes.go ?_ fun t₀ k₀ => XS.icmpYes X0.here hx rfl (pc0 := 19) (pc' := 31) rfl (hb hby d13_19) rfl (tlt hc11).2.2.1 (by decide) (by decide) k₀
        show Owes _ _ _ _ (s₁.setTop (mkF m 31 #[.val (.int p0), .val (.int p1), .val (.int p2), .val (.int p3), .val (.int p0)] []))
        refine Owes.go ?_ fun t₀ k₀ => XS.iloadN X0.here hx rfl (hb hby d13_31) rfl k₀
        show Owes _ _ _ _ (s₁.setTop (mkF m 32 #[.val (.int p0), .val (.int p1), .val (.int p2), .val (.int p3), .val (.int p0)] [(.int p2)]))
        refine Owes.go ?_ fun t₀ k₀ => XS.iloadN X0.here hx rfl (hb hby d13_32) rfl k₀
        show Owes _ _ _ _ (s₁.setTop (mkF m 33 #[.val (.int p0), .val (.int p1), .val (.int p2), .val (.int p3), .val (.int p0)] [(.int p3), (.int p2)]))
        by_cases hc12 : p3 < p2
        · skip
          refine Owes.go ?_ fun t₀ k₀ => XS.icmpYes X0.here hx rfl (pc0 := 33) (pc' := 45) rfl (hb hby d13_33) rfl (tlt hc12).2.2.1 (by decide) (by decide) k₀
          show Owes _ _ _ _ (s₁.setTop (mkF m 45 #[.val (.int p0), .val (.int p1), .val (.int p2), .val (.int p3), .val (.int p0)] []))
          refine Owes.go ?_ fun t₀ k₀ => XS.iload X0.here hx rfl (hb hby d13_45) rfl k₀
          show Owes _ _ _ _ (s₁.setTop (mkF m 47 #[.val (.int p0), .val (.int p1), .val (.int p2), .val (.int p3), .val (.int p0)] [(.int p0)]))
          exact Owes.retI X0 hx hlk hret (hb hby d13_47) (by decide) (by decide) ⟨congrArg (fun z => some (Value.int z)) (by unfold f_pr; rw [if_neg hc1, if_pos hc10, if_pos hc11, if_pos hc12]; first | done | rfl), rfl, e0⟩
        · skip
          refine Owes.go ?_ fun t₀ k₀ => XS.icmpNo X0.here hx rfl (hb hby d13_33) rfl (flt hc12).2.2.1 k₀
          show Owes _ _ _ _ (s₁.setTop (mkF m 36 #[.val (.int p0), .val (.int p1), .val (.int p2), .val (.int p3), .val (.int p0)] []))
          refine Owes.go ?_ fun t₀ k₀ => XS.iloadN X0.here hx rfl (hb hby d13_36) rfl k₀
          show Owes _ _ _ _ (s₁.setTop (mkF m 37 #[.val (.int p0), .val (.int p1), .val (.int p2), .val (.int p3), .val (.int p0)] [(.int p2)]))
          refine Owes.go ?_ fun t₀ k₀ => XS.iload X0.here hx rfl (hb hby d13_37) rfl k₀
          show Owes _ _ _ _ (s₁.setTop (mkF m 39 #[.val (.int p0), .val (.int p1), .val (.int p2), .val (.int p3), .val (.int p0)] [(.int p0), (.int p2)]))
          by_cases hc13 : p0 < p2
          · skip
            refine Owes.go ?_ fun t₀ k₀ => XS.icmpNo X0.here hx rfl (hb hby d13_39) rfl (tlt hc13).2.2.2 k₀
            show Owes _ _ _ _ (s₁.setTop (mkF m 42 #[.val (.int p0), .val (.int p1), .val (.int p2), .val (.int p3), .val (.int p0)] []))
            refine Owes.go ?_ fun t₀ k₀ => XS.iloadN X0.here hx rfl (hb hby d13_42) rfl k₀
            show Owes _ _ _ _ (s₁.setTop (mkF m 43 #[.val (.int p0), .val (.int p1), .val (.int p2), .val (.int p3), .val (.int p0)] [(.int p2)]))
            refine Owes.go ?_ fun t₀ k₀ => XS.istore X0.here hx rfl (hb hby d13_43) rfl (l' := #[.val (.int p0), .val (.int p1), .val (.int p2), .val (.int p3), .val (.int p2)]) rfl k₀
            show Owes _ _ _ _ (s₁.setTop (mkF m 45 #[.val (.int p0), .val (.int p1), .val (.int p2), .val (.int p3), .val (.int p2)] []))
            refine Owes.go ?_ fun t₀ k₀ => XS.iload X0.here hx rfl (hb hby d13_45) rfl k₀
            show Owes _ _ _ _ (s₁.setTop (mkF m 47 #[.val (.int p0), .val (.int p1), .val (.int p2), .val (.int p3), .val (.int p2)] [(.int p2)]))
            exact Owes.retI X0 hx hlk hret (hb hby d13_47) (by decide) (by decide) ⟨congrArg (fun z => some (Value.int z)) (by unfold f_pr; rw [if_neg hc1, if_pos hc10, if_pos hc11, if_neg hc12, if_pos hc13]; first | done | rfl), rfl, e0⟩
          · skip
            refine Owes.go ?_ fun t₀ k₀ => XS.icmpYes X0.here hx rfl (pc0 := 39) (pc' := 45) rfl (hb hby d13_39) rfl (flt hc13).2.2.2 (by decide) (by decide) k₀
            show Owes _ _ _ _ (s₁.setTop (mkF m 45 #[.val (.int p0), .val (.int p1), .val (.int p2), .val (.int p3), .val (.int p0)] []))
            refine Owes.go ?_ fun t₀ k₀ => XS.iload X0.here hx rfl (hb hby d13_45) rfl k₀
            show Owes _ _ _ _ (s₁.setTop (mkF m 47 #[.val (.int p0), .val (.int p1), .val (.int p2), .val (.int p3), .val (.int p0)] [(.int p0)]))
            exact Owes.retI X0 hx hlk hret (hb hby d13_47) (by decide) (by decide) ⟨congrArg (fun z => some (Value.int z)) (by unfold f_pr; rw [if_neg hc1, if_pos hc10, if_pos hc11, if_neg hc12, if_neg hc13]; first | done | rfl), rfl, e0⟩
      · skip
        refine Owes.go ?_ fun t₀ k₀ => XS.icmpNo X0.here hx rfl (hb hby d13_19) rfl (flt hc11).2.2.1 k₀
        show Owes _ _ _ _ (s₁.setTop (mkF m 22 #[.val (.int p0), .val (.int p1), .val (.int p2), .val (.int p3), .val (.int p0)] []))
        refine Owes.go ?_ fun t₀ k₀ => XS.iloadN X0.here hx rfl (hb hby d13_22) rfl k₀
        show Owes _ _ _ _ (s₁.setTop (mkF m 23 #[.val (.int p0), .val (.int p1), .val (.int p2), .val (.int p3), .val (.int p0)] [(.int p1)]))
        refine Owes.go ?_ fun t₀ k₀ => XS.iload X0.here hx rfl (hb hby d13_23) rfl k₀
        show Owes _ _ _ _ (s₁.setTop (mkF m 25 #[.val (.int p0), .val (.int p1), .val (.int p2), .val (.int p3), .val (.int p0)] [(.int p0), (.int p1)]))
        by_cases hc14 : p0 < p1
        · skip
          refine Owes.go ?_ fun t₀ k₀ => XS.icmpNo X0.here hx rfl (hb hby d13_25) rfl (tlt hc14).2.2.2 k₀
          show Owes _ _ _ _ (s₁.setTop (mkF m 28 #[.val (.int p0), .val (.int p1), .val (.int p2), .val (.int p3), .val (.int p0)] []))
          refine Owes.go ?_ fun t₀ k₀ => XS.iloadN X0.here hx rfl (hb hby d13_28) rfl k₀
          show Owes _ _ _ _ (s₁.setTop (mkF m 29 #[.val (.int p0), .val (.int p1), .val (.int p2), .val (.int p3), .val (.int p0)] [(.int p1)]))
          refine Owes.go ?_ fun t₀ k₀ => XS.istore X0.here hx rfl (hb hby d13_29) rfl (l' := #[.val (.int p0), .val (.int p1), .val (.int p2), .val (.int p3), .val (.int p1)]) rfl k₀
          show Owes _ _ _ _ (s₁.setTop (mkF m 31 #[.val (.int p0), .val (.int p1), .val (.int p2), .val (.int p3), .val (.int p1)] []))
          refine Owes.go ?_ fun t₀ k₀ => XS.iloadN X0.here hx rfl (hb hby d13_31) rfl k₀
          show Owes _ _ _ _ (s₁.setTop (mkF m 32 #[.val (.int p0), .val (.int p1), .val (.int p2), .val (.int p3), .val (.int p1)] [(.int p2)]))
          refine Owes.go ?_ fun t₀ k₀ => XS.iloadN X0.here hx rfl (hb hby d13_32) rfl k₀
          show Owes _ _ _ _ (s₁.setTop (mkF m 33 #[.val (.int p0), .val (.int p1), .val (.int p2), .val (.int p3), .val (.int p1)] [(.int p3), (.int p2)]))
          by_cases hc15 : p3 < p2
          · skip
            refine Owes.go ?_ fun t₀ k₀ => XS.icmpYes X0.here hx rfl (pc0 := 33) (pc' := 45) rfl (hb hby d13_33) rfl (tlt hc15).2.2.1 (by decide) (by decide) k₀
            show Owes _ _ _ _ (s₁.setTop (mkF m 45 #[.val (.int p0), .val (.int p1), .val (.int p2), .val (.int p3), .val (.int p1)] []))
            refine Owes.go ?_ fun t₀ k₀ => XS.iload X0.here hx rfl (hb hby d13_45) rfl k₀
            show Owes _ _ _ _ (s₁.setTop (mkF m 47 #[.val (.int p0), .val (.int p1), .val (.int p2), .val (.int p3), .val (.int p1)] [(.int p1)]))
            exact Owes.retI X0 hx hlk hret (hb hby d13_47) (by decide) (by decide) ⟨congrArg (fun z => some (Value.int z)) (by unfold f_pr; rw [if_neg hc1, if_pos hc10, if_neg hc11, if_pos hc14, if_pos hc15]; first | done | rfl), rfl, e0⟩
          · skip
            refine Owes.go ?_ fun t₀ k₀ => XS.icmpNo X0.here hx rfl (hb hby d13_33) rfl (flt hc15).2.2.1 k₀
            show Owes _ _ _ _ (s₁.setTop (mkF m 36 #[.val (.int p0), .val (.int p1), .val (.int p2), .val (.int p3), .val (.int p1)] []))
            refine Owes.go ?_ fun t₀ k₀ => XS.iloadN X0.here hx rfl (hb hby d13_36) rfl k₀
            show Owes _ _ _ _ (s₁.setTop (mkF m 37 #[.val (.int p0), .val (.int p1), .val (.int p2), .val (.int p3), .val (.int p1)] [(.int p2)]))
            refine Owes.go ?_ fun t₀ k₀ => XS.iload X0.here hx rfl (hb hby d13_37) rfl k₀
            show Owes _ _ _ _ (s₁.setTop (mkF m 39 #[.val (.int p0), .val (.int p1), .val (.int p2), .val (.int p3), .val (.int p1)] [(.int p1), (.int p2)]))
            by_cases hc16 : p1 < p2
            · skip
              refine Owes.go ?_ fun t₀ k₀ => XS.icmpNo X0.here hx rfl (hb hby d13_39) rfl (tlt hc16).2.2.2 k₀
              show Owes _ _ _ _ (s₁.setTop (mkF m 42 #[.val (.int p0), .val (.int p1), .val (.int p2), .val (.int p3), .val (.int p1)] []))
              refine Owes.go ?_ fun t₀ k₀ => XS.iloadN X0.here hx rfl (hb hby d13_42) rfl k₀
              show Owes _ _ _ _ (s₁.setTop (mkF m 43 #[.val (.int p0), .val (.int p1), .val (.int p2), .val (.int p3), .val (.int p1)] [(.int p2)]))
              refine Owes.go ?_ fun t₀ k₀ => XS.istore X0.here hx rfl (hb hby d13_43) rfl (l' := #[.val (.int p0), .val (.int p1), .val (.int p2), .val (.int p3), .val (.int p2)]) rfl k₀
              show Owes _ _ _ _ (s₁.setTop (mkF m 45 #[.val (.int p0), .val (.int p1), .val (.int p2), .val (.int p3), .val (.int p2)] []))
              refine Owes.go ?_ fun t₀ k₀ => XS.iload X0.here hx rfl (hb hby d13_45) rfl k₀
              show Owes _ _ _ _ (s₁.setTop (mkF m 47 #[.val (.int p0), .val (.int p1), .val (.int p2), .val (.int p3), .val (.int p2)] [(.int p2)]))
              exact Owes.retI X0 hx hlk hret (hb hby d13_47) (by decide) (by decide) ⟨congrArg (fun z => some (Value.int z)) (by unfold f_pr; rw [if_neg hc1, if_pos hc10, if_neg hc11, if_pos hc14, if_neg hc15, if_pos hc16]; first | done | rfl), rfl, e0⟩
            · skip
              refine Owes.go ?_ fun t₀ k₀ => XS.icmpYes X0.here hx rfl (pc0 := 39) (pc' := 45) rfl (hb hby d13_39) rfl (flt hc16).2.2.2 (by decide) (by decide) k₀
              show Owes _ _ _ _ (s₁.setTop (mkF m 45 #[.val (.int p0), .val (.int p1), .val (.int p2), .val (.int p3), .val (.int p1)] []))
              refine Owes.go ?_ fun t₀ k₀ => XS.iload X0.here hx rfl (hb hby d13_45) rfl k₀
              show Owes _ _ _ _ (s₁.setTop (mkF m 47 #[.val (.int p0), .val (.int p1), .val (.int p2), .val (.int p3), .val (.int p1)] [(.int p1)]))
              exact Owes.retI X0 hx hlk hret (hb hby d13_47) (by decide) (by decide) ⟨congrArg (fun z => some (Value.int z)) (by unfold f_pr; rw [if_neg hc1, if_pos hc10, if_neg hc11, if_pos hc14, if_neg hc15, if_neg hc16]; first | done | rfl), rfl, e0⟩
        · skip
          refine Owes.go ?_ fun t₀ k₀ => XS.icmpYes X0.here hx rfl (pc0 := 25) (pc' := 31) rfl (hb hby d13_25) rfl (flt hc14).2.2.2 (by decide) (by decide) k₀
          show Owes _ _ _ _ (s₁.setTop (mkF m 31 #[.val (.int p0), .val (.int p1), .val (.int p2), .val (.int p3), .val (.int p0)] []))
          refine Owes.go ?_ fun t₀ k₀ => XS.iloadN X0.here hx rfl (hb hby d13_31) rfl k₀
          show Owes _ _ _ _ (s₁.setTop (mkF m 32 #[.val (.int p0), .val (.int p1), .val (.int p2), .val (.int p3), .val (.int p0)] [(.int p2)]))
          refine Owes.go ?_ fun t₀ k₀ => XS.iloadN X0.here hx rfl (hb hby d13_32) rfl k₀
          show Owes _ _ _ _ (s₁.setTop (mkF m 33 #[.val (.int p0), .val (.int p1), .val (.int p2), .val (.int p3), .val (.int p0)] [(.int p3), (.int p2)]))
          by_cases hc17 : p3 < p2
          · skip
            refine Owes.go ?_ fun t₀ k₀ => XS.icmpYes X0.here hx rfl (pc0 := 33) (pc' := 45) rfl (hb hby d13_33) rfl (tlt hc17).2.2.1 (by decide) (by decide) k₀
            show Owes _ _ _ _ (s₁.setTop (mkF m 45 #[.val (.int p0), .val (.int p1), .val (.int p2), .val (.int p3), .val (.int p0)] []))
            refine Owes.go ?_ fun t₀ k₀ => XS.iload X0.here hx rfl (hb hby d13_45) rfl k₀
            show Owes _ _ _ _ (s₁.setTop (mkF m 47 #[.val (.int p0), .val (.int p1), .val (.int p2), .val (.int p3), .val (.int p0)] [(.int p0)]))
            exact Owes.retI X0 hx hlk hret (hb hby d13_47) (by decide) (by decide) ⟨congrArg (fun z => some (Value.int z)) (by unfold f_pr; rw [if_neg hc1, if_pos hc10, if_neg hc11, if_neg hc14, if_pos hc17]; first | done | rfl), rfl, e0⟩
          · skip
            refine Owes.go ?_ fun t₀ k₀ => XS.icmpNo X0.here hx rfl (hb hby d13_33) rfl (flt hc17).2.2.1 k₀
            show Owes _ _ _ _ (s₁.setTop (mkF m 36 #[.val (.int p0), .val (.int p1), .val (.int p2), .val (.int p3), .val (.int p0)] []))
            refine Owes.go ?_ fun t₀ k₀ => XS.iloadN X0.here hx rfl (hb hby d13_36) rfl k₀
            show Owes _ _ _ _ (s₁.setTop (mkF m 37 #[.val (.int p0), .val (.int p1), .val (.int p2), .val (.int p3), .val (.int p0)] [(.int p2)]))
            refine Owes.go ?_ fun t₀ k₀ => XS.iload X0.here hx rfl (hb hby d13_37) rfl k₀
            show Owes _ _ _ _ (s₁.setTop (mkF m 39 #[.val (.int p0), .val (.int p1), .val (.int p2), .val (.int p3), .val (.int p0)] [(.int p0), (.int p2)]))
            by_cases hc18 : p0 < p2
            · skip
              refine Owes.go ?_ fun t₀ k₀ => XS.icmpNo X0.here hx rfl (hb hby d13_39) rfl (tlt hc18).2.2.2 k₀
              show Owes _ _ _ _ (s₁.setTop (mkF m 42 #[.val (.int p0), .val (.int p1), .val (.int p2), .val (.int p3), .val (.int p0)] []))
              refine Owes.go ?_ fun t₀ k₀ => XS.iloadN X0.here hx rfl (hb hby d13_42) rfl k₀
              show Owes _ _ _ _ (s₁.setTop (mkF m 43 #[.val (.int p0), .val (.int p1), .val (.int p2), .val (.int p3), .val (.int p0)] [(.int p2)]))
              refine Owes.go ?_ fun t₀ k₀ => XS.istore X0.here hx rfl (hb hby d13_43) rfl (l' := #[.val (.int p0), .val (.int p1), .val (.int p2), .val (.int p3), .val (.int p2)]) rfl k₀
              show Owes _ _ _ _ (s₁.setTop (mkF m 45 #[.val (.int p0), .val (.int p1), .val (.int p2), .val (.int p3), .val (.int p2)] []))
              refine Owes.go ?_ fun t₀ k₀ => XS.iload X0.here hx rfl (hb hby d13_45) rfl k₀
              show Owes _ _ _ _ (s₁.setTop (mkF m 47 #[.val (.int p0), .val (.int p1), .val (.int p2), .val (.int p3), .val (.int p2)] [(.int p2)]))
              exact Owes.retI X0 hx hlk hret (hb hby d13_47) (by decide) (by decide) ⟨congrArg (fun z => some (Value.int z)) (by unfold f_pr; rw [if_neg hc1, if_pos hc10, if_neg hc11, if_neg hc14, if_neg hc17, if_pos hc18]; first | done | rfl), rfl, e0⟩
            · skip
              refine Owes.go ?_ fun t₀ k₀ => XS.icmpYes X0.here hx rfl (pc0 := 39) (pc' := 45) rfl (hb hby d13_39) rfl (flt hc18).2.2.2 (by decide) (by decide) k₀
              show Owes _ _ _ _ (s₁.setTop (mkF m 45 #[.val (.int p0), .val (.int p1), .val (.int p2), .val (.int p3), .val (.int p0)] []))
              refine Owes.go ?_ fun t₀ k₀ => XS.iload X0.here hx rfl (hb hby d13_45) rfl k₀
              show Owes _ _ _ _ (s₁.setTop (mkF m 47 #[.val (.int p0), .val (.int p1), .val (.int p2), .val (.int p3), .val (.int p0)] [(.int p0)]))
              exact Owes.retI X0 hx hlk hret (hb hby d13_47) (by decide) (by decide) ⟨congrArg (fun z => some (Value.int z)) (by unfold f_pr; rw [if_neg hc1, if_pos hc10, if_neg hc11, if_neg hc14, if_neg hc17, if_neg hc18]; first | done | rfl), rfl, e0⟩
    · skip
      refine Owes.go ?_ fun t₀ k₀ => XS.icmpYes X0.here hx rfl (pc0 := 11) (pc' := 17) rfl (hb hby d13_11) rfl (flt hc10).2.2.2 (by decide) (by decide) k₀
      show Owes _ _ _ _ (s₁.setTop (mkF m 17 #[.val (.int p0), .val (.int p1), .val (.int p2), .val (.int p3), .val (.int (-1 : Int32))] []))
      refine Owes.go ?_ fun t₀ k₀ => XS.iloadN X0.here hx rfl (hb hby d13_17) rfl k₀
      show Owes _ _ _ _ (s₁.setTop (mkF m 18 #[.val (.int p0), .val (.int p1), .val (.int p2), .val (.int p3), .val (.int (-1 : Int32))] [(.int p1)]))
      refine Owes.go ?_ fun t₀ k₀ => XS.iloadN X0.here hx rfl (hb hby d13_18) rfl k₀
      show Owes _ _ _ _ (s₁.setTop (mkF m 19 #[.val (.int p0), .val (.int p1), .val (.int p2), .val (.int p3), .val (.int (-1 : Int32))] [(.int p3), (.int p1)]))
      by_cases hc19 : p3 < p1
      · skip
        refine Owes.go ?_ fun t₀ k₀ => XS.icmpYes X0.here hx rfl (pc0 := 19) (pc' := 31) rfl (hb hby d13_19) rfl (tlt hc19).2.2.1 (by decide) (by decide) k₀
        show Owes _ _ _ _ (s₁.setTop (mkF m 31 #[.val (.int p0), .val (.int p1), .val (.int p2), .val (.int p3), .val (.int (-1 : Int32))] []))
        refine Owes.go ?_ fun t₀ k₀ => XS.iloadN X0.here hx rfl (hb hby d13_31) rfl k₀
        show Owes _ _ _ _ (s₁.setTop (mkF m 32 #[.val (.int p0), .val (.int p1), .val (.int p2), .val (.int p3), .val (.int (-1 : Int32))] [(.int p2)]))
        refine Owes.go ?_ fun t₀ k₀ => XS.iloadN X0.here hx rfl (hb hby d13_32) rfl k₀
        show Owes _ _ _ _ (s₁.setTop (mkF m 33 #[.val (.int p0), .val (.int p1), .val (.int p2), .val (.int p3), .val (.int (-1 : Int32))] [(.int p3), (.int p2)]))
        by_cases hc20 : p3 < p2
        · skip
          refine Owes.go ?_ fun t₀ k₀ => XS.icmpYes X0.here hx rfl (pc0 := 33) (pc' := 45) rfl (hb hby d13_33) rfl (tlt hc20).2.2.1 (by decide) (by decide) k₀
          show Owes _ _ _ _ (s₁.setTop (mkF m 45 #[.val (.int p0), .val (.int p1), .val (.int p2), .val (.int p3), .val (.int (-1 : Int32))] []))
          refine Owes.go ?_ fun t₀ k₀ => XS.iload X0.here hx rfl (hb hby d13_45) rfl k₀
          show Owes _ _ _ _ (s₁.setTop (mkF m 47 #[.val (.int p0), .val (.int p1), .val (.int p2), .val (.int p3), .val (.int (-1 : Int32))] [(.int (-1 : Int32))]))
          exact Owes.retI X0 hx hlk hret (hb hby d13_47) (by decide) (by decide) ⟨congrArg (fun z => some (Value.int z)) (by unfold f_pr; rw [if_neg hc1, if_neg hc10, if_pos hc19, if_pos hc20]; first | done | rfl), rfl, e0⟩
        · skip
          refine Owes.go ?_ fun t₀ k₀ => XS.icmpNo X0.here hx rfl (hb hby d13_33) rfl (flt hc20).2.2.1 k₀
          show Owes _ _ _ _ (s₁.setTop (mkF m 36 #[.val (.int p0), .val (.int p1), .val (.int p2), .val (.int p3), .val (.int (-1 : Int32))] []))
          refine Owes.go ?_ fun t₀ k₀ => XS.iloadN X0.here hx rfl (hb hby d13_36) rfl k₀
          show Owes _ _ _ _ (s₁.setTop (mkF m 37 #[.val (.int p0), .val (.int p1), .val (.int p2), .val (.int p3), .val (.int (-1 : Int32))] [(.int p2)]))
          refine Owes.go ?_ fun t₀ k₀ => XS.iload X0.here hx rfl (hb hby d13_37) rfl k₀
          show Owes _ _ _ _ (s₁.setTop (mkF m 39 #[.val (.int p0), .val (.int p1), .val (.int p2), .val (.int p3), .val (.int (-1 : Int32))] [(.int (-1 : Int32)), (.int p2)]))
          by_cases hc21 : (-1 : Int32) < p2
          · skip
            refine Owes.go ?_ fun t₀ k₀ => XS.icmpNo X0.here hx rfl (hb hby d13_39) rfl (tlt hc21).2.2.2 k₀
            show Owes _ _ _ _ (s₁.setTop (mkF m 42 #[.val (.int p0), .val (.int p1), .val (.int p2), .val (.int p3), .val (.int (-1 : Int32))] []))
            refine Owes.go ?_ fun t₀ k₀ => XS.iloadN X0.here hx rfl (hb hby d13_42) rfl k₀
            show Owes _ _ _ _ (s₁.setTop (mkF m 43 #[.val (.int p0), .val (.int p1), .val (.int p2), .val (.int p3), .val (.int (-1 : Int32))] [(.int p2)]))
            refine Owes.go ?_ fun t₀ k₀ => XS.istore X0.here hx rfl (hb hby d13_43) rfl (l' := #[.val (.int p0), .val (.int p1), .val (.int p2), .val (.int p3), .val (.int p2)]) rfl k₀
            show Owes _ _ _ _ (s₁.setTop (mkF m 45 #[.val (.int p0), .val (.int p1), .val (.int p2), .val (.int p3), .val (.int p2)] []))
            refine Owes.go ?_ fun t₀ k₀ => XS.iload X0.here hx rfl (hb hby d13_45) rfl k₀
            show Owes _ _ _ _ (s₁.setTop (mkF m 47 #[.val (.int p0), .val (.int p1), .val (.int p2), .val (.int p3), .val (.int p2)] [(.int p2)]))
            exact Owes.retI X0 hx hlk hret (hb hby d13_47) (by decide) (by decide) ⟨congrArg (fun z => some (Value.int z)) (by unfold f_pr; rw [if_neg hc1, if_neg hc10, if_pos hc19, if_neg hc20, if_pos hc21]; first | done | rfl), rfl, e0⟩
          · skip
            refine Owes.go ?_ fun t₀ k₀ => XS.icmpYes X0.here hx rfl (pc0 := 39) (pc' := 45) rfl (hb hby d13_39) rfl (flt hc21).2.2.2 (by decide) (by decide) k₀
            show Owes _ _ _ _ (s₁.setTop (mkF m 45 #[.val (.int p0), .val (.int p1), .val (.int p2), .val (.int p3), .val (.int (-1 : Int32))] []))
            refine Owes.go ?_ fun t₀ k₀ => XS.iload X0.here hx rfl (hb hby d13_45) rfl k₀
            show Owes _ _ _ _ (s₁.setTop (mkF m 47 #[.val (.int p0), .val (.int p1), .val (.int p2), .val (.int p3), .val (.int (-1 : Int32))] [(.int (-1 : Int32))]))
            exact Owes.retI X0 hx hlk hret (hb hby d13_47) (by decide) (by decide) ⟨congrArg (fun z => some (Value.int z)) (by unfold f_pr; rw [if_neg hc1, if_neg hc10, if_pos hc19, if_neg hc20, if_neg hc21]; first | done | rfl), rfl, e0⟩
      · skip
        refine Owes.go ?_ fun t₀ k₀ => XS.icmpNo X0.here hx rfl (hb hby d13_19) rfl (flt hc19).2.2.1 k₀
        show Owes _ _ _ _ (s₁.setTop (mkF m 22 #[.val (.int p0), .val (.int p1), .val (.int p2), .val (.int p3), .val (.int (-1 : Int32))] []))
        refine Owes.go ?_ fun t₀ k₀ => XS.iloadN X0.here hx rfl (hb hby d13_22) rfl k₀
        show Owes _ _ _ _ (s₁.setTop (mkF m 23 #[.val (.int p0), .val (.int p1), .val (.int p2), .val (.int p3), .val (.int (-1 : Int32))] [(.int p1)]))
        refine Owes.go ?_ fun t₀ k₀ => XS.iload X0.here hx rfl (hb hby d13_23) rfl k₀
        show Owes _ _ _ _ (s₁.setTop (mkF m 25 #[.val (.int p0), .val (.int p1), .val (.int p2), .val (.int p3), .val (.int (-1 : Int32))] [(.int (-1 : Int32)), (.int p1)]))
        by_cases hc22 : (-1 : Int32) < p1
        · skip
          refine Owes.go ?_ fun t₀ k₀ => XS.icmpNo X0.here hx rfl (hb hby d13_25) rfl (tlt hc22).2.2.2 k₀
          show Owes _ _ _ _ (s₁.setTop (mkF m 28 #[.val (.int p0), .val (.int p1), .val (.int p2), .val (.int p3), .val (.int (-1 : Int32))] []))
          refine Owes.go ?_ fun t₀ k₀ => XS.iloadN X0.here hx rfl (hb hby d13_28) rfl k₀
          show Owes _ _ _ _ (s₁.setTop (mkF m 29 #[.val (.int p0), .val (.int p1), .val (.int p2), .val (.int p3), .val (.int (-1 : Int32))] [(.int p1)]))
          refine Owes.go ?_ fun t₀ k₀ => XS.istore X0.here hx rfl (hb hby d13_29) rfl (l' := #[.val (.int p0), .val (.int p1), .val (.int p2), .val (.int p3), .val (.int p1)]) rfl k₀
          show Owes _ _ _ _ (s₁.setTop (mkF m 31 #[.val (.int p0), .val (.int p1), .val (.int p2), .val (.int p3), .val (.int p1)] []))
          refine Owes.go ?_ fun t₀ k₀ => XS.iloadN X0.here hx rfl (hb hby d13_31) rfl k₀
          show Owes _ _ _ _ (s₁.setTop (mkF m 32 #[.val (.int p0), .val (.int p1), .val (.int p2), .val (.int p3), .val (.int p1)] [(.int p2)]))
          refine Owes.go ?_ fun t₀ k₀ => XS.iloadN X0.here hx rfl (hb hby d13_32) rfl k₀
          show Owes _ _ _ _ (s₁.setTop (mkF m 33 #[.val (.int p0), .val (.int p1), .val (.int p2), .val (.int p3), .val (.int p1)] [(.int p3), (.int p2)]))
          by_cases hc23 : p3 < p2
          · skip
            refine Owes.go ?_ fun t₀ k₀ => XS.icmpYes X0.here hx rfl (pc0 := 33) (pc' := 45) rfl (hb hby d13_33) rfl (tlt hc23).2.2.1 (by decide) (by decide) k₀
            show Owes _ _ _ _ (s₁.setTop (mkF m 45 #[.val (.int p0), .val (.int p1), .val (.int p2), .val (.int p3), .val (.int p1)] []))
            refine Owes.go ?_ fun t₀ k₀ => XS.iload X0.here hx rfl (hb hby d13_45) rfl k₀
            show Owes _ _ _ _ (s₁.setTop (mkF m 47 #[.val (.int p0), .val (.int p1), .val (.int p2), .val (.int p3), .val (.int p1)] [(.int p1)]))
            exact Owes.retI X0 hx hlk hret (hb hby d13_47) (by decide) (by decide) ⟨congrArg (fun z => some (Value.int z)) (by unfold f_pr; rw [if_neg hc1, if_neg hc10, if_neg hc19, if_pos hc22, if_pos hc23]; first | done | rfl), rfl, e0⟩
          · skip
            refine Owes.go ?_ fun t₀ k₀ => XS.icmpNo X0.here hx rfl (hb hby d13_33) rfl (flt hc23).2.2.1 k₀
            show Owes _ _ _ _ (s₁.setTop (mkF m 36 #[.val (.int p0), .val (.int p1), .val (.int p2), .val (.int p3), .val (.int p1)] []))
            refine Owes.go ?_ fun t₀ k₀ => XS.iloadN X0.here hx rfl (hb hby d13_36) rfl k₀
            show Owes _ _ _ _ (s₁.setTop (mkF m 37 #[.val (.int p0), .val (.int p1), .val (.int p2), .val (.int p3), .val (.int p1)] [(.int p2)]))
            refine Owes.go ?_ fun t₀ k₀ => XS.iload X0.here hx rfl (hb hby d13_37) rfl k₀
            show Owes _ _ _ _ (s₁.setTop (mkF m 39 #[.val (.int p0), .val (.int p1), .val (.int p2), .val (.int p3), .val (.int p1)] [(.int p1), (.int p2)]))
            by_cases hc24 : p1 < p2
            · skip
              refine Owes.go ?_ fun t₀ k₀ => XS.icmpNo X0.here hx rfl (hb hby d13_39) rfl (tlt hc24).2.2.2 k₀
              show Owes _ _ _ _ (s₁.setTop (mkF m 42 #[.val (.int p0), .val (.int p1), .val (.int p2), .val (.int p3), .val (.int p1)] []))
              refine Owes.go ?_ fun t₀ k₀ => XS.iloadN X0.here hx rfl (hb hby d13_42) rfl k₀
              show Owes _ _ _ _ (s₁.setTop (mkF m 43 #[.val (.int p0), .val (.int p1), .val (.int p2), .val (.int p3), .val (.int p1)] [(.int p2)]))
              refine Owes.go ?_ fun t₀ k₀ => XS.istore X0.here hx rfl (hb hby d13_43) rfl (l' := #[.val (.int p0), .val (.int p1), .val (.int p2), .val (.int p3), .val (.int p2)]) rfl k₀
              show Owes _ _ _ _ (s₁.setTop (mkF m 45 #[.val (.int p0), .val (.int p1), .val (.int p2), .val (.int p3), .val (.int p2)] []))
              refine Owes.go ?_ fun t₀ k₀ => XS.iload X0.here hx rfl (hb hby d13_45) rfl k₀
              show Owes _ _ _ _ (s₁.setTop (mkF m 47 #[.val (.int p0), .val (.int p1), .val (.int p2), .val (.int p3), .val (.int p2)] [(.int p2)]))
              exact Owes.retI X0 hx hlk hret (hb hby d13_47) (by decide) (by decide) ⟨congrArg (fun z => some (Value.int z)) (by unfold f_pr; rw [if_neg hc1, if_neg hc10, if_neg hc19, if_pos hc22, if_neg hc23, if_pos hc24]; first | done | rfl), rfl, e0⟩
            · skip
              refine Owes.go ?_ fun t₀ k₀ => XS.icmpYes X0.here hx rfl (pc0 := 39) (pc' := 45) rfl (hb hby d13_39) rfl (flt hc24).2.2.2 (by decide) (by decide) k₀
              show Owes _ _ _ _ (s₁.setTop (mkF m 45 #[.val (.int p0), .val (.int p1), .val (.int p2), .val (.int p3), .val (.int p1)] []))
              refine Owes.go ?_ fun t₀ k₀ => XS.iload X0.here hx rfl (hb hby d13_45) rfl k₀
              show Owes _ _ _ _ (s₁.setTop (mkF m 47 #[.val (.int p0), .val (.int p1), .val (.int p2), .val (.int p3), .val (.int p1)] [(.int p1)]))
              exact Owes.retI X0 hx hlk hret (hb hby d13_47) (by decide) (by decide) ⟨congrArg (fun z => some (Value.int z)) (by unfold f_pr; rw [if_neg hc1, if_neg hc10, if_neg hc19, if_pos hc22, if_neg hc23, if_neg hc24]; first | done | rfl), rfl, e0⟩
        · skip
          refine Owes.go ?_ fun t₀ k₀ => XS.icmpYes X0.here hx rfl (pc0 := 25) (pc' := 31) rfl (hb hby d13_25) rfl (flt hc22).2.2.2 (by decide) (by decide) k₀
          show Owes _ _ _ _ (s₁.setTop (mkF m 31 #[.val (.int p0), .val (.int p1), .val (.int p2), .val (.int p3), .val (.int (-1 : Int32))] []))
          refine Owes.go ?_ fun t₀ k₀ => XS.iloadN X0.here hx rfl (hb hby d13_31) rfl k₀
          show Owes _ _ _ _ (s₁.setTop (mkF m 32 #[.val (.int p0), .val (.int p1), .val (.int p2), .val (.int p3), .val (.int (-1 : Int32))] [(.int p2)]))
          refine Owes.go ?_ fun t₀ k₀ => XS.iloadN X0.here hx rfl (hb hby d13_32) rfl k₀
          show Owes _ _ _ _ (s₁.setTop (mkF m 33 #[.val (.int p0), .val (.int p1), .val (.int p2), .val (.int p3), .val (.int (-1 : Int32))] [(.int p3), (.int p2)]))
          by_cases hc25 : p3 < p2
          · skip
            refine Owes.go ?_ fun t₀ k₀ => XS.icmpYes X0.here hx rfl (pc0 := 33) (pc' := 45) rfl (hb hby d13_33) rfl (tlt hc25).2.2.1 (by decide) (by decide) k₀
            show Owes _ _ _ _ (s₁.setTop (mkF m 45 #[.val (.int p0), .val (.int p1), .val (.int p2), .val (.int p3), .val (.int (-1 : Int32))] []))
            refine Owes.go ?_ fun t₀ k₀ => XS.iload X0.here hx rfl (hb hby d13_45) rfl k₀
            show Owes _ _ _ _ (s₁.setTop (mkF m 47 #[.val (.int p0), .val (.int p1), .val (.int p2), .val (.int p3), .val (.int (-1 : Int32))] [(.int (-1 : Int32))]))
            exact Owes.retI X0 hx hlk hret (hb hby d13_47) (by decide) (by decide) ⟨congrArg (fun z => some (Value.int z)) (by unfold f_pr; rw [if_neg hc1, if_neg hc10, if_neg hc19, if_neg hc22, if_pos hc25]; first | done | rfl), rfl, e0⟩
          · skip
            refine Owes.go ?_ fun t₀ k₀ => XS.icmpNo X0.here hx rfl (hb hby d13_33) rfl (flt hc25).2.2.1 k₀
            show Owes _ _ _ _ (s₁.setTop (mkF m 36 #[.val (.int p0), .val (.int p1), .val (.int p2), .val (.int p3), .val (.int (-1 : Int32))] []))
            refine Owes.go ?_ fun t₀ k₀ => XS.iloadN X0.here hx rfl (hb hby d13_36) rfl k₀
            show Owes _ _ _ _ (s₁.setTop (mkF m 37 #[.val (.int p0), .val (.int p1), .val (.int p2), .val (.int p3), .val (.int (-1 : Int32))] [(.int p2)]))
            refine Owes.go ?_ fun t₀ k₀ => XS.iload X0.here hx rfl (hb hby d13_37) rfl k₀
            show Owes _ _ _ _ (s₁.setTop (mkF m 39 #[.val (.int p0), .val (.int p1), .val (.int p2), .val (.int p3), .val (.int (-1 : Int32))] [(.int (-1 : Int32)), (.int p2)]))
            by_cases hc26 : (-1 : Int32) < p2
            · skip
              refine Owes.go ?_ fun t₀ k₀ => XS.icmpNo X0.here hx rfl (hb hby d13_39) rfl (tlt hc26).2.2.2 k₀
              show Owes _ _ _ _ (s₁.setTop (mkF m 42 #[.val (.int p0), .val (.int p1), .val (.int p2), .val (.int p3), .val (.int (-1 : Int32))] []))
              refine Owes.go ?_ fun t₀ k₀ => XS.iloadN X0.here hx rfl (hb hby d13_42) rfl k₀
              show Owes _ _ _ _ (s₁.setTop (mkF m 43 #[.val (.int p0), .val (.int p1), .val (.int p2), .val (.int p3), .val (.int (-1 : Int32))] [(.int p2)]))
              refine Owes.go ?_ fun t₀ k₀ => XS.istore X0.here hx rfl (hb hby d13_43) rfl (l' := #[.val (.int p0), .val (.int p1), .val (.int p2), .val (.int p3), .val (.int p2)]) rfl k₀
              show Owes _ _ _ _ (s₁.setTop (mkF m 45 #[.val (.int p0), .val (.int p1), .val (.int p2), .val (.int p3), .val (.int p2)] []))
              refine Owes.go ?_ fun t₀ k₀ => XS.iload X0.here hx rfl (hb hby d13_45) rfl k₀
              show Owes _ _ _ _ (s₁.setTop (mkF m 47 #[.val (.int p0), .val (.int p1), .val (.int p2), .val (.int p3), .val (.int p2)] [(.int p2)]))
              exact Owes.retI X0 hx hlk hret (hb hby d13_47) (by decide) (by decide) ⟨congrArg (fun z => some (Value.int z)) (by unfold f_pr; rw [if_neg hc1, if_neg hc10, if_neg hc19, if_neg hc22, if_neg hc25, if_pos hc26]; first | done | rfl), rfl, e0⟩
            · skip
              refine Owes.go ?_ fun t₀ k₀ => XS.icmpYes X0.here hx rfl (pc0 := 39) (pc' := 45) rfl (hb hby d13_39) rfl (flt hc26).2.2.2 (by decide) (by decide) k₀
              show Owes _ _ _ _ (s₁.setTop (mkF m 45 #[.val (.int p0), .val (.int p1), .val (.int p2), .val (.int p3), .val (.int (-1 : Int32))] []))
              refine Owes.go ?_ fun t₀ k₀ => XS.iload X0.here hx rfl (hb hby d13_45) rfl k₀
              show Owes _ _ _ _ (s₁.setTop (mkF m 47 #[.val (.int p0), .val (.int p1), .val (.int p2), .val (.int p3), .val (.int (-1 : Int32))] [(.int (-1 : Int32))]))
              exact Owes.retI X0 hx hlk hret (hb hby d13_47) (by decide) (by decide) ⟨congrArg (fun z => some (Value.int z)) (by unfold f_pr; rw [if_neg hc1, if_neg hc10, if_neg hc19, if_neg hc22, if_neg hc25, if_neg hc26]; first | done | rfl), rfl, e0⟩
theorem own_used {sz : Nat} (h : sz ≤ 524288) : 5 + used sz 5 ≤ 8400 := by
  show 5 + (0 + (sz + 63) / 64 + ((sz + 63) / 64 + 63) / 64 + (((sz + 63) / 64 + 63) / 64 + 63) / 64 + ((((sz + 63) / 64 + 63) / 64 + 63) / 64 + 63) / 64 + (((((sz + 63) / 64 + 63) / 64 + 63) / 64 + 63) / 64 + 63) / 64) ≤ 8400
  omega
theorem own_size (p : Int32) : ∃ sz : Nat, ((p &&& (524287 : Int32)) + (1 : Int32)).toInt = (sz : Int) ∧ 0 < sz ∧ sz ≤ 524288 := by
  have h := c_mask p 524287 19 (by decide) (by decide)
  have h1 := c_iadd (p &&& 524287) 1
  have r := rng32 ((p &&& 524287) + 1)
  rw [show (1 : Int32).toInt = 1 from rfl] at h1
  generalize ((p &&& 524287) + 1).toInt = v at *
  generalize (p &&& 524287).toInt = u at *
  refine ⟨v.toNat, by omega, by omega, by omega⟩
theorem own_rem (p : Int32) {s : Int32} {n : Nat} (hs : s.toInt = (n : Int)) (hn : 0 < n) : ∃ a : Nat, ((p &&& (2147483647 : Int32)) % s).toInt = (a : Int) ∧ a < n := by
  have h := c_mask p 2147483647 31 (by decide) (by decide)
  have h1 := (c_iremV (p &&& 2147483647) s).1 (by omega) (by omega)
  generalize ((p &&& 2147483647) % s).toInt = v at *
  refine ⟨v.toNat, by omega, by omega⟩
theorem own_plus {s : Int32} {n : Nat} (hs : s.toInt = (n : Int)) (hn : n ≤ 524288) (c : Int32) {k : Nat} (hc : c.toInt = (k : Int)) (hk : k ≤ 64) : (s + c).toInt = ((n + k : Nat) : Int) := by
  have h1 := c_iadd s c
  have r := rng32 (s + c)
  omega
theorem own_snz {s : Int32} {n : Nat} (hs : s.toInt = (n : Int)) (hn : 0 < n) : ¬ (s = (0 : Int32)) := fun q => by rw [q] at hs; have : (0 : Int32).toInt = 0 := rfl; omega
def M3 (a b c : Nat) : Nat → Prop := fun x => ((False ∨ x = a) ∨ x = b) ∨ x = c
theorem M3_e {a b c x : Nat} (h : M3 a b c x) : x = a ∨ x = b ∨ x = c := by
  rcases (show ((False ∨ x = a) ∨ x = b) ∨ x = c from h) with ((h | h) | h) | h
  · exact h.elim
  · exact Or.inl h
  · exact Or.inr (Or.inl h)
  · exact Or.inr (Or.inr h)
theorem own_nr (p0 p1 p2 p3 : Int32) (a b c fr : Nat) (ha : p0.toInt = (a : Int)) (hb : p1.toInt = (b : Int)) (hc : p2.toInt = (c : Int)) (hf : p3.toInt = (fr : Int)) : NextIs (M3 a b c) fr (f_nr p0 p1 p2 p3).toInt := by
  unfold f_nr
  simp only [Int32.lt_iff_toInt_lt, ha, hb, hc, hf, show (0 : Int32).toInt = 0 from rfl]
  repeat' split
  all_goals first
    | exact Or.inl ⟨by decide, by intro x h; have := M3_e h; omega⟩
    | exact Or.inr ⟨a, ha, Or.inl (Or.inl (Or.inr rfl)), by omega, by intro x h; have := M3_e h; omega⟩
    | exact Or.inr ⟨b, hb, Or.inl (Or.inr rfl), by omega, by intro x h; have := M3_e h; omega⟩
    | exact Or.inr ⟨c, hc, Or.inr rfl, by omega, by intro x h; have := M3_e h; omega⟩
theorem own_pr (p0 p1 p2 p3 : Int32) (a b c : Nat) (fr : Int) (ha : p0.toInt = (a : Int)) (hb : p1.toInt = (b : Int)) (hc : p2.toInt = (c : Int)) (hf : p3.toInt = fr) : PrevIs (M3 a b c) fr (f_pr p0 p1 p2 p3).toInt := by
  unfold f_pr
  simp only [Int32.lt_iff_toInt_lt, ha, hb, hc, hf, show (-1 : Int32).toInt = -1 from rfl]
  repeat' split
  all_goals first
    | exact Or.inl ⟨by decide, by intro x h; have := M3_e h; omega⟩
    | exact Or.inr ⟨a, ha, Or.inl (Or.inl (Or.inr rfl)), by omega, by intro x h; have := M3_e h; omega⟩
    | exact Or.inr ⟨b, hb, Or.inl (Or.inr rfl), by omega, by intro x h; have := M3_e h; omega⟩
    | exact Or.inr ⟨c, hc, Or.inr rfl, by omega, by intro x h; have := M3_e h; omega⟩
theorem pd_3 : parseMethodDescriptor "(I)V" = some ⟨[.int], none⟩ := by decide +kernel
theorem pd_4 : parseMethodDescriptor "(IIII)I" = some ⟨[.int, .int, .int, .int], some .int⟩ := by decide +kernel
def QL (n0 : Nat) (v : Option Value) (h : Heap) (L : List Loc) : Prop := v = some (.int 1) ∧ Fr n0 L
theorem ef_0 (m : MethodId) (p0 : Int32) (p1 : Int32) (p2 : Int32) (p3 : Int32) (p4 : Int32) (p5 : Int32) : entryFrame m #[(.int p0), (.int p1), (.int p2), (.int p3), (.int p4), (.int p5)] maxLocals = mkF m 0 #[.val (.int p0), .val (.int p1), .val (.int p2), .val (.int p3), .val (.int p4), .val (.int p5), .unset, .unset, .unset, .unset, .unset, .unset, .unset, .unset, .unset] [] := by first | (simp [entryFrame, mkF, argsToLocals, Value.category, maxLocals]; done) | rfl
theorem pn_0 : plainFor (⟨"com/example/slotwright/slotwright/core/RankSetAddPinLaw", "law", "(IIIIII)Z"⟩ : MethodName) = true := plainFor_of_name (by first | (simp [plainName, overriddenIn]; done) | decide +kernel)
set_option maxRecDepth 65536 in
set_option maxHeartbeats 40000000 in
theorem rm0 (l : Launch) (Z : State) (a0 : Array Value) (hw : ∀ d ∈ tables_1, d.before a0 Z = true) (ws : List Jvm.Cond) (p0 : Int32) (p1 : Int32) (p2 : Int32) (p3 : Int32) (p4 : Int32) (p5 : Int32) (h0 : Heap) (n0 : Nat) (Z0 : n0 ≤ h0.size)  :
    OMet l x code maxLocals ret ws room_1 #[(.int p0), (.int p1), (.int p2), (.int p3), (.int p4), (.int p5)] Z h0 (QL n0) := by
  have N0 := Fr.nil n0
  refine OMet.of pn_0 (fun m => ef_0 m p0 p1 p2 p3 p4 p5) ?_
  intro p e s m below meth c s₁ hx hby hml hown hnm hret hlk hZ X0 e0
  refine Owes.go ?_ fun t₀ k₀ => XS.iloadN X0.here hx rfl (hb hby at_0) rfl k₀
  show Owes _ _ _ _ (s₁.setTop (mkF m 1 #[.val (.int p0), .val (.int p1), .val (.int p2), .val (.int p3), .val (.int p4), .val (.int p5), .unset, .unset, .unset, .unset, .unset, .unset, .unset, .unset, .unset] [(.int p0)]))
  refine Owes.go ?_ fun t₀ k₀ => X0.ldcInt hx hown (mvT hZ (hw _ (List.mem_of_getElem? (i := 0) rfl))) (g := (mkF m 1 #[.val (.int p0), .val (.int p1), .val (.int p2), .val (.int p3), .val (.int p4), .val (.int p5), .unset, .unset, .unset, .unset, .unset, .unset, .unset, .unset, .unset] [(.int p0)])) rfl (hb hby at_1) _ k₀
  show Owes _ _ _ _ (s₁.setTop (mkF m 3 #[.val (.int p0), .val (.int p1), .val (.int p2), .val (.int p3), .val (.int p4), .val (.int p5), .unset, .unset, .unset, .unset, .unset, .unset, .unset, .unset, .unset] [(.int (524287 : Int32)), (.int p0)]))
  refine Owes.go ?_ fun t₀ k₀ => XS.iand X0.here hx rfl (hb hby at_3) rfl k₀
  show Owes _ _ _ _ (s₁.setTop (mkF m 4 #[.val (.int p0), .val (.int p1), .val (.int p2), .val (.int p3), .val (.int p4), .val (.int p5), .unset, .unset, .unset, .unset, .unset, .unset, .unset, .unset, .unset] [(.int (p0 &&& (524287 : Int32)))]))
  refine Owes.go ?_ fun t₀ k₀ => XS.iconst X0.here hx rfl (hb hby at_4) k₀
  show Owes _ _ _ _ (s₁.setTop (mkF m 5 #[.val (.int p0), .val (.int p1), .val (.int p2), .val (.int p3), .val (.int p4), .val (.int p5), .unset, .unset, .unset, .unset, .unset, .unset, .unset, .unset, .unset] [(.int (1 : Int32)), (.int (p0 &&& (524287 : Int32)))]))
  refine Owes.go ?_ fun t₀ k₀ => XS.iadd X0.here hx rfl (hb hby at_5) rfl k₀
  show Owes _ _ _ _ (s₁.setTop (mkF m 6 #[.val (.int p0), .val (.int p1), .val (.int p2), .val (.int p3), .val (.int p4), .val (.int p5), .unset, .unset, .unset, .unset, .unset, .unset, .unset, .unset, .unset] [(.int ((p0 &&& (524287 : Int32)) + (1 : Int32)))]))
  refine Owes.go ?_ fun t₀ k₀ => XS.istore X0.here hx rfl (hb hby at_6) rfl (l' := #[.val (.int p0), .val (.int p1), .val (.int p2), .val (.int p3), .val (.int p4), .val (.int p5), .val (.int ((p0 &&& (524287 : Int32)) + (1 : Int32))), .unset, .unset, .unset, .unset, .unset, .unset, .unset, .unset]) rfl k₀
  show Owes _ _ _ _ (s₁.setTop (mkF m 8 #[.val (.int p0), .val (.int p1), .val (.int p2), .val (.int p3), .val (.int p4), .val (.int p5), .val (.int ((p0 &&& (524287 : Int32)) + (1 : Int32))), .unset, .unset, .unset, .unset, .unset, .unset, .unset, .unset] []))
  obtain ⟨sz, hsz, hsz1, hsz2⟩ := own_size p0
  have hSL := own_used hsz2
  generalize ((p0 &&& (524287 : Int32)) + (1 : Int32)) = sI at *
  refine Owes.go ?_ fun t₀ k₀ => XS.iloadN X0.here hx rfl (hb hby at_8) rfl k₀
  show Owes _ _ _ _ (s₁.setTop (mkF m 9 #[.val (.int p0), .val (.int p1), .val (.int p2), .val (.int p3), .val (.int p4), .val (.int p5), .val (.int sI), .unset, .unset, .unset, .unset, .unset, .unset, .unset, .unset] [(.int p1)]))
  refine Owes.go ?_ fun t₀ k₀ => X0.ldcInt hx hown (mvT hZ (hw _ (List.mem_of_getElem? (i := 1) rfl))) (g := (mkF m 9 #[.val (.int p0), .val (.int p1), .val (.int p2), .val (.int p3), .val (.int p4), .val (.int p5), .val (.int sI), .unset, .unset, .unset, .unset, .unset, .unset, .unset, .unset] [(.int p1)])) rfl (hb hby at_9) _ k₀
  show Owes _ _ _ _ (s₁.setTop (mkF m 11 #[.val (.int p0), .val (.int p1), .val (.int p2), .val (.int p3), .val (.int p4), .val (.int p5), .val (.int sI), .unset, .unset, .unset, .unset, .unset, .unset, .unset, .unset] [(.int (2147483647 : Int32)), (.int p1)]))
  refine Owes.go ?_ fun t₀ k₀ => XS.iand X0.here hx rfl (hb hby at_11) rfl k₀
  show Owes _ _ _ _ (s₁.setTop (mkF m 12 #[.val (.int p0), .val (.int p1), .val (.int p2), .val (.int p3), .val (.int p4), .val (.int p5), .val (.int sI), .unset, .unset, .unset, .unset, .unset, .unset, .unset, .unset] [(.int (p1 &&& (2147483647 : Int32)))]))
  refine Owes.go ?_ fun t₀ k₀ => XS.iload X0.here hx rfl (hb hby at_12) rfl k₀
  show Owes _ _ _ _ (s₁.setTop (mkF m 14 #[.val (.int p0), .val (.int p1), .val (.int p2), .val (.int p3), .val (.int p4), .val (.int p5), .val (.int sI), .unset, .unset, .unset, .unset, .unset, .unset, .unset, .unset] [(.int sI), (.int (p1 &&& (2147483647 : Int32)))]))
  refine Owes.go ?_ fun t₀ k₀ => Jvm.RoadKit.iremM X0 hx rfl (hb hby at_14) rfl (own_snz hsz hsz1) k₀
  show Owes _ _ _ _ (s₁.setTop (mkF m 15 #[.val (.int p0), .val (.int p1), .val (.int p2), .val (.int p3), .val (.int p4), .val (.int p5), .val (.int sI), .unset, .unset, .unset, .unset, .unset, .unset, .unset, .unset] [(.int ((p1 &&& (2147483647 : Int32)) % sI))]))
  refine Owes.go ?_ fun t₀ k₀ => XS.istore X0.here hx rfl (hb hby at_15) rfl (l' := #[.val (.int p0), .val (.int p1), .val (.int p2), .val (.int p3), .val (.int p4), .val (.int p5), .val (.int sI), .val (.int ((p1 &&& (2147483647 : Int32)) % sI)), .unset, .unset, .unset, .unset, .unset, .unset, .unset]) rfl k₀
  show Owes _ _ _ _ (s₁.setTop (mkF m 17 #[.val (.int p0), .val (.int p1), .val (.int p2), .val (.int p3), .val (.int p4), .val (.int p5), .val (.int sI), .val (.int ((p1 &&& (2147483647 : Int32)) % sI)), .unset, .unset, .unset, .unset, .unset, .unset, .unset] []))
  obtain ⟨a_, ha_, la_⟩ := own_rem p1 hsz hsz1
  generalize ((p1 &&& (2147483647 : Int32)) % sI) = aI at *
  refine Owes.go ?_ fun t₀ k₀ => XS.iloadN X0.here hx rfl (hb hby at_17) rfl k₀
  show Owes _ _ _ _ (s₁.setTop (mkF m 18 #[.val (.int p0), .val (.int p1), .val (.int p2), .val (.int p3), .val (.int p4), .val (.int p5), .val (.int sI), .val (.int aI), .unset, .unset, .unset, .unset, .unset, .unset, .unset] [(.int p2)]))
  refine Owes.go ?_ fun t₀ k₀ => X0.ldcInt hx hown (mvT hZ (hw _ (List.mem_of_getElem? (i := 1) rfl))) (g := (mkF m 18 #[.val (.int p0), .val (.int p1), .val (.int p2), .val (.int p3), .val (.int p4), .val (.int p5), .val (.int sI), .val (.int aI), .unset, .unset, .unset, .unset, .unset, .unset, .unset] [(.int p2)])) rfl (hb hby at_18) _ k₀
  show Owes _ _ _ _ (s₁.setTop (mkF m 20 #[.val (.int p0), .val (.int p1), .val (.int p2), .val (.int p3), .val (.int p4), .val (.int p5), .val (.int sI), .val (.int aI), .unset, .unset, .unset, .unset, .unset, .unset, .unset] [(.int (2147483647 : Int32)), (.int p2)]))
  refine Owes.go ?_ fun t₀ k₀ => XS.iand X0.here hx rfl (hb hby at_20) rfl k₀
  show Owes _ _ _ _ (s₁.setTop (mkF m 21 #[.val (.int p0), .val (.int p1), .val (.int p2), .val (.int p3), .val (.int p4), .val (.int p5), .val (.int sI), .val (.int aI), .unset, .unset, .unset, .unset, .unset, .unset, .unset] [(.int (p2 &&& (2147483647 : Int32)))]))
  refine Owes.go ?_ fun t₀ k₀ => XS.iload X0.here hx rfl (hb hby at_21) rfl k₀
  show Owes _ _ _ _ (s₁.setTop (mkF m 23 #[.val (.int p0), .val (.int p1), .val (.int p2), .val (.int p3), .val (.int p4), .val (.int p5), .val (.int sI), .val (.int aI), .unset, .unset, .unset, .unset, .unset, .unset, .unset] [(.int sI), (.int (p2 &&& (2147483647 : Int32)))]))
  refine Owes.go ?_ fun t₀ k₀ => Jvm.RoadKit.iremM X0 hx rfl (hb hby at_23) rfl (own_snz hsz hsz1) k₀
  show Owes _ _ _ _ (s₁.setTop (mkF m 24 #[.val (.int p0), .val (.int p1), .val (.int p2), .val (.int p3), .val (.int p4), .val (.int p5), .val (.int sI), .val (.int aI), .unset, .unset, .unset, .unset, .unset, .unset, .unset] [(.int ((p2 &&& (2147483647 : Int32)) % sI))]))
  refine Owes.go ?_ fun t₀ k₀ => XS.istore X0.here hx rfl (hb hby at_24) rfl (l' := #[.val (.int p0), .val (.int p1), .val (.int p2), .val (.int p3), .val (.int p4), .val (.int p5), .val (.int sI), .val (.int aI), .val (.int ((p2 &&& (2147483647 : Int32)) % sI)), .unset, .unset, .unset, .unset, .unset, .unset]) rfl k₀
  show Owes _ _ _ _ (s₁.setTop (mkF m 26 #[.val (.int p0), .val (.int p1), .val (.int p2), .val (.int p3), .val (.int p4), .val (.int p5), .val (.int sI), .val (.int aI), .val (.int ((p2 &&& (2147483647 : Int32)) % sI)), .unset, .unset, .unset, .unset, .unset, .unset] []))
  obtain ⟨b_, hb_, lb_⟩ := own_rem p2 hsz hsz1
  generalize ((p2 &&& (2147483647 : Int32)) % sI) = bI at *
  refine Owes.go ?_ fun t₀ k₀ => XS.iloadN X0.here hx rfl (hb hby at_26) rfl k₀
  show Owes _ _ _ _ (s₁.setTop (mkF m 27 #[.val (.int p0), .val (.int p1), .val (.int p2), .val (.int p3), .val (.int p4), .val (.int p5), .val (.int sI), .val (.int aI), .val (.int bI), .unset, .unset, .unset, .unset, .unset, .unset] [(.int p3)]))
  refine Owes.go ?_ fun t₀ k₀ => X0.ldcInt hx hown (mvT hZ (hw _ (List.mem_of_getElem? (i := 1) rfl))) (g := (mkF m 27 #[.val (.int p0), .val (.int p1), .val (.int p2), .val (.int p3), .val (.int p4), .val (.int p5), .val (.int sI), .val (.int aI), .val (.int bI), .unset, .unset, .unset, .unset, .unset, .unset] [(.int p3)])) rfl (hb hby at_27) _ k₀
  show Owes _ _ _ _ (s₁.setTop (mkF m 29 #[.val (.int p0), .val (.int p1), .val (.int p2), .val (.int p3), .val (.int p4), .val (.int p5), .val (.int sI), .val (.int aI), .val (.int bI), .unset, .unset, .unset, .unset, .unset, .unset] [(.int (2147483647 : Int32)), (.int p3)]))
  refine Owes.go ?_ fun t₀ k₀ => XS.iand X0.here hx rfl (hb hby at_29) rfl k₀
  show Owes _ _ _ _ (s₁.setTop (mkF m 30 #[.val (.int p0), .val (.int p1), .val (.int p2), .val (.int p3), .val (.int p4), .val (.int p5), .val (.int sI), .val (.int aI), .val (.int bI), .unset, .unset, .unset, .unset, .unset, .unset] [(.int (p3 &&& (2147483647 : Int32)))]))
  refine Owes.go ?_ fun t₀ k₀ => XS.iload X0.here hx rfl (hb hby at_30) rfl k₀
  show Owes _ _ _ _ (s₁.setTop (mkF m 32 #[.val (.int p0), .val (.int p1), .val (.int p2), .val (.int p3), .val (.int p4), .val (.int p5), .val (.int sI), .val (.int aI), .val (.int bI), .unset, .unset, .unset, .unset, .unset, .unset] [(.int sI), (.int (p3 &&& (2147483647 : Int32)))]))
  refine Owes.go ?_ fun t₀ k₀ => Jvm.RoadKit.iremM X0 hx rfl (hb hby at_32) rfl (own_snz hsz hsz1) k₀
  show Owes _ _ _ _ (s₁.setTop (mkF m 33 #[.val (.int p0), .val (.int p1), .val (.int p2), .val (.int p3), .val (.int p4), .val (.int p5), .val (.int sI), .val (.int aI), .val (.int bI), .unset, .unset, .unset, .unset, .unset, .unset] [(.int ((p3 &&& (2147483647 : Int32)) % sI))]))
  refine Owes.go ?_ fun t₀ k₀ => XS.istore X0.here hx rfl (hb hby at_33) rfl (l' := #[.val (.int p0), .val (.int p1), .val (.int p2), .val (.int p3), .val (.int p4), .val (.int p5), .val (.int sI), .val (.int aI), .val (.int bI), .val (.int ((p3 &&& (2147483647 : Int32)) % sI)), .unset, .unset, .unset, .unset, .unset]) rfl k₀
  show Owes _ _ _ _ (s₁.setTop (mkF m 35 #[.val (.int p0), .val (.int p1), .val (.int p2), .val (.int p3), .val (.int p4), .val (.int p5), .val (.int sI), .val (.int aI), .val (.int bI), .val (.int ((p3 &&& (2147483647 : Int32)) % sI)), .unset, .unset, .unset, .unset, .unset] []))
  obtain ⟨c_, hc_, lc_⟩ := own_rem p3 hsz hsz1
  generalize ((p3 &&& (2147483647 : Int32)) % sI) = cI at *
  refine Owes.go ?_ fun t₀ k₀ => XS.iload X0.here hx rfl (hb hby at_35) rfl k₀
  show Owes _ _ _ _ (s₁.setTop (mkF m 37 #[.val (.int p0), .val (.int p1), .val (.int p2), .val (.int p3), .val (.int p4), .val (.int p5), .val (.int sI), .val (.int aI), .val (.int bI), .val (.int cI), .unset, .unset, .unset, .unset, .unset] [(.int p4)]))
  refine Owes.go ?_ fun t₀ k₀ => X0.ldcInt hx hown (mvT hZ (hw _ (List.mem_of_getElem? (i := 1) rfl))) (g := (mkF m 37 #[.val (.int p0), .val (.int p1), .val (.int p2), .val (.int p3), .val (.int p4), .val (.int p5), .val (.int sI), .val (.int aI), .val (.int bI), .val (.int cI), .unset, .unset, .unset, .unset, .unset] [(.int p4)])) rfl (hb hby at_37) _ k₀
  show Owes _ _ _ _ (s₁.setTop (mkF m 39 #[.val (.int p0), .val (.int p1), .val (.int p2), .val (.int p3), .val (.int p4), .val (.int p5), .val (.int sI), .val (.int aI), .val (.int bI), .val (.int cI), .unset, .unset, .unset, .unset, .unset] [(.int (2147483647 : Int32)), (.int p4)]))
  refine Owes.go ?_ fun t₀ k₀ => XS.iand X0.here hx rfl (hb hby at_39) rfl k₀
  show Owes _ _ _ _ (s₁.setTop (mkF m 40 #[.val (.int p0), .val (.int p1), .val (.int p2), .val (.int p3), .val (.int p4), .val (.int p5), .val (.int sI), .val (.int aI), .val (.int bI), .val (.int cI), .unset, .unset, .unset, .unset, .unset] [(.int (p4 &&& (2147483647 : Int32)))]))
  refine Owes.go ?_ fun t₀ k₀ => XS.iload X0.here hx rfl (hb hby at_40) rfl k₀
  show Owes _ _ _ _ (s₁.setTop (mkF m 42 #[.val (.int p0), .val (.int p1), .val (.int p2), .val (.int p3), .val (.int p4), .val (.int p5), .val (.int sI), .val (.int aI), .val (.int bI), .val (.int cI), .unset, .unset, .unset, .unset, .unset] [(.int sI), (.int (p4 &&& (2147483647 : Int32)))]))
  refine Owes.go ?_ fun t₀ k₀ => XS.bipush X0.here hx rfl (hb hby at_42) k₀
  show Owes _ _ _ _ (s₁.setTop (mkF m 44 #[.val (.int p0), .val (.int p1), .val (.int p2), .val (.int p3), .val (.int p4), .val (.int p5), .val (.int sI), .val (.int aI), .val (.int bI), .val (.int cI), .unset, .unset, .unset, .unset, .unset] [(.int (64 : Int32)), (.int sI), (.int (p4 &&& (2147483647 : Int32)))]))
  refine Owes.go ?_ fun t₀ k₀ => XS.iadd X0.here hx rfl (hb hby at_44) rfl k₀
  show Owes _ _ _ _ (s₁.setTop (mkF m 45 #[.val (.int p0), .val (.int p1), .val (.int p2), .val (.int p3), .val (.int p4), .val (.int p5), .val (.int sI), .val (.int aI), .val (.int bI), .val (.int cI), .unset, .unset, .unset, .unset, .unset] [(.int (sI + (64 : Int32))), (.int (p4 &&& (2147483647 : Int32)))]))
  refine Owes.go ?_ fun t₀ k₀ => Jvm.RoadKit.iremM X0 hx rfl (hb hby at_45) rfl (own_snz (own_plus hsz hsz2 64 (k := 64) rfl (by omega)) (by omega)) k₀
  show Owes _ _ _ _ (s₁.setTop (mkF m 46 #[.val (.int p0), .val (.int p1), .val (.int p2), .val (.int p3), .val (.int p4), .val (.int p5), .val (.int sI), .val (.int aI), .val (.int bI), .val (.int cI), .unset, .unset, .unset, .unset, .unset] [(.int ((p4 &&& (2147483647 : Int32)) % (sI + (64 : Int32))))]))
  refine Owes.go ?_ fun t₀ k₀ => XS.istore X0.here hx rfl (hb hby at_46) rfl (l' := #[.val (.int p0), .val (.int p1), .val (.int p2), .val (.int p3), .val (.int p4), .val (.int p5), .val (.int sI), .val (.int aI), .val (.int bI), .val (.int cI), .val (.int ((p4 &&& (2147483647 : Int32)) % (sI + (64 : Int32)))), .unset, .unset, .unset, .unset]) rfl k₀
  show Owes _ _ _ _ (s₁.setTop (mkF m 48 #[.val (.int p0), .val (.int p1), .val (.int p2), .val (.int p3), .val (.int p4), .val (.int p5), .val (.int sI), .val (.int aI), .val (.int bI), .val (.int cI), .val (.int ((p4 &&& (2147483647 : Int32)) % (sI + (64 : Int32)))), .unset, .unset, .unset, .unset] []))
  obtain ⟨fr, hfr, lfr⟩ := own_rem p4 (own_plus hsz hsz2 64 (k := 64) rfl (by omega)) (by omega)
  generalize ((p4 &&& (2147483647 : Int32)) % (sI + (64 : Int32))) = frI at *
  refine Owes.go ?_ fun t₀ k₀ => XS.iload X0.here hx rfl (hb hby at_48) rfl k₀
  show Owes _ _ _ _ (s₁.setTop (mkF m 50 #[.val (.int p0), .val (.int p1), .val (.int p2), .val (.int p3), .val (.int p4), .val (.int p5), .val (.int sI), .val (.int aI), .val (.int bI), .val (.int cI), .val (.int frI), .unset, .unset, .unset, .unset] [(.int p5)]))
  refine Owes.go ?_ fun t₀ k₀ => X0.ldcInt hx hown (mvT hZ (hw _ (List.mem_of_getElem? (i := 1) rfl))) (g := (mkF m 50 #[.val (.int p0), .val (.int p1), .val (.int p2), .val (.int p3), .val (.int p4), .val (.int p5), .val (.int sI), .val (.int aI), .val (.int bI), .val (.int cI), .val (.int frI), .unset, .unset, .unset, .unset] [(.int p5)])) rfl (hb hby at_50) _ k₀
  show Owes _ _ _ _ (s₁.setTop (mkF m 52 #[.val (.int p0), .val (.int p1), .val (.int p2), .val (.int p3), .val (.int p4), .val (.int p5), .val (.int sI), .val (.int aI), .val (.int bI), .val (.int cI), .val (.int frI), .unset, .unset, .unset, .unset] [(.int (2147483647 : Int32)), (.int p5)]))
  refine Owes.go ?_ fun t₀ k₀ => XS.iand X0.here hx rfl (hb hby at_52) rfl k₀
  show Owes _ _ _ _ (s₁.setTop (mkF m 53 #[.val (.int p0), .val (.int p1), .val (.int p2), .val (.int p3), .val (.int p4), .val (.int p5), .val (.int sI), .val (.int aI), .val (.int bI), .val (.int cI), .val (.int frI), .unset, .unset, .unset, .unset] [(.int (p5 &&& (2147483647 : Int32)))]))
  refine Owes.go ?_ fun t₀ k₀ => XS.iload X0.here hx rfl (hb hby at_53) rfl k₀
  show Owes _ _ _ _ (s₁.setTop (mkF m 55 #[.val (.int p0), .val (.int p1), .val (.int p2), .val (.int p3), .val (.int p4), .val (.int p5), .val (.int sI), .val (.int aI), .val (.int bI), .val (.int cI), .val (.int frI), .unset, .unset, .unset, .unset] [(.int sI), (.int (p5 &&& (2147483647 : Int32)))]))
  refine Owes.go ?_ fun t₀ k₀ => XS.iconst X0.here hx rfl (hb hby at_55) k₀
  show Owes _ _ _ _ (s₁.setTop (mkF m 56 #[.val (.int p0), .val (.int p1), .val (.int p2), .val (.int p3), .val (.int p4), .val (.int p5), .val (.int sI), .val (.int aI), .val (.int bI), .val (.int cI), .val (.int frI), .unset, .unset, .unset, .unset] [(.int (1 : Int32)), (.int sI), (.int (p5 &&& (2147483647 : Int32)))]))
  refine Owes.go ?_ fun t₀ k₀ => XS.iadd X0.here hx rfl (hb hby at_56) rfl k₀
  show Owes _ _ _ _ (s₁.setTop (mkF m 57 #[.val (.int p0), .val (.int p1), .val (.int p2), .val (.int p3), .val (.int p4), .val (.int p5), .val (.int sI), .val (.int aI), .val (.int bI), .val (.int cI), .val (.int frI), .unset, .unset, .unset, .unset] [(.int (sI + (1 : Int32))), (.int (p5 &&& (2147483647 : Int32)))]))
  refine Owes.go ?_ fun t₀ k₀ => Jvm.RoadKit.iremM X0 hx rfl (hb hby at_57) rfl (own_snz (own_plus hsz hsz2 1 (k := 1) rfl (by omega)) (by omega)) k₀
  show Owes _ _ _ _ (s₁.setTop (mkF m 58 #[.val (.int p0), .val (.int p1), .val (.int p2), .val (.int p3), .val (.int p4), .val (.int p5), .val (.int sI), .val (.int aI), .val (.int bI), .val (.int cI), .val (.int frI), .unset, .unset, .unset, .unset] [(.int ((p5 &&& (2147483647 : Int32)) % (sI + (1 : Int32))))]))
  refine Owes.go ?_ fun t₀ k₀ => XS.iconst X0.here hx rfl (hb hby at_58) k₀
  show Owes _ _ _ _ (s₁.setTop (mkF m 59 #[.val (.int p0), .val (.int p1), .val (.int p2), .val (.int p3), .val (.int p4), .val (.int p5), .val (.int sI), .val (.int aI), .val (.int bI), .val (.int cI), .val (.int frI), .unset, .unset, .unset, .unset] [(.int (1 : Int32)), (.int ((p5 &&& (2147483647 : Int32)) % (sI + (1 : Int32))))]))
  refine Owes.go ?_ fun t₀ k₀ => XS.isub X0.here hx rfl (hb hby at_59) rfl k₀
  show Owes _ _ _ _ (s₁.setTop (mkF m 60 #[.val (.int p0), .val (.int p1), .val (.int p2), .val (.int p3), .val (.int p4), .val (.int p5), .val (.int sI), .val (.int aI), .val (.int bI), .val (.int cI), .val (.int frI), .unset, .unset, .unset, .unset] [(.int (((p5 &&& (2147483647 : Int32)) % (sI + (1 : Int32))) - (1 : Int32)))]))
  refine Owes.go ?_ fun t₀ k₀ => XS.istore X0.here hx rfl (hb hby at_60) rfl (l' := #[.val (.int p0), .val (.int p1), .val (.int p2), .val (.int p3), .val (.int p4), .val (.int p5), .val (.int sI), .val (.int aI), .val (.int bI), .val (.int cI), .val (.int frI), .val (.int (((p5 &&& (2147483647 : Int32)) % (sI + (1 : Int32))) - (1 : Int32))), .unset, .unset, .unset]) rfl k₀
  show Owes _ _ _ _ (s₁.setTop (mkF m 62 #[.val (.int p0), .val (.int p1), .val (.int p2), .val (.int p3), .val (.int p4), .val (.int p5), .val (.int sI), .val (.int aI), .val (.int bI), .val (.int cI), .val (.int frI), .val (.int (((p5 &&& (2147483647 : Int32)) % (sI + (1 : Int32))) - (1 : Int32))), .unset, .unset, .unset] []))
  obtain ⟨up, hup, lup⟩ := own_rem p5 (own_plus hsz hsz2 1 (k := 1) rfl (by omega)) (by omega)
  have hup' := own_sub1 hup
  generalize (((p5 &&& (2147483647 : Int32)) % (sI + (1 : Int32))) - (1 : Int32)) = upI at *
  refine Owes.newO X0 hx hZ hown (hw _ (List.mem_of_getElem? (i := 2) rfl)) (hw _ (List.mem_of_getElem? (i := 3) rfl)) (hw _ (List.mem_of_getElem? (i := 4) rfl)) e0 (hb hby at_62) (by decide) (by decide) ?_
  intro T30 h30 X30 e30 E30 A30 D30
  obtain ⟨rs, grs⟩ : ∃ z, z = h0.size := ⟨_, rfl⟩
  rw [← grs] at A30 ⊢
  have FL0 : Fld Z h30 rs "com/example/slotwright/slotwright/core/RankSet" "levels" "[[J" .null := by rw [grs]; exact D30 (Or.inr (hw _ (List.mem_of_getElem? (i := 17) rfl))) (ty := .array (.array .long)) (by decide)
  have Z1 : n0 ≤ h30.size := Nat.le_trans Z0 E30.1
  have grn : n0 ≤ rs := by rw [grs]; exact Z0
  show Owes _ _ _ _ (T30.setTop (mkF m 65 #[.val (.int p0), .val (.int p1), .val (.int p2), .val (.int p3), .val (.int p4), .val (.int p5), .val (.int sI), .val (.int aI), .val (.int bI), .val (.int cI), .val (.int frI), .val (.int upI), .unset, .unset, .unset] [(.ref rs)]))
  refine Owes.go ?_ fun t₀ k₀ => XS.dup X30.here hx rfl (hb hby at_65) rfl rfl k₀
  show Owes _ _ _ _ (T30.setTop (mkF m 66 #[.val (.int p0), .val (.int p1), .val (.int p2), .val (.int p3), .val (.int p4), .val (.int p5), .val (.int sI), .val (.int aI), .val (.int bI), .val (.int cI), .val (.int frI), .val (.int upI), .unset, .unset, .unset] [(.ref rs), (.ref rs)]))
  refine Owes.go ?_ fun t₀ k₀ => XS.iload X30.here hx rfl (hb hby at_66) rfl k₀
  show Owes _ _ _ _ (T30.setTop (mkF m 68 #[.val (.int p0), .val (.int p1), .val (.int p2), .val (.int p3), .val (.int p4), .val (.int p5), .val (.int sI), .val (.int aI), .val (.int bI), .val (.int cI), .val (.int frI), .val (.int upI), .unset, .unset, .unset] [(.int sI), (.ref rs), (.ref rs)]))
  refine Owes.callC X30 hx hZ rfl hown (hw _ (List.mem_of_getElem? (i := 5) rfl)) (hw _ (List.mem_of_getElem? (i := 6) rfl)) (hw _ (List.mem_of_getElem? (i := 4) rfl)) (hw _ (List.mem_of_getElem? (i := 7) rfl)) (by decide) (a := rs) (argsL := [(.int sI)]) (rest := [(.ref rs)]) (rm_init l Z a0 hw [] rs sI h30 n0 Z1 grn A30 FL0 sz hsz hsz1 (by omega) hSL) e30 (by rw [hml]; rfl) pd_3 rfl rfl (hb hby at_68) (by decide) (Nat.le_of_ble_eq_true rfl) (by decide) (by decide) ?_
  rintro T31 v31 L31 X31 ⟨rfl, N31, lv, d, g, F31, FT⟩
  have NF31 := Fr.app N0 N31
  have H31 : ∀ k, k < d → LV (fun _ => False) k (wsz sz (k + 1)) (fun _ => (0 : Int64)) := fun k _ => LV.empty k _
  show Owes _ _ _ _ (T31.setTop (mkF m 71 #[.val (.int p0), .val (.int p1), .val (.int p2), .val (.int p3), .val (.int p4), .val (.int p5), .val (.int sI), .val (.int aI), .val (.int bI), .val (.int cI), .val (.int frI), .val (.int upI), .unset, .unset, .unset] [(.ref rs)]))
  refine Owes.go ?_ fun t₀ k₀ => XS.astore X31.here hx rfl (hb hby at_71) rfl rfl (l' := #[.val (.int p0), .val (.int p1), .val (.int p2), .val (.int p3), .val (.int p4), .val (.int p5), .val (.int sI), .val (.int aI), .val (.int bI), .val (.int cI), .val (.int frI), .val (.int upI), .val (.ref rs), .unset, .unset]) rfl k₀
  show Owes _ _ _ _ (T31.setTop (mkF m 73 #[.val (.int p0), .val (.int p1), .val (.int p2), .val (.int p3), .val (.int p4), .val (.int p5), .val (.int sI), .val (.int aI), .val (.int bI), .val (.int cI), .val (.int frI), .val (.int upI), .val (.ref rs), .unset, .unset] []))
  refine Owes.go ?_ fun t₀ k₀ => XS.aload X31.here hx rfl (hb hby at_73) rfl rfl k₀
  show Owes _ _ _ _ (T31.setTop (mkF m 75 #[.val (.int p0), .val (.int p1), .val (.int p2), .val (.int p3), .val (.int p4), .val (.int p5), .val (.int sI), .val (.int aI), .val (.int bI), .val (.int cI), .val (.int frI), .val (.int upI), .val (.ref rs), .unset, .unset] [(.ref rs)]))
  refine Owes.go ?_ fun t₀ k₀ => XS.iload X31.here hx rfl (hb hby at_75) rfl k₀
  show Owes _ _ _ _ (T31.setTop (mkF m 77 #[.val (.int p0), .val (.int p1), .val (.int p2), .val (.int p3), .val (.int p4), .val (.int p5), .val (.int sI), .val (.int aI), .val (.int bI), .val (.int cI), .val (.int frI), .val (.int upI), .val (.ref rs), .unset, .unset] [(.int aI), (.ref rs)]))
  refine Owes.callV X31 hx hZ hown (hw _ (List.mem_of_getElem? (i := 24) rfl)) (hw _ (List.mem_of_getElem? (i := 25) rfl)) (notFace_of_selects (args := #[]) (mvT hZ (hw _ (List.mem_of_getElem? (i := 27) rfl)))) (hw _ (List.mem_of_getElem? (i := 27) rfl)) (hw _ (List.mem_of_getElem? (i := 26) rfl)) (hw _ (List.mem_of_getElem? (i := 4) rfl)) (hw _ (List.mem_of_getElem? (i := 28) rfl)) (by decide) (a := rs) (argsL := [(.int aI)]) (rest := []) (rm_add l Z a0 hw [] rs aI T31.heap n0 lv d g (fun k => wsz sz (k + 1)) (fun _ _ => (0 : Int64)) (fun _ => False) sz F31 H31 FT a_ la_ ha_) rfl F31.1 (by rw [hml]; rfl) pd_3 rfl rfl (hb hby at_77) (by decide) (Nat.le_of_ble_eq_true rfl) (by decide) (by decide) ?_
  rintro T32 v32 L32 X32 ⟨rfl, N32, W32, F32, H32⟩
  have NF32 := Fr.app NF31 N32
  show Owes _ _ _ _ (T32.setTop (mkF m 80 #[.val (.int p0), .val (.int p1), .val (.int p2), .val (.int p3), .val (.int p4), .val (.int p5), .val (.int sI), .val (.int aI), .val (.int bI), .val (.int cI), .val (.int frI), .val (.int upI), .val (.ref rs), .unset, .unset] []))
  refine Owes.go ?_ fun t₀ k₀ => XS.aload X32.here hx rfl (hb hby at_80) rfl rfl k₀
  show Owes _ _ _ _ (T32.setTop (mkF m 82 #[.val (.int p0), .val (.int p1), .val (.int p2), .val (.int p3), .val (.int p4), .val (.int p5), .val (.int sI), .val (.int aI), .val (.int bI), .val (.int cI), .val (.int frI), .val (.int upI), .val (.ref rs), .unset, .unset] [(.ref rs)]))
  refine Owes.go ?_ fun t₀ k₀ => XS.iload X32.here hx rfl (hb hby at_82) rfl k₀
  show Owes _ _ _ _ (T32.setTop (mkF m 84 #[.val (.int p0), .val (.int p1), .val (.int p2), .val (.int p3), .val (.int p4), .val (.int p5), .val (.int sI), .val (.int aI), .val (.int bI), .val (.int cI), .val (.int frI), .val (.int upI), .val (.ref rs), .unset, .unset] [(.int bI), (.ref rs)]))
  refine Owes.callV X32 hx hZ hown (hw _ (List.mem_of_getElem? (i := 24) rfl)) (hw _ (List.mem_of_getElem? (i := 25) rfl)) (notFace_of_selects (args := #[]) (mvT hZ (hw _ (List.mem_of_getElem? (i := 27) rfl)))) (hw _ (List.mem_of_getElem? (i := 27) rfl)) (hw _ (List.mem_of_getElem? (i := 26) rfl)) (hw _ (List.mem_of_getElem? (i := 4) rfl)) (hw _ (List.mem_of_getElem? (i := 28) rfl)) (by decide) (a := rs) (argsL := [(.int bI)]) (rest := []) (rm_add l Z a0 hw [] rs bI T32.heap n0 lv d g (fun k => wsz sz (k + 1)) W32 (fun x => (fun _ => False) x ∨ x = a_) sz F32 H32 FT b_ lb_ hb_) rfl F32.1 (by rw [hml]; rfl) pd_3 rfl rfl (hb hby at_84) (by decide) (Nat.le_of_ble_eq_true rfl) (by decide) (by decide) ?_
  rintro T33 v33 L33 X33 ⟨rfl, N33, W33, F33, H33⟩
  have NF33 := Fr.app NF32 N33
  show Owes _ _ _ _ (T33.setTop (mkF m 87 #[.val (.int p0), .val (.int p1), .val (.int p2), .val (.int p3), .val (.int p4), .val (.int p5), .val (.int sI), .val (.int aI), .val (.int bI), .val (.int cI), .val (.int frI), .val (.int upI), .val (.ref rs), .unset, .unset] []))
  refine Owes.go ?_ fun t₀ k₀ => XS.aload X33.here hx rfl (hb hby at_87) rfl rfl k₀
  show Owes _ _ _ _ (T33.setTop (mkF m 89 #[.val (.int p0), .val (.int p1), .val (.int p2), .val (.int p3), .val (.int p4), .val (.int p5), .val (.int sI), .val (.int aI), .val (.int bI), .val (.int cI), .val (.int frI), .val (.int upI), .val (.ref rs), .unset, .unset] [(.ref rs)]))
  refine Owes.go ?_ fun t₀ k₀ => XS.iload X33.here hx rfl (hb hby at_89) rfl k₀
  show Owes _ _ _ _ (T33.setTop (mkF m 91 #[.val (.int p0), .val (.int p1), .val (.int p2), .val (.int p3), .val (.int p4), .val (.int p5), .val (.int sI), .val (.int aI), .val (.int bI), .val (.int cI), .val (.int frI), .val (.int upI), .val (.ref rs), .unset, .unset] [(.int cI), (.ref rs)]))
  refine Owes.callV X33 hx hZ hown (hw _ (List.mem_of_getElem? (i := 24) rfl)) (hw _ (List.mem_of_getElem? (i := 25) rfl)) (notFace_of_selects (args := #[]) (mvT hZ (hw _ (List.mem_of_getElem? (i := 27) rfl)))) (hw _ (List.mem_of_getElem? (i := 27) rfl)) (hw _ (List.mem_of_getElem? (i := 26) rfl)) (hw _ (List.mem_of_getElem? (i := 4) rfl)) (hw _ (List.mem_of_getElem? (i := 28) rfl)) (by decide) (a := rs) (argsL := [(.int cI)]) (rest := []) (rm_add l Z a0 hw [] rs cI T33.heap n0 lv d g (fun k => wsz sz (k + 1)) W33 (fun x => (fun x => (fun _ => False) x ∨ x = a_) x ∨ x = b_) sz F33 H33 FT c_ lc_ hc_) rfl F33.1 (by rw [hml]; rfl) pd_3 rfl rfl (hb hby at_91) (by decide) (Nat.le_of_ble_eq_true rfl) (by decide) (by decide) ?_
  rintro T34 v34 L34 X34 ⟨rfl, N34, W34, F34, H34⟩
  have NF34 := Fr.app NF33 N34
  show Owes _ _ _ _ (T34.setTop (mkF m 94 #[.val (.int p0), .val (.int p1), .val (.int p2), .val (.int p3), .val (.int p4), .val (.int p5), .val (.int sI), .val (.int aI), .val (.int bI), .val (.int cI), .val (.int frI), .val (.int upI), .val (.ref rs), .unset, .unset] []))
  have HM : ∀ x, M3 a_ b_ c_ x → x < sz := by intro x h; have := M3_e h; omega
  refine Owes.go ?_ fun t₀ k₀ => XS.aload X34.here hx rfl (hb hby at_94) rfl rfl k₀
  show Owes _ _ _ _ (T34.setTop (mkF m 96 #[.val (.int p0), .val (.int p1), .val (.int p2), .val (.int p3), .val (.int p4), .val (.int p5), .val (.int sI), .val (.int aI), .val (.int bI), .val (.int cI), .val (.int frI), .val (.int upI), .val (.ref rs), .unset, .unset] [(.ref rs)]))
  refine Owes.go ?_ fun t₀ k₀ => XS.iload X34.here hx rfl (hb hby at_96) rfl k₀
  show Owes _ _ _ _ (T34.setTop (mkF m 98 #[.val (.int p0), .val (.int p1), .val (.int p2), .val (.int p3), .val (.int p4), .val (.int p5), .val (.int sI), .val (.int aI), .val (.int bI), .val (.int cI), .val (.int frI), .val (.int upI), .val (.ref rs), .unset, .unset] [(.int frI), (.ref rs)]))
  refine Owes.callV X34 hx hZ hown (hw _ (List.mem_of_getElem? (i := 29) rfl)) (hw _ (List.mem_of_getElem? (i := 30) rfl)) (notFace_of_selects (args := #[]) (mvT hZ (hw _ (List.mem_of_getElem? (i := 32) rfl)))) (hw _ (List.mem_of_getElem? (i := 32) rfl)) (hw _ (List.mem_of_getElem? (i := 31) rfl)) (hw _ (List.mem_of_getElem? (i := 4) rfl)) (hw _ (List.mem_of_getElem? (i := 33) rfl)) (by decide) (a := rs) (argsL := [(.int frI)]) (rest := []) (rm_next l Z a0 hw [] rs frI T34.heap n0 lv d g (fun k => wsz sz (k + 1)) W34 (M3 a_ b_ c_) sz F34 H34 FT HM fr hfr) rfl F34.1 (by rw [hml]; rfl) pd_0 rfl rfl (hb hby at_98) (by decide) (Nat.le_of_ble_eq_true rfl) (by decide) (by decide) ?_
  rintro T35 v35 L35 X35 ⟨r35, rfl, rfl, e35, I35⟩
  rw [List.append_nil] at X35
  show Owes _ _ _ _ (T35.setTop (mkF m 101 #[.val (.int p0), .val (.int p1), .val (.int p2), .val (.int p3), .val (.int p4), .val (.int p5), .val (.int sI), .val (.int aI), .val (.int bI), .val (.int cI), .val (.int frI), .val (.int upI), .val (.ref rs), .unset, .unset] [(.int r35)]))
  refine Owes.go ?_ fun t₀ k₀ => XS.istore X35.here hx rfl (hb hby at_101) rfl (l' := #[.val (.int p0), .val (.int p1), .val (.int p2), .val (.int p3), .val (.int p4), .val (.int p5), .val (.int sI), .val (.int aI), .val (.int bI), .val (.int cI), .val (.int frI), .val (.int upI), .val (.ref rs), .val (.int r35), .unset]) rfl k₀
  show Owes _ _ _ _ (T35.setTop (mkF m 103 #[.val (.int p0), .val (.int p1), .val (.int p2), .val (.int p3), .val (.int p4), .val (.int p5), .val (.int sI), .val (.int aI), .val (.int bI), .val (.int cI), .val (.int frI), .val (.int upI), .val (.ref rs), .val (.int r35), .unset] []))
  refine Owes.go ?_ fun t₀ k₀ => XS.aload X35.here hx rfl (hb hby at_103) rfl rfl k₀
  show Owes _ _ _ _ (T35.setTop (mkF m 105 #[.val (.int p0), .val (.int p1), .val (.int p2), .val (.int p3), .val (.int p4), .val (.int p5), .val (.int sI), .val (.int aI), .val (.int bI), .val (.int cI), .val (.int frI), .val (.int upI), .val (.ref rs), .val (.int r35), .unset] [(.ref rs)]))
  refine Owes.go ?_ fun t₀ k₀ => XS.iload X35.here hx rfl (hb hby at_105) rfl k₀
  show Owes _ _ _ _ (T35.setTop (mkF m 107 #[.val (.int p0), .val (.int p1), .val (.int p2), .val (.int p3), .val (.int p4), .val (.int p5), .val (.int sI), .val (.int aI), .val (.int bI), .val (.int cI), .val (.int frI), .val (.int upI), .val (.ref rs), .val (.int r35), .unset] [(.int upI), (.ref rs)]))
  refine Owes.callV X35 hx hZ hown (hw _ (List.mem_of_getElem? (i := 43) rfl)) (hw _ (List.mem_of_getElem? (i := 44) rfl)) (notFace_of_selects (args := #[]) (mvT hZ (hw _ (List.mem_of_getElem? (i := 46) rfl)))) (hw _ (List.mem_of_getElem? (i := 46) rfl)) (hw _ (List.mem_of_getElem? (i := 45) rfl)) (hw _ (List.mem_of_getElem? (i := 4) rfl)) (hw _ (List.mem_of_getElem? (i := 47) rfl)) (by decide) (a := rs) (argsL := [(.int upI)]) (rest := []) (rm_previous l Z a0 hw [] rs upI T34.heap n0 lv d g (fun k => wsz sz (k + 1)) W34 (M3 a_ b_ c_) sz F34 H34 FT HM _ hup' (by omega)) e35 F34.1 (by rw [hml]; rfl) pd_0 rfl rfl (hb hby at_107) (by decide) (Nat.le_of_ble_eq_true rfl) (by decide) (by decide) ?_
  rintro T36 v36 L36 X36 ⟨r36, rfl, rfl, e36, I36⟩
  rw [List.append_nil] at X36
  show Owes _ _ _ _ (T36.setTop (mkF m 110 #[.val (.int p0), .val (.int p1), .val (.int p2), .val (.int p3), .val (.int p4), .val (.int p5), .val (.int sI), .val (.int aI), .val (.int bI), .val (.int cI), .val (.int frI), .val (.int upI), .val (.ref rs), .val (.int r35), .unset] [(.int r36)]))
  refine Owes.go ?_ fun t₀ k₀ => XS.istore X36.here hx rfl (hb hby at_110) rfl (l' := #[.val (.int p0), .val (.int p1), .val (.int p2), .val (.int p3), .val (.int p4), .val (.int p5), .val (.int sI), .val (.int aI), .val (.int bI), .val (.int cI), .val (.int frI), .val (.int upI), .val (.ref rs), .val (.int r35), .val (.int r36)]) rfl k₀
  show Owes _ _ _ _ (T36.setTop (mkF m 112 #[.val (.int p0), .val (.int p1), .val (.int p2), .val (.int p3), .val (.int p4), .val (.int p5), .val (.int sI), .val (.int aI), .val (.int bI), .val (.int cI), .val (.int frI), .val (.int upI), .val (.ref rs), .val (.int r35), .val (.int r36)] []))
  refine Owes.go ?_ fun t₀ k₀ => XS.iload X36.here hx rfl (hb hby at_112) rfl k₀
  show Owes _ _ _ _ (T36.setTop (mkF m 114 #[.val (.int p0), .val (.int p1), .val (.int p2), .val (.int p3), .val (.int p4), .val (.int p5), .val (.int sI), .val (.int aI), .val (.int bI), .val (.int cI), .val (.int frI), .val (.int upI), .val (.ref rs), .val (.int r35), .val (.int r36)] [(.int r35)]))
  refine Owes.go ?_ fun t₀ k₀ => XS.iload X36.here hx rfl (hb hby at_114) rfl k₀
  show Owes _ _ _ _ (T36.setTop (mkF m 116 #[.val (.int p0), .val (.int p1), .val (.int p2), .val (.int p3), .val (.int p4), .val (.int p5), .val (.int sI), .val (.int aI), .val (.int bI), .val (.int cI), .val (.int frI), .val (.int upI), .val (.ref rs), .val (.int r35), .val (.int r36)] [(.int aI), (.int r35)]))
  refine Owes.go ?_ fun t₀ k₀ => XS.iload X36.here hx rfl (hb hby at_116) rfl k₀
  show Owes _ _ _ _ (T36.setTop (mkF m 118 #[.val (.int p0), .val (.int p1), .val (.int p2), .val (.int p3), .val (.int p4), .val (.int p5), .val (.int sI), .val (.int aI), .val (.int bI), .val (.int cI), .val (.int frI), .val (.int upI), .val (.ref rs), .val (.int r35), .val (.int r36)] [(.int bI), (.int aI), (.int r35)]))
  refine Owes.go ?_ fun t₀ k₀ => XS.iload X36.here hx rfl (hb hby at_118) rfl k₀
  show Owes _ _ _ _ (T36.setTop (mkF m 120 #[.val (.int p0), .val (.int p1), .val (.int p2), .val (.int p3), .val (.int p4), .val (.int p5), .val (.int sI), .val (.int aI), .val (.int bI), .val (.int cI), .val (.int frI), .val (.int upI), .val (.ref rs), .val (.int r35), .val (.int r36)] [(.int cI), (.int bI), (.int aI), (.int r35)]))
  refine Owes.go ?_ fun t₀ k₀ => XS.iload X36.here hx rfl (hb hby at_120) rfl k₀
  show Owes _ _ _ _ (T36.setTop (mkF m 122 #[.val (.int p0), .val (.int p1), .val (.int p2), .val (.int p3), .val (.int p4), .val (.int p5), .val (.int sI), .val (.int aI), .val (.int bI), .val (.int cI), .val (.int frI), .val (.int upI), .val (.ref rs), .val (.int r35), .val (.int r36)] [(.int frI), (.int cI), (.int bI), (.int aI), (.int r35)]))
  refine Owes.callS X36 hx hZ hown (hw _ (List.mem_of_getElem? (i := 55) rfl)) (hw _ (List.mem_of_getElem? (i := 56) rfl)) (hw _ (List.mem_of_getElem? (i := 57) rfl)) (hw _ (List.mem_of_getElem? (i := 58) rfl)) (by decide) (argsL := [(.int aI), (.int bI), (.int cI), (.int frI)]) (rest := [(.int r35)]) (rm_f_nr l Z a0 hw [] aI bI cI frI T34.heap ) e36 (by rw [hml]; rfl) pd_4 rfl rfl (hb hby at_122) (by decide) (Nat.le_of_ble_eq_true rfl) (by decide) (by decide) ?_
  rintro T37 _ _ X37 ⟨rfl, rfl, e37⟩
  rw [List.append_nil] at X37
  show Owes _ _ _ _ (T37.setTop (mkF m 125 #[.val (.int p0), .val (.int p1), .val (.int p2), .val (.int p3), .val (.int p4), .val (.int p5), .val (.int sI), .val (.int aI), .val (.int bI), .val (.int cI), .val (.int frI), .val (.int upI), .val (.ref rs), .val (.int r35), .val (.int r36)] [(.int (f_nr aI bI cI frI)), (.int r35)]))
  refine Owes.go ?_ fun t₀ k₀ => XS.icmpNo X37.here hx rfl (hb hby at_125) rfl (teq (Int32.toInt_inj.mp (NextIs.one I35 (own_nr _ _ _ _ _ _ _ _ ha_ hb_ hc_ hfr)))).2 k₀
  show Owes _ _ _ _ (T37.setTop (mkF m 128 #[.val (.int p0), .val (.int p1), .val (.int p2), .val (.int p3), .val (.int p4), .val (.int p5), .val (.int sI), .val (.int aI), .val (.int bI), .val (.int cI), .val (.int frI), .val (.int upI), .val (.ref rs), .val (.int r35), .val (.int r36)] []))
  refine Owes.go ?_ fun t₀ k₀ => XS.iload X37.here hx rfl (hb hby at_128) rfl k₀
  show Owes _ _ _ _ (T37.setTop (mkF m 130 #[.val (.int p0), .val (.int p1), .val (.int p2), .val (.int p3), .val (.int p4), .val (.int p5), .val (.int sI), .val (.int aI), .val (.int bI), .val (.int cI), .val (.int frI), .val (.int upI), .val (.ref rs), .val (.int r35), .val (.int r36)] [(.int r36)]))
  refine Owes.go ?_ fun t₀ k₀ => XS.iload X37.here hx rfl (hb hby at_130) rfl k₀
  show Owes _ _ _ _ (T37.setTop (mkF m 132 #[.val (.int p0), .val (.int p1), .val (.int p2), .val (.int p3), .val (.int p4), .val (.int p5), .val (.int sI), .val (.int aI), .val (.int bI), .val (.int cI), .val (.int frI), .val (.int upI), .val (.ref rs), .val (.int r35), .val (.int r36)] [(.int aI), (.int r36)]))
  refine Owes.go ?_ fun t₀ k₀ => XS.iload X37.here hx rfl (hb hby at_132) rfl k₀
  show Owes _ _ _ _ (T37.setTop (mkF m 134 #[.val (.int p0), .val (.int p1), .val (.int p2), .val (.int p3), .val (.int p4), .val (.int p5), .val (.int sI), .val (.int aI), .val (.int bI), .val (.int cI), .val (.int frI), .val (.int upI), .val (.ref rs), .val (.int r35), .val (.int r36)] [(.int bI), (.int aI), (.int r36)]))
  refine Owes.go ?_ fun t₀ k₀ => XS.iload X37.here hx rfl (hb hby at_134) rfl k₀
  show Owes _ _ _ _ (T37.setTop (mkF m 136 #[.val (.int p0), .val (.int p1), .val (.int p2), .val (.int p3), .val (.int p4), .val (.int p5), .val (.int sI), .val (.int aI), .val (.int bI), .val (.int cI), .val (.int frI), .val (.int upI), .val (.ref rs), .val (.int r35), .val (.int r36)] [(.int cI), (.int bI), (.int aI), (.int r36)]))
  refine Owes.go ?_ fun t₀ k₀ => XS.iload X37.here hx rfl (hb hby at_136) rfl k₀
  show Owes _ _ _ _ (T37.setTop (mkF m 138 #[.val (.int p0), .val (.int p1), .val (.int p2), .val (.int p3), .val (.int p4), .val (.int p5), .val (.int sI), .val (.int aI), .val (.int bI), .val (.int cI), .val (.int frI), .val (.int upI), .val (.ref rs), .val (.int r35), .val (.int r36)] [(.int upI), (.int cI), (.int bI), (.int aI), (.int r36)]))
  refine Owes.callS X37 hx hZ hown (hw _ (List.mem_of_getElem? (i := 59) rfl)) (hw _ (List.mem_of_getElem? (i := 60) rfl)) (hw _ (List.mem_of_getElem? (i := 57) rfl)) (hw _ (List.mem_of_getElem? (i := 61) rfl)) (by decide) (argsL := [(.int aI), (.int bI), (.int cI), (.int upI)]) (rest := [(.int r36)]) (rm_f_pr l Z a0 hw [] aI bI cI upI T34.heap ) e37 (by rw [hml]; rfl) pd_4 rfl rfl (hb hby at_138) (by decide) (Nat.le_of_ble_eq_true rfl) (by decide) (by decide) ?_
  rintro T38 _ _ X38 ⟨rfl, rfl, e38⟩
  rw [List.append_nil] at X38
  show Owes _ _ _ _ (T38.setTop (mkF m 141 #[.val (.int p0), .val (.int p1), .val (.int p2), .val (.int p3), .val (.int p4), .val (.int p5), .val (.int sI), .val (.int aI), .val (.int bI), .val (.int cI), .val (.int frI), .val (.int upI), .val (.ref rs), .val (.int r35), .val (.int r36)] [(.int (f_pr aI bI cI upI)), (.int r36)]))
  refine Owes.go ?_ fun t₀ k₀ => XS.icmpNo X38.here hx rfl (hb hby at_141) rfl (teq (Int32.toInt_inj.mp (PrevIs.one I36 (own_pr _ _ _ _ _ _ _ _ ha_ hb_ hc_ hup')))).2 k₀
  show Owes _ _ _ _ (T38.setTop (mkF m 144 #[.val (.int p0), .val (.int p1), .val (.int p2), .val (.int p3), .val (.int p4), .val (.int p5), .val (.int sI), .val (.int aI), .val (.int bI), .val (.int cI), .val (.int frI), .val (.int upI), .val (.ref rs), .val (.int r35), .val (.int r36)] []))
  refine Owes.go ?_ fun t₀ k₀ => XS.iconst X38.here hx rfl (hb hby at_144) k₀
  show Owes _ _ _ _ (T38.setTop (mkF m 145 #[.val (.int p0), .val (.int p1), .val (.int p2), .val (.int p3), .val (.int p4), .val (.int p5), .val (.int sI), .val (.int aI), .val (.int bI), .val (.int cI), .val (.int frI), .val (.int upI), .val (.ref rs), .val (.int r35), .val (.int r36)] [(.int (1 : Int32))]))
  refine Owes.go ?_ fun t₀ k₀ => XS.goto X38.here hx rfl (pc0 := 145) (pc' := 149) rfl (hb hby at_145) (by decide) (by decide) k₀
  show Owes _ _ _ _ (T38.setTop (mkF m 149 #[.val (.int p0), .val (.int p1), .val (.int p2), .val (.int p3), .val (.int p4), .val (.int p5), .val (.int sI), .val (.int aI), .val (.int bI), .val (.int cI), .val (.int frI), .val (.int upI), .val (.ref rs), .val (.int r35), .val (.int r36)] [(.int (1 : Int32))]))
  exact Owes.retN X38 hx hlk hret (by simp) (hb hby at_149) (by decide) (by decide) ⟨rfl, NF34⟩
set_option maxRecDepth 65536 in
set_option maxHeartbeats 40000000 in
theorem comes_1 {Post : Tables → Env → Array Value → State → Outcome → State → Prop} (hpost : ∀ tb e args s v u, (limb_1_1.after args s (.returned v) u = true ∧ limb_1_2.after args s (.returned v) u = true ∧ True) → FrameEnd s (.returned v) u (Jvm.fieldLocs frame_1_writes args s ++ Jvm.arrayLocs frame_1_arrays args s ++ Jvm.staticLocs frame_1_statics s) 24 16768 → Post tb e args s (.returned v) u) :
    ArmFor flags0 classFile x code maxLocals ret World_1 tables_1 room_1 Calls_1 rest_1 Pre_1 Post := by
  intro l hfl _ _ p e ha hc hk s m args below hf hA hF happ hP
  obtain ⟨hcalls, hrest, hpre⟩ := hP
  obtain ⟨-, -, -, hnamed, -, -, -, hat⟩ := (Spec.applies_iff hf).mp happ
  obtain ⟨hg, hn⟩ := and_e (Cond.before_iff.mp (show (Jvm.Cond.and given_1 narrow_1).before args s = true from hpre))
  obtain ⟨g1, g2⟩ := and_e hg
  obtain ⟨g3, g4⟩ := and_e g2
  obtain ⟨g5, g6⟩ := and_e g4
  obtain ⟨g7, g8⟩ := and_e g6
  obtain ⟨g9, g10⟩ := and_e g8
  obtain ⟨g11, g12⟩ := and_e g10
  obtain ⟨w0, w1, w2, w3, w4, w5, rfl⟩ : ∃ w0 w1 w2 w3 w4 w5 : Value, args = #[w0, w1, w2, w3, w4, w5] := by
    have hs : args.size = 6 := by simpa [Cond.value, given_1] using g1
    obtain ⟨L⟩ := args
    match L, hs with
    | [w0, w1, w2, w3, w4, w5], _ => exact ⟨w0, w1, w2, w3, w4, w5, rfl⟩
  have hw := fun d (hd : d ∈ tables_1) => atoms_spec (ws := Jvm.Cond.code x code maxLocals ret :: tables_1) hat d (List.mem_cons_of_mem _ hd)
  have hfit : Fit s := fun {y c} hc i hi => by
    obtain ⟨ha, rfl⟩ := Array.getElem?_eq_some_iff.mp hc
    have q := List.all_eq_true.mp ((Array.all_eq_true_iff_forall_mem.mp hF) _ (Array.getElem_mem ha)) i (List.mem_range.mpr hi)
    simpa [Array.getElem?_eq_getElem hi] using q
  obtain ⟨i0, ei0⟩ := is_v g3
  obtain rfl : w0 = (.int i0) := Option.some.inj ei0
  obtain ⟨i1, ei1⟩ := is_v g5
  obtain rfl : w1 = (.int i1) := Option.some.inj ei1
  obtain ⟨i2, ei2⟩ := is_v g7
  obtain rfl : w2 = (.int i2) := Option.some.inj ei2
  obtain ⟨i3, ei3⟩ := is_v g9
  obtain rfl : w3 = (.int i3) := Option.some.inj ei3
  obtain ⟨i4, ei4⟩ := is_v g11
  obtain rfl : w4 = (.int i4) := Option.some.inj ei4
  obtain ⟨i5, ei5⟩ := is_v g12
  obtain rfl : w5 = (.int i5) := Option.some.inj ei5
  obtain ⟨n, o, h1, h2, h3, _, L, rfl, ⟨rfl, N⟩, hq⟩ := rm0 l s _ hw tables_1 i0 i1 i2 i3 i4 i5 s.heap s.heap.size (Nat.le_refl _)  p e ha hc hk s m _ below hf ((Spec.applies_iff_loose hf).mp happ).1 ⟨rfl, State.Warmed39.refl s, rfl⟩ trivial
  refine ⟨n, _, h1, h2, h3, hpost _ _ _ _ _ _ ⟨Cond.after_iff.mpr rfl, Cond.after_iff.mpr (eq_i res_at (Term.int_eval (1)) rfl), trivial⟩ ⟨hq.1, hq.2.1, (hq.2.2.sift fun y hy => Or.inr (N y hy)).mono (by decide) (by decide)⟩⟩
theorem main_1_1 : Claimed_1_1 := comes_1 fun _ _ _ _ _ _ h hF => ⟨h.1, hF⟩
theorem main_1_2 : Claimed_1_2 := comes_1 fun _ _ _ _ _ _ h hF => ⟨h.2.1, hF⟩
end Jvm.Pilot.@@N@@
namespace Jvm.Pilot.@@N@@
open Jvm Jvm.ClassFile Sem Op Lib Jvm.Free Jvm.Stand Jvm.Pilot.@@N@@.Jvm.D
/-! MADE BY PROGRAM (witnessworld.py) out of the Statement's table words and the real class files: 19 classes; the members and pool entries that the words name. The judged class is class 1, her method 3. -/
namespace start1
open Jvm.ClassFile
def u (s : String) : CpInfo := .utf8 (stringToUtf16 s)
/-- a pool by its gaps: so many unusable entries, then the entry; so many at the end -/
def gap : Nat → List CpInfo → List CpInfo
  | 0, r => r
  | n + 1, r => .unusable :: gap n r
def poolList (es : List (Nat × CpInfo)) (last : Nat) : List CpInfo := es.foldr (fun e r => gap e.1 (e.2 :: r)) (gap last [])
def pool (es : List (Nat × CpInfo)) (last : Nat) : Array CpInfo := ⟨poolList es last⟩
def fileOf (pool : Array CpInfo) (this : Nat) (attrs : Array Attribute := #[]) (ms : Array MethodInfo := #[]) (fl : Nat := 33) (sup : Nat := 0) (ifs : Array Nat := #[]) (fds : Array FieldInfo := #[]) : ClassFile where
  minorVersion := 0
  majorVersion := 65
  constantPool := pool
  accessFlags := fl
  thisClass := this
  superClass := sup
  interfaces := ifs
  fields := fds
  methods := ms
  attributes := attrs
def plain (name : String) (sup : Option ClassId) : Class where
  name := name
  kind := .ordinary
  loader := none
  accessFlags := 33
  super := sup
  interfaces := #[]
  cf := none
  fields := #[]
  methods := #[]
  instanceTypes := #[]
  staticTypes := #[]
  resolved := #[]
  callSites := []
  init := .initialized
  statics := none
  mirror := none

def pool0 : Array CpInfo := pool [(5, u "<init>"), (0, u "()V"), (1, .class_ 10), (1, u "java/lang/Object")] 113

def k0c0 : Code := { maxStack := 0, maxLocals := 1, code := object_method_1_code, exceptionTable := #[], attributes := #[] }
def k0m0 : Method := { name := "<init>", desc := "()V", sig := { parameters := [], returnType := none }, accessFlags := 1, code := some k0c0 }
/-- java/lang/Object -/
def k0 : Class := { plain "java/lang/Object" none with
  accessFlags := 33
  interfaces := #[]
  cf := some (fileOf pool0 8 #[] #[{ accessFlags := 1, nameIndex := 5, descriptorIndex := 6, attributes := #[] }] 33 0 #[] #[])
  fields := #[]
  methods := #[k0m0]
  instanceTypes := #[]
  staticTypes := #[]
  resolved := Array.replicate 124 none
  statics := none }

def pool1 : Array CpInfo := pool [(2, .class_ 4), (1, u "java/lang/Object"), (0, u "<init>"), (0, u "()V"), (0, .integer 524287), (0, .integer 2147483647), (0, .class_ 10), (0, u "com/example/slotwright/slotwright/core/RankSet"), (0, .methodref 9 12), (0, .nameAndType 5 13), (0, u "(I)V"), (0, .methodref 9 15), (0, .nameAndType 16 13), (0, u "add"), (0, .methodref 9 18), (0, .nameAndType 19 20), (0, u "next"), (0, u "(I)I"), (0, .methodref 9 22), (0, .nameAndType 23 20), (0, u "previous"), (0, .methodref 25 26), (0, .class_ 27), (0, .nameAndType 28 29), (0, u "com/example/slotwright/slotwright/core/RankSetAddPinLaw"), (0, u "nextRef"), (0, u "(IIII)I"), (0, .methodref 25 31), (0, .nameAndType 32 29), (0, u "prevRef"), (3, u "law"), (0, u "(IIIIII)Z")] 2

def k1m0 : Method := { name := "<init>", desc := "()V", sig := { parameters := [], returnType := none }, accessFlags := 1, code := none }
def k1c1 : Code := { maxStack := 2, maxLocals := 5, code := method_2_code, exceptionTable := #[], attributes := #[] }
def k1m1 : Method := { name := "nextRef", desc := "(IIII)I", sig := { parameters := [.int, .int, .int, .int], returnType := some .int }, accessFlags := 10, code := some k1c1 }
def k1c2 : Code := { maxStack := 2, maxLocals := 5, code := method_3_code, exceptionTable := #[], attributes := #[] }
def k1m2 : Method := { name := "prevRef", desc := "(IIII)I", sig := { parameters := [.int, .int, .int, .int], returnType := some .int }, accessFlags := 10, code := some k1c2 }
def k1c3 : Code := { maxStack := 5, maxLocals := 15, code := code, exceptionTable := #[], attributes := #[] }
def k1m3 : Method := { name := "law", desc := "(IIIIII)Z", sig := { parameters := [.int, .int, .int, .int, .int, .int], returnType := some .boolean }, accessFlags := 9, code := some k1c3 }
/-- com/example/slotwright/slotwright/core/RankSetAddPinLaw -/
def k1 : Class := { plain "com/example/slotwright/slotwright/core/RankSetAddPinLaw" (some 0) with
  accessFlags := 49
  interfaces := #[]
  cf := some (fileOf pool1 25 #[] #[{ accessFlags := 1, nameIndex := 5, descriptorIndex := 6, attributes := #[] }, { accessFlags := 10, nameIndex := 28, descriptorIndex := 29, attributes := #[] }, { accessFlags := 10, nameIndex := 32, descriptorIndex := 29, attributes := #[] }, { accessFlags := 9, nameIndex := 36, descriptorIndex := 37, attributes := #[] }] 49 2 #[] #[])
  fields := #[]
  methods := #[k1m0, k1m1, k1m2, k1m3]
  instanceTypes := #[]
  staticTypes := #[]
  resolved := Array.replicate 40 none
  statics := none }

def pool2 : Array CpInfo := pool [(1, .methodref 2 3), (0, .class_ 4), (0, .nameAndType 5 6), (0, u "java/lang/Object"), (0, u "<init>"), (0, u "()V"), (0, .methodref 8 9), (0, .class_ 10), (0, .nameAndType 11 12), (0, u "com/example/slotwright/slotwright/core/RankSet"), (0, u "wordsFor"), (0, u "(I)I"), (0, .class_ 14), (0, u "[J"), (0, .fieldref 8 16), (0, .nameAndType 17 18), (0, u "levels"), (0, u "[[J"), (0, .methodref 20 21), (0, .class_ 22), (0, .nameAndType 23 24), (0, u "java/lang/Math"), (0, u "max"), (0, u "(II)I"), (0, .long 18446744073709551615), (7, .methodref 34 35), (0, .class_ 36), (0, .nameAndType 37 38), (0, u "java/lang/Long"), (0, u "numberOfTrailingZeros"), (0, u "(J)I"), (0, .methodref 34 40), (0, .nameAndType 41 38), (0, u "numberOfLeadingZeros"), (0, u "(I)V"), (3, u "add"), (3, u "next"), (0, u "previous")] 2

def k2c0 : Code := { maxStack := 4, maxLocals := 5, code := prog_118_method_1_code, exceptionTable := #[], attributes := #[] }
def k2m0 : Method := { name := "<init>", desc := "(I)V", sig := { parameters := [.int], returnType := none }, accessFlags := 0, code := some k2c0 }
def k2c1 : Code := { maxStack := 7, maxLocals := 8, code := prog_118_method_2_code, exceptionTable := #[], attributes := #[] }
def k2m1 : Method := { name := "add", desc := "(I)V", sig := { parameters := [.int], returnType := none }, accessFlags := 0, code := some k2c1 }
def k2c2 : Code := { maxStack := 5, maxLocals := 6, code := prog_118_method_5_code, exceptionTable := #[], attributes := #[] }
def k2m2 : Method := { name := "next", desc := "(I)I", sig := { parameters := [.int], returnType := some .int }, accessFlags := 0, code := some k2c2 }
def k2c3 : Code := { maxStack := 7, maxLocals := 6, code := prog_118_method_6_code, exceptionTable := #[], attributes := #[] }
def k2m3 : Method := { name := "previous", desc := "(I)I", sig := { parameters := [.int], returnType := some .int }, accessFlags := 0, code := some k2c3 }
def k2c4 : Code := { maxStack := 2, maxLocals := 1, code := prog_118_method_7_code, exceptionTable := #[], attributes := #[] }
def k2m4 : Method := { name := "wordsFor", desc := "(I)I", sig := { parameters := [.int], returnType := some .int }, accessFlags := 10, code := some k2c4 }
/-- com/example/slotwright/slotwright/core/RankSet -/
def k2 : Class := { plain "com/example/slotwright/slotwright/core/RankSet" (some 0) with
  accessFlags := 48
  interfaces := #[]
  cf := some (fileOf pool2 8 #[] #[{ accessFlags := 0, nameIndex := 5, descriptorIndex := 42, attributes := #[] }, { accessFlags := 0, nameIndex := 46, descriptorIndex := 42, attributes := #[] }, { accessFlags := 0, nameIndex := 50, descriptorIndex := 12, attributes := #[] }, { accessFlags := 0, nameIndex := 51, descriptorIndex := 12, attributes := #[] }, { accessFlags := 10, nameIndex := 11, descriptorIndex := 12, attributes := #[] }] 48 2 #[] #[{ accessFlags := 18, nameIndex := 17, descriptorIndex := 18, attributes := #[] }])
  fields := #[{ name := "levels", type := (.array (.array .long)), accessFlags := 18, slot := 0, constantValue := 0 }]
  methods := #[k2m0, k2m1, k2m2, k2m3, k2m4]
  instanceTypes := #[(.array (.array .long))]
  staticTypes := #[]
  resolved := Array.replicate 54 none
  statics := none }

def pool3 : Array CpInfo := pool [(1, .class_ 2), (0, u "java/lang/Math"), (1, .class_ 6), (1, u "java/lang/Object"), (0, u "<init>"), (0, u "()V"), (89, .class_ 100), (1, u "java/lang/Math$RandomNumberGeneratorHolder"), (71, u "negativeZeroFloatBits"), (0, u "J"), (2, u "negativeZeroDoubleBits"), (21, u "max"), (46, u "$assertionsDisabled"), (0, u "Z"), (88, u "(II)I"), (2, u "twoToTheDoubleScaleDown"), (0, u "D"), (4, u "twoToTheDoubleScaleUp"), (9, u "E"), (3, u "PI"), (2, u "TAU"), (2, u "DEGREES_TO_RADIANS"), (0, u "RADIANS_TO_DEGREES")] 94

def k3m0 : Method := { name := "<init>", desc := "()V", sig := { parameters := [], returnType := none }, accessFlags := 2, code := none }
def k3c1 : Code := { maxStack := 2, maxLocals := 2, code := jdk_29_method_65_code, exceptionTable := #[], attributes := #[] }
def k3m1 : Method := { name := "max", desc := "(II)I", sig := { parameters := [.int, .int], returnType := some .int }, accessFlags := 9, code := some k3c1 }
/-- java/lang/Math -/
def k3 : Class := { plain "java/lang/Math" (some 0) with
  accessFlags := 49
  interfaces := #[]
  cf := some (fileOf pool3 1 #[.nestMembers #[98]] #[{ accessFlags := 2, nameIndex := 7, descriptorIndex := 8, attributes := #[] }, { accessFlags := 9, nameIndex := 198, descriptorIndex := 335, attributes := #[] }] 49 4 #[] #[{ accessFlags := 25, nameIndex := 354, descriptorIndex := 339, attributes := #[] }, { accessFlags := 25, nameIndex := 358, descriptorIndex := 339, attributes := #[] }, { accessFlags := 25, nameIndex := 361, descriptorIndex := 339, attributes := #[] }, { accessFlags := 26, nameIndex := 364, descriptorIndex := 339, attributes := #[] }, { accessFlags := 26, nameIndex := 365, descriptorIndex := 339, attributes := #[] }, { accessFlags := 26, nameIndex := 172, descriptorIndex := 173, attributes := #[] }, { accessFlags := 26, nameIndex := 176, descriptorIndex := 173, attributes := #[] }, { accessFlags := 8, nameIndex := 344, descriptorIndex := 339, attributes := #[] }, { accessFlags := 8, nameIndex := 338, descriptorIndex := 339, attributes := #[] }, { accessFlags := 4120, nameIndex := 245, descriptorIndex := 246, attributes := #[] }])
  fields := #[{ name := "E", type := .double, accessFlags := 25, slot := 0, constantValue := 0 }, { name := "PI", type := .double, accessFlags := 25, slot := 1, constantValue := 0 }, { name := "TAU", type := .double, accessFlags := 25, slot := 2, constantValue := 0 }, { name := "DEGREES_TO_RADIANS", type := .double, accessFlags := 26, slot := 3, constantValue := 0 }, { name := "RADIANS_TO_DEGREES", type := .double, accessFlags := 26, slot := 4, constantValue := 0 }, { name := "negativeZeroFloatBits", type := .long, accessFlags := 26, slot := 5, constantValue := 0 }, { name := "negativeZeroDoubleBits", type := .long, accessFlags := 26, slot := 6, constantValue := 0 }, { name := "twoToTheDoubleScaleUp", type := .double, accessFlags := 8, slot := 7, constantValue := 0 }, { name := "twoToTheDoubleScaleDown", type := .double, accessFlags := 8, slot := 8, constantValue := 0 }, { name := "$assertionsDisabled", type := .boolean, accessFlags := 4120, slot := 9, constantValue := 0 }]
  methods := #[k3m0, k3m1]
  instanceTypes := #[]
  staticTypes := #[.double, .double, .double, .double, .double, .long, .long, .double, .double, .boolean]
  resolved := Array.replicate 460 none
  statics := none }

def pool4 : Array CpInfo := pool [(1, .class_ 2), (0, u "java/io/Serializable"), (0, .class_ 4), (0, u "java/lang/Object")] 2

/-- java/io/Serializable -/
def k4 : Class := { plain "java/io/Serializable" (some 0) with
  accessFlags := 1537
  interfaces := #[]
  cf := some (fileOf pool4 1 #[] #[] 1537 3 #[] #[])
  fields := #[]
  methods := #[]
  instanceTypes := #[]
  staticTypes := #[]
  resolved := Array.replicate 7 none
  statics := none }

def pool5 : Array CpInfo := pool [(2, .class_ 4), (1, u "java/lang/Object"), (0, u "<init>"), (0, u "()V"), (1, .class_ 10), (1, u "java/lang/Number"), (2, .class_ 14), (0, u "java/io/Serializable"), (0, u "serialVersionUID"), (0, u "J")] 20

def k5m0 : Method := { name := "<init>", desc := "()V", sig := { parameters := [], returnType := none }, accessFlags := 1, code := none }
/-- java/lang/Number -/
def k5 : Class := { plain "java/lang/Number" (some 0) with
  accessFlags := 1057
  interfaces := #[4]
  cf := some (fileOf pool5 8 #[] #[{ accessFlags := 1, nameIndex := 5, descriptorIndex := 6, attributes := #[] }] 1057 2 #[13] #[{ accessFlags := 26, nameIndex := 15, descriptorIndex := 16, attributes := #[] }])
  fields := #[{ name := "serialVersionUID", type := .long, accessFlags := 26, slot := 0, constantValue := 0 }]
  methods := #[k5m0]
  instanceTypes := #[]
  staticTypes := #[.long]
  resolved := Array.replicate 37 none
  statics := none }

def pool6 : Array CpInfo := pool [(1, .class_ 2), (0, u "java/lang/Comparable"), (0, .class_ 4), (0, u "java/lang/Object")] 7

/-- java/lang/Comparable -/
def k6 : Class := { plain "java/lang/Comparable" (some 0) with
  accessFlags := 1537
  interfaces := #[]
  cf := some (fileOf pool6 1 #[] #[] 1537 3 #[] #[])
  fields := #[]
  methods := #[]
  instanceTypes := #[]
  staticTypes := #[]
  resolved := Array.replicate 12 none
  statics := none }

def pool7 : Array CpInfo := pool [(1, .class_ 2), (0, u "java/lang/constant/Constable"), (0, .class_ 4), (0, u "java/lang/Object")] 6

/-- java/lang/constant/Constable -/
def k7 : Class := { plain "java/lang/constant/Constable" (some 0) with
  accessFlags := 1537
  interfaces := #[]
  cf := some (fileOf pool7 1 #[] #[] 1537 3 #[] #[])
  fields := #[]
  methods := #[]
  instanceTypes := #[]
  staticTypes := #[]
  resolved := Array.replicate 11 none
  statics := none }

def pool8 : Array CpInfo := pool [(1, .class_ 2), (0, u "java/lang/constant/ConstantDesc"), (0, .class_ 4), (0, u "java/lang/Object")] 32

/-- java/lang/constant/ConstantDesc -/
def k8 : Class := { plain "java/lang/constant/ConstantDesc" (some 0) with
  accessFlags := 1537
  interfaces := #[]
  cf := some (fileOf pool8 1 #[] #[] 1537 3 #[] #[])
  fields := #[]
  methods := #[]
  instanceTypes := #[]
  staticTypes := #[]
  resolved := Array.replicate 37 none
  statics := none }

def pool9 : Array CpInfo := pool [(1, .class_ 2), (0, u "java/lang/Long"), (15, .class_ 20), (1, u "java/lang/Integer"), (79, u "numberOfLeadingZeros"), (0, u "(J)I"), (133, .class_ 237), (1, u "java/lang/Long$LongCache"), (33, .class_ 272), (0, u "java/lang/Number"), (2, u "value"), (0, u "J"), (31, .methodref 18 309), (0, .nameAndType 100 310), (0, u "(I)I"), (0, .methodref 18 312), (0, .nameAndType 313 310), (0, u "numberOfTrailingZeros"), (47, u "TYPE"), (0, u "Ljava/lang/Class;"), (0, .class_ 364), (0, u "java/lang/Comparable"), (0, .class_ 366), (0, u "java/lang/constant/Constable"), (0, .class_ 368), (0, u "java/lang/constant/ConstantDesc"), (0, u "MIN_VALUE"), (1, u "MAX_VALUE"), (4, u "SIZE"), (0, u "I"), (1, u "BYTES"), (1, u "serialVersionUID")] 142

def k9c0 : Code := { maxStack := 3, maxLocals := 3, code := jdk_35_method_48_code, exceptionTable := #[], attributes := #[] }
def k9m0 : Method := { name := "numberOfLeadingZeros", desc := "(J)I", sig := { parameters := [.long], returnType := some .int }, accessFlags := 9, code := some k9c0 }
def k9c1 : Code := { maxStack := 4, maxLocals := 3, code := jdk_35_method_49_code, exceptionTable := #[], attributes := #[] }
def k9m1 : Method := { name := "numberOfTrailingZeros", desc := "(J)I", sig := { parameters := [.long], returnType := some .int }, accessFlags := 9, code := some k9c1 }
/-- java/lang/Long -/
def k9 : Class := { plain "java/lang/Long" (some 5) with
  accessFlags := 49
  interfaces := #[6, 7, 8]
  cf := some (fileOf pool9 1 #[.nestMembers #[235]] #[{ accessFlags := 9, nameIndex := 100, descriptorIndex := 101, attributes := #[] }, { accessFlags := 9, nameIndex := 313, descriptorIndex := 101, attributes := #[] }] 49 271 #[363, 365, 367] #[{ accessFlags := 25, nameIndex := 369, descriptorIndex := 276, attributes := #[] }, { accessFlags := 25, nameIndex := 371, descriptorIndex := 276, attributes := #[] }, { accessFlags := 25, nameIndex := 361, descriptorIndex := 362, attributes := #[] }, { accessFlags := 18, nameIndex := 275, descriptorIndex := 276, attributes := #[] }, { accessFlags := 25, nameIndex := 376, descriptorIndex := 377, attributes := #[] }, { accessFlags := 25, nameIndex := 379, descriptorIndex := 377, attributes := #[] }, { accessFlags := 26, nameIndex := 381, descriptorIndex := 276, attributes := #[] }])
  fields := #[{ name := "MIN_VALUE", type := .long, accessFlags := 25, slot := 0, constantValue := 0 }, { name := "MAX_VALUE", type := .long, accessFlags := 25, slot := 1, constantValue := 0 }, { name := "TYPE", type := (.object "java/lang/Class"), accessFlags := 25, slot := 2, constantValue := 0 }, { name := "value", type := .long, accessFlags := 18, slot := 0, constantValue := 0 }, { name := "SIZE", type := .int, accessFlags := 25, slot := 3, constantValue := 0 }, { name := "BYTES", type := .int, accessFlags := 25, slot := 4, constantValue := 0 }, { name := "serialVersionUID", type := .long, accessFlags := 26, slot := 5, constantValue := 0 }]
  methods := #[k9m0, k9m1]
  instanceTypes := #[.long]
  staticTypes := #[.long, .long, (.object "java/lang/Class"), .int, .int, .long]
  resolved := Array.replicate 524 none
  statics := none }

def pool10 : Array CpInfo := pool [(1, .class_ 2), (0, u "java/lang/Integer"), (16, u "digits"), (0, u "[C"), (32, u "numberOfLeadingZeros"), (0, u "(I)I"), (30, u "DigitOnes"), (0, u "[B"), (2, u "DigitTens"), (99, .class_ 190), (0, u "java/lang/Integer$IntegerCache"), (3, u "I"), (8, .class_ 204), (0, u "java/lang/Number"), (2, u "value"), (56, .integer 65536), (37, u "TYPE"), (0, u "Ljava/lang/Class;"), (0, .class_ 305), (0, u "java/lang/Comparable"), (0, .class_ 307), (0, u "java/lang/constant/Constable"), (0, .class_ 309), (0, u "java/lang/constant/ConstantDesc"), (0, u "MIN_VALUE"), (1, u "MAX_VALUE"), (3, u "SIZE"), (1, u "BYTES"), (1, u "serialVersionUID"), (0, u "J"), (84, u "numberOfTrailingZeros")] 46

def k10c0 : Code := { maxStack := 3, maxLocals := 2, code := jdk_33_method_47_code, exceptionTable := #[], attributes := #[] }
def k10m0 : Method := { name := "numberOfLeadingZeros", desc := "(I)I", sig := { parameters := [.int], returnType := some .int }, accessFlags := 9, code := some k10c0 }
def k10c1 : Code := { maxStack := 3, maxLocals := 2, code := jdk_33_method_48_code, exceptionTable := #[], attributes := #[] }
def k10m1 : Method := { name := "numberOfTrailingZeros", desc := "(I)I", sig := { parameters := [.int], returnType := some .int }, accessFlags := 9, code := some k10c1 }
/-- java/lang/Integer -/
def k10 : Class := { plain "java/lang/Integer" (some 5) with
  accessFlags := 49
  interfaces := #[6, 7, 8]
  cf := some (fileOf pool10 1 #[.nestMembers #[189]] #[{ accessFlags := 9, nameIndex := 53, descriptorIndex := 54, attributes := #[] }, { accessFlags := 9, nameIndex := 406, descriptorIndex := 54, attributes := #[] }] 49 203 #[304, 306, 308] #[{ accessFlags := 25, nameIndex := 310, descriptorIndex := 194, attributes := #[] }, { accessFlags := 25, nameIndex := 312, descriptorIndex := 194, attributes := #[] }, { accessFlags := 25, nameIndex := 302, descriptorIndex := 303, attributes := #[] }, { accessFlags := 24, nameIndex := 19, descriptorIndex := 20, attributes := #[] }, { accessFlags := 24, nameIndex := 89, descriptorIndex := 86, attributes := #[] }, { accessFlags := 24, nameIndex := 85, descriptorIndex := 86, attributes := #[] }, { accessFlags := 18, nameIndex := 207, descriptorIndex := 194, attributes := #[] }, { accessFlags := 25, nameIndex := 316, descriptorIndex := 194, attributes := #[] }, { accessFlags := 25, nameIndex := 318, descriptorIndex := 194, attributes := #[] }, { accessFlags := 26, nameIndex := 320, descriptorIndex := 321, attributes := #[] }])
  fields := #[{ name := "MIN_VALUE", type := .int, accessFlags := 25, slot := 0, constantValue := 0 }, { name := "MAX_VALUE", type := .int, accessFlags := 25, slot := 1, constantValue := 0 }, { name := "TYPE", type := (.object "java/lang/Class"), accessFlags := 25, slot := 2, constantValue := 0 }, { name := "digits", type := (.array .char), accessFlags := 24, slot := 3, constantValue := 0 }, { name := "DigitTens", type := (.array .byte), accessFlags := 24, slot := 4, constantValue := 0 }, { name := "DigitOnes", type := (.array .byte), accessFlags := 24, slot := 5, constantValue := 0 }, { name := "value", type := .int, accessFlags := 18, slot := 0, constantValue := 0 }, { name := "SIZE", type := .int, accessFlags := 25, slot := 6, constantValue := 0 }, { name := "BYTES", type := .int, accessFlags := 25, slot := 7, constantValue := 0 }, { name := "serialVersionUID", type := .long, accessFlags := 26, slot := 8, constantValue := 0 }]
  methods := #[k10m0, k10m1]
  instanceTypes := #[.int]
  staticTypes := #[.int, .int, (.object "java/lang/Class"), (.array .char), (.array .byte), (.array .byte), .int, .int, .long]
  resolved := Array.replicate 453 none
  statics := none }

def pool11 : Array CpInfo := pool [(1, u "java/lang/Cloneable"), (0, .class_ 1), (0, u "java/lang/Object"), (0, .class_ 3)] 3

/-- java/lang/Cloneable -/
def k11 : Class := { plain "java/lang/Cloneable" (some 0) with
  accessFlags := 1537
  interfaces := #[]
  cf := some (fileOf pool11 2 #[] #[] 1537 4 #[] #[])
  fields := #[]
  methods := #[]
  instanceTypes := #[]
  staticTypes := #[]
  resolved := Array.replicate 8 none
  statics := none }

/-- the primitive byte -/
def k12 : Class := { plain "byte" none with kind := .primitive 'B', accessFlags := 0x411 }
/-- [B -/
def k13 : Class := { plain "[B" (some 0) with kind := .array 12 .byte, interfaces := #[11, 4], accessFlags := 1041 }

/-- the primitive int -/
def k14 : Class := { plain "int" none with kind := .primitive 'I', accessFlags := 0x411 }
/-- [I -/
def k15 : Class := { plain "[I" (some 0) with kind := .array 14 .int, interfaces := #[11, 4], accessFlags := 1041 }

/-- the primitive long -/
def k16 : Class := { plain "long" none with kind := .primitive 'J', accessFlags := 0x411 }
/-- [J -/
def k17 : Class := { plain "[J" (some 0) with kind := .array 16 .long, interfaces := #[11, 4], accessFlags := 1041 }

/-- [[J -/
def k18 : Class := { plain "[[J" (some 0) with kind := .array 17 (.array .long), interfaces := #[11, 4], accessFlags := 1041 }

def heap : Heap := #[{ cls := 18, slots := #[.null], vm := .none }]
def classes : Array Class := #[k0, k1, k2, k3, k4, k5, k6, k7, k8, k9, k10, k11, k12, k13, k14, k15, k16, k17, k18]
def interned : List (Array UInt16 × Addr) := []
def slotsUsed : Nat := 1
def theMethod : MethodId := ⟨1, 3⟩
def args0 : Array Value := #[.int 5, .int 1, .int 2, .int 3, .int 4, .int 6]
def aboutOver (below : List Frame) : State where
  vm := { classes := classes, interned := interned.toArray }
  heap := heap
  slotsUsed := slotsUsed
  threads := #[{ frames := .invoking theMethod args0 :: below }]
def below0 : List Frame := [.native { method := ⟨0, 0⟩, args := #[] }]
def about1 : State := aboutOver below0
def p0 : Program := .bare "" "" ""
def e0 : Env := launch0.env 0 0 0
theorem w_frames : about1.frames = Frame.invoking theMethod args0 :: below0 := rfl
set_option maxRecDepth 65536 in
theorem w_args : argsFit about1.vm theMethod args0 = true := by decide +kernel
set_option maxRecDepth 65536 in
theorem w_heap : heapFits about1 = true := by decide +kernel
set_option maxRecDepth 65536 in
theorem w_runnable : about1.curStatus? = some .runnable := by decide +kernel
set_option maxRecDepth 65536 in
theorem w_alone : about1.alone = true := by decide +kernel
set_option maxRecDepth 65536 in
theorem w_named : about1.methodNamed? x = some theMethod := by decide +kernel
set_option maxRecDepth 65536 in
theorem w_hears : about1.hears theMethod below0 = true := by decide +kernel
set_option maxRecDepth 65536 in
theorem w_ripe : about1.ripe theMethod args0 below0 = true := by decide +kernel
theorem w_running : about1.status = .running := rfl
set_option maxRecDepth 65536 in
theorem w_room : about1.hasRoom e0.platform room_1 = true :=
  launch0.hasRoom_least _ room_1 (by decide +kernel) (by decide +kernel) (by decide +kernel) (by decide +kernel) (by decide +kernel) (by decide +kernel)
theorem allAtoms_all (ts : List Jvm.Cond) (a : Array Jvm.Value) (st : Jvm.State) : (allAtoms ts).before a st = ts.all (fun c => c.before a st) := by
  induction ts with
  | nil => rfl
  | cons c t ih =>
    show (Jvm.Cond.and c (allAtoms t)).before a st = _
    rw [Jvm.Cond.before_and, ih, List.all_cons]
def words1 : List Jvm.Cond := Jvm.Cond.code x code maxLocals ret :: tables_1
/-- a 'code' word, met by the world's own term for the bytes: nothing is compared byte by byte -/
theorem code_word {y : MethodName} {bytes : ByteArray} {mx : Nat} {rt : Option FieldType} {a : Array Value} {s : State} {m : MethodId} {meth : Method} {c : Code} (h1 : s.methodNamed? y = some m) (h2 : s.vm.method? m = some meth) (h3 : meth.code = some c) (h4 : c.code = bytes)
    (h5 : (c.maxLocals == mx && c.exceptionTable.isEmpty && decide (c.maxStack ≤ mostOperands) && decide (meth.sig.returnType = rt) && !meth.locks && decide (parseMethodDescriptor y.desc = some meth.sig)) = true) : (Jvm.Cond.code y bytes mx rt).before a s = true := by
  simp only [Bool.and_eq_true, beq_iff_eq, Bool.not_eq_true', decide_eq_true_eq] at h5
  obtain ⟨⟨⟨⟨⟨g1, g2⟩, g3⟩, g4⟩, g5⟩, g6⟩ := h5
  simp [Cond.before, Cond.holds, Cond.value, h1, h2, h3, h4, g1, g2, g3, g4, g5, g6]
def isCode : Jvm.Cond → Bool
  | .code _ _ _ _ => true
  | _ => false
theorem all_split {L : List Jvm.Cond} {P : Jvm.Cond → Bool} (h1 : L.all (fun c => isCode c || P c) = true) (h2 : ∀ c ∈ L.filter isCode, P c = true) : L.all P = true := by
  refine List.all_eq_true.mpr fun c hc => ?_
  have h := List.all_eq_true.mp h1 c hc
  rcases Bool.eq_false_or_eq_true (isCode c) with hi | hi
  · exact h2 c (List.mem_filter.mpr ⟨hc, hi⟩)
  · simpa [hi] using h
set_option maxRecDepth 65536 in
theorem w_c0 : (Jvm.Cond.code x code maxLocals ret).before args0 about1 = true := code_word (m := ⟨1, 3⟩) (meth := k1m3) (c := k1c3) (by decide +kernel) rfl rfl rfl (by decide +kernel)
set_option maxRecDepth 65536 in
theorem w_c1 : (Jvm.Cond.code ({ cls := "com/example/slotwright/slotwright/core/RankSet", name := "<init>", desc := "(I)V" } : Jvm.MethodName) prog_118_method_1_code (5 : Nat) (Option.none : Option Jvm.ClassFile.FieldType)).before args0 about1 = true := code_word (m := ⟨2, 0⟩) (meth := k2m0) (c := k2c0) (by decide +kernel) rfl rfl rfl (by decide +kernel)
set_option maxRecDepth 65536 in
theorem w_c2 : (Jvm.Cond.code ({ cls := "java/lang/Object", name := "<init>", desc := "()V" } : Jvm.MethodName) object_method_1_code (1 : Nat) (Option.none : Option Jvm.ClassFile.FieldType)).before args0 about1 = true := code_word (m := ⟨0, 0⟩) (meth := k0m0) (c := k0c0) (by decide +kernel) rfl rfl rfl (by decide +kernel)
set_option maxRecDepth 65536 in
theorem w_c3 : (Jvm.Cond.code ({ cls := "com/example/slotwright/slotwright/core/RankSet", name := "wordsFor", desc := "(I)I" } : Jvm.MethodName) prog_118_method_7_code (1 : Nat) (Option.some Jvm.ClassFile.FieldType.int)).before args0 about1 = true := code_word (m := ⟨2, 4⟩) (meth := k2m4) (c := k2c4) (by decide +kernel) rfl rfl rfl (by decide +kernel)
set_option maxRecDepth 65536 in
theorem w_c4 : (Jvm.Cond.code ({ cls := "java/lang/Math", name := "max", desc := "(II)I" } : Jvm.MethodName) jdk_29_method_65_code (2 : Nat) (Option.some Jvm.ClassFile.FieldType.int)).before args0 about1 = true := code_word (m := ⟨3, 1⟩) (meth := k3m1) (c := k3c1) (by decide +kernel) rfl rfl rfl (by decide +kernel)
set_option maxRecDepth 65536 in
theorem w_c5 : (Jvm.Cond.code ({ cls := "com/example/slotwright/slotwright/core/RankSet", name := "add", desc := "(I)V" } : Jvm.MethodName) prog_118_method_2_code (8 : Nat) (Option.none : Option Jvm.ClassFile.FieldType)).before args0 about1 = true := code_word (m := ⟨2, 1⟩) (meth := k2m1) (c := k2c1) (by decide +kernel) rfl rfl rfl (by decide +kernel)
set_option maxRecDepth 65536 in
theorem w_c6 : (Jvm.Cond.code ({ cls := "com/example/slotwright/slotwright/core/RankSet", name := "next", desc := "(I)I" } : Jvm.MethodName) prog_118_method_5_code (6 : Nat) (Option.some Jvm.ClassFile.FieldType.int)).before args0 about1 = true := code_word (m := ⟨2, 2⟩) (meth := k2m2) (c := k2c2) (by decide +kernel) rfl rfl rfl (by decide +kernel)
set_option maxRecDepth 65536 in
theorem w_c7 : (Jvm.Cond.code ({ cls := "java/lang/Long", name := "numberOfTrailingZeros", desc := "(J)I" } : Jvm.MethodName) jdk_35_method_49_code (3 : Nat) (Option.some Jvm.ClassFile.FieldType.int)).before args0 about1 = true := code_word (m := ⟨9, 1⟩) (meth := k9m1) (c := k9c1) (by decide +kernel) rfl rfl rfl (by decide +kernel)
set_option maxRecDepth 65536 in
theorem w_c8 : (Jvm.Cond.code ({ cls := "java/lang/Integer", name := "numberOfTrailingZeros", desc := "(I)I" } : Jvm.MethodName) jdk_33_method_48_code (2 : Nat) (Option.some Jvm.ClassFile.FieldType.int)).before args0 about1 = true := code_word (m := ⟨10, 1⟩) (meth := k10m1) (c := k10c1) (by decide +kernel) rfl rfl rfl (by decide +kernel)
set_option maxRecDepth 65536 in
theorem w_c9 : (Jvm.Cond.code ({ cls := "com/example/slotwright/slotwright/core/RankSet", name := "previous", desc := "(I)I" } : Jvm.MethodName) prog_118_method_6_code (6 : Nat) (Option.some Jvm.ClassFile.FieldType.int)).before args0 about1 = true := code_word (m := ⟨2, 3⟩) (meth := k2m3) (c := k2c3) (by decide +kernel) rfl rfl rfl (by decide +kernel)
set_option maxRecDepth 65536 in
theorem w_c10 : (Jvm.Cond.code ({ cls := "java/lang/Long", name := "numberOfLeadingZeros", desc := "(J)I" } : Jvm.MethodName) jdk_35_method_48_code (3 : Nat) (Option.some Jvm.ClassFile.FieldType.int)).before args0 about1 = true := code_word (m := ⟨9, 0⟩) (meth := k9m0) (c := k9c0) (by decide +kernel) rfl rfl rfl (by decide +kernel)
set_option maxRecDepth 65536 in
theorem w_c11 : (Jvm.Cond.code ({ cls := "java/lang/Integer", name := "numberOfLeadingZeros", desc := "(I)I" } : Jvm.MethodName) jdk_33_method_47_code (2 : Nat) (Option.some Jvm.ClassFile.FieldType.int)).before args0 about1 = true := code_word (m := ⟨10, 0⟩) (meth := k10m0) (c := k10c0) (by decide +kernel) rfl rfl rfl (by decide +kernel)
set_option maxRecDepth 65536 in
theorem w_c12 : (Jvm.Cond.code ({ cls := "com/example/slotwright/slotwright/core/RankSetAddPinLaw", name := "nextRef", desc := "(IIII)I" } : Jvm.MethodName) method_2_code (5 : Nat) (Option.some Jvm.ClassFile.FieldType.int)).before args0 about1 = true := code_word (m := ⟨1, 1⟩) (meth := k1m1) (c := k1c1) (by decide +kernel) rfl rfl rfl (by decide +kernel)
set_option maxRecDepth 65536 in
theorem w_c13 : (Jvm.Cond.code ({ cls := "com/example/slotwright/slotwright/core/RankSetAddPinLaw", name := "prevRef", desc := "(IIII)I" } : Jvm.MethodName) method_3_code (5 : Nat) (Option.some Jvm.ClassFile.FieldType.int)).before args0 about1 = true := code_word (m := ⟨1, 2⟩) (meth := k1m2) (c := k1c2) (by decide +kernel) rfl rfl rfl (by decide +kernel)
def codes1 : List Jvm.Cond := [Jvm.Cond.code x code maxLocals ret, Jvm.Cond.code ({ cls := "com/example/slotwright/slotwright/core/RankSet", name := "<init>", desc := "(I)V" } : Jvm.MethodName) prog_118_method_1_code (5 : Nat) (Option.none : Option Jvm.ClassFile.FieldType), Jvm.Cond.code ({ cls := "java/lang/Object", name := "<init>", desc := "()V" } : Jvm.MethodName) object_method_1_code (1 : Nat) (Option.none : Option Jvm.ClassFile.FieldType), Jvm.Cond.code ({ cls := "com/example/slotwright/slotwright/core/RankSet", name := "wordsFor", desc := "(I)I" } : Jvm.MethodName) prog_118_method_7_code (1 : Nat) (Option.some Jvm.ClassFile.FieldType.int), Jvm.Cond.code ({ cls := "java/lang/Math", name := "max", desc := "(II)I" } : Jvm.MethodName) jdk_29_method_65_code (2 : Nat) (Option.some Jvm.ClassFile.FieldType.int), Jvm.Cond.code ({ cls := "com/example/slotwright/slotwright/core/RankSet", name := "add", desc := "(I)V" } : Jvm.MethodName) prog_118_method_2_code (8 : Nat) (Option.none : Option Jvm.ClassFile.FieldType), Jvm.Cond.code ({ cls := "com/example/slotwright/slotwright/core/RankSet", name := "next", desc := "(I)I" } : Jvm.MethodName) prog_118_method_5_code (6 : Nat) (Option.some Jvm.ClassFile.FieldType.int), Jvm.Cond.code ({ cls := "java/lang/Long", name := "numberOfTrailingZeros", desc := "(J)I" } : Jvm.MethodName) jdk_35_method_49_code (3 : Nat) (Option.some Jvm.ClassFile.FieldType.int), Jvm.Cond.code ({ cls := "java/lang/Integer", name := "numberOfTrailingZeros", desc := "(I)I" } : Jvm.MethodName) jdk_33_method_48_code (2 : Nat) (Option.some Jvm.ClassFile.FieldType.int), Jvm.Cond.code ({ cls := "com/example/slotwright/slotwright/core/RankSet", name := "previous", desc := "(I)I" } : Jvm.MethodName) prog_118_method_6_code (6 : Nat) (Option.some Jvm.ClassFile.FieldType.int), Jvm.Cond.code ({ cls := "java/lang/Long", name := "numberOfLeadingZeros", desc := "(J)I" } : Jvm.MethodName) jdk_35_method_48_code (3 : Nat) (Option.some Jvm.ClassFile.FieldType.int), Jvm.Cond.code ({ cls := "java/lang/Integer", name := "numberOfLeadingZeros", desc := "(I)I" } : Jvm.MethodName) jdk_33_method_47_code (2 : Nat) (Option.some Jvm.ClassFile.FieldType.int), Jvm.Cond.code ({ cls := "com/example/slotwright/slotwright/core/RankSetAddPinLaw", name := "nextRef", desc := "(IIII)I" } : Jvm.MethodName) method_2_code (5 : Nat) (Option.some Jvm.ClassFile.FieldType.int), Jvm.Cond.code ({ cls := "com/example/slotwright/slotwright/core/RankSetAddPinLaw", name := "prevRef", desc := "(IIII)I" } : Jvm.MethodName) method_3_code (5 : Nat) (Option.some Jvm.ClassFile.FieldType.int)]
set_option maxRecDepth 65536 in
theorem codes_eq : words1.filter isCode = codes1 := rfl
theorem w_codes : ∀ c ∈ words1.filter isCode, c.before args0 about1 = true := by
  rw [codes_eq]
  intro c hc
  simp only [codes1, List.mem_cons, List.not_mem_nil, or_false] at hc
  rcases hc with rfl | rfl | rfl | rfl | rfl | rfl | rfl | rfl | rfl | rfl | rfl | rfl | rfl | rfl
  · exact w_c0
  · exact w_c1
  · exact w_c2
  · exact w_c3
  · exact w_c4
  · exact w_c5
  · exact w_c6
  · exact w_c7
  · exact w_c8
  · exact w_c9
  · exact w_c10
  · exact w_c11
  · exact w_c12
  · exact w_c13
set_option maxRecDepth 65536 in
theorem w_t1 : (words1.take 24).all (fun c => isCode c || c.before args0 about1) = true := by decide +kernel
set_option maxRecDepth 65536 in
theorem w_t2 : ((words1.drop 24).take 24).all (fun c => isCode c || c.before args0 about1) = true := by decide +kernel
set_option maxRecDepth 65536 in
theorem w_t3 : ((words1.drop 24).drop 24).all (fun c => isCode c || c.before args0 about1) = true := by decide +kernel
theorem w_tables : (allAtoms (Jvm.Cond.code x code maxLocals ret :: tables_1)).before args0 about1 = true := by
  rw [allAtoms_all]
  show words1.all (fun c => c.before args0 about1) = true
  refine all_split ?_ w_codes
  rw [← List.take_append_drop 24 words1, List.all_append, w_t1, ← List.take_append_drop 24 (words1.drop 24), List.all_append, w_t2, w_t3]
  rfl
set_option maxRecDepth 65536 in
theorem w_case : (Jvm.Cond.and given_1 narrow_1).before args0 about1 = true := by decide +kernel
theorem w_applies : (headSpec (Jvm.Cond.code x code maxLocals ret :: tables_1) room_1).applies x e0.platform about1 = true :=
  (Spec.applies_iff w_frames).mpr ⟨w_running, w_runnable, w_alone, w_named, w_hears, w_ripe, w_room, w_tables⟩
theorem atStart : AtStart classFile x code maxLocals ret World_1 tables_1 room_1 Calls_1 rest_1 Pre_1 launch0 p0 e0 about1 theMethod args0 below0 :=
  ⟨lists_1, trivial, launch0.admits_env _ _ _, launch0.least_env, fairChoices_fair.cas, fairChoices_fair.clock, w_frames, w_args, w_heap, w_applies, trivial, trivial, w_case⟩
end start1
theorem witness_1 : WitnessClaimed_1 := ⟨start1.p0, start1.e0, start1.about1, start1.theMethod, start1.args0, start1.below0, start1.atStart⟩
end Jvm.Pilot.@@N@@
