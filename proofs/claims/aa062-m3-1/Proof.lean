import JvmDerived
import JvmDerived.Pilot.@@N@@Statement
import JvmDerived.Pilot.@@N@@Code
set_option linter.unusedVariables false
set_option linter.unusedSimpArgs false
set_option maxRecDepth 65536
namespace Jvm.Pilot.@@N@@
open Jvm Jvm.ClassFile Sem Op Lib Jvm.Free Jvm.Stand Jvm.LawKit Jvm.RoadKit Bundle Jvm.Pilot.@@N@@.Jvm.D
section Own
variable {p : Program} {l : Launch} {e : Env} {R : Room} {s : State} {m : MethodId} {args : Array Value} {below : List Frame} {meth : Method} {c : Code} {T : State} {locs : List Loc} {cells slots : Nat} {Z : State} {a0 : Array Value} {h : Heap}
variable {Q : Option Value → Heap → List Loc → Prop} {F : Outcome → State → Prop} {C N : Nat} {A B : State}
/-- how a body ends: it returns v, Q holds of what it returned, of the heap and of the places written; nothing else is written (EndW: String constants may have been interned) -/
def EndN (s : State) (Q : Option Value → Heap → List Loc → Prop) (C N : Nat) (o : Outcome) (t : State) : Prop := ∃ v L, o = .returned v ∧ Q v t.heap L ∧ FrameEnd s o t L C N
/-- what a body owes from a point of its walk: it comes to its end, and F holds there -/
def Owes (p : Program) (e : Env) (below : List Frame) (F : Outcome → State → Prop) (A : State) : Prop :=
  ∃ s₂ o, Steps p.tables e below A s₂ ∧ s₂.status = .running ∧ Ended s₂ below o ∧ F o s₂
theorem Owes.go (k : Owes p e below F B) (f : ∀ t, Steps p.tables e below B t → Steps p.tables e below A t) : Owes p e below F A := by
  obtain ⟨s₂, o, h1, r⟩ := k
  exact ⟨s₂, o, f _ h1, r⟩
theorem Owes.tr (k : Owes p e below F B) (st : Steps p.tables e below A B) : Owes p e below F A := by
  obtain ⟨s₂, o, h1, r⟩ := k
  exact ⟨s₂, o, st.trans h1, r⟩
theorem Owes.mono {Q' : Option Value → Heap → List Loc → Prop} (k : Owes p e below (EndN s Q C N) A) (f : ∀ v h L, Q v h L → Q' v h L) : Owes p e below (EndN s Q' C N) A := by
  obtain ⟨s₂, o, h1, h2, h3, v, L, h4, h5, h6⟩ := k
  exact ⟨s₂, o, h1, h2, h3, v, L, h4, f _ _ _ h5, h6⟩
/-- a body's contract at given arguments and a given heap -/
def OMet (l : Launch) (y : MethodName) (bytes : ByteArray) (maxL : Nat) (ret : Option FieldType) (ws : List Jvm.Cond) (rm : Room) (as' : Array Value) (Z : State) (h0 : Heap) (Q : Option Value → Heap → List Loc → Prop) : Prop :=
  MetFree l y (head1 (Jvm.Cond.code y bytes maxL ret :: ws) rm) (fun a U => a = as' ∧ Z.Warmed39 U.vm ∧ U.heap = h0) (fun _ _ _ _ _ => True) (fun _ U o U' => ∃ v L, o = .returned v ∧ Q v U'.heap L ∧ FrameEnd U o U' L rm.cells rm.slots)
theorem OMet.of {y : MethodName} {bytes : ByteArray} {maxL : Nat} {ret : Option FieldType} {ws : List Jvm.Cond} {rm : Room} {as' : Array Value} {h0 : Heap} (hpl : plainFor y = true) {Ls : Array Slot} (ef : ∀ m, entryFrame m as' maxL = mkF m 0 Ls [])
    (body : ∀ (p : Program) (e : Env) (s : State) (m : MethodId) (below : List Frame) (meth : Method) (c : Code) (s₁ : State), p.tables.exec = Jvm.exec → c.code = bytes → c.maxLocals = maxL → s.vm.findClass y.cls = some m.cls → meth.name = y.name → meth.sig.returnType = ret → meth.locks = false → Z.Warmed39 s.vm →
      Stand p l e rm s m as' below meth c s₁ [] 0 0 → s₁.heap = h0 → Owes p e below (EndN s Q rm.cells rm.slots) (s₁.setTop (mkF m 0 Ls []))) : OMet l y bytes maxL ret ws rm as' Z h0 Q := by
  refine MetFree.of_bodySF hpl hisR ?_
  intro p e s m args below meth c s₁ Bd hml0 hP hK
  obtain ⟨rfl, hZ, hh⟩ := hP
  have hlk : meth.locks = false := BodyLoose.notSynchronized Bd
  have X0 : Stand p l e rm s m args below meth c s₁ [] 0 0 := Stand.of_body Bd
  have e0 : s₁.heap = h0 := by rw [← hh, Bd.state]; rfl
  obtain ⟨s₂, o, h1, h2, h3, h4⟩ := body p e s m below meth c s₁ Bd.exec Bd.bytes hml0 (findClass_of_methodNamed Bd.named) (name_of_methodNamed Bd.named Bd.method).1 Bd.returns hlk hZ X0 e0
  exact ⟨s₂, o, castTop (ef m) h1, h2, h3, h4⟩
theorem OMet.mono {y : MethodName} {bytes : ByteArray} {maxL : Nat} {ret : Option FieldType} {ws : List Jvm.Cond} {rm : Room} {as' : Array Value} {h0 : Heap} {Q' : Option Value → Heap → List Loc → Prop} (M : OMet l y bytes maxL ret ws rm as' Z h0 Q) (f : ∀ v h L, Q v h L → Q' v h L) : OMet l y bytes maxL ret ws rm as' Z h0 Q' := by
  intro p e ha hc hk s m args below hf happ hP hK
  obtain ⟨n, o, h1, h2, h3, v, L, h4, h5, h6⟩ := M p e ha hc hk s m args below hf happ hP hK
  exact ⟨n, o, h1, h2, h3, v, L, h4, f _ _ _ h5, h6⟩
theorem own_end (X : Stand p l e R s m args below meth c T locs cells slots) (hlk : meth.locks = false) {v : Option Value} (hv : meth.sig.returnType = none → v = none) (hc : cells ≤ C) (hs : slots ≤ N) (hq : Q v T.heap locs) {A : State}
    (hst : ∀ fs : List Frame, (∀ (f : JFrame) (acts : List Action), f.method = m → f.locked = none → f.entered = [] → (doReturn e (T.setTop f) acts v).1 = T.setFrames fs) → Steps p.tables e below A (T.setFrames fs)) : Owes p e below (EndN s Q C N) A := by
  obtain ⟨fs, hr, hrun, hended, hW, hsame⟩ := X.leave hv hlk
  exact ⟨_, _, hst fs hr, hrun, hended, v, locs, rfl, hq, ⟨_, rfl⟩, hW, hsame.mono hc hs⟩
theorem Owes.retN (X : Stand p l e R s m args below meth c T locs cells slots) (hx : p.tables.exec = Jvm.exec) (hlk : meth.locks = false) {pc : Nat} {Ls : Array Slot} {z : Int32} {t : FieldType} {rest : List Value} (hret : meth.sig.returnType = some t) (ht : t = .boolean ∨ t = .byte ∨ t = .char ∨ t = .short)
    (hd : decode c.code pc = .ok (.ireturn, 1)) (hc : cells ≤ C) (hs : slots ≤ N) (hq : Q (some (.int (nar t z))) T.heap locs) : Owes p e below (EndN s Q C N) (T.setTop (mkF m pc Ls (.int z :: rest))) :=
  own_end X hlk (fun h => by rw [hret] at h; cases h) hc hs hq fun fs hr => Jvm.RoadKit.retN X hx hret ht hd hr
theorem Owes.retI (X : Stand p l e R s m args below meth c T locs cells slots) (hx : p.tables.exec = Jvm.exec) (hlk : meth.locks = false) {pc : Nat} {Ls : Array Slot} {z : Int32} {rest : List Value} (hret : meth.sig.returnType = some .int)
    (hd : decode c.code pc = .ok (.ireturn, 1)) (hc : cells ≤ C) (hs : slots ≤ N) (hq : Q (some (.int z)) T.heap locs) : Owes p e below (EndN s Q C N) (T.setTop (mkF m pc Ls (.int z :: rest))) :=
  own_end X hlk (fun h => by rw [hret] at h; cases h) hc hs hq fun fs hr => Jvm.RoadKit.retOut X hx hret rfl (Or.inl ⟨rfl, Or.inl rfl, _, rfl⟩) hd hr
theorem Owes.retJ (X : Stand p l e R s m args below meth c T locs cells slots) (hx : p.tables.exec = Jvm.exec) (hlk : meth.locks = false) {pc : Nat} {Ls : Array Slot} {z : Int64} {rest : List Value} (hret : meth.sig.returnType = some .long)
    (hd : decode c.code pc = .ok (.lreturn, 1)) (hc : cells ≤ C) (hs : slots ≤ N) (hq : Q (some (.long z)) T.heap locs) : Owes p e below (EndN s Q C N) (T.setTop (mkF m pc Ls (.long z :: rest))) :=
  own_end X hlk (fun h => by rw [hret] at h; cases h) hc hs hq fun fs hr => Jvm.RoadKit.retOut X hx hret rfl (Or.inr (Or.inl ⟨rfl, rfl, _, rfl⟩)) hd hr
theorem Owes.retA (X : Stand p l e R s m args below meth c T locs cells slots) (hx : p.tables.exec = Jvm.exec) (hlk : meth.locks = false) {pc : Nat} {Ls : Array Slot} {w : Value} {t : FieldType} {rest : List Value} (hret : meth.sig.returnType = some t) (ht : t.isReference = true) (hn : narrow t w = w) (hw : w.isRef = true)
    (hd : decode c.code pc = .ok (.areturn, 1)) (hc : cells ≤ C) (hs : slots ≤ N) (hq : Q (some w) T.heap locs) : Owes p e below (EndN s Q C N) (T.setTop (mkF m pc Ls (w :: rest))) :=
  own_end X hlk (fun h => by rw [hret] at h; cases h) hc hs hq fun fs hr => Jvm.RoadKit.retOut X hx hret hn (Or.inr (Or.inr (Or.inr (Or.inr ⟨rfl, ht, hw⟩)))) hd hr
theorem Owes.retV (X : Stand p l e R s m args below meth c T locs cells slots) (hx : p.tables.exec = Jvm.exec) (hlk : meth.locks = false) {pc : Nat} {Ls : Array Slot} (hret : meth.sig.returnType = none)
    (hd : decode c.code pc = .ok (.return_, 1)) (hc : cells ≤ C) (hs : slots ≤ N) (hq : Q none T.heap locs) : Owes p e below (EndN s Q C N) (T.setTop (mkF m pc Ls [])) :=
  own_end X hlk (fun _ => rfl) hc hs hq fun fs hr => X.returnOut hx hret hd hr
/-- a static method by its contract -/
theorem Owes.callS (X : Stand p l e R s m args below meth c T locs cells slots) (hx : p.tables.exec = Jvm.exec) (hZ : Z.Warmed39 s.vm) {own : String} {index : Nat} {y : MethodName} {bytes : ByteArray} {maxL : Nat} {ret : Option FieldType} {rm : Room}
    (hown : s.vm.findClass own = some m.cls) (w1 : (Cond.methodLink own index y).before a0 Z = true) (w2 : (Cond.static y).before a0 Z = true) (w3 : (Cond.initialized y.cls).before a0 Z = true) (w4 : (Cond.code y bytes maxL ret).before a0 Z = true)
    (hy : y.cls ≠ "java/lang/invoke/MethodHandle" ∧ y.cls ≠ "java/lang/invoke/VarHandle") {pc : Nat} {Ls : Array Slot} {argsL rest : List Value} {Q' : Option Value → Heap → List Loc → Prop} (M : OMet l y bytes maxL ret [] rm argsL.toArray Z h Q') (eT : T.heap = h) (hsize : Ls.size = c.maxLocals)
    {ps : List FieldType} {rt : Option FieldType} (hpd : parseMethodDescriptor y.desc = some ⟨ps, rt⟩) (hln : argsL.length = ps.length) {st : List Value} (hst : st = argsL.reverse ++ rest) (hd : decode c.code pc = .ok (.invokestatic index, 3))
    (hf : rm.frames + 1 ≤ R.frames) (hl : (rest.map fun v => v.category).sum + (maxL + 11) + rm.locals ≤ R.locals) (hcl : cells + rm.cells ≤ R.cells) (hsl : slots + rm.slots ≤ R.slots)
    (k : ∀ (T' : State) (v : Option Value) (L : List Loc), Stand p l e R s m args below meth c T' (locs ++ L) (cells + rm.cells) (slots + rm.slots) → Q' v T'.heap L → Owes p e below F (T'.setTop (mkF m (pc + 3) Ls (v.toList ++ rest)))) :
    Owes p e below F (T.setTop (mkF m pc Ls st)) := by
  subst hst
  obtain ⟨v, _, ⟨T3, L3, k3, n3⟩, -, X3, ⟨Lc3, hQ3, l3, y3, z3⟩, st3⟩ := Jvm.LawKit.callS X hx (y := y) hown (mvT hZ w1) (mvT hZ w2) (mvT hZ w3) (mvT hZ w4) hy (backOf (W := (rest.map fun v => v.category).sum) M hZ w4 w3 hf hl) (g := mkF m pc Ls (argsL.reverse ++ rest)) rfl hsize (argsL := argsL) (rest := rest) (lenOf hpd hln) rfl (by show 2 * 0 + _ ≤ _; omega) hd (fun _ _ => ⟨rfl, eT, hcl, hsl⟩)
  dsimp only [Pt.U, Pt.locs, Pt.cells, Pt.slots] at X3 l3 y3 z3 st3 hQ3
  subst l3 y3 z3
  exact (k T3 v Lc3 X3 hQ3).go st3
/-- a constructor by its contract -/
theorem Owes.callC (X : Stand p l e R s m args below meth c T locs cells slots) (hx : p.tables.exec = Jvm.exec) (hZ : Z.Warmed39 s.vm) {own : String} {index : Nat} {y : MethodName} {bytes : ByteArray} {maxL : Nat} {rm : Room} (hy1 : y.name = "<init>")
    (hown : s.vm.findClass own = some m.cls) (w1 : (Cond.methodLink own index y).before a0 Z = true) (w2 : (Cond.instanceMethod y).before a0 Z = true) (w3 : (Cond.initialized y.cls).before a0 Z = true) (w4 : (Cond.code y bytes maxL none).before a0 Z = true)
    (hy : y.cls ≠ "java/lang/invoke/MethodHandle" ∧ y.cls ≠ "java/lang/invoke/VarHandle") {pc : Nat} {Ls : Array Slot} {a : Addr} {argsL rest : List Value} {Q' : Option Value → Heap → List Loc → Prop} (M : OMet l y bytes maxL none [] rm (.ref a :: argsL).toArray Z h Q') (eT : T.heap = h) (hsize : Ls.size = c.maxLocals)
    {ps : List FieldType} {rt : Option FieldType} (hpd : parseMethodDescriptor y.desc = some ⟨ps, rt⟩) (hln : argsL.length = ps.length) {st : List Value} (hst : st = argsL.reverse ++ .ref a :: rest) (hd : decode c.code pc = .ok (.invokespecial index, 3))
    (hf : rm.frames + 1 ≤ R.frames) (hl : (rest.map fun v => v.category).sum + (maxL + 11) + rm.locals ≤ R.locals) (hcl : cells + rm.cells ≤ R.cells) (hsl : slots + rm.slots ≤ R.slots)
    (k : ∀ (T' : State) (v : Option Value) (L : List Loc), Stand p l e R s m args below meth c T' (locs ++ L) (cells + rm.cells) (slots + rm.slots) → Q' v T'.heap L → Owes p e below F (T'.setTop (mkF m (pc + 3) Ls (v.toList ++ rest)))) :
    Owes p e below F (T.setTop (mkF m pc Ls st)) := by
  subst hst
  obtain ⟨v, _, ⟨T3, L3, k3, n3⟩, -, X3, ⟨Lc3, hQ3, l3, y3, z3⟩, st3⟩ := X.specialBack hx (y := y) hy1 hown (mvT hZ w1) (mvT hZ w2) (mvT hZ w4) hy (backOf (W := (rest.map fun v => v.category).sum) M hZ w4 w3 hf hl) (g := mkF m pc Ls (argsL.reverse ++ .ref a :: rest)) rfl hsize (Steps.refl _) (a := a) (argsL := argsL) (rest := rest) (lenOf hpd hln) rfl (by show 2 * 0 + _ ≤ _; omega) hd (fun _ _ => ⟨rfl, eT, hcl, hsl⟩)
  dsimp only [Pt.U, Pt.locs, Pt.cells, Pt.slots] at X3 l3 y3 z3 st3 hQ3
  subst l3 y3 z3
  exact (k T3 v Lc3 X3 hQ3).tr st3
/-- an instance method by the contract of the body that the receiver's class selects -/
theorem Owes.callV (X : Stand p l e R s m args below meth c T locs cells slots) (hx : p.tables.exec = Jvm.exec) (hZ : Z.Warmed39 s.vm) {own CR : String} {index : Nat} {y z : MethodName} {bytes : ByteArray} {maxL : Nat} {ret : Option FieldType} {rm : Room}
    (hown : s.vm.findClass own = some m.cls) (w1 : (Cond.methodLink own index y).before a0 Z = true) (w2 : (Cond.declares y).before a0 Z = true) (hnf : NotFace s y) (w5 : (Cond.selects CR y z).before a0 Z = true) (w6 : (Cond.instanceMethod z).before a0 Z = true) (w3 : (Cond.initialized z.cls).before a0 Z = true) (w4 : (Cond.code z bytes maxL ret).before a0 Z = true)
    (hy : y.cls ≠ "java/lang/invoke/MethodHandle" ∧ y.cls ≠ "java/lang/invoke/VarHandle") {pc : Nat} {Ls : Array Slot} {a : Addr} {argsL rest : List Value} {Q' : Option Value → Heap → List Loc → Prop} (M : OMet l z bytes maxL ret [] rm (.ref a :: argsL).toArray Z h Q') (eT : T.heap = h) (E : Exa Z h a CR) (hsize : Ls.size = c.maxLocals)
    {ps : List FieldType} {rt : Option FieldType} (hpd : parseMethodDescriptor y.desc = some ⟨ps, rt⟩) (hln : argsL.length = ps.length) {st : List Value} (hst : st = argsL.reverse ++ .ref a :: rest) (hd : decode c.code pc = .ok (.invokevirtual index, 3))
    (hf : rm.frames + 1 ≤ R.frames) (hl : (rest.map fun v => v.category).sum + (maxL + 11) + rm.locals ≤ R.locals) (hcl : cells + rm.cells ≤ R.cells) (hsl : slots + rm.slots ≤ R.slots)
    (k : ∀ (T' : State) (v : Option Value) (L : List Loc), Stand p l e R s m args below meth c T' (locs ++ L) (cells + rm.cells) (slots + rm.slots) → Q' v T'.heap L → Owes p e below F (T'.setTop (mkF m (pc + 3) Ls (v.toList ++ rest)))) :
    Owes p e below F (T.setTop (mkF m pc Ls st)) := by
  subst hst
  obtain ⟨cq, kq, qa, qb, qc⟩ := isOf hZ eT E
  obtain ⟨v, _, ⟨T3, L3, k3, n3⟩, -, X3, ⟨Lc3, hQ3, l3, y3, z3⟩, st3⟩ := X.virtualBack hx (y := y) (z := z) hown (mvT hZ w1) (mvT hZ w2) hnf (mvT hZ w5) (mvT hZ w6) hy (backOf (W := (rest.map fun v => v.category).sum) M hZ w4 w3 hf hl) qa qc (g := mkF m pc Ls (argsL.reverse ++ .ref a :: rest)) rfl hsize (Steps.refl _) (argsL := argsL) (rest := rest) (lenOf hpd hln) rfl (by show 2 * 0 + _ ≤ _; omega) hd (fun _ _ => ⟨rfl, eT, hcl, hsl⟩)
  dsimp only [Pt.U, Pt.locs, Pt.cells, Pt.slots] at X3 l3 y3 z3 st3 hQ3
  subst l3 y3 z3
  exact (k T3 v Lc3 X3 hQ3).tr st3
/-- a private method by its contract -/
theorem Owes.callP (X : Stand p l e R s m args below meth c T locs cells slots) (hx : p.tables.exec = Jvm.exec) (hZ : Z.Warmed39 s.vm) {own CR : String} {index : Nat} {y : MethodName} {bytes : ByteArray} {maxL : Nat} {ret : Option FieldType} {rm : Room}
    (hown : s.vm.findClass own = some m.cls) (w1 : (Cond.methodLink own index y).before a0 Z = true) (w2 : (Cond.instanceMethod y).before a0 Z = true) (w5 : (Cond.selects y.cls y y).before a0 Z = true) (w6 : (Cond.privateMethod y).before a0 Z = true) (w3 : (Cond.initialized y.cls).before a0 Z = true) (w4 : (Cond.code y bytes maxL ret).before a0 Z = true)
    (hy : y.cls ≠ "java/lang/invoke/MethodHandle" ∧ y.cls ≠ "java/lang/invoke/VarHandle") {pc : Nat} {Ls : Array Slot} {a : Addr} {argsL rest : List Value} {Q' : Option Value → Heap → List Loc → Prop} (M : OMet l y bytes maxL ret [] rm (.ref a :: argsL).toArray Z h Q') (eT : T.heap = h) (E : Exa Z h a CR) (hsize : Ls.size = c.maxLocals)
    {ps : List FieldType} {rt : Option FieldType} (hpd : parseMethodDescriptor y.desc = some ⟨ps, rt⟩) (hln : argsL.length = ps.length) {st : List Value} (hst : st = argsL.reverse ++ .ref a :: rest) (hd : decode c.code pc = .ok (.invokevirtual index, 3))
    (hf : rm.frames + 1 ≤ R.frames) (hl : (rest.map fun v => v.category).sum + (maxL + 11) + rm.locals ≤ R.locals) (hcl : cells + rm.cells ≤ R.cells) (hsl : slots + rm.slots ≤ R.slots)
    (k : ∀ (T' : State) (v : Option Value) (L : List Loc), Stand p l e R s m args below meth c T' (locs ++ L) (cells + rm.cells) (slots + rm.slots) → Q' v T'.heap L → Owes p e below F (T'.setTop (mkF m (pc + 3) Ls (v.toList ++ rest)))) :
    Owes p e below F (T.setTop (mkF m pc Ls st)) := by
  subst hst
  obtain ⟨cq, q1, q2⟩ := E.cell
  obtain ⟨v, _, ⟨T3, L3, k3, n3⟩, -, X3, ⟨Lc3, hQ3, l3, y3, z3⟩, st3⟩ := X.privateBack hx (y := y) hown (mvT hZ w1) (mvT hZ w2) (mvT hZ w5) (Cond.privateMethod_at (mvP hZ w6 (args := #[]))) (mvT hZ w4) hy (backOf (W := (rest.map fun v => v.category).sum) M hZ w4 w3 hf hl) (g := mkF m pc Ls (argsL.reverse ++ .ref a :: rest)) rfl hsize (Steps.refl _) (a := a) (by rw [eT]; exact q1) q2 (argsL := argsL) (rest := rest) (lenOf hpd hln) rfl (by show 2 * 0 + _ ≤ _; omega) hd (fun _ _ => ⟨rfl, eT, hcl, hsl⟩)
  dsimp only [Pt.U, Pt.locs, Pt.cells, Pt.slots] at X3 l3 y3 z3 st3 hQ3
  subst l3 y3 z3
  exact (k T3 v Lc3 X3 hQ3).tr st3
theorem own_st {c2 s2 : Nat} (X : Stand p l e R s m args below meth c T locs cells slots) (hc : cells = c2) (hs : slots = s2) : Stand p l e R s m args below meth c T locs c2 s2 := by subst hc hs; exact X
theorem Owes.initO (X : Stand p l e R s m args below meth c T locs cells slots) (hx : p.tables.exec = Jvm.exec) (hZ : Z.Warmed39 s.vm) {own : String} {index : Nat} (hown : s.vm.findClass own = some m.cls) (w1 : (Cond.methodLink own index Lib.objectInit).before a0 Z = true) (w2 : (Cond.instanceMethod Lib.objectInit).before a0 Z = true) (w3 : (Cond.code Lib.objectInit ⟨#[0xb1]⟩ 1 none).before a0 Z = true) (eT : T.heap = h)
    {pc : Nat} {Ls : Array Slot} {a : Addr} {rest : List Value} (hsize : Ls.size = c.maxLocals) (hd : decode c.code pc = .ok (.invokespecial index, 3)) (hf : 1 ≤ R.frames) (hl : (rest.map fun v => v.category).sum + 12 ≤ R.locals)
    (k : ∀ T' : State, Stand p l e R s m args below meth c T' locs cells slots → T'.heap = h → Owes p e below F (T'.setTop (mkF m (pc + 3) Ls rest))) : Owes p e below F (T.setTop (mkF m pc Ls (.ref a :: rest))) := by
  obtain ⟨T', X', e', st⟩ := Jvm.RoadKit.initO X hx hZ hown w1 w2 w3 eT (g := mkF m pc Ls (.ref a :: rest)) rfl hsize rfl hd hf (W := (rest.map fun v => v.category).sum) (by show 2 * 0 + _ ≤ _; omega) hl
  exact (k T' X' e').go st
theorem Owes.newO (X : Stand p l e R s m args below meth c T locs cells slots) (hx : p.tables.exec = Jvm.exec) (hZ : Z.Warmed39 s.vm) {own CC : String} {index n : Nat} (hown : s.vm.findClass own = some m.cls) (w : (Cond.classLink own index CC).before a0 Z = true) (wi : (Cond.instantiable CC n).before a0 Z = true) (wz : (Cond.initialized CC).before a0 Z = true) (eT : T.heap = h)
    {pc : Nat} {Ls : Array Slot} {rest : List Value} (hd : decode c.code pc = .ok (.new index, 3)) (hcl : cells + 1 ≤ R.cells) (hsl : slots + n ≤ R.slots)
    (k : ∀ (T' : State) (h' : Heap), Stand p l e R s m args below meth c T' locs (cells + 1) (slots + n) → T'.heap = h' → Ext h h' → Exa Z h' h.size CC → (∀ {O nm d : String} {ty : FieldType}, Laid Z a0 CC O nm d → parseFieldDescriptor d = some ty → Fld Z h' h.size O nm d (defaultValue ty)) → Owes p e below F (T'.setTop (mkF m (pc + 3) Ls (.ref h.size :: rest)))) : Owes p e below F (T.setTop (mkF m pc Ls rest)) := by
  obtain ⟨T', h', X', e', E, A, D, -, st⟩ := Jvm.RoadKit.newO X hx hZ hown w wi wz eT (g := mkF m pc Ls rest) rfl hd hcl hsl
  exact (k T' h' X' e' E A D).go st
theorem Owes.putF (X : Stand p l e R s m args below meth c T locs cells slots) (hx : p.tables.exec = Jvm.exec) (hZ : Z.Warmed39 s.vm) {own R0 O n d host CC : String} {index kk : Nat} {ty : FieldType} (hown : s.vm.findClass own = some m.cls) (w : (Cond.fieldLink own index R0 n d).before a0 Z = true ∨ (Cond.fieldLinkNest own index R0 n d host).before a0 Z = true) (via : Via Z R0 O n d) (eT : T.heap = h)
    {a : Addr} {v old : Value} (Fd : Fld Z h a O n d old) (E : Exa Z h a CC) (L : (Cond.lays CC O n d).before a0 Z = true ∨ ((Cond.laysFinal CC O n d).before a0 Z = true ∧ own = O ∧ meth.name = "<init>")) (wi : (Cond.instantiable CC kk).before a0 Z = true) (hty : parseFieldDescriptor d = some ty) (hn : narrow ty v = v) (hf : fits ty v = true)
    {pc : Nat} {Ls : Array Slot} {rest : List Value} (hd : decode c.code pc = .ok (.putfield index, 3))
    (k : ∀ (T' : State) (h' : Heap), Stand p l e R s m args below meth c T' (locs ++ [⟨a, Jvm.RoadKit.slotOf Z O n d⟩]) cells slots → T'.heap = h' → Wr h h' a (Jvm.RoadKit.slotOf Z O n d) v → Owes p e below F (T'.setTop (mkF m (pc + 3) Ls rest))) : Owes p e below F (T.setTop (mkF m pc Ls (v :: .ref a :: rest))) := by
  obtain ⟨T', h', X', e', W, st⟩ := Jvm.RoadKit.putF X hx hZ hown w via eT Fd E L wi hty hn hf (g := mkF m pc Ls (v :: .ref a :: rest)) rfl rfl hd
  exact (k T' h' X' e' W).go st
theorem Owes.alen (X : Stand p l e R s m args below meth c T locs cells slots) (hx : p.tables.exec = Jvm.exec) (hZ : Z.Warmed39 s.vm) (eT : T.heap = h) {a : Addr} {cl : Cell} {ty : FieldType} (A : Arr Z h a cl ty) {z : Int32} (hn : cl.slots.size.toInt32 = z) {pc : Nat} {Ls : Array Slot} {rest : List Value}
    (hd : decode c.code pc = .ok (.arraylength, 1)) (k : Owes p e below F (T.setTop (mkF m (pc + 1) Ls (.int z :: rest)))) : Owes p e below F (T.setTop (mkF m pc Ls (.ref a :: rest))) := by
  subst hn
  exact k.go fun t q => X.arraylength hx (by rw [eT]; exact A.1) (State.isArrayOf_alike hZ.alike A.2.1) (g := mkF m pc Ls (.ref a :: rest)) rfl rfl hd _ q
theorem Owes.aldI (X : Stand p l e R s m args below meth c T locs cells slots) (hx : p.tables.exec = Jvm.exec) (hZ : Z.Warmed39 s.vm) (eT : T.heap = h) {a : Addr} {cl : Cell} (A : Arr Z h a cl .int) {j : Int32} {v : Value} (hin : ¬ (j < 0 ∨ cl.slots.size ≤ j.toNatClampNeg)) (hat : cl.slots[j.toNatClampNeg]? = some v) {pc : Nat} {Ls : Array Slot} {rest : List Value}
    (hd : decode c.code pc = .ok (.iaload, 1)) (k : Owes p e below F (T.setTop (mkF m (pc + 1) Ls (v :: rest)))) : Owes p e below F (T.setTop (mkF m pc Ls (.int j :: .ref a :: rest))) :=
  k.go fun t q => X.iaload hx (by rw [eT]; exact A.1) (State.isArrayOf_alike hZ.alike A.2.1) A.2.2 hin hat (g := mkF m pc Ls (.int j :: .ref a :: rest)) rfl rfl hd _ q
theorem Owes.aldJ (X : Stand p l e R s m args below meth c T locs cells slots) (hx : p.tables.exec = Jvm.exec) (hZ : Z.Warmed39 s.vm) (eT : T.heap = h) {a : Addr} {cl : Cell} (A : Arr Z h a cl .long) {j : Int32} {v : Value} (hin : ¬ (j < 0 ∨ cl.slots.size ≤ j.toNatClampNeg)) (hat : cl.slots[j.toNatClampNeg]? = some v) {pc : Nat} {Ls : Array Slot} {rest : List Value}
    (hd : decode c.code pc = .ok (.laload, 1)) (k : Owes p e below F (T.setTop (mkF m (pc + 1) Ls (v :: rest)))) : Owes p e below F (T.setTop (mkF m pc Ls (.int j :: .ref a :: rest))) :=
  k.go fun t q => X.laload hx (by rw [eT]; exact A.1) (State.isArrayOf_alike hZ.alike A.2.1) A.2.2 hin hat (g := mkF m pc Ls (.int j :: .ref a :: rest)) rfl rfl hd _ q
theorem Owes.aldC (X : Stand p l e R s m args below meth c T locs cells slots) (hx : p.tables.exec = Jvm.exec) (hZ : Z.Warmed39 s.vm) (eT : T.heap = h) {a : Addr} {cl : Cell} (A : Arr Z h a cl .char) {j : Int32} {v : Value} (hin : ¬ (j < 0 ∨ cl.slots.size ≤ j.toNatClampNeg)) (hat : cl.slots[j.toNatClampNeg]? = some v) {pc : Nat} {Ls : Array Slot} {rest : List Value}
    (hd : decode c.code pc = .ok (.caload, 1)) (k : Owes p e below F (T.setTop (mkF m (pc + 1) Ls (v :: rest)))) : Owes p e below F (T.setTop (mkF m pc Ls (.int j :: .ref a :: rest))) :=
  k.go fun t q => X.caload hx (by rw [eT]; exact A.1) (State.isArrayOf_alike hZ.alike A.2.1) A.2.2 hin hat (g := mkF m pc Ls (.int j :: .ref a :: rest)) rfl rfl hd _ q
theorem Owes.aldZ (X : Stand p l e R s m args below meth c T locs cells slots) (hx : p.tables.exec = Jvm.exec) (hZ : Z.Warmed39 s.vm) (eT : T.heap = h) {a : Addr} {cl : Cell} (A : Arr Z h a cl .boolean) {j : Int32} {v : Value} (hin : ¬ (j < 0 ∨ cl.slots.size ≤ j.toNatClampNeg)) (hat : cl.slots[j.toNatClampNeg]? = some v) {pc : Nat} {Ls : Array Slot} {rest : List Value}
    (hd : decode c.code pc = .ok (.baload, 1)) (k : Owes p e below F (T.setTop (mkF m (pc + 1) Ls (v :: rest)))) : Owes p e below F (T.setTop (mkF m pc Ls (.int j :: .ref a :: rest))) :=
  k.go fun t q => X.baloadBooleans hx (by rw [eT]; exact A.1) (State.isArrayOf_alike hZ.alike A.2.1) A.2.2 hin hat (g := mkF m pc Ls (.int j :: .ref a :: rest)) rfl rfl hd _ q
theorem Owes.aldB (X : Stand p l e R s m args below meth c T locs cells slots) (hx : p.tables.exec = Jvm.exec) (hZ : Z.Warmed39 s.vm) (eT : T.heap = h) {a : Addr} {cl : Cell} (A : Arr Z h a cl .byte) {j : Int32} {v : Value} (hin : ¬ (j < 0 ∨ cl.slots.size ≤ j.toNatClampNeg)) (hat : cl.slots[j.toNatClampNeg]? = some v) {pc : Nat} {Ls : Array Slot} {rest : List Value}
    (hd : decode c.code pc = .ok (.baload, 1)) (k : Owes p e below F (T.setTop (mkF m (pc + 1) Ls (v :: rest)))) : Owes p e below F (T.setTop (mkF m pc Ls (.int j :: .ref a :: rest))) :=
  k.go fun t q => X.baloadBytes hx (by rw [eT]; exact A.1) (State.isArrayOf_alike hZ.alike A.2.1) A.2.2 hin hat (g := mkF m pc Ls (.int j :: .ref a :: rest)) rfl rfl hd _ q
theorem Owes.aldR (X : Stand p l e R s m args below meth c T locs cells slots) (hx : p.tables.exec = Jvm.exec) (hZ : Z.Warmed39 s.vm) (eT : T.heap = h) {a : Addr} {cl : Cell} {ty : FieldType} (A : Arr Z h a cl ty) (hty : ty.isReference = true) {j : Int32} {v : Value} (hin : ¬ (j < 0 ∨ cl.slots.size ≤ j.toNatClampNeg)) (hat : cl.slots[j.toNatClampNeg]? = some v) {pc : Nat} {Ls : Array Slot} {rest : List Value}
    (hd : decode c.code pc = .ok (.aaload, 1)) (k : Owes p e below F (T.setTop (mkF m (pc + 1) Ls (v :: rest)))) : Owes p e below F (T.setTop (mkF m pc Ls (.int j :: .ref a :: rest))) :=
  k.go fun t q => X.aaload hx (by rw [eT]; exact A.1) (State.isArrayOf_alike hZ.alike A.2.1) hty A.2.2 hin hat (g := mkF m pc Ls (.int j :: .ref a :: rest)) rfl rfl hd _ q
theorem own_eqI {first : State} {o : Option Outcome} {idx : List Nat} {t : Term} {k : Int32} (q : (Cond.eq t (.int k)).value args first o s idx = some true) : t.eval args first o idx s = some (.int k) := by
  simp only [Cond.value, Term.eval] at q
  cases hv : t.eval args first o idx s with
  | none => simp [hv] at q
  | some v => cases v <;> simp_all
end Own
section OwnArr
variable {p : Program} {l : Launch} {e : Env} {R : Room} {s : State} {m : MethodId} {args : Array Value} {below : List Frame} {meth : Method} {c : Code} {T : State} {locs : List Loc} {cells slots : Nat} {Z : State} {a0 : Array Value} {h h' : Heap}
variable {Q : Option Value → Heap → List Loc → Prop} {F : Outcome → State → Prop} {C N : Nat} {A B : State}
theorem own_nat {j : Int32} {i : Nat} (q : j.toInt = (i : Int)) : ¬ j < 0 ∧ j.toNatClampNeg = i := by
  constructor
  · rw [Int32.lt_iff_toInt_lt, q, show (0 : Int32).toInt = 0 from by decide]; omega
  · rw [Int32.toNatClampNeg, q]; omega
theorem own_nth {j : Int32} {i n : Nat} {cl : Cell} (q : j.toInt = (i : Int)) (hi : i < n) (S : cl.slots.size = n) : ¬ (j < 0 ∨ cl.slots.size ≤ j.toNatClampNeg) := by
  obtain ⟨q1, q2⟩ := own_nat q
  rintro (z | z)
  · exact q1 z
  · rw [q2, S] at z; omega
/-- an array with components of type ty: n places, the place i holds w i -/
def GA (Z : State) (h : Heap) (a : Addr) (ty : FieldType) (n : Nat) (w : Nat → Value) : Prop := ∃ c : Cell, Arr Z h a c ty ∧ c.slots.size = n ∧ ∀ i, i < n → c.slots[i]? = some (w i)
def upd {α : Type} (w : Nat → α) (i : Nat) (v : α) : Nat → α := fun k => if k = i then v else w k
theorem upd_same {α : Type} (w : Nat → α) (i : Nat) (v : α) : upd w i v i = v := if_pos rfl
theorem upd_ne {α : Type} (w : Nat → α) {i k : Nat} (v : α) (q : k ≠ i) : upd w i v k = w k := if_neg q
theorem GA.lt {a : Addr} {ty : FieldType} {n : Nat} {w : Nat → Value} (G0 : GA Z h a ty n w) : a < h.size := by obtain ⟨c, A, -⟩ := G0; exact A.lt
theorem GA.ext {a : Addr} {ty : FieldType} {n : Nat} {w : Nat → Value} (G0 : GA Z h a ty n w) (E : Ext h h') : GA Z h' a ty n w := by obtain ⟨c, A, r⟩ := G0; exact ⟨c, A.ext E, r⟩
theorem GA.other {a b : Addr} {ty : FieldType} {n sl : Nat} {w : Nat → Value} {v : Value} (G0 : GA Z h b ty n w) (W : Wr h h' a sl v) (q : b ≠ a) : GA Z h' b ty n w := by obtain ⟨c, A, r⟩ := G0; exact ⟨c, A.other W q, r⟩
theorem GA.keep {a : Addr} {ty : FieldType} {n : Nat} {w : Nat → Value} {ws : List Addr} (G0 : GA Z h a ty n w) (K : Keep h h' ws) (q : a ∉ ws) : GA Z h' a ty n w := by obtain ⟨c, A, r⟩ := G0; exact ⟨c, ⟨K.2.1 a c A.1 q, A.2⟩, r⟩
theorem GA.congr {a : Addr} {ty : FieldType} {n : Nat} {w w' : Nat → Value} (G0 : GA Z h a ty n w) (q : ∀ i, i < n → w i = w' i) : GA Z h a ty n w' := by obtain ⟨c, A, S, r⟩ := G0; exact ⟨c, A, S, fun i hi => by rw [← q i hi]; exact r i hi⟩
theorem GA.set {a : Addr} {ty : FieldType} {n i : Nat} {w : Nat → Value} {v : Value} (G0 : GA Z h a ty n w) (W : Wr h h' a i v) : GA Z h' a ty n (upd w i v) := by
  obtain ⟨c, A, S, r⟩ := G0
  refine ⟨_, A.same W, by rw [sz_set]; exact S, fun k hk => ?_⟩
  by_cases q : k = i
  · subst q
    rw [upd_same]
    simp [Cell.setSlot, S, hk]
  · rw [upd_ne _ _ q, ← r k hk]
    exact Array.getElem?_setIfInBounds_ne (Ne.symm q)
theorem GA.new {a : Addr} {ty : FieldType} {k : ClassId} {z : Int32} {n : Nat} (A : Arr Z h a (newA k ty z) ty) (q : z.toInt = (n : Int)) : GA Z h a ty n (fun _ => defaultValue ty) := by
  have e := (own_nat q).2
  refine ⟨_, A, by rw [sz_new]; exact e, fun i hi => ?_⟩
  simp [newA, e, hi]
theorem GA.ne {a b : Addr} {ty : FieldType} {n n' : Nat} {w w' : Nat → Value} {ty' : FieldType} (G0 : GA Z h a ty n w) (G : GA Z h b ty' n' w') (q : ty ≠ ty') : a ≠ b := fun z => by
  subst z
  obtain ⟨c, A, -⟩ := G0
  obtain ⟨c', A', -⟩ := G
  cases A.1.symm.trans A'.1
  obtain ⟨-, k, h1, comp, h2⟩ := A.2.1
  obtain ⟨-, k', h1', comp', h2'⟩ := A'.2.1
  cases h1.symm.trans h1'
  rw [h2] at h2'
  cases h2'
  exact q rfl
theorem GA.ne_obj {a b : Addr} {ty : FieldType} {n k : Nat} {w : Nat → Value} {CC : String} (E : Exa Z h a CC) (wi : (Cond.instantiable CC k).before a0 Z = true) (G0 : GA Z h b ty n w) : a ≠ b := by
  obtain ⟨c, A, -⟩ := G0
  exact ne_arr E wi A
theorem Owes.gI (X : Stand p l e R s m args below meth c T locs cells slots) (hx : p.tables.exec = Jvm.exec) (hZ : Z.Warmed39 s.vm) (eT : T.heap = h) {a : Addr} {n : Nat} {w : Nat → Value} (A : GA Z h a .int n w) {j : Int32} {i : Nat} {v : Value} (hj : j.toInt = (i : Int)) (hi : i < n) (hv : w i = v) {pc : Nat} {Ls : Array Slot} {rest : List Value}
    (hd : decode c.code pc = .ok (.iaload, 1)) (k : Owes p e below F (T.setTop (mkF m (pc + 1) Ls (v :: rest)))) : Owes p e below F (T.setTop (mkF m pc Ls (.int j :: .ref a :: rest))) := by
  obtain ⟨cl, A1, S, V⟩ := A
  exact Owes.aldI X hx hZ eT A1 (own_nth hj hi S) (by rw [(own_nat hj).2, ← hv]; exact V i hi) hd k
theorem Owes.gJ (X : Stand p l e R s m args below meth c T locs cells slots) (hx : p.tables.exec = Jvm.exec) (hZ : Z.Warmed39 s.vm) (eT : T.heap = h) {a : Addr} {n : Nat} {w : Nat → Value} (A : GA Z h a .long n w) {j : Int32} {i : Nat} {v : Value} (hj : j.toInt = (i : Int)) (hi : i < n) (hv : w i = v) {pc : Nat} {Ls : Array Slot} {rest : List Value}
    (hd : decode c.code pc = .ok (.laload, 1)) (k : Owes p e below F (T.setTop (mkF m (pc + 1) Ls (v :: rest)))) : Owes p e below F (T.setTop (mkF m pc Ls (.int j :: .ref a :: rest))) := by
  obtain ⟨cl, A1, S, V⟩ := A
  exact Owes.aldJ X hx hZ eT A1 (own_nth hj hi S) (by rw [(own_nat hj).2, ← hv]; exact V i hi) hd k
theorem Owes.gC (X : Stand p l e R s m args below meth c T locs cells slots) (hx : p.tables.exec = Jvm.exec) (hZ : Z.Warmed39 s.vm) (eT : T.heap = h) {a : Addr} {n : Nat} {w : Nat → Value} (A : GA Z h a .char n w) {j : Int32} {i : Nat} {v : Value} (hj : j.toInt = (i : Int)) (hi : i < n) (hv : w i = v) {pc : Nat} {Ls : Array Slot} {rest : List Value}
    (hd : decode c.code pc = .ok (.caload, 1)) (k : Owes p e below F (T.setTop (mkF m (pc + 1) Ls (v :: rest)))) : Owes p e below F (T.setTop (mkF m pc Ls (.int j :: .ref a :: rest))) := by
  obtain ⟨cl, A1, S, V⟩ := A
  exact Owes.aldC X hx hZ eT A1 (own_nth hj hi S) (by rw [(own_nat hj).2, ← hv]; exact V i hi) hd k
theorem Owes.gZ (X : Stand p l e R s m args below meth c T locs cells slots) (hx : p.tables.exec = Jvm.exec) (hZ : Z.Warmed39 s.vm) (eT : T.heap = h) {a : Addr} {n : Nat} {w : Nat → Value} (A : GA Z h a .boolean n w) {j : Int32} {i : Nat} {v : Value} (hj : j.toInt = (i : Int)) (hi : i < n) (hv : w i = v) {pc : Nat} {Ls : Array Slot} {rest : List Value}
    (hd : decode c.code pc = .ok (.baload, 1)) (k : Owes p e below F (T.setTop (mkF m (pc + 1) Ls (v :: rest)))) : Owes p e below F (T.setTop (mkF m pc Ls (.int j :: .ref a :: rest))) := by
  obtain ⟨cl, A1, S, V⟩ := A
  exact Owes.aldZ X hx hZ eT A1 (own_nth hj hi S) (by rw [(own_nat hj).2, ← hv]; exact V i hi) hd k
theorem Owes.gB (X : Stand p l e R s m args below meth c T locs cells slots) (hx : p.tables.exec = Jvm.exec) (hZ : Z.Warmed39 s.vm) (eT : T.heap = h) {a : Addr} {n : Nat} {w : Nat → Value} (A : GA Z h a .byte n w) {j : Int32} {i : Nat} {v : Value} (hj : j.toInt = (i : Int)) (hi : i < n) (hv : w i = v) {pc : Nat} {Ls : Array Slot} {rest : List Value}
    (hd : decode c.code pc = .ok (.baload, 1)) (k : Owes p e below F (T.setTop (mkF m (pc + 1) Ls (v :: rest)))) : Owes p e below F (T.setTop (mkF m pc Ls (.int j :: .ref a :: rest))) := by
  obtain ⟨cl, A1, S, V⟩ := A
  exact Owes.aldB X hx hZ eT A1 (own_nth hj hi S) (by rw [(own_nat hj).2, ← hv]; exact V i hi) hd k
theorem Owes.gR (X : Stand p l e R s m args below meth c T locs cells slots) (hx : p.tables.exec = Jvm.exec) (hZ : Z.Warmed39 s.vm) (eT : T.heap = h) {a : Addr} {n : Nat} {ty : FieldType} {w : Nat → Value} (A : GA Z h a ty n w) (hty : ty.isReference = true) {j : Int32} {i : Nat} {v : Value} (hj : j.toInt = (i : Int)) (hi : i < n) (hv : w i = v) {pc : Nat} {Ls : Array Slot} {rest : List Value}
    (hd : decode c.code pc = .ok (.aaload, 1)) (k : Owes p e below F (T.setTop (mkF m (pc + 1) Ls (v :: rest)))) : Owes p e below F (T.setTop (mkF m pc Ls (.int j :: .ref a :: rest))) := by
  obtain ⟨cl, A1, S, V⟩ := A
  exact Owes.aldR X hx hZ eT A1 hty (own_nth hj hi S) (by rw [(own_nat hj).2, ← hv]; exact V i hi) hd k
theorem Owes.glen (X : Stand p l e R s m args below meth c T locs cells slots) (hx : p.tables.exec = Jvm.exec) (hZ : Z.Warmed39 s.vm) (eT : T.heap = h) {a : Addr} {n : Nat} {ty : FieldType} {w : Nat → Value} (A : GA Z h a ty n w) {z : Int32} (hz : z.toInt = (n : Int)) {pc : Nat} {Ls : Array Slot} {rest : List Value}
    (hd : decode c.code pc = .ok (.arraylength, 1)) (k : Owes p e below F (T.setTop (mkF m (pc + 1) Ls (.int z :: rest)))) : Owes p e below F (T.setTop (mkF m pc Ls (.ref a :: rest))) := by
  obtain ⟨cl, A1, S, V⟩ := A
  exact Owes.alen X hx hZ eT A1 (len_of (by rw [S, (own_nat hz).2]) (own_nat hz).1) hd k
theorem Owes.sI (X : Stand p l e R s m args below meth c T locs cells slots) (hx : p.tables.exec = Jvm.exec) (hZ : Z.Warmed39 s.vm) (eT : T.heap = h) {a : Addr} {n : Nat} {w : Nat → Value} (A : GA Z h a .int n w) {j : Int32} {i : Nat} (hj : j.toInt = (i : Int)) (hi : i < n) {x : Int32} {pc : Nat} {Ls : Array Slot} {rest : List Value}
    (hd : decode c.code pc = .ok (.iastore, 1)) (k : ∀ (T' : State) (h' : Heap), Stand p l e R s m args below meth c T' (locs ++ [⟨a, i⟩]) cells slots → T'.heap = h' → Wr h h' a i (.int x) → GA Z h' a .int n (upd w i (.int x)) → Owes p e below F (T'.setTop (mkF m (pc + 1) Ls rest))) : Owes p e below F (T.setTop (mkF m pc Ls (.int x :: .int j :: .ref a :: rest))) := by
  have A0 := A
  obtain ⟨cl, A1, S, V⟩ := A
  obtain ⟨T', h', X', e', W, st⟩ := stI X hx hZ eT A1 (j := j) (x := x) (own_nth hj hi S) (g := mkF m pc Ls (.int x :: .int j :: .ref a :: rest)) rfl rfl hd
  rw [(own_nat hj).2] at X' W
  exact (k T' h' X' e' W (A0.set W)).go st
theorem Owes.sJ (X : Stand p l e R s m args below meth c T locs cells slots) (hx : p.tables.exec = Jvm.exec) (hZ : Z.Warmed39 s.vm) (eT : T.heap = h) {a : Addr} {n : Nat} {w : Nat → Value} (A : GA Z h a .long n w) {j : Int32} {i : Nat} (hj : j.toInt = (i : Int)) (hi : i < n) {x : Int64} {pc : Nat} {Ls : Array Slot} {rest : List Value}
    (hd : decode c.code pc = .ok (.lastore, 1)) (k : ∀ (T' : State) (h' : Heap), Stand p l e R s m args below meth c T' (locs ++ [⟨a, i⟩]) cells slots → T'.heap = h' → Wr h h' a i (.long x) → GA Z h' a .long n (upd w i (.long x)) → Owes p e below F (T'.setTop (mkF m (pc + 1) Ls rest))) : Owes p e below F (T.setTop (mkF m pc Ls (.long x :: .int j :: .ref a :: rest))) := by
  have A0 := A
  obtain ⟨cl, A1, S, V⟩ := A
  obtain ⟨T', h', X', e', W, st⟩ := stJ X hx hZ eT A1 (j := j) (x := x) (own_nth hj hi S) (g := mkF m pc Ls (.long x :: .int j :: .ref a :: rest)) rfl rfl hd
  rw [(own_nat hj).2] at X' W
  exact (k T' h' X' e' W (A0.set W)).go st
theorem Owes.sR (X : Stand p l e R s m args below meth c T locs cells slots) (hx : p.tables.exec = Jvm.exec) (hZ : Z.Warmed39 s.vm) (eT : T.heap = h) {a : Addr} {n : Nat} {ty : FieldType} {w : Nat → Value} (A : GA Z h a ty n w) (hty : ty.isReference = true) {j : Int32} {i : Nat} (hj : j.toInt = (i : Int)) (hi : i < n) {v : Value} (SF : Sto Z h a v) {pc : Nat} {Ls : Array Slot} {rest : List Value}
    (hd : decode c.code pc = .ok (.aastore, 1)) (k : ∀ (T' : State) (h' : Heap), Stand p l e R s m args below meth c T' (locs ++ [⟨a, i⟩]) cells slots → T'.heap = h' → Wr h h' a i v → GA Z h' a ty n (upd w i v) → Owes p e below F (T'.setTop (mkF m (pc + 1) Ls rest))) : Owes p e below F (T.setTop (mkF m pc Ls (v :: .int j :: .ref a :: rest))) := by
  have A0 := A
  obtain ⟨cl, A1, S, V⟩ := A
  obtain ⟨T', h', X', e', W, st⟩ := stR X hx hZ eT A1 (j := j) (v := v) (own_nth hj hi S) hty SF (g := mkF m pc Ls (v :: .int j :: .ref a :: rest)) rfl rfl hd
  rw [(own_nat hj).2] at X' W
  exact (k T' h' X' e' W (A0.set W)).go st
theorem Owes.newArr (X : Stand p l e R s m args below meth c T locs cells slots) (hx : p.tables.exec = Jvm.exec) (hZ : Z.Warmed39 s.vm) {aty : ArrayType} (w : (Cond.arrayClass (newarray.typeOf aty)).before a0 Z = true) (eT : T.heap = h) {z : Int32} {n : Nat} (hz : z.toInt = (n : Int)) (hb : n * 8 ≤ 536870912) (hcl : cells + 1 ≤ R.cells) (hsl : slots + n ≤ R.slots) {ad : String} (had : "[" ++ (newarray.typeOf aty).toString = ad) {pc : Nat} {Ls : Array Slot} {rest : List Value}
    (hd : decode c.code pc = .ok (.newarray aty, 2)) (k : ∀ (T' : State) (h' : Heap), Stand p l e R s m args below meth c T' locs (cells + 1) (slots + n) → T'.heap = h' → Ext h h' → GA Z h' h.size (newarray.typeOf aty) n (fun _ => defaultValue (newarray.typeOf aty)) → Exa Z h' h.size ad → Owes p e below F (T'.setTop (mkF m (pc + 2) Ls (.ref h.size :: rest)))) : Owes p e below F (T.setTop (mkF m pc Ls (.int z :: rest))) := by
  obtain ⟨T', h', cA, X', e', E, A1, EX, st⟩ := newPE X hx hZ w eT (g := mkF m pc Ls (.int z :: rest)) rfl hd (n := z) rfl (own_nat hz).1 (cap := n) (Nat.le_of_eq (own_nat hz).2) hb hcl hsl had
  exact (k T' h' X' e' E (GA.new A1 hz) EX).go st
theorem Owes.newArrA (X : Stand p l e R s m args below meth c T locs cells slots) (hx : p.tables.exec = Jvm.exec) (hZ : Z.Warmed39 s.vm) {own CC : String} {ty : FieldType} {index : Nat} (hown : s.vm.findClass own = some m.cls) (hC : (FieldType.array ty).toString = CC) (w1 : (Cond.classLink own index CC).before a0 Z = true) (w2 : (Cond.arrayOver (.array ty)).before a0 Z = true) (eT : T.heap = h) {z : Int32} {n : Nat} (hz : z.toInt = (n : Int)) (hb : n * 8 ≤ 536870912) (hcl : cells + 1 ≤ R.cells) (hsl : slots + n ≤ R.slots) {pc : Nat} {Ls : Array Slot} {rest : List Value}
    (hd : decode c.code pc = .ok (.anewarray index, 3)) (k : ∀ (T' : State) (h' : Heap) (cA : ClassId), Stand p l e R s m args below meth c T' locs (cells + 1) (slots + n) → T'.heap = h' → Ext h h' → Arr Z h' h.size (newA cA (.array ty) z) (.array ty) → OvrA Z cA ty CC → Owes p e below F (T'.setTop (mkF m (pc + 3) Ls (.ref h.size :: rest)))) : Owes p e below F (T.setTop (mkF m pc Ls (.int z :: rest))) := by
  obtain ⟨T', h', cA, X', e', E, A1, EX, O, st⟩ := newRA X hx hZ hown hC w1 w2 eT (g := mkF m pc Ls (.int z :: rest)) rfl hd (n := z) rfl (own_nat hz).1 (cap := n) (Nat.le_of_eq (own_nat hz).2) hb hcl hsl rfl
  exact (k T' h' cA X' e' E A1 O).go st
/-- the same, and the array's own class -/
def GC (Z : State) (h : Heap) (a : Addr) (ty : FieldType) (n : Nat) (w : Nat → Value) (kc : ClassId) : Prop := ∃ c : Cell, Arr Z h a c ty ∧ c.cls = kc ∧ c.slots.size = n ∧ ∀ i, i < n → c.slots[i]? = some (w i)
theorem GC.ga {a : Addr} {ty : FieldType} {n : Nat} {w : Nat → Value} {kc : ClassId} (G0 : GC Z h a ty n w kc) : GA Z h a ty n w := by obtain ⟨c, A, -, r⟩ := G0; exact ⟨c, A, r⟩
theorem GC.ext {a : Addr} {ty : FieldType} {n : Nat} {w : Nat → Value} {kc : ClassId} (G0 : GC Z h a ty n w kc) (E : Ext h h') : GC Z h' a ty n w kc := by obtain ⟨c, A, r⟩ := G0; exact ⟨c, A.ext E, r⟩
theorem GC.other {a b : Addr} {ty : FieldType} {n sl : Nat} {w : Nat → Value} {v : Value} {kc : ClassId} (G0 : GC Z h b ty n w kc) (W : Wr h h' a sl v) (q : b ≠ a) : GC Z h' b ty n w kc := by obtain ⟨c, A, r⟩ := G0; exact ⟨c, A.other W q, r⟩
theorem GC.congr {a : Addr} {ty : FieldType} {n : Nat} {w w' : Nat → Value} {kc : ClassId} (G0 : GC Z h a ty n w kc) (q : ∀ i, i < n → w i = w' i) : GC Z h a ty n w' kc := by obtain ⟨c, A, K, S, r⟩ := G0; exact ⟨c, A, K, S, fun i hi => by rw [← q i hi]; exact r i hi⟩
theorem GC.set {a : Addr} {ty : FieldType} {n i : Nat} {w : Nat → Value} {v : Value} {kc : ClassId} (G0 : GC Z h a ty n w kc) (W : Wr h h' a i v) : GC Z h' a ty n (upd w i v) kc := by
  obtain ⟨c, A, K, S, r⟩ := G0
  refine ⟨_, A.same W, K, by rw [sz_set]; exact S, fun k hk => ?_⟩
  by_cases q : k = i
  · subst q
    rw [upd_same]
    simp [Cell.setSlot, S, hk]
  · rw [upd_ne _ _ q, ← r k hk]
    exact Array.getElem?_setIfInBounds_ne (Ne.symm q)
theorem GC.new {a : Addr} {ty : FieldType} {k : ClassId} {z : Int32} {n : Nat} (A : Arr Z h a (newA k ty z) ty) (q : z.toInt = (n : Int)) : GC Z h a ty n (fun _ => defaultValue ty) k := by
  have e := (own_nat q).2
  refine ⟨_, A, rfl, by rw [sz_new]; exact e, fun i hi => ?_⟩
  simp [newA, e, hi]
theorem GC.sto {a y : Addr} {ty t0 : FieldType} {n : Nat} {w : Nat → Value} {kc : ClassId} {CC : String} (G0 : GC Z h a t0 n w kc) (O : OvrA Z kc ty CC) (I : Ins Z h y CC true) : Sto Z h a (.ref y) := by
  obtain ⟨c, A, K, -⟩ := G0
  exact Sto.ofVA A K O I
end OwnArr

section OwnBits
def bt (w : Int64) (b : Nat) : Bool := w.toBitVec.getLsbD b
theorem bt_zero (b : Nat) : bt 0 b = false := by simp [bt]
theorem bt_ext {x y : Int64} (h : ∀ b, b < 64 → bt x b = bt y b) : x = y := Int64.toBitVec_inj.mp (BitVec.eq_of_getLsbD_eq h)
theorem bt_ne0 {x : Int64} (h : ¬ x = 0) : ∃ b, b < 64 ∧ bt x b = true := by
  apply Classical.byContradiction
  intro q
  apply h
  apply bt_ext
  intro b hb
  rw [bt_zero]
  cases hv : bt x b
  · rfl
  · exact absurd ⟨b, hb, hv⟩ q
theorem bt_eq0 {x : Int64} (h : x = 0) (b : Nat) : bt x b = false := by rw [h, bt_zero]
theorem bt_and (x y : Int64) (b : Nat) : bt (x &&& y) b = (bt x b && bt y b) := by simp [bt]
theorem bt_or (x y : Int64) (b : Nat) : bt (x ||| y) b = (bt x b || bt y b) := by simp [bt]
theorem bt_xor (x y : Int64) (b : Nat) : bt (x ^^^ y) b = (bt x b ^^ bt y b) := by simp [bt]
theorem bt_m1 (b : Nat) (hb : b < 64) : bt (-1) b = true := (by decide +kernel : ∀ b : Fin 64, bt (-1) b.1 = true) ⟨b, hb⟩
theorem bt_1 (b : Nat) : bt 1 b = decide (b = 0) := by
  by_cases hb : b < 64
  · exact (by decide +kernel : ∀ b : Fin 64, bt 1 b.1 = decide (b.1 = 0)) ⟨b, hb⟩
  · have : ¬ b = 0 := by omega
    simp only [this, decide_false]
    exact BitVec.getLsbD_of_ge _ _ (by omega)
theorem i32_nat {q : Int32} {i : Nat} (h : q.toInt = (i : Int)) : q.toBitVec.toNat = i := by
  have h1 : q.toBitVec.toInt = (i : Int) := h
  have h2 := q.toBitVec.isLt
  rw [BitVec.toInt_eq_toNat_cond] at h1
  split at h1 <;> omega
theorem bt_shl (x : Int64) (q : Int32) (i : Nat) (h : q.toInt = (i : Int)) (b : Nat) (hb : b < 64) : bt (x <<< (q &&& 0x3f).toInt64) b = (decide (i % 64 ≤ b) && bt x (b - i % 64)) := by
  have e : q.toBitVec.toNat % 64 = i % 64 := by rw [i32_nat h]
  show (x.toBitVec <<< ((q &&& 0x3f).toInt64.toBitVec.smod 64)).getLsbD b = _
  rw [BitVec.shiftLeft_eq', (sm64 q _ e).1, smod64 _ (sm64 q _ e).2, BitVec.getLsbD_shiftLeft]
  by_cases c : i % 64 ≤ b
  · simp [c, hb, bt, Nat.not_lt.mpr c]
  · simp [c, hb, Nat.lt_of_not_le c]
theorem bt_ushr (x : Int64) (q : Int32) (i : Nat) (h : q.toInt = (i : Int)) (b : Nat) : bt ((x.toUInt64 >>> (q &&& 0x3f).toInt64.toUInt64).toInt64) b = bt x (i % 64 + b) := by
  have e : q.toBitVec.toNat % 64 = i % 64 := by rw [i32_nat h]
  have h5 := (sm64 q _ e).2
  show (x.toBitVec >>> ((q &&& 0x3f).toInt64.toBitVec % 64)).getLsbD b = _
  rw [BitVec.ushiftRight_eq', BitVec.getLsbD_ushiftRight, BitVec.toNat_umod, (sm64 q _ e).1, BitVec.toNat_ofNat]
  have : i % 64 % 2 ^ 64 % (64 : BitVec 64).toNat = i % 64 := by show i % 64 % 2 ^ 64 % 64 = _; omega
  rw [this]; rfl
/-- the word with just the bit i % 64 -/
theorem bt_one_shl (q : Int32) (i : Nat) (h : q.toInt = (i : Int)) (b : Nat) (hb : b < 64) : bt ((1 : Int64) <<< (q &&& 0x3f).toInt64) b = decide (b = i % 64) := by
  rw [bt_shl _ q i h b hb, bt_1]
  by_cases c : b = i % 64
  · simp [c]
  · by_cases d : i % 64 ≤ b
    · have : ¬ b - i % 64 = 0 := by omega
      simp [c, this]
    · simp [c, d]
theorem bt_m1_shl (q : Int32) (i : Nat) (h : q.toInt = (i : Int)) (b : Nat) (hb : b < 64) : bt ((-1 : Int64) <<< (q &&& 0x3f).toInt64) b = decide (i % 64 ≤ b) := by
  rw [bt_shl _ q i h b hb, bt_m1 _ (by omega)]; simp
theorem bt_m1_ushr (q : Int32) (i : Nat) (hi : i < 64) (h : q.toInt = ((63 - i : Nat) : Int)) (b : Nat) (hb : b < 64) : bt (((-1 : Int64).toUInt64 >>> (q &&& 0x3f).toInt64.toUInt64).toInt64) b = decide (b ≤ i) := by
  rw [bt_ushr _ q _ h, Nat.mod_eq_of_lt (show 63 - i < 64 by omega)]
  by_cases c : b ≤ i
  · simp only [c, decide_true]
    exact bt_m1 _ (by omega)
  · simp only [c, decide_false]
    exact BitVec.getLsbD_of_ge _ _ (by omega)
/-- the lowest bit's mask -/
theorem own_low (x : Int32) (t : Nat) (ht : t < 32) (h1 : x.toBitVec.getLsbD t = true) (h2 : ∀ b, b < t → x.toBitVec.getLsbD b = false) : ((x ^^^ (-1 : Int32)) &&& (x - (1 : Int32))) = Int32.ofNat (2 ^ t - 1) := by
  apply Int32.toBitVec_inj.mp
  show (x.toBitVec ^^^ (-1 : Int32).toBitVec) &&& (x.toBitVec - (1 : Int32).toBitVec) = BitVec.ofNat 32 (2 ^ t - 1)
  generalize x.toBitVec = y at *
  have hlt := y.isLt
  have b1 : y.toNat.testBit t = true := h1
  have b2 : ∀ b, b < t → y.toNat.testBit b = false := h2
  have m0 : y.toNat % 2 ^ t = 0 := by
    apply Nat.eq_of_testBit_eq
    intro j
    rw [Nat.testBit_mod_two_pow, Nat.zero_testBit]
    by_cases c : j < t
    · simp [c, b2 j c]
    · simp [c]
  have hd : y.toNat / 2 ^ t % 2 = 1 := by
    rw [Nat.testBit_eq_decide_div_mod_eq] at b1
    exact of_decide_eq_true b1
  have hp : 0 < 2 ^ t := Nat.two_pow_pos t
  have e1 : y.toNat = 2 ^ (t + 1) * (y.toNat / 2 ^ t / 2) + 2 ^ t := by
    have q1 := Nat.div_add_mod y.toNat (2 ^ t)
    have q2 := Nat.div_add_mod (y.toNat / 2 ^ t) 2
    rw [m0] at q1
    rw [hd] at q2
    rw [Nat.pow_succ]
    generalize y.toNat / 2 ^ t = a at *
    have q3 : 2 ^ t * 2 * (a / 2) + 2 ^ t = 2 ^ t * (2 * (a / 2) + 1) := by rw [Nat.mul_add, Nat.mul_one, Nat.mul_assoc]
    rw [q3, q2]; omega
  generalize y.toNat / 2 ^ t / 2 = hi at *
  have hle : 2 ^ t < 2 ^ (t + 1) := by rw [Nat.pow_succ]; omega
  have e2 : (y - (1 : Int32).toBitVec).toNat = 2 ^ (t + 1) * hi + (2 ^ t - 1) := by
    rw [BitVec.toNat_sub, show (1 : Int32).toBitVec.toNat = 1 by decide]
    omega
  apply BitVec.eq_of_getLsbD_eq
  intro j hj
  rw [BitVec.getLsbD_and, BitVec.getLsbD_xor, show (-1 : Int32).toBitVec.getLsbD j = true from (by decide +kernel : ∀ j : Fin 32, (-1 : Int32).toBitVec.getLsbD j.1 = true) ⟨j, hj⟩]
  have l1 : y.getLsbD j = y.toNat.testBit j := rfl
  have l2 : (y - (1 : Int32).toBitVec).getLsbD j = (y - (1 : Int32).toBitVec).toNat.testBit j := rfl
  rw [l1, l2, e2, e1, Nat.testBit_two_pow_mul_add _ hle, Nat.testBit_two_pow_mul_add _ (show 2 ^ t - 1 < 2 ^ (t + 1) by omega), BitVec.getLsbD_ofNat]
  rw [Nat.testBit_two_pow, Nat.testBit_two_pow_sub_one]
  by_cases c : j < t + 1
  · by_cases d : t = j
    · subst d; simp
    · have : j < t := by omega
      simp [c, d, this, hj]
  · have : ¬ j < t := by omega
    simp [c, this]
end OwnBits

section OwnRank
theorem dk_succ (x k : Nat) : x / 64 ^ (k + 1) = x / 64 ^ k / 64 := by rw [Nat.pow_succ, Nat.div_div_eq_div_mul]
theorem dk_mono {x y a b : Nat} (h : x / 64 ^ a = y / 64 ^ a) (hab : a ≤ b) : x / 64 ^ b = y / 64 ^ b := by
  obtain ⟨c, rfl⟩ := Nat.le.dest hab
  rw [Nat.pow_add, ← Nat.div_div_eq_div_mul, ← Nat.div_div_eq_div_mul, h]
/-- the words of level k tell of the members M -/
def LV (M : Nat → Prop) (k len : Nat) (f : Nat → Int64) : Prop := ∀ i, i < len → ∀ b, b < 64 → (bt (f i) b = true ↔ ∃ x, M x ∧ x / 64 ^ k = 64 * i + b)
theorem LV.empty (k len : Nat) : LV (fun _ => False) k len (fun _ => 0) := fun i _ b _ => by
  rw [bt_zero]
  exact ⟨fun h => Bool.noConfusion h, fun ⟨_, h, _⟩ => h.elim⟩
theorem LV.congr {M M' : Nat → Prop} {k len : Nat} {f : Nat → Int64} (H : LV M k len f) (q : ∀ x, M x ↔ M' x) : LV M' k len f := fun i hi b hb => by
  rw [H i hi b hb]
  exact ⟨fun ⟨x, h1, h2⟩ => ⟨x, (q x).mp h1, h2⟩, fun ⟨x, h1, h2⟩ => ⟨x, (q x).mpr h1, h2⟩⟩
theorem LV.add {M : Nat → Prop} {k len : Nat} {f : Nat → Int64} (H : LV M k len f) (n : Nat) (at_ : Int32) (ha : at_.toInt = ((n / 64 ^ k : Nat) : Int)) :
    LV (fun x => M x ∨ x = n) k len (upd f (n / 64 ^ k / 64) (f (n / 64 ^ k / 64) ||| ((1 : Int64) <<< (at_ &&& 0x3f).toInt64))) := fun i hi b hb => by
  generalize hA : n / 64 ^ k = A at *
  by_cases q : i = A / 64
  · subst q
    rw [upd_same, bt_or, bt_one_shl _ _ ha b hb]
    constructor
    · intro z
      rcases Bool.or_eq_true_iff.mp z with z | z
      · obtain ⟨x, h1, h2⟩ := (H _ hi b hb).mp z
        exact ⟨x, Or.inl h1, h2⟩
      · have z := of_decide_eq_true z
        exact ⟨n, Or.inr rfl, by rw [hA]; omega⟩
    · rintro ⟨x, h1 | rfl, h2⟩
      · rw [(H _ hi b hb).mpr ⟨x, h1, h2⟩]; rfl
      · rw [hA] at h2
        have : b = A % 64 := by omega
        simp [this]
  · rw [upd_ne _ _ q, H i hi b hb]
    constructor
    · rintro ⟨x, h1, h2⟩; exact ⟨x, Or.inl h1, h2⟩
    · rintro ⟨x, h1 | rfl, h2⟩
      · exact ⟨x, h1, h2⟩
      · rw [hA] at h2; exact absurd (by omega) q
/-- a word that held a member: the levels above tell of it already -/
theorem LV.up {M : Nat → Prop} {k len : Nat} {f : Nat → Int64} (H : LV M k len f) {n : Nat} (hi : n / 64 ^ k / 64 < len) (hne : ¬ f (n / 64 ^ k / 64) = 0) : ∃ x, M x ∧ x / 64 ^ (k + 1) = n / 64 ^ (k + 1) := by
  obtain ⟨b, hb, z⟩ := bt_ne0 hne
  obtain ⟨x, h1, h2⟩ := (H _ hi b hb).mp z
  exact ⟨x, h1, by rw [dk_succ, dk_succ, h2]; omega⟩
theorem LV.more {M : Nat → Prop} {j len k : Nat} {f : Nat → Int64} {n : Nat} (H : LV M j len f) (hj : k ≤ j) (q : ∃ x, M x ∧ x / 64 ^ k = n / 64 ^ k) : LV (fun x => M x ∨ x = n) j len f := fun i hi b hb => by
  rw [H i hi b hb]
  constructor
  · rintro ⟨x, h1, h2⟩; exact ⟨x, Or.inl h1, h2⟩
  · rintro ⟨x, h1 | rfl, h2⟩
    · exact ⟨x, h1, h2⟩
    · obtain ⟨x', h3, h4⟩ := q
      exact ⟨x', h3, (dk_mono h4 hj).trans h2⟩
theorem LV.del {M : Nat → Prop} {k len : Nat} {f : Nat → Int64} (H : LV M k len f) (n : Nat) (at_ : Int32) (ha : at_.toInt = ((n / 64 ^ k : Nat) : Int)) (hno : ∀ x, M x → x ≠ n → x / 64 ^ k ≠ n / 64 ^ k) :
    LV (fun x => M x ∧ x ≠ n) k len (upd f (n / 64 ^ k / 64) (f (n / 64 ^ k / 64) &&& (((1 : Int64) <<< (at_ &&& 0x3f).toInt64) ^^^ (-1 : Int64)))) := fun i hi b hb => by
  generalize hA : n / 64 ^ k = A at *
  by_cases q : i = A / 64
  · subst q
    rw [upd_same, bt_and, bt_xor, bt_one_shl _ _ ha b hb, bt_m1 b hb]
    constructor
    · intro z
      obtain ⟨z1, z2⟩ := Bool.and_eq_true_iff.mp z
      have z3 : ¬ b = A % 64 := by
        intro w
        simp [w] at z2
      obtain ⟨x, h1, h2⟩ := (H _ hi b hb).mp z1
      exact ⟨x, ⟨h1, fun w => by subst w; rw [hA] at h2; omega⟩, h2⟩
    · rintro ⟨x, ⟨h1, h3⟩, h2⟩
      have z1 := (H _ hi b hb).mpr ⟨x, h1, h2⟩
      have z3 : ¬ b = A % 64 := fun w => hno x h1 h3 (by rw [h2]; omega)
      rw [z1]; simp [z3]
  · rw [upd_ne _ _ q, H i hi b hb]
    constructor
    · rintro ⟨x, h1, h2⟩; exact ⟨x, ⟨h1, fun w => by subst w; rw [hA] at h2; exact absurd (by omega) q⟩, h2⟩
    · rintro ⟨x, ⟨h1, _⟩, h2⟩; exact ⟨x, h1, h2⟩
theorem LV.less {M : Nat → Prop} {j len k : Nat} {f : Nat → Int64} {n : Nat} (H : LV M j len f) (hj : k ≤ j) (q : ∃ x, (M x ∧ x ≠ n) ∧ x / 64 ^ k = n / 64 ^ k) : LV (fun x => M x ∧ x ≠ n) j len f := fun i hi b hb => by
  rw [H i hi b hb]
  constructor
  · rintro ⟨x, h1, h2⟩
    by_cases w : x = n
    · subst w
      obtain ⟨x', h3, h4⟩ := q
      exact ⟨x', h3, (dk_mono h4 hj).trans h2⟩
    · exact ⟨x, ⟨h1, w⟩, h2⟩
  · rintro ⟨x, ⟨h1, _⟩, h2⟩; exact ⟨x, h1, h2⟩
/-- an empty word: nobody is there -/
theorem LV.none {M : Nat → Prop} {k len : Nat} {f : Nat → Int64} (H : LV M k len f) {n : Nat} (hi : n / 64 ^ k / 64 < len) (hz : f (n / 64 ^ k / 64) = 0) (x : Nat) (hx : M x) : x / 64 ^ (k + 1) ≠ n / 64 ^ (k + 1) := fun w => by
  rw [dk_succ, dk_succ] at w
  have := (H _ hi (x / 64 ^ k % 64) (by omega)).mpr ⟨x, hx, by omega⟩
  rw [bt_eq0 hz] at this
  cases this
/-- up the levels: every member from 'from' on lies at or above A at level k, and whatever lies there is such a member -/
def Up (M : Nat → Prop) (fr k A : Nat) : Prop := (∀ x, M x → fr ≤ x → A ≤ x / 64 ^ k) ∧ ∀ x, M x → A ≤ x / 64 ^ k → fr ≤ x
theorem Up.start (M : Nat → Prop) (fr : Nat) : Up M fr 0 fr := ⟨fun x _ h => by simpa using h, fun x _ h => by simpa using h⟩
theorem Up.next {M : Nat → Prop} {fr k A len : Nat} {f : Nat → Int64} (U : Up M fr k A) (H : LV M k len f) (hi : A / 64 < len) (q : Int32) (hq : q.toInt = (A : Int)) (hz : f (A / 64) &&& ((-1 : Int64) <<< (q &&& 0x3f).toInt64) = 0) : Up M fr (k + 1) (A / 64 + 1) := by
  have hno : ∀ x, M x → A ≤ x / 64 ^ k → A / 64 + 1 ≤ x / 64 ^ k / 64 := by
    intro x hx hA
    apply Classical.byContradiction
    intro hc
    have e : x / 64 ^ k / 64 = A / 64 := by omega
    have hb : x / 64 ^ k % 64 < 64 := by omega
    have h1 := (H _ hi _ hb).mpr ⟨x, hx, by omega⟩
    have h2 := bt_eq0 hz (x / 64 ^ k % 64)
    rw [bt_and, h1, bt_m1_shl _ _ hq _ hb] at h2
    have : A % 64 ≤ x / 64 ^ k % 64 := by omega
    simp [this] at h2
  refine ⟨fun x hx hf => ?_, fun x hx hA => U.2 x hx ?_⟩
  · rw [dk_succ]; exact hno x hx (U.1 x hx hf)
  · rw [dk_succ] at hA; omega
/-- the least member from 'from' on, seen at level k -/
def Dn (M : Nat → Prop) (fr k y : Nat) : Prop := (∃ x, M x ∧ x / 64 ^ k = y) ∧ (∀ x, M x → fr ≤ x → y ≤ x / 64 ^ k) ∧ ∀ x, M x → x / 64 ^ k = y → fr ≤ x
/-- t is the lowest bit of w -/
def Low (w : Int64) (t : Nat) : Prop := t < 64 ∧ bt w t = true ∧ ∀ b, b < t → bt w b = false
theorem Low.ex {w : Int64} (h : ¬ w = 0) : ∃ t, Low w t := by
  obtain ⟨b, hb, hv⟩ := bt_ne0 h
  induction b using Nat.strongRecOn with
  | ind b ih =>
    by_cases q : ∃ b', b' < b ∧ bt w b' = true
    · obtain ⟨b', h1, h2⟩ := q
      exact ih b' h1 (by omega) h2
    · refine ⟨b, hb, hv, fun b' h' => ?_⟩
      cases hx : bt w b'
      · rfl
      · exact absurd ⟨b', h', hx⟩ q
theorem Up.found {M : Nat → Prop} {fr k A len t : Nat} {f : Nat → Int64} (U : Up M fr k A) (H : LV M k len f) (hi : A / 64 < len) (q : Int32) (hq : q.toInt = (A : Int)) (ht : Low (f (A / 64) &&& ((-1 : Int64) <<< (q &&& 0x3f).toInt64)) t) : Dn M fr k (A - A % 64 + t) := by
  obtain ⟨t1, t2, t3⟩ := ht
  rw [bt_and, bt_m1_shl _ _ hq _ t1] at t2
  obtain ⟨t4, t5⟩ := Bool.and_eq_true_iff.mp t2
  have t5 := of_decide_eq_true t5
  obtain ⟨x0, h1, h2⟩ := (H _ hi t t1).mp t4
  have e : A - A % 64 = 64 * (A / 64) := by omega
  rw [e]
  refine ⟨⟨x0, h1, h2⟩, fun x hx hf => ?_, fun x hx hxe => U.2 x hx (by omega)⟩
  have hA := U.1 x hx hf
  apply Classical.byContradiction
  intro hc
  have e2 : x / 64 ^ k / 64 = A / 64 := by omega
  have hb : x / 64 ^ k % 64 < 64 := by omega
  have h3 := (H _ hi _ hb).mpr ⟨x, hx, by omega⟩
  have h4 := t3 (x / 64 ^ k % 64) (by omega)
  rw [bt_and, h3, bt_m1_shl _ _ hq _ hb] at h4
  have : A % 64 ≤ x / 64 ^ k % 64 := by omega
  simp [this] at h4
theorem Dn.down {M : Nat → Prop} {fr k y len t : Nat} {f : Nat → Int64} (D : Dn M fr (k + 1) y) (H : LV M k len f) (hi : y < len) (ht : Low (f y) t) : Dn M fr k (64 * y + t) := by
  obtain ⟨d1, d2, d3⟩ := D
  obtain ⟨t1, t2, t3⟩ := ht
  obtain ⟨x0, h1, h2⟩ := (H _ hi t t1).mp t2
  refine ⟨⟨x0, h1, h2⟩, fun x hx hf => ?_, fun x hx hxe => d3 x hx (by rw [dk_succ]; omega)⟩
  have h3 := d2 x hx hf
  rw [dk_succ] at h3
  apply Classical.byContradiction
  intro hc
  have hb : x / 64 ^ k % 64 < 64 := by omega
  have h4 := (H _ hi _ hb).mpr ⟨x, hx, by omega⟩
  have h5 := t3 (x / 64 ^ k % 64) (by omega)
  rw [h4] at h5; cases h5
theorem Dn.word {M : Nat → Prop} {fr k y len : Nat} {f : Nat → Int64} (D : Dn M fr (k + 1) y) (H : LV M k len f) (hi : y < len) : ¬ f y = 0 := fun hz => by
  obtain ⟨x, h1, h2⟩ := D.1
  rw [dk_succ] at h2
  have h4 := (H _ hi (x / 64 ^ k % 64) (by omega)).mpr ⟨x, h1, by omega⟩
  rw [bt_eq0 hz] at h4; cases h4
/-- what 'next' answers -/
def NextIs (M : Nat → Prop) (fr : Nat) (r : Int) : Prop := (r = -1 ∧ ∀ x, M x → ¬ fr ≤ x) ∨ ∃ y : Nat, r = (y : Int) ∧ M y ∧ fr ≤ y ∧ ∀ x, M x → fr ≤ x → y ≤ x
theorem Dn.last {M : Nat → Prop} {fr y : Nat} (D : Dn M fr 0 y) : NextIs M fr (y : Int) := by
  obtain ⟨⟨x, h1, h2⟩, d2, d3⟩ := D
  simp only [Nat.pow_zero, Nat.div_one] at *
  subst h2
  exact Or.inr ⟨x, rfl, h1, d3 x h1 rfl, d2⟩
theorem NextIs.one {M : Nat → Prop} {fr : Nat} {r r' : Int} (h : NextIs M fr r) (h' : NextIs M fr r') : r = r' := by
  rcases h with ⟨rfl, h1⟩ | ⟨y, rfl, h1, h2, h3⟩ <;> rcases h' with ⟨rfl, h1'⟩ | ⟨y', rfl, h1', h2', h3'⟩
  · rfl
  · exact absurd h2' (h1 _ h1')
  · exact absurd h2 (h1' _ h1)
  · have := h3 _ h1' h2'
    have := h3' _ h1 h2
    omega
/-- the mirror: the greatest member up to 'upTo' (A at level k; -1: nothing is left) -/
def UpP (M : Nat → Prop) (fr : Int) (k : Nat) (A : Int) : Prop := (∀ x : Nat, M x → (x : Int) ≤ fr → ((x / 64 ^ k : Nat) : Int) ≤ A) ∧ ∀ x : Nat, M x → ((x / 64 ^ k : Nat) : Int) ≤ A → (x : Int) ≤ fr
theorem UpP.start (M : Nat → Prop) (fr : Int) : UpP M fr 0 fr := ⟨fun x _ h => by simpa using h, fun x _ h => by simpa using h⟩
theorem UpP.next {M : Nat → Prop} {fr : Int} {k A len : Nat} {f : Nat → Int64} (U : UpP M fr k (A : Int)) (H : LV M k len f) (hi : A / 64 < len) (q : Int32) (hq : q.toInt = ((63 - A % 64 : Nat) : Int)) (hz : f (A / 64) &&& (((-1 : Int64).toUInt64 >>> (q &&& 0x3f).toInt64.toUInt64).toInt64) = 0) : UpP M fr (k + 1) (((A / 64 : Nat) : Int) - 1) := by
  have hno : ∀ x, M x → x / 64 ^ k ≤ A → x / 64 ^ k / 64 + 1 ≤ A / 64 := by
    intro x hx hA
    apply Classical.byContradiction
    intro hc
    have e : x / 64 ^ k / 64 = A / 64 := by omega
    have hb : x / 64 ^ k % 64 < 64 := by omega
    have h1 := (H _ hi _ hb).mpr ⟨x, hx, by omega⟩
    have h2 := bt_eq0 hz (x / 64 ^ k % 64)
    rw [bt_and, h1, bt_m1_ushr _ (A % 64) (by omega) hq _ hb] at h2
    have : x / 64 ^ k % 64 ≤ A % 64 := by omega
    simp [this] at h2
  refine ⟨fun x hx hf => ?_, fun x hx hA => U.2 x hx ?_⟩
  · have := hno x hx (by have := U.1 x hx hf; omega)
    rw [dk_succ]; omega
  · rw [dk_succ] at hA; omega
def DnP (M : Nat → Prop) (fr : Int) (k y : Nat) : Prop := (∃ x, M x ∧ x / 64 ^ k = y) ∧ (∀ x : Nat, M x → (x : Int) ≤ fr → x / 64 ^ k ≤ y) ∧ ∀ x : Nat, M x → x / 64 ^ k = y → (x : Int) ≤ fr
def High (w : Int64) (t : Nat) : Prop := t < 64 ∧ bt w t = true ∧ ∀ b, t < b → b < 64 → bt w b = false
theorem High.ex {w : Int64} (h : ¬ w = 0) : ∃ t, High w t := by
  obtain ⟨b, hb, hv⟩ := bt_ne0 h
  generalize hn : 64 - b = n
  induction n using Nat.strongRecOn generalizing b with
  | ind n ih =>
    by_cases q : ∃ b', b < b' ∧ b' < 64 ∧ bt w b' = true
    · obtain ⟨b', h1, h2, h3⟩ := q
      exact ih (64 - b') (by omega) b' h2 h3 rfl
    · refine ⟨b, hb, hv, fun b' h' h'' => ?_⟩
      cases hx : bt w b'
      · rfl
      · exact absurd ⟨b', h', h'', hx⟩ q
theorem UpP.found {M : Nat → Prop} {fr : Int} {k A len t : Nat} {f : Nat → Int64} (U : UpP M fr k (A : Int)) (H : LV M k len f) (hi : A / 64 < len) (q : Int32) (hq : q.toInt = ((63 - A % 64 : Nat) : Int)) (ht : High (f (A / 64) &&& (((-1 : Int64).toUInt64 >>> (q &&& 0x3f).toInt64.toUInt64).toInt64)) t) : DnP M fr k (A - A % 64 + t) := by
  obtain ⟨t1, t2, t3⟩ := ht
  rw [bt_and, bt_m1_ushr _ (A % 64) (by omega) hq _ t1] at t2
  obtain ⟨t4, t5⟩ := Bool.and_eq_true_iff.mp t2
  have t5 := of_decide_eq_true t5
  obtain ⟨x0, h1, h2⟩ := (H _ hi t t1).mp t4
  have e : A - A % 64 = 64 * (A / 64) := by omega
  rw [e]
  refine ⟨⟨x0, h1, h2⟩, fun x hx hf => ?_, fun x hx hxe => U.2 x hx (by omega)⟩
  have hA := U.1 x hx hf
  apply Classical.byContradiction
  intro hc
  have e2 : x / 64 ^ k / 64 = A / 64 := by omega
  have hb : x / 64 ^ k % 64 < 64 := by omega
  have h3 := (H _ hi _ hb).mpr ⟨x, hx, by omega⟩
  have h4 := t3 (x / 64 ^ k % 64) (by omega) hb
  rw [bt_and, h3, bt_m1_ushr _ (A % 64) (by omega) hq _ hb] at h4
  have : x / 64 ^ k % 64 ≤ A % 64 := by omega
  simp [this] at h4
theorem DnP.down {M : Nat → Prop} {fr : Int} {k y len t : Nat} {f : Nat → Int64} (D : DnP M fr (k + 1) y) (H : LV M k len f) (hi : y < len) (ht : High (f y) t) : DnP M fr k (64 * y + t) := by
  obtain ⟨d1, d2, d3⟩ := D
  obtain ⟨t1, t2, t3⟩ := ht
  obtain ⟨x0, h1, h2⟩ := (H _ hi t t1).mp t2
  refine ⟨⟨x0, h1, h2⟩, fun x hx hf => ?_, fun x hx hxe => d3 x hx (by rw [dk_succ]; omega)⟩
  have h3 := d2 x hx hf
  rw [dk_succ] at h3
  apply Classical.byContradiction
  intro hc
  have hb : x / 64 ^ k % 64 < 64 := by omega
  have h4 := (H _ hi _ hb).mpr ⟨x, hx, by omega⟩
  have h5 := t3 (x / 64 ^ k % 64) (by omega) hb
  rw [h4] at h5; cases h5
theorem DnP.word {M : Nat → Prop} {fr : Int} {k y len : Nat} {f : Nat → Int64} (D : DnP M fr (k + 1) y) (H : LV M k len f) (hi : y < len) : ¬ f y = 0 := fun hz => by
  obtain ⟨x, h1, h2⟩ := D.1
  rw [dk_succ] at h2
  have h4 := (H _ hi (x / 64 ^ k % 64) (by omega)).mpr ⟨x, h1, by omega⟩
  rw [bt_eq0 hz] at h4; cases h4
def PrevIs (M : Nat → Prop) (fr : Int) (r : Int) : Prop := (r = -1 ∧ ∀ x : Nat, M x → ¬ (x : Int) ≤ fr) ∨ ∃ y : Nat, r = (y : Int) ∧ M y ∧ (y : Int) ≤ fr ∧ ∀ x : Nat, M x → (x : Int) ≤ fr → x ≤ y
theorem DnP.last {M : Nat → Prop} {fr : Int} {y : Nat} (D : DnP M fr 0 y) : PrevIs M fr (y : Int) := by
  obtain ⟨⟨x, h1, h2⟩, d2, d3⟩ := D
  simp only [Nat.pow_zero, Nat.div_one] at *
  subst h2
  exact Or.inr ⟨x, rfl, h1, d3 x h1 rfl, d2⟩
theorem PrevIs.one {M : Nat → Prop} {fr : Int} {r r' : Int} (h : PrevIs M fr r) (h' : PrevIs M fr r') : r = r' := by
  rcases h with ⟨rfl, h1⟩ | ⟨y, rfl, h1, h2, h3⟩ <;> rcases h' with ⟨rfl, h1'⟩ | ⟨y', rfl, h1', h2', h3'⟩
  · rfl
  · exact absurd h2' (h1 _ h1')
  · exact absurd h2 (h1' _ h1)
  · have := h3 _ h1' h2'
    have := h3' _ h1 h2
    omega
theorem own_lti {x y : Int32} {a b : Nat} (hx : x.toInt = (a : Int)) (hy : y.toInt = (b : Int)) (h : a < b) : x < y := by rw [Int32.lt_iff_toInt_lt, hx, hy]; omega
theorem own_nlti {x y : Int32} {a b : Nat} (hx : x.toInt = (a : Int)) (hy : y.toInt = (b : Int)) (h : ¬ a < b) : ¬ x < y := by rw [Int32.lt_iff_toInt_lt, hx, hy]; omega
theorem own_eqi {x y : Int32} {a b : Nat} (hx : x.toInt = (a : Int)) (hy : y.toInt = (b : Int)) (h : a = b) : x = y := Int32.toInt_inj.mp (by rw [hx, hy, h])
theorem own_nei {x y : Int32} {a b : Nat} (hx : x.toInt = (a : Int)) (hy : y.toInt = (b : Int)) (h : ¬ a = b) : ¬ x = y := fun q => h (by subst q; omega)
theorem own_inc {x : Int32} {a : Nat} (hx : x.toInt = (a : Int)) (h : a < 2147483647) : (x + (1 : Int32)).toInt = ((a + 1 : Nat) : Int) := by
  have h1 := c_iadd x 1
  have r := rng32 (x + 1)
  rw [show (1 : Int32).toInt = 1 from rfl] at h1
  omega
theorem own_dec {x : Int32} {a : Nat} (hx : x.toInt = ((a + 1 : Nat) : Int)) : (x + (-1 : Int32)).toInt = (a : Int) := by
  have h1 := c_iadd x (-1)
  have r := rng32 (x + (-1))
  rw [show (-1 : Int32).toInt = -1 from rfl] at h1
  have r2 := rng32 x
  omega
theorem own_sh6 {x : Int32} {a : Nat} (hx : x.toInt = (a : Int)) : ((x.toUInt32 >>> ((6 : Int32) &&& 31).toUInt32).toInt32).toInt = ((a / 64 : Nat) : Int) := by
  have h := c_iushr x 6 6 (by decide) (by decide)
  have r := rng32 x
  rw [h, hx]
  omega
theorem own_ofNat {n : Nat} (h : n < 2147483648) : (Int32.ofNat n).toInt = (n : Int) := Int32.toInt_ofNat_of_lt (by omega)
end OwnRank

theorem d9_0 : decode jdk_33_method_48_code 0 = .ok (.iload_n 0, 1) := by decide +kernel
theorem d9_1 : decode jdk_33_method_48_code 1 = .ok (.iconst (-1), 1) := by decide +kernel
theorem d9_2 : decode jdk_33_method_48_code 2 = .ok (.ixor, 1) := by decide +kernel
theorem d9_3 : decode jdk_33_method_48_code 3 = .ok (.iload_n 0, 1) := by decide +kernel
theorem d9_4 : decode jdk_33_method_48_code 4 = .ok (.iconst 1, 1) := by decide +kernel
theorem d9_5 : decode jdk_33_method_48_code 5 = .ok (.isub, 1) := by decide +kernel
theorem d9_6 : decode jdk_33_method_48_code 6 = .ok (.iand, 1) := by decide +kernel
theorem d9_7 : decode jdk_33_method_48_code 7 = .ok (.istore_n 0, 1) := by decide +kernel
theorem d9_8 : decode jdk_33_method_48_code 8 = .ok (.iload_n 0, 1) := by decide +kernel
theorem d9_9 : decode jdk_33_method_48_code 9 = .ok (.ifCond .gt 8, 3) := by decide +kernel
theorem d9_17 : decode jdk_33_method_48_code 17 = .ok (.iconst 1, 1) := by decide +kernel
theorem d9_18 : decode jdk_33_method_48_code 18 = .ok (.istore_n 1, 1) := by decide +kernel
theorem d9_19 : decode jdk_33_method_48_code 19 = .ok (.iload_n 0, 1) := by decide +kernel
theorem d9_20 : decode jdk_33_method_48_code 20 = .ok (.ldc_w 264, 3) := by decide +kernel
theorem d9_23 : decode jdk_33_method_48_code 23 = .ok (.if_icmp .le 11, 3) := by decide +kernel
theorem d9_26 : decode jdk_33_method_48_code 26 = .ok (.iinc 1 16, 3) := by decide +kernel
theorem d9_29 : decode jdk_33_method_48_code 29 = .ok (.iload_n 0, 1) := by decide +kernel
theorem d9_30 : decode jdk_33_method_48_code 30 = .ok (.bipush 16, 2) := by decide +kernel
theorem d9_32 : decode jdk_33_method_48_code 32 = .ok (.iushr, 1) := by decide +kernel
theorem d9_33 : decode jdk_33_method_48_code 33 = .ok (.istore_n 0, 1) := by decide +kernel
theorem d9_34 : decode jdk_33_method_48_code 34 = .ok (.iload_n 0, 1) := by decide +kernel
theorem d9_35 : decode jdk_33_method_48_code 35 = .ok (.sipush 256, 3) := by decide +kernel
theorem d9_38 : decode jdk_33_method_48_code 38 = .ok (.if_icmp .le 11, 3) := by decide +kernel
theorem d9_41 : decode jdk_33_method_48_code 41 = .ok (.iinc 1 8, 3) := by decide +kernel
theorem d9_44 : decode jdk_33_method_48_code 44 = .ok (.iload_n 0, 1) := by decide +kernel
theorem d9_45 : decode jdk_33_method_48_code 45 = .ok (.bipush 8, 2) := by decide +kernel
theorem d9_47 : decode jdk_33_method_48_code 47 = .ok (.iushr, 1) := by decide +kernel
theorem d9_48 : decode jdk_33_method_48_code 48 = .ok (.istore_n 0, 1) := by decide +kernel
theorem d9_49 : decode jdk_33_method_48_code 49 = .ok (.iload_n 0, 1) := by decide +kernel
theorem d9_50 : decode jdk_33_method_48_code 50 = .ok (.bipush 16, 2) := by decide +kernel
theorem d9_52 : decode jdk_33_method_48_code 52 = .ok (.if_icmp .le 10, 3) := by decide +kernel
theorem d9_55 : decode jdk_33_method_48_code 55 = .ok (.iinc 1 4, 3) := by decide +kernel
theorem d9_58 : decode jdk_33_method_48_code 58 = .ok (.iload_n 0, 1) := by decide +kernel
theorem d9_59 : decode jdk_33_method_48_code 59 = .ok (.iconst 4, 1) := by decide +kernel
theorem d9_60 : decode jdk_33_method_48_code 60 = .ok (.iushr, 1) := by decide +kernel
theorem d9_61 : decode jdk_33_method_48_code 61 = .ok (.istore_n 0, 1) := by decide +kernel
theorem d9_62 : decode jdk_33_method_48_code 62 = .ok (.iload_n 0, 1) := by decide +kernel
theorem d9_63 : decode jdk_33_method_48_code 63 = .ok (.iconst 4, 1) := by decide +kernel
theorem d9_64 : decode jdk_33_method_48_code 64 = .ok (.if_icmp .le 10, 3) := by decide +kernel
theorem d9_67 : decode jdk_33_method_48_code 67 = .ok (.iinc 1 2, 3) := by decide +kernel
theorem d9_70 : decode jdk_33_method_48_code 70 = .ok (.iload_n 0, 1) := by decide +kernel
theorem d9_71 : decode jdk_33_method_48_code 71 = .ok (.iconst 2, 1) := by decide +kernel
theorem d9_72 : decode jdk_33_method_48_code 72 = .ok (.iushr, 1) := by decide +kernel
theorem d9_73 : decode jdk_33_method_48_code 73 = .ok (.istore_n 0, 1) := by decide +kernel
theorem d9_74 : decode jdk_33_method_48_code 74 = .ok (.iload_n 1, 1) := by decide +kernel
theorem d9_75 : decode jdk_33_method_48_code 75 = .ok (.iload_n 0, 1) := by decide +kernel
theorem d9_76 : decode jdk_33_method_48_code 76 = .ok (.iconst 1, 1) := by decide +kernel
theorem d9_77 : decode jdk_33_method_48_code 77 = .ok (.iushr, 1) := by decide +kernel
theorem d9_78 : decode jdk_33_method_48_code 78 = .ok (.iadd, 1) := by decide +kernel
theorem d9_79 : decode jdk_33_method_48_code 79 = .ok (.ireturn, 1) := by decide +kernel
theorem d9_12 : decode jdk_33_method_48_code 12 = .ok (.iload_n 0, 1) := by decide +kernel
theorem d9_13 : decode jdk_33_method_48_code 13 = .ok (.bipush 32, 2) := by decide +kernel
theorem d9_15 : decode jdk_33_method_48_code 15 = .ok (.iand, 1) := by decide +kernel
theorem d9_16 : decode jdk_33_method_48_code 16 = .ok (.ireturn, 1) := by decide +kernel
def f_ntzI (p0 : Int32)  : Int32 := (if (0 : Int32) < ((p0 ^^^ (-1 : Int32)) &&& (p0 - (1 : Int32))) then (if (65536 : Int32) < ((p0 ^^^ (-1 : Int32)) &&& (p0 - (1 : Int32))) then (if (256 : Int32) < ((((p0 ^^^ (-1 : Int32)) &&& (p0 - (1 : Int32))).toUInt32 >>> ((16 : Int32) &&& 31).toUInt32).toInt32) then (if (16 : Int32) < ((((((p0 ^^^ (-1 : Int32)) &&& (p0 - (1 : Int32))).toUInt32 >>> ((16 : Int32) &&& 31).toUInt32).toInt32).toUInt32 >>> ((8 : Int32) &&& 31).toUInt32).toInt32) then (if (4 : Int32) < ((((((((p0 ^^^ (-1 : Int32)) &&& (p0 - (1 : Int32))).toUInt32 >>> ((16 : Int32) &&& 31).toUInt32).toInt32).toUInt32 >>> ((8 : Int32) &&& 31).toUInt32).toInt32).toUInt32 >>> ((4 : Int32) &&& 31).toUInt32).toInt32) then ((((((1 : Int32) + (16 : Int32)) + (8 : Int32)) + (4 : Int32)) + (2 : Int32)) + ((((((((((((p0 ^^^ (-1 : Int32)) &&& (p0 - (1 : Int32))).toUInt32 >>> ((16 : Int32) &&& 31).toUInt32).toInt32).toUInt32 >>> ((8 : Int32) &&& 31).toUInt32).toInt32).toUInt32 >>> ((4 : Int32) &&& 31).toUInt32).toInt32).toUInt32 >>> ((2 : Int32) &&& 31).toUInt32).toInt32).toUInt32 >>> ((1 : Int32) &&& 31).toUInt32).toInt32)) else (((((1 : Int32) + (16 : Int32)) + (8 : Int32)) + (4 : Int32)) + ((((((((((p0 ^^^ (-1 : Int32)) &&& (p0 - (1 : Int32))).toUInt32 >>> ((16 : Int32) &&& 31).toUInt32).toInt32).toUInt32 >>> ((8 : Int32) &&& 31).toUInt32).toInt32).toUInt32 >>> ((4 : Int32) &&& 31).toUInt32).toInt32).toUInt32 >>> ((1 : Int32) &&& 31).toUInt32).toInt32))) else (if (4 : Int32) < ((((((p0 ^^^ (-1 : Int32)) &&& (p0 - (1 : Int32))).toUInt32 >>> ((16 : Int32) &&& 31).toUInt32).toInt32).toUInt32 >>> ((8 : Int32) &&& 31).toUInt32).toInt32) then (((((1 : Int32) + (16 : Int32)) + (8 : Int32)) + (2 : Int32)) + ((((((((((p0 ^^^ (-1 : Int32)) &&& (p0 - (1 : Int32))).toUInt32 >>> ((16 : Int32) &&& 31).toUInt32).toInt32).toUInt32 >>> ((8 : Int32) &&& 31).toUInt32).toInt32).toUInt32 >>> ((2 : Int32) &&& 31).toUInt32).toInt32).toUInt32 >>> ((1 : Int32) &&& 31).toUInt32).toInt32)) else ((((1 : Int32) + (16 : Int32)) + (8 : Int32)) + ((((((((p0 ^^^ (-1 : Int32)) &&& (p0 - (1 : Int32))).toUInt32 >>> ((16 : Int32) &&& 31).toUInt32).toInt32).toUInt32 >>> ((8 : Int32) &&& 31).toUInt32).toInt32).toUInt32 >>> ((1 : Int32) &&& 31).toUInt32).toInt32)))) else (if (16 : Int32) < ((((p0 ^^^ (-1 : Int32)) &&& (p0 - (1 : Int32))).toUInt32 >>> ((16 : Int32) &&& 31).toUInt32).toInt32) then (if (4 : Int32) < ((((((p0 ^^^ (-1 : Int32)) &&& (p0 - (1 : Int32))).toUInt32 >>> ((16 : Int32) &&& 31).toUInt32).toInt32).toUInt32 >>> ((4 : Int32) &&& 31).toUInt32).toInt32) then (((((1 : Int32) + (16 : Int32)) + (4 : Int32)) + (2 : Int32)) + ((((((((((p0 ^^^ (-1 : Int32)) &&& (p0 - (1 : Int32))).toUInt32 >>> ((16 : Int32) &&& 31).toUInt32).toInt32).toUInt32 >>> ((4 : Int32) &&& 31).toUInt32).toInt32).toUInt32 >>> ((2 : Int32) &&& 31).toUInt32).toInt32).toUInt32 >>> ((1 : Int32) &&& 31).toUInt32).toInt32)) else ((((1 : Int32) + (16 : Int32)) + (4 : Int32)) + ((((((((p0 ^^^ (-1 : Int32)) &&& (p0 - (1 : Int32))).toUInt32 >>> ((16 : Int32) &&& 31).toUInt32).toInt32).toUInt32 >>> ((4 : Int32) &&& 31).toUInt32).toInt32).toUInt32 >>> ((1 : Int32) &&& 31).toUInt32).toInt32))) else (if (4 : Int32) < ((((p0 ^^^ (-1 : Int32)) &&& (p0 - (1 : Int32))).toUInt32 >>> ((16 : Int32) &&& 31).toUInt32).toInt32) then ((((1 : Int32) + (16 : Int32)) + (2 : Int32)) + ((((((((p0 ^^^ (-1 : Int32)) &&& (p0 - (1 : Int32))).toUInt32 >>> ((16 : Int32) &&& 31).toUInt32).toInt32).toUInt32 >>> ((2 : Int32) &&& 31).toUInt32).toInt32).toUInt32 >>> ((1 : Int32) &&& 31).toUInt32).toInt32)) else (((1 : Int32) + (16 : Int32)) + ((((((p0 ^^^ (-1 : Int32)) &&& (p0 - (1 : Int32))).toUInt32 >>> ((16 : Int32) &&& 31).toUInt32).toInt32).toUInt32 >>> ((1 : Int32) &&& 31).toUInt32).toInt32))))) else (if (256 : Int32) < ((p0 ^^^ (-1 : Int32)) &&& (p0 - (1 : Int32))) then (if (16 : Int32) < ((((p0 ^^^ (-1 : Int32)) &&& (p0 - (1 : Int32))).toUInt32 >>> ((8 : Int32) &&& 31).toUInt32).toInt32) then (if (4 : Int32) < ((((((p0 ^^^ (-1 : Int32)) &&& (p0 - (1 : Int32))).toUInt32 >>> ((8 : Int32) &&& 31).toUInt32).toInt32).toUInt32 >>> ((4 : Int32) &&& 31).toUInt32).toInt32) then (((((1 : Int32) + (8 : Int32)) + (4 : Int32)) + (2 : Int32)) + ((((((((((p0 ^^^ (-1 : Int32)) &&& (p0 - (1 : Int32))).toUInt32 >>> ((8 : Int32) &&& 31).toUInt32).toInt32).toUInt32 >>> ((4 : Int32) &&& 31).toUInt32).toInt32).toUInt32 >>> ((2 : Int32) &&& 31).toUInt32).toInt32).toUInt32 >>> ((1 : Int32) &&& 31).toUInt32).toInt32)) else ((((1 : Int32) + (8 : Int32)) + (4 : Int32)) + ((((((((p0 ^^^ (-1 : Int32)) &&& (p0 - (1 : Int32))).toUInt32 >>> ((8 : Int32) &&& 31).toUInt32).toInt32).toUInt32 >>> ((4 : Int32) &&& 31).toUInt32).toInt32).toUInt32 >>> ((1 : Int32) &&& 31).toUInt32).toInt32))) else (if (4 : Int32) < ((((p0 ^^^ (-1 : Int32)) &&& (p0 - (1 : Int32))).toUInt32 >>> ((8 : Int32) &&& 31).toUInt32).toInt32) then ((((1 : Int32) + (8 : Int32)) + (2 : Int32)) + ((((((((p0 ^^^ (-1 : Int32)) &&& (p0 - (1 : Int32))).toUInt32 >>> ((8 : Int32) &&& 31).toUInt32).toInt32).toUInt32 >>> ((2 : Int32) &&& 31).toUInt32).toInt32).toUInt32 >>> ((1 : Int32) &&& 31).toUInt32).toInt32)) else (((1 : Int32) + (8 : Int32)) + ((((((p0 ^^^ (-1 : Int32)) &&& (p0 - (1 : Int32))).toUInt32 >>> ((8 : Int32) &&& 31).toUInt32).toInt32).toUInt32 >>> ((1 : Int32) &&& 31).toUInt32).toInt32)))) else (if (16 : Int32) < ((p0 ^^^ (-1 : Int32)) &&& (p0 - (1 : Int32))) then (if (4 : Int32) < ((((p0 ^^^ (-1 : Int32)) &&& (p0 - (1 : Int32))).toUInt32 >>> ((4 : Int32) &&& 31).toUInt32).toInt32) then ((((1 : Int32) + (4 : Int32)) + (2 : Int32)) + ((((((((p0 ^^^ (-1 : Int32)) &&& (p0 - (1 : Int32))).toUInt32 >>> ((4 : Int32) &&& 31).toUInt32).toInt32).toUInt32 >>> ((2 : Int32) &&& 31).toUInt32).toInt32).toUInt32 >>> ((1 : Int32) &&& 31).toUInt32).toInt32)) else (((1 : Int32) + (4 : Int32)) + ((((((p0 ^^^ (-1 : Int32)) &&& (p0 - (1 : Int32))).toUInt32 >>> ((4 : Int32) &&& 31).toUInt32).toInt32).toUInt32 >>> ((1 : Int32) &&& 31).toUInt32).toInt32))) else (if (4 : Int32) < ((p0 ^^^ (-1 : Int32)) &&& (p0 - (1 : Int32))) then (((1 : Int32) + (2 : Int32)) + ((((((p0 ^^^ (-1 : Int32)) &&& (p0 - (1 : Int32))).toUInt32 >>> ((2 : Int32) &&& 31).toUInt32).toInt32).toUInt32 >>> ((1 : Int32) &&& 31).toUInt32).toInt32)) else ((1 : Int32) + ((((p0 ^^^ (-1 : Int32)) &&& (p0 - (1 : Int32))).toUInt32 >>> ((1 : Int32) &&& 31).toUInt32).toInt32)))))) else (((p0 ^^^ (-1 : Int32)) &&& (p0 - (1 : Int32))) &&& (32 : Int32)))
theorem ef_9_f_ntzI (m : MethodId) (p0 : Int32) : entryFrame m #[(.int p0)] 2 = mkF m 0 #[.val (.int p0), .unset] [] := by first | (simp [entryFrame, mkF, argsToLocals, Value.category]; done) | rfl
theorem pn_9 : plainFor (⟨"java/lang/Integer", "numberOfTrailingZeros", "(I)I"⟩ : MethodName) = true := plainFor_of_name (by first | (simp [plainName, overriddenIn]; done) | decide +kernel)
set_option maxRecDepth 65536 in
set_option maxHeartbeats 40000000 in
theorem rm_f_ntzI (l : Launch) (Z : State) (a0 : Array Value) (hw : ∀ d ∈ tables_1, d.before a0 Z = true) (ws : List Jvm.Cond) (p0 : Int32) (h0 : Heap)  :
    OMet l (⟨"java/lang/Integer", "numberOfTrailingZeros", "(I)I"⟩ : MethodName) jdk_33_method_48_code 2 (some .int) ws ({ frames := 0, cells := 0, slots := 0, locals := 0 } : Room) #[(.int p0)] Z h0 (fun v h L => v = some (Value.int (f_ntzI p0)) ∧ L = [] ∧ h = h0) := by
  refine OMet.of pn_9 (fun m => ef_9_f_ntzI m p0) ?_
  intro p e s m below meth c s₁ hx hby hml hown hnm hret hlk hZ X0 e0
  refine Owes.go ?_ fun t₀ k₀ => XS.iloadN X0.here hx rfl (hb hby d9_0) rfl k₀
  show Owes _ _ _ _ (s₁.setTop (mkF m 1 #[.val (.int p0), .unset] [(.int p0)]))
  refine Owes.go ?_ fun t₀ k₀ => XS.iconst X0.here hx rfl (hb hby d9_1) k₀
  show Owes _ _ _ _ (s₁.setTop (mkF m 2 #[.val (.int p0), .unset] [(.int (-1 : Int32)), (.int p0)]))
  refine Owes.go ?_ fun t₀ k₀ => XS.ixor X0.here hx rfl (hb hby d9_2) rfl k₀
  show Owes _ _ _ _ (s₁.setTop (mkF m 3 #[.val (.int p0), .unset] [(.int (p0 ^^^ (-1 : Int32)))]))
  refine Owes.go ?_ fun t₀ k₀ => XS.iloadN X0.here hx rfl (hb hby d9_3) rfl k₀
  show Owes _ _ _ _ (s₁.setTop (mkF m 4 #[.val (.int p0), .unset] [(.int p0), (.int (p0 ^^^ (-1 : Int32)))]))
  refine Owes.go ?_ fun t₀ k₀ => XS.iconst X0.here hx rfl (hb hby d9_4) k₀
  show Owes _ _ _ _ (s₁.setTop (mkF m 5 #[.val (.int p0), .unset] [(.int (1 : Int32)), (.int p0), (.int (p0 ^^^ (-1 : Int32)))]))
  refine Owes.go ?_ fun t₀ k₀ => XS.isub X0.here hx rfl (hb hby d9_5) rfl k₀
  show Owes _ _ _ _ (s₁.setTop (mkF m 6 #[.val (.int p0), .unset] [(.int (p0 - (1 : Int32))), (.int (p0 ^^^ (-1 : Int32)))]))
  refine Owes.go ?_ fun t₀ k₀ => XS.iand X0.here hx rfl (hb hby d9_6) rfl k₀
  show Owes _ _ _ _ (s₁.setTop (mkF m 7 #[.val (.int p0), .unset] [(.int ((p0 ^^^ (-1 : Int32)) &&& (p0 - (1 : Int32))))]))
  refine Owes.go ?_ fun t₀ k₀ => XS.istoreN X0.here hx rfl (hb hby d9_7) rfl (l' := #[.val (.int ((p0 ^^^ (-1 : Int32)) &&& (p0 - (1 : Int32)))), .unset]) rfl k₀
  show Owes _ _ _ _ (s₁.setTop (mkF m 8 #[.val (.int ((p0 ^^^ (-1 : Int32)) &&& (p0 - (1 : Int32)))), .unset] []))
  refine Owes.go ?_ fun t₀ k₀ => XS.iloadN X0.here hx rfl (hb hby d9_8) rfl k₀
  show Owes _ _ _ _ (s₁.setTop (mkF m 9 #[.val (.int ((p0 ^^^ (-1 : Int32)) &&& (p0 - (1 : Int32)))), .unset] [(.int ((p0 ^^^ (-1 : Int32)) &&& (p0 - (1 : Int32))))]))
  by_cases hc1 : (0 : Int32) < ((p0 ^^^ (-1 : Int32)) &&& (p0 - (1 : Int32)))
  · skip
    refine Owes.go ?_ fun t₀ k₀ => XS.ifYes X0.here hx rfl (pc0 := 9) (pc' := 17) rfl (hb hby d9_9) rfl ((if0 _ _).trans (tlt hc1).2.2.1) (by decide) (by decide) k₀
    show Owes _ _ _ _ (s₁.setTop (mkF m 17 #[.val (.int ((p0 ^^^ (-1 : Int32)) &&& (p0 - (1 : Int32)))), .unset] []))
    refine Owes.go ?_ fun t₀ k₀ => XS.iconst X0.here hx rfl (hb hby d9_17) k₀
    show Owes _ _ _ _ (s₁.setTop (mkF m 18 #[.val (.int ((p0 ^^^ (-1 : Int32)) &&& (p0 - (1 : Int32)))), .unset] [(.int (1 : Int32))]))
    refine Owes.go ?_ fun t₀ k₀ => XS.istoreN X0.here hx rfl (hb hby d9_18) rfl (l' := #[.val (.int ((p0 ^^^ (-1 : Int32)) &&& (p0 - (1 : Int32)))), .val (.int (1 : Int32))]) rfl k₀
    show Owes _ _ _ _ (s₁.setTop (mkF m 19 #[.val (.int ((p0 ^^^ (-1 : Int32)) &&& (p0 - (1 : Int32)))), .val (.int (1 : Int32))] []))
    refine Owes.go ?_ fun t₀ k₀ => XS.iloadN X0.here hx rfl (hb hby d9_19) rfl k₀
    show Owes _ _ _ _ (s₁.setTop (mkF m 20 #[.val (.int ((p0 ^^^ (-1 : Int32)) &&& (p0 - (1 : Int32)))), .val (.int (1 : Int32))] [(.int ((p0 ^^^ (-1 : Int32)) &&& (p0 - (1 : Int32))))]))
    refine Owes.go ?_ fun t₀ k₀ => X0.ldcwInt hx hown (mvT hZ (hw _ (List.mem_of_getElem? (i := 46) rfl))) (g := (mkF m 20 #[.val (.int ((p0 ^^^ (-1 : Int32)) &&& (p0 - (1 : Int32)))), .val (.int (1 : Int32))] [(.int ((p0 ^^^ (-1 : Int32)) &&& (p0 - (1 : Int32))))])) rfl (hb hby d9_20) _ k₀
    show Owes _ _ _ _ (s₁.setTop (mkF m 23 #[.val (.int ((p0 ^^^ (-1 : Int32)) &&& (p0 - (1 : Int32)))), .val (.int (1 : Int32))] [(.int (65536 : Int32)), (.int ((p0 ^^^ (-1 : Int32)) &&& (p0 - (1 : Int32))))]))
    by_cases hc2 : (65536 : Int32) < ((p0 ^^^ (-1 : Int32)) &&& (p0 - (1 : Int32)))
    · skip
      refine Owes.go ?_ fun t₀ k₀ => XS.icmpNo X0.here hx rfl (hb hby d9_23) rfl (tlt hc2).2.2.2 k₀
      show Owes _ _ _ _ (s₁.setTop (mkF m 26 #[.val (.int ((p0 ^^^ (-1 : Int32)) &&& (p0 - (1 : Int32)))), .val (.int (1 : Int32))] []))
      refine Owes.go ?_ fun t₀ k₀ => XS.iinc X0.here hx rfl (hb hby d9_26) rfl (l' := #[.val (.int ((p0 ^^^ (-1 : Int32)) &&& (p0 - (1 : Int32)))), .val (.int ((1 : Int32) + (16 : Int32)))]) rfl k₀
      show Owes _ _ _ _ (s₁.setTop (mkF m 29 #[.val (.int ((p0 ^^^ (-1 : Int32)) &&& (p0 - (1 : Int32)))), .val (.int ((1 : Int32) + (16 : Int32)))] []))
      refine Owes.go ?_ fun t₀ k₀ => XS.iloadN X0.here hx rfl (hb hby d9_29) rfl k₀
      show Owes _ _ _ _ (s₁.setTop (mkF m 30 #[.val (.int ((p0 ^^^ (-1 : Int32)) &&& (p0 - (1 : Int32)))), .val (.int ((1 : Int32) + (16 : Int32)))] [(.int ((p0 ^^^ (-1 : Int32)) &&& (p0 - (1 : Int32))))]))
      refine Owes.go ?_ fun t₀ k₀ => XS.bipush X0.here hx rfl (hb hby d9_30) k₀
      show Owes _ _ _ _ (s₁.setTop (mkF m 32 #[.val (.int ((p0 ^^^ (-1 : Int32)) &&& (p0 - (1 : Int32)))), .val (.int ((1 : Int32) + (16 : Int32)))] [(.int (16 : Int32)), (.int ((p0 ^^^ (-1 : Int32)) &&& (p0 - (1 : Int32))))]))
      refine Owes.go ?_ fun t₀ k₀ => XS.iushr X0.here hx rfl (hb hby d9_32) rfl k₀
      show Owes _ _ _ _ (s₁.setTop (mkF m 33 #[.val (.int ((p0 ^^^ (-1 : Int32)) &&& (p0 - (1 : Int32)))), .val (.int ((1 : Int32) + (16 : Int32)))] [(.int ((((p0 ^^^ (-1 : Int32)) &&& (p0 - (1 : Int32))).toUInt32 >>> ((16 : Int32) &&& 31).toUInt32).toInt32))]))
      refine Owes.go ?_ fun t₀ k₀ => XS.istoreN X0.here hx rfl (hb hby d9_33) rfl (l' := #[.val (.int ((((p0 ^^^ (-1 : Int32)) &&& (p0 - (1 : Int32))).toUInt32 >>> ((16 : Int32) &&& 31).toUInt32).toInt32)), .val (.int ((1 : Int32) + (16 : Int32)))]) rfl k₀
      show Owes _ _ _ _ (s₁.setTop (mkF m 34 #[.val (.int ((((p0 ^^^ (-1 : Int32)) &&& (p0 - (1 : Int32))).toUInt32 >>> ((16 : Int32) &&& 31).toUInt32).toInt32)), .val (.int ((1 : Int32) + (16 : Int32)))] []))
      refine Owes.go ?_ fun t₀ k₀ => XS.iloadN X0.here hx rfl (hb hby d9_34) rfl k₀
      show Owes _ _ _ _ (s₁.setTop (mkF m 35 #[.val (.int ((((p0 ^^^ (-1 : Int32)) &&& (p0 - (1 : Int32))).toUInt32 >>> ((16 : Int32) &&& 31).toUInt32).toInt32)), .val (.int ((1 : Int32) + (16 : Int32)))] [(.int ((((p0 ^^^ (-1 : Int32)) &&& (p0 - (1 : Int32))).toUInt32 >>> ((16 : Int32) &&& 31).toUInt32).toInt32))]))
      refine Owes.go ?_ fun t₀ k₀ => XS.sipush X0.here hx rfl (hb hby d9_35) k₀
      show Owes _ _ _ _ (s₁.setTop (mkF m 38 #[.val (.int ((((p0 ^^^ (-1 : Int32)) &&& (p0 - (1 : Int32))).toUInt32 >>> ((16 : Int32) &&& 31).toUInt32).toInt32)), .val (.int ((1 : Int32) + (16 : Int32)))] [(.int (256 : Int32)), (.int ((((p0 ^^^ (-1 : Int32)) &&& (p0 - (1 : Int32))).toUInt32 >>> ((16 : Int32) &&& 31).toUInt32).toInt32))]))
      by_cases hc3 : (256 : Int32) < ((((p0 ^^^ (-1 : Int32)) &&& (p0 - (1 : Int32))).toUInt32 >>> ((16 : Int32) &&& 31).toUInt32).toInt32)
      · skip
        refine Owes.go ?_ fun t₀ k₀ => XS.icmpNo X0.here hx rfl (hb hby d9_38) rfl (tlt hc3).2.2.2 k₀
        show Owes _ _ _ _ (s₁.setTop (mkF m 41 #[.val (.int ((((p0 ^^^ (-1 : Int32)) &&& (p0 - (1 : Int32))).toUInt32 >>> ((16 : Int32) &&& 31).toUInt32).toInt32)), .val (.int ((1 : Int32) + (16 : Int32)))] []))
        refine Owes.go ?_ fun t₀ k₀ => XS.iinc X0.here hx rfl (hb hby d9_41) rfl (l' := #[.val (.int ((((p0 ^^^ (-1 : Int32)) &&& (p0 - (1 : Int32))).toUInt32 >>> ((16 : Int32) &&& 31).toUInt32).toInt32)), .val (.int (((1 : Int32) + (16 : Int32)) + (8 : Int32)))]) rfl k₀
        show Owes _ _ _ _ (s₁.setTop (mkF m 44 #[.val (.int ((((p0 ^^^ (-1 : Int32)) &&& (p0 - (1 : Int32))).toUInt32 >>> ((16 : Int32) &&& 31).toUInt32).toInt32)), .val (.int (((1 : Int32) + (16 : Int32)) + (8 : Int32)))] []))
        refine Owes.go ?_ fun t₀ k₀ => XS.iloadN X0.here hx rfl (hb hby d9_44) rfl k₀
        show Owes _ _ _ _ (s₁.setTop (mkF m 45 #[.val (.int ((((p0 ^^^ (-1 : Int32)) &&& (p0 - (1 : Int32))).toUInt32 >>> ((16 : Int32) &&& 31).toUInt32).toInt32)), .val (.int (((1 : Int32) + (16 : Int32)) + (8 : Int32)))] [(.int ((((p0 ^^^ (-1 : Int32)) &&& (p0 - (1 : Int32))).toUInt32 >>> ((16 : Int32) &&& 31).toUInt32).toInt32))]))
        refine Owes.go ?_ fun t₀ k₀ => XS.bipush X0.here hx rfl (hb hby d9_45) k₀
        show Owes _ _ _ _ (s₁.setTop (mkF m 47 #[.val (.int ((((p0 ^^^ (-1 : Int32)) &&& (p0 - (1 : Int32))).toUInt32 >>> ((16 : Int32) &&& 31).toUInt32).toInt32)), .val (.int (((1 : Int32) + (16 : Int32)) + (8 : Int32)))] [(.int (8 : Int32)), (.int ((((p0 ^^^ (-1 : Int32)) &&& (p0 - (1 : Int32))).toUInt32 >>> ((16 : Int32) &&& 31).toUInt32).toInt32))]))
        refine Owes.go ?_ fun t₀ k₀ => XS.iushr X0.here hx rfl (hb hby d9_47) rfl k₀
        show Owes _ _ _ _ (s₁.setTop (mkF m 48 #[.val (.int ((((p0 ^^^ (-1 : Int32)) &&& (p0 - (1 : Int32))).toUInt32 >>> ((16 : Int32) &&& 31).toUInt32).toInt32)), .val (.int (((1 : Int32) + (16 : Int32)) + (8 : Int32)))] [(.int ((((((p0 ^^^ (-1 : Int32)) &&& (p0 - (1 : Int32))).toUInt32 >>> ((16 : Int32) &&& 31).toUInt32).toInt32).toUInt32 >>> ((8 : Int32) &&& 31).toUInt32).toInt32))]))
        refine Owes.go ?_ fun t₀ k₀ => XS.istoreN X0.here hx rfl (hb hby d9_48) rfl (l' := #[.val (.int ((((((p0 ^^^ (-1 : Int32)) &&& (p0 - (1 : Int32))).toUInt32 >>> ((16 : Int32) &&& 31).toUInt32).toInt32).toUInt32 >>> ((8 : Int32) &&& 31).toUInt32).toInt32)), .val (.int (((1 : Int32) + (16 : Int32)) + (8 : Int32)))]) rfl k₀
        show Owes _ _ _ _ (s₁.setTop (mkF m 49 #[.val (.int ((((((p0 ^^^ (-1 : Int32)) &&& (p0 - (1 : Int32))).toUInt32 >>> ((16 : Int32) &&& 31).toUInt32).toInt32).toUInt32 >>> ((8 : Int32) &&& 31).toUInt32).toInt32)), .val (.int (((1 : Int32) + (16 : Int32)) + (8 : Int32)))] []))
        refine Owes.go ?_ fun t₀ k₀ => XS.iloadN X0.here hx rfl (hb hby d9_49) rfl k₀
        show Owes _ _ _ _ (s₁.setTop (mkF m 50 #[.val (.int ((((((p0 ^^^ (-1 : Int32)) &&& (p0 - (1 : Int32))).toUInt32 >>> ((16 : Int32) &&& 31).toUInt32).toInt32).toUInt32 >>> ((8 : Int32) &&& 31).toUInt32).toInt32)), .val (.int (((1 : Int32) + (16 : Int32)) + (8 : Int32)))] [(.int ((((((p0 ^^^ (-1 : Int32)) &&& (p0 - (1 : Int32))).toUInt32 >>> ((16 : Int32) &&& 31).toUInt32).toInt32).toUInt32 >>> ((8 : Int32) &&& 31).toUInt32).toInt32))]))
        refine Owes.go ?_ fun t₀ k₀ => XS.bipush X0.here hx rfl (hb hby d9_50) k₀
        show Owes _ _ _ _ (s₁.setTop (mkF m 52 #[.val (.int ((((((p0 ^^^ (-1 : Int32)) &&& (p0 - (1 : Int32))).toUInt32 >>> ((16 : Int32) &&& 31).toUInt32).toInt32).toUInt32 >>> ((8 : Int32) &&& 31).toUInt32).toInt32)), .val (.int (((1 : Int32) + (16 : Int32)) + (8 : Int32)))] [(.int (16 : Int32)), (.int ((((((p0 ^^^ (-1 : Int32)) &&& (p0 - (1 : Int32))).toUInt32 >>> ((16 : Int32) &&& 31).toUInt32).toInt32).toUInt32 >>> ((8 : Int32) &&& 31).toUInt32).toInt32))]))
        by_cases hc4 : (16 : Int32) < ((((((p0 ^^^ (-1 : Int32)) &&& (p0 - (1 : Int32))).toUInt32 >>> ((16 : Int32) &&& 31).toUInt32).toInt32).toUInt32 >>> ((8 : Int32) &&& 31).toUInt32).toInt32)
        · skip
          refine Owes.go ?_ fun t₀ k₀ => XS.icmpNo X0.here hx rfl (hb hby d9_52) rfl (tlt hc4).2.2.2 k₀
          show Owes _ _ _ _ (s₁.setTop (mkF m 55 #[.val (.int ((((((p0 ^^^ (-1 : Int32)) &&& (p0 - (1 : Int32))).toUInt32 >>> ((16 : Int32) &&& 31).toUInt32).toInt32).toUInt32 >>> ((8 : Int32) &&& 31).toUInt32).toInt32)), .val (.int (((1 : Int32) + (16 : Int32)) + (8 : Int32)))] []))
          refine Owes.go ?_ fun t₀ k₀ => XS.iinc X0.here hx rfl (hb hby d9_55) rfl (l' := #[.val (.int ((((((p0 ^^^ (-1 : Int32)) &&& (p0 - (1 : Int32))).toUInt32 >>> ((16 : Int32) &&& 31).toUInt32).toInt32).toUInt32 >>> ((8 : Int32) &&& 31).toUInt32).toInt32)), .val (.int ((((1 : Int32) + (16 : Int32)) + (8 : Int32)) + (4 : Int32)))]) rfl k₀
          show Owes _ _ _ _ (s₁.setTop (mkF m 58 #[.val (.int ((((((p0 ^^^ (-1 : Int32)) &&& (p0 - (1 : Int32))).toUInt32 >>> ((16 : Int32) &&& 31).toUInt32).toInt32).toUInt32 >>> ((8 : Int32) &&& 31).toUInt32).toInt32)), .val (.int ((((1 : Int32) + (16 : Int32)) + (8 : Int32)) + (4 : Int32)))] []))
          refine Owes.go ?_ fun t₀ k₀ => XS.iloadN X0.here hx rfl (hb hby d9_58) rfl k₀
          show Owes _ _ _ _ (s₁.setTop (mkF m 59 #[.val (.int ((((((p0 ^^^ (-1 : Int32)) &&& (p0 - (1 : Int32))).toUInt32 >>> ((16 : Int32) &&& 31).toUInt32).toInt32).toUInt32 >>> ((8 : Int32) &&& 31).toUInt32).toInt32)), .val (.int ((((1 : Int32) + (16 : Int32)) + (8 : Int32)) + (4 : Int32)))] [(.int ((((((p0 ^^^ (-1 : Int32)) &&& (p0 - (1 : Int32))).toUInt32 >>> ((16 : Int32) &&& 31).toUInt32).toInt32).toUInt32 >>> ((8 : Int32) &&& 31).toUInt32).toInt32))]))
          refine Owes.go ?_ fun t₀ k₀ => XS.iconst X0.here hx rfl (hb hby d9_59) k₀
          show Owes _ _ _ _ (s₁.setTop (mkF m 60 #[.val (.int ((((((p0 ^^^ (-1 : Int32)) &&& (p0 - (1 : Int32))).toUInt32 >>> ((16 : Int32) &&& 31).toUInt32).toInt32).toUInt32 >>> ((8 : Int32) &&& 31).toUInt32).toInt32)), .val (.int ((((1 : Int32) + (16 : Int32)) + (8 : Int32)) + (4 : Int32)))] [(.int (4 : Int32)), (.int ((((((p0 ^^^ (-1 : Int32)) &&& (p0 - (1 : Int32))).toUInt32 >>> ((16 : Int32) &&& 31).toUInt32).toInt32).toUInt32 >>> ((8 : Int32) &&& 31).toUInt32).toInt32))]))
          refine Owes.go ?_ fun t₀ k₀ => XS.iushr X0.here hx rfl (hb hby d9_60) rfl k₀
          show Owes _ _ _ _ (s₁.setTop (mkF m 61 #[.val (.int ((((((p0 ^^^ (-1 : Int32)) &&& (p0 - (1 : Int32))).toUInt32 >>> ((16 : Int32) &&& 31).toUInt32).toInt32).toUInt32 >>> ((8 : Int32) &&& 31).toUInt32).toInt32)), .val (.int ((((1 : Int32) + (16 : Int32)) + (8 : Int32)) + (4 : Int32)))] [(.int ((((((((p0 ^^^ (-1 : Int32)) &&& (p0 - (1 : Int32))).toUInt32 >>> ((16 : Int32) &&& 31).toUInt32).toInt32).toUInt32 >>> ((8 : Int32) &&& 31).toUInt32).toInt32).toUInt32 >>> ((4 : Int32) &&& 31).toUInt32).toInt32))]))
          refine Owes.go ?_ fun t₀ k₀ => XS.istoreN X0.here hx rfl (hb hby d9_61) rfl (l' := #[.val (.int ((((((((p0 ^^^ (-1 : Int32)) &&& (p0 - (1 : Int32))).toUInt32 >>> ((16 : Int32) &&& 31).toUInt32).toInt32).toUInt32 >>> ((8 : Int32) &&& 31).toUInt32).toInt32).toUInt32 >>> ((4 : Int32) &&& 31).toUInt32).toInt32)), .val (.int ((((1 : Int32) + (16 : Int32)) + (8 : Int32)) + (4 : Int32)))]) rfl k₀
          show Owes _ _ _ _ (s₁.setTop (mkF m 62 #[.val (.int ((((((((p0 ^^^ (-1 : Int32)) &&& (p0 - (1 : Int32))).toUInt32 >>> ((16 : Int32) &&& 31).toUInt32).toInt32).toUInt32 >>> ((8 : Int32) &&& 31).toUInt32).toInt32).toUInt32 >>> ((4 : Int32) &&& 31).toUInt32).toInt32)), .val (.int ((((1 : Int32) + (16 : Int32)) + (8 : Int32)) + (4 : Int32)))] []))
          refine Owes.go ?_ fun t₀ k₀ => XS.iloadN X0.here hx rfl (hb hby d9_62) rfl k₀
          show Owes _ _ _ _ (s₁.setTop (mkF m 63 #[.val (.int ((((((((p0 ^^^ (-1 : Int32)) &&& (p0 - (1 : Int32))).toUInt32 >>> ((16 : Int32) &&& 31).toUInt32).toInt32).toUInt32 >>> ((8 : Int32) &&& 31).toUInt32).toInt32).toUInt32 >>> ((4 : Int32) &&& 31).toUInt32).toInt32)), .val (.int ((((1 : Int32) + (16 : Int32)) + (8 : Int32)) + (4 : Int32)))] [(.int ((((((((p0 ^^^ (-1 : Int32)) &&& (p0 - (1 : Int32))).toUInt32 >>> ((16 : Int32) &&& 31).toUInt32).toInt32).toUInt32 >>> ((8 : Int32) &&& 31).toUInt32).toInt32).toUInt32 >>> ((4 : Int32) &&& 31).toUInt32).toInt32))]))
          refine Owes.go ?_ fun t₀ k₀ => XS.iconst X0.here hx rfl (hb hby d9_63) k₀
          show Owes _ _ _ _ (s₁.setTop (mkF m 64 #[.val (.int ((((((((p0 ^^^ (-1 : Int32)) &&& (p0 - (1 : Int32))).toUInt32 >>> ((16 : Int32) &&& 31).toUInt32).toInt32).toUInt32 >>> ((8 : Int32) &&& 31).toUInt32).toInt32).toUInt32 >>> ((4 : Int32) &&& 31).toUInt32).toInt32)), .val (.int ((((1 : Int32) + (16 : Int32)) + (8 : Int32)) + (4 : Int32)))] [(.int (4 : Int32)), (.int ((((((((p0 ^^^ (-1 : Int32)) &&& (p0 - (1 : Int32))).toUInt32 >>> ((16 : Int32) &&& 31).toUInt32).toInt32).toUInt32 >>> ((8 : Int32) &&& 31).toUInt32).toInt32).toUInt32 >>> ((4 : Int32) &&& 31).toUInt32).toInt32))]))
          by_cases hc5 : (4 : Int32) < ((((((((p0 ^^^ (-1 : Int32)) &&& (p0 - (1 : Int32))).toUInt32 >>> ((16 : Int32) &&& 31).toUInt32).toInt32).toUInt32 >>> ((8 : Int32) &&& 31).toUInt32).toInt32).toUInt32 >>> ((4 : Int32) &&& 31).toUInt32).toInt32)
          · skip
            refine Owes.go ?_ fun t₀ k₀ => XS.icmpNo X0.here hx rfl (hb hby d9_64) rfl (tlt hc5).2.2.2 k₀
            show Owes _ _ _ _ (s₁.setTop (mkF m 67 #[.val (.int ((((((((p0 ^^^ (-1 : Int32)) &&& (p0 - (1 : Int32))).toUInt32 >>> ((16 : Int32) &&& 31).toUInt32).toInt32).toUInt32 >>> ((8 : Int32) &&& 31).toUInt32).toInt32).toUInt32 >>> ((4 : Int32) &&& 31).toUInt32).toInt32)), .val (.int ((((1 : Int32) + (16 : Int32)) + (8 : Int32)) + (4 : Int32)))] []))
            refine Owes.go ?_ fun t₀ k₀ => XS.iinc X0.here hx rfl (hb hby d9_67) rfl (l' := #[.val (.int ((((((((p0 ^^^ (-1 : Int32)) &&& (p0 - (1 : Int32))).toUInt32 >>> ((16 : Int32) &&& 31).toUInt32).toInt32).toUInt32 >>> ((8 : Int32) &&& 31).toUInt32).toInt32).toUInt32 >>> ((4 : Int32) &&& 31).toUInt32).toInt32)), .val (.int (((((1 : Int32) + (16 : Int32)) + (8 : Int32)) + (4 : Int32)) + (2 : Int32)))]) rfl k₀
            show Owes _ _ _ _ (s₁.setTop (mkF m 70 #[.val (.int ((((((((p0 ^^^ (-1 : Int32)) &&& (p0 - (1 : Int32))).toUInt32 >>> ((16 : Int32) &&& 31).toUInt32).toInt32).toUInt32 >>> ((8 : Int32) &&& 31).toUInt32).toInt32).toUInt32 >>> ((4 : Int32) &&& 31).toUInt32).toInt32)), .val (.int (((((1 : Int32) + (16 : Int32)) + (8 : Int32)) + (4 : Int32)) + (2 : Int32)))] []))
            refine Owes.go ?_ fun t₀ k₀ => XS.iloadN X0.here hx rfl (hb hby d9_70) rfl k₀
            show Owes _ _ _ _ (s₁.setTop (mkF m 71 #[.val (.int ((((((((p0 ^^^ (-1 : Int32)) &&& (p0 - (1 : Int32))).toUInt32 >>> ((16 : Int32) &&& 31).toUInt32).toInt32).toUInt32 >>> ((8 : Int32) &&& 31).toUInt32).toInt32).toUInt32 >>> ((4 : Int32) &&& 31).toUInt32).toInt32)), .val (.int (((((1 : Int32) + (16 : Int32)) + (8 : Int32)) + (4 : Int32)) + (2 : Int32)))] [(.int ((((((((p0 ^^^ (-1 : Int32)) &&& (p0 - (1 : Int32))).toUInt32 >>> ((16 : Int32) &&& 31).toUInt32).toInt32).toUInt32 >>> ((8 : Int32) &&& 31).toUInt32).toInt32).toUInt32 >>> ((4 : Int32) &&& 31).toUInt32).toInt32))]))
            refine Owes.go ?_ fun t₀ k₀ => XS.iconst X0.here hx rfl (hb hby d9_71) k₀
            show Owes _ _ _ _ (s₁.setTop (mkF m 72 #[.val (.int ((((((((p0 ^^^ (-1 : Int32)) &&& (p0 - (1 : Int32))).toUInt32 >>> ((16 : Int32) &&& 31).toUInt32).toInt32).toUInt32 >>> ((8 : Int32) &&& 31).toUInt32).toInt32).toUInt32 >>> ((4 : Int32) &&& 31).toUInt32).toInt32)), .val (.int (((((1 : Int32) + (16 : Int32)) + (8 : Int32)) + (4 : Int32)) + (2 : Int32)))] [(.int (2 : Int32)), (.int ((((((((p0 ^^^ (-1 : Int32)) &&& (p0 - (1 : Int32))).toUInt32 >>> ((16 : Int32) &&& 31).toUInt32).toInt32).toUInt32 >>> ((8 : Int32) &&& 31).toUInt32).toInt32).toUInt32 >>> ((4 : Int32) &&& 31).toUInt32).toInt32))]))
            refine Owes.go ?_ fun t₀ k₀ => XS.iushr X0.here hx rfl (hb hby d9_72) rfl k₀
            show Owes _ _ _ _ (s₁.setTop (mkF m 73 #[.val (.int ((((((((p0 ^^^ (-1 : Int32)) &&& (p0 - (1 : Int32))).toUInt32 >>> ((16 : Int32) &&& 31).toUInt32).toInt32).toUInt32 >>> ((8 : Int32) &&& 31).toUInt32).toInt32).toUInt32 >>> ((4 : Int32) &&& 31).toUInt32).toInt32)), .val (.int (((((1 : Int32) + (16 : Int32)) + (8 : Int32)) + (4 : Int32)) + (2 : Int32)))] [(.int ((((((((((p0 ^^^ (-1 : Int32)) &&& (p0 - (1 : Int32))).toUInt32 >>> ((16 : Int32) &&& 31).toUInt32).toInt32).toUInt32 >>> ((8 : Int32) &&& 31).toUInt32).toInt32).toUInt32 >>> ((4 : Int32) &&& 31).toUInt32).toInt32).toUInt32 >>> ((2 : Int32) &&& 31).toUInt32).toInt32))]))
            refine Owes.go ?_ fun t₀ k₀ => XS.istoreN X0.here hx rfl (hb hby d9_73) rfl (l' := #[.val (.int ((((((((((p0 ^^^ (-1 : Int32)) &&& (p0 - (1 : Int32))).toUInt32 >>> ((16 : Int32) &&& 31).toUInt32).toInt32).toUInt32 >>> ((8 : Int32) &&& 31).toUInt32).toInt32).toUInt32 >>> ((4 : Int32) &&& 31).toUInt32).toInt32).toUInt32 >>> ((2 : Int32) &&& 31).toUInt32).toInt32)), .val (.int (((((1 : Int32) + (16 : Int32)) + (8 : Int32)) + (4 : Int32)) + (2 : Int32)))]) rfl k₀
            show Owes _ _ _ _ (s₁.setTop (mkF m 74 #[.val (.int ((((((((((p0 ^^^ (-1 : Int32)) &&& (p0 - (1 : Int32))).toUInt32 >>> ((16 : Int32) &&& 31).toUInt32).toInt32).toUInt32 >>> ((8 : Int32) &&& 31).toUInt32).toInt32).toUInt32 >>> ((4 : Int32) &&& 31).toUInt32).toInt32).toUInt32 >>> ((2 : Int32) &&& 31).toUInt32).toInt32)), .val (.int (((((1 : Int32) + (16 : Int32)) + (8 : Int32)) + (4 : Int32)) + (2 : Int32)))] []))
            refine Owes.go ?_ fun t₀ k₀ => XS.iloadN X0.here hx rfl (hb hby d9_74) rfl k₀
            show Owes _ _ _ _ (s₁.setTop (mkF m 75 #[.val (.int ((((((((((p0 ^^^ (-1 : Int32)) &&& (p0 - (1 : Int32))).toUInt32 >>> ((16 : Int32) &&& 31).toUInt32).toInt32).toUInt32 >>> ((8 : Int32) &&& 31).toUInt32).toInt32).toUInt32 >>> ((4 : Int32) &&& 31).toUInt32).toInt32).toUInt32 >>> ((2 : Int32) &&& 31).toUInt32).toInt32)), .val (.int (((((1 : Int32) + (16 : Int32)) + (8 : Int32)) + (4 : Int32)) + (2 : Int32)))] [(.int (((((1 : Int32) + (16 : Int32)) + (8 : Int32)) + (4 : Int32)) + (2 : Int32)))]))
            refine Owes.go ?_ fun t₀ k₀ => XS.iloadN X0.here hx rfl (hb hby d9_75) rfl k₀
            show Owes _ _ _ _ (s₁.setTop (mkF m 76 #[.val (.int ((((((((((p0 ^^^ (-1 : Int32)) &&& (p0 - (1 : Int32))).toUInt32 >>> ((16 : Int32) &&& 31).toUInt32).toInt32).toUInt32 >>> ((8 : Int32) &&& 31).toUInt32).toInt32).toUInt32 >>> ((4 : Int32) &&& 31).toUInt32).toInt32).toUInt32 >>> ((2 : Int32) &&& 31).toUInt32).toInt32)), .val (.int (((((1 : Int32) + (16 : Int32)) + (8 : Int32)) + (4 : Int32)) + (2 : Int32)))] [(.int ((((((((((p0 ^^^ (-1 : Int32)) &&& (p0 - (1 : Int32))).toUInt32 >>> ((16 : Int32) &&& 31).toUInt32).toInt32).toUInt32 >>> ((8 : Int32) &&& 31).toUInt32).toInt32).toUInt32 >>> ((4 : Int32) &&& 31).toUInt32).toInt32).toUInt32 >>> ((2 : Int32) &&& 31).toUInt32).toInt32)), (.int (((((1 : Int32) + (16 : Int32)) + (8 : Int32)) + (4 : Int32)) + (2 : Int32)))]))
            refine Owes.go ?_ fun t₀ k₀ => XS.iconst X0.here hx rfl (hb hby d9_76) k₀
            show Owes _ _ _ _ (s₁.setTop (mkF m 77 #[.val (.int ((((((((((p0 ^^^ (-1 : Int32)) &&& (p0 - (1 : Int32))).toUInt32 >>> ((16 : Int32) &&& 31).toUInt32).toInt32).toUInt32 >>> ((8 : Int32) &&& 31).toUInt32).toInt32).toUInt32 >>> ((4 : Int32) &&& 31).toUInt32).toInt32).toUInt32 >>> ((2 : Int32) &&& 31).toUInt32).toInt32)), .val (.int (((((1 : Int32) + (16 : Int32)) + (8 : Int32)) + (4 : Int32)) + (2 : Int32)))] [(.int (1 : Int32)), (.int ((((((((((p0 ^^^ (-1 : Int32)) &&& (p0 - (1 : Int32))).toUInt32 >>> ((16 : Int32) &&& 31).toUInt32).toInt32).toUInt32 >>> ((8 : Int32) &&& 31).toUInt32).toInt32).toUInt32 >>> ((4 : Int32) &&& 31).toUInt32).toInt32).toUInt32 >>> ((2 : Int32) &&& 31).toUInt32).toInt32)), (.int (((((1 : Int32) + (16 : Int32)) + (8 : Int32)) + (4 : Int32)) + (2 : Int32)))]))
            refine Owes.go ?_ fun t₀ k₀ => XS.iushr X0.here hx rfl (hb hby d9_77) rfl k₀
            show Owes _ _ _ _ (s₁.setTop (mkF m 78 #[.val (.int ((((((((((p0 ^^^ (-1 : Int32)) &&& (p0 - (1 : Int32))).toUInt32 >>> ((16 : Int32) &&& 31).toUInt32).toInt32).toUInt32 >>> ((8 : Int32) &&& 31).toUInt32).toInt32).toUInt32 >>> ((4 : Int32) &&& 31).toUInt32).toInt32).toUInt32 >>> ((2 : Int32) &&& 31).toUInt32).toInt32)), .val (.int (((((1 : Int32) + (16 : Int32)) + (8 : Int32)) + (4 : Int32)) + (2 : Int32)))] [(.int ((((((((((((p0 ^^^ (-1 : Int32)) &&& (p0 - (1 : Int32))).toUInt32 >>> ((16 : Int32) &&& 31).toUInt32).toInt32).toUInt32 >>> ((8 : Int32) &&& 31).toUInt32).toInt32).toUInt32 >>> ((4 : Int32) &&& 31).toUInt32).toInt32).toUInt32 >>> ((2 : Int32) &&& 31).toUInt32).toInt32).toUInt32 >>> ((1 : Int32) &&& 31).toUInt32).toInt32)), (.int (((((1 : Int32) + (16 : Int32)) + (8 : Int32)) + (4 : Int32)) + (2 : Int32)))]))
            refine Owes.go ?_ fun t₀ k₀ => XS.iadd X0.here hx rfl (hb hby d9_78) rfl k₀
            show Owes _ _ _ _ (s₁.setTop (mkF m 79 #[.val (.int ((((((((((p0 ^^^ (-1 : Int32)) &&& (p0 - (1 : Int32))).toUInt32 >>> ((16 : Int32) &&& 31).toUInt32).toInt32).toUInt32 >>> ((8 : Int32) &&& 31).toUInt32).toInt32).toUInt32 >>> ((4 : Int32) &&& 31).toUInt32).toInt32).toUInt32 >>> ((2 : Int32) &&& 31).toUInt32).toInt32)), .val (.int (((((1 : Int32) + (16 : Int32)) + (8 : Int32)) + (4 : Int32)) + (2 : Int32)))] [(.int ((((((1 : Int32) + (16 : Int32)) + (8 : Int32)) + (4 : Int32)) + (2 : Int32)) + ((((((((((((p0 ^^^ (-1 : Int32)) &&& (p0 - (1 : Int32))).toUInt32 >>> ((16 : Int32) &&& 31).toUInt32).toInt32).toUInt32 >>> ((8 : Int32) &&& 31).toUInt32).toInt32).toUInt32 >>> ((4 : Int32) &&& 31).toUInt32).toInt32).toUInt32 >>> ((2 : Int32) &&& 31).toUInt32).toInt32).toUInt32 >>> ((1 : Int32) &&& 31).toUInt32).toInt32)))]))
            exact Owes.retI X0 hx hlk hret (hb hby d9_79) (by decide) (by decide) ⟨congrArg (fun z => some (Value.int z)) (by unfold f_ntzI; rw [if_pos hc1, if_pos hc2, if_pos hc3, if_pos hc4, if_pos hc5]; first | done | rfl), rfl, e0⟩
          · skip
            refine Owes.go ?_ fun t₀ k₀ => XS.icmpYes X0.here hx rfl (pc0 := 64) (pc' := 74) rfl (hb hby d9_64) rfl (flt hc5).2.2.2 (by decide) (by decide) k₀
            show Owes _ _ _ _ (s₁.setTop (mkF m 74 #[.val (.int ((((((((p0 ^^^ (-1 : Int32)) &&& (p0 - (1 : Int32))).toUInt32 >>> ((16 : Int32) &&& 31).toUInt32).toInt32).toUInt32 >>> ((8 : Int32) &&& 31).toUInt32).toInt32).toUInt32 >>> ((4 : Int32) &&& 31).toUInt32).toInt32)), .val (.int ((((1 : Int32) + (16 : Int32)) + (8 : Int32)) + (4 : Int32)))] []))
            refine Owes.go ?_ fun t₀ k₀ => XS.iloadN X0.here hx rfl (hb hby d9_74) rfl k₀
            show Owes _ _ _ _ (s₁.setTop (mkF m 75 #[.val (.int ((((((((p0 ^^^ (-1 : Int32)) &&& (p0 - (1 : Int32))).toUInt32 >>> ((16 : Int32) &&& 31).toUInt32).toInt32).toUInt32 >>> ((8 : Int32) &&& 31).toUInt32).toInt32).toUInt32 >>> ((4 : Int32) &&& 31).toUInt32).toInt32)), .val (.int ((((1 : Int32) + (16 : Int32)) + (8 : Int32)) + (4 : Int32)))] [(.int ((((1 : Int32) + (16 : Int32)) + (8 : Int32)) + (4 : Int32)))]))
            refine Owes.go ?_ fun t₀ k₀ => XS.iloadN X0.here hx rfl (hb hby d9_75) rfl k₀
            show Owes _ _ _ _ (s₁.setTop (mkF m 76 #[.val (.int ((((((((p0 ^^^ (-1 : Int32)) &&& (p0 - (1 : Int32))).toUInt32 >>> ((16 : Int32) &&& 31).toUInt32).toInt32).toUInt32 >>> ((8 : Int32) &&& 31).toUInt32).toInt32).toUInt32 >>> ((4 : Int32) &&& 31).toUInt32).toInt32)), .val (.int ((((1 : Int32) + (16 : Int32)) + (8 : Int32)) + (4 : Int32)))] [(.int ((((((((p0 ^^^ (-1 : Int32)) &&& (p0 - (1 : Int32))).toUInt32 >>> ((16 : Int32) &&& 31).toUInt32).toInt32).toUInt32 >>> ((8 : Int32) &&& 31).toUInt32).toInt32).toUInt32 >>> ((4 : Int32) &&& 31).toUInt32).toInt32)), (.int ((((1 : Int32) + (16 : Int32)) + (8 : Int32)) + (4 : Int32)))]))
            refine Owes.go ?_ fun t₀ k₀ => XS.iconst X0.here hx rfl (hb hby d9_76) k₀
            show Owes _ _ _ _ (s₁.setTop (mkF m 77 #[.val (.int ((((((((p0 ^^^ (-1 : Int32)) &&& (p0 - (1 : Int32))).toUInt32 >>> ((16 : Int32) &&& 31).toUInt32).toInt32).toUInt32 >>> ((8 : Int32) &&& 31).toUInt32).toInt32).toUInt32 >>> ((4 : Int32) &&& 31).toUInt32).toInt32)), .val (.int ((((1 : Int32) + (16 : Int32)) + (8 : Int32)) + (4 : Int32)))] [(.int (1 : Int32)), (.int ((((((((p0 ^^^ (-1 : Int32)) &&& (p0 - (1 : Int32))).toUInt32 >>> ((16 : Int32) &&& 31).toUInt32).toInt32).toUInt32 >>> ((8 : Int32) &&& 31).toUInt32).toInt32).toUInt32 >>> ((4 : Int32) &&& 31).toUInt32).toInt32)), (.int ((((1 : Int32) + (16 : Int32)) + (8 : Int32)) + (4 : Int32)))]))
            refine Owes.go ?_ fun t₀ k₀ => XS.iushr X0.here hx rfl (hb hby d9_77) rfl k₀
            show Owes _ _ _ _ (s₁.setTop (mkF m 78 #[.val (.int ((((((((p0 ^^^ (-1 : Int32)) &&& (p0 - (1 : Int32))).toUInt32 >>> ((16 : Int32) &&& 31).toUInt32).toInt32).toUInt32 >>> ((8 : Int32) &&& 31).toUInt32).toInt32).toUInt32 >>> ((4 : Int32) &&& 31).toUInt32).toInt32)), .val (.int ((((1 : Int32) + (16 : Int32)) + (8 : Int32)) + (4 : Int32)))] [(.int ((((((((((p0 ^^^ (-1 : Int32)) &&& (p0 - (1 : Int32))).toUInt32 >>> ((16 : Int32) &&& 31).toUInt32).toInt32).toUInt32 >>> ((8 : Int32) &&& 31).toUInt32).toInt32).toUInt32 >>> ((4 : Int32) &&& 31).toUInt32).toInt32).toUInt32 >>> ((1 : Int32) &&& 31).toUInt32).toInt32)), (.int ((((1 : Int32) + (16 : Int32)) + (8 : Int32)) + (4 : Int32)))]))
            refine Owes.go ?_ fun t₀ k₀ => XS.iadd X0.here hx rfl (hb hby d9_78) rfl k₀
            show Owes _ _ _ _ (s₁.setTop (mkF m 79 #[.val (.int ((((((((p0 ^^^ (-1 : Int32)) &&& (p0 - (1 : Int32))).toUInt32 >>> ((16 : Int32) &&& 31).toUInt32).toInt32).toUInt32 >>> ((8 : Int32) &&& 31).toUInt32).toInt32).toUInt32 >>> ((4 : Int32) &&& 31).toUInt32).toInt32)), .val (.int ((((1 : Int32) + (16 : Int32)) + (8 : Int32)) + (4 : Int32)))] [(.int (((((1 : Int32) + (16 : Int32)) + (8 : Int32)) + (4 : Int32)) + ((((((((((p0 ^^^ (-1 : Int32)) &&& (p0 - (1 : Int32))).toUInt32 >>> ((16 : Int32) &&& 31).toUInt32).toInt32).toUInt32 >>> ((8 : Int32) &&& 31).toUInt32).toInt32).toUInt32 >>> ((4 : Int32) &&& 31).toUInt32).toInt32).toUInt32 >>> ((1 : Int32) &&& 31).toUInt32).toInt32)))]))
            exact Owes.retI X0 hx hlk hret (hb hby d9_79) (by decide) (by decide) ⟨congrArg (fun z => some (Value.int z)) (by unfold f_ntzI; rw [if_pos hc1, if_pos hc2, if_pos hc3, if_pos hc4, if_neg hc5]; first | done | rfl), rfl, e0⟩
        · skip
          refine Owes.go ?_ fun t₀ k₀ => XS.icmpYes X0.here hx rfl (pc0 := 52) (pc' := 62) rfl (hb hby d9_52) rfl (flt hc4).2.2.2 (by decide) (by decide) k₀
          show Owes _ _ _ _ (s₁.setTop (mkF m 62 #[.val (.int ((((((p0 ^^^ (-1 : Int32)) &&& (p0 - (1 : Int32))).toUInt32 >>> ((16 : Int32) &&& 31).toUInt32).toInt32).toUInt32 >>> ((8 : Int32) &&& 31).toUInt32).toInt32)), .val (.int (((1 : Int32) + (16 : Int32)) + (8 : Int32)))] []))
          refine Owes.go ?_ fun t₀ k₀ => XS.iloadN X0.here hx rfl (hb hby d9_62) rfl k₀
          show Owes _ _ _ _ (s₁.setTop (mkF m 63 #[.val (.int ((((((p0 ^^^ (-1 : Int32)) &&& (p0 - (1 : Int32))).toUInt32 >>> ((16 : Int32) &&& 31).toUInt32).toInt32).toUInt32 >>> ((8 : Int32) &&& 31).toUInt32).toInt32)), .val (.int (((1 : Int32) + (16 : Int32)) + (8 : Int32)))] [(.int ((((((p0 ^^^ (-1 : Int32)) &&& (p0 - (1 : Int32))).toUInt32 >>> ((16 : Int32) &&& 31).toUInt32).toInt32).toUInt32 >>> ((8 : Int32) &&& 31).toUInt32).toInt32))]))
          refine Owes.go ?_ fun t₀ k₀ => XS.iconst X0.here hx rfl (hb hby d9_63) k₀
          show Owes _ _ _ _ (s₁.setTop (mkF m 64 #[.val (.int ((((((p0 ^^^ (-1 : Int32)) &&& (p0 - (1 : Int32))).toUInt32 >>> ((16 : Int32) &&& 31).toUInt32).toInt32).toUInt32 >>> ((8 : Int32) &&& 31).toUInt32).toInt32)), .val (.int (((1 : Int32) + (16 : Int32)) + (8 : Int32)))] [(.int (4 : Int32)), (.int ((((((p0 ^^^ (-1 : Int32)) &&& (p0 - (1 : Int32))).toUInt32 >>> ((16 : Int32) &&& 31).toUInt32).toInt32).toUInt32 >>> ((8 : Int32) &&& 31).toUInt32).toInt32))]))
          by_cases hc6 : (4 : Int32) < ((((((p0 ^^^ (-1 : Int32)) &&& (p0 - (1 : Int32))).toUInt32 >>> ((16 : Int32) &&& 31).toUInt32).toInt32).toUInt32 >>> ((8 : Int32) &&& 31).toUInt32).toInt32)
          · skip
            refine Owes.go ?_ fun t₀ k₀ => XS.icmpNo X0.here hx rfl (hb hby d9_64) rfl (tlt hc6).2.2.2 k₀
            show Owes _ _ _ _ (s₁.setTop (mkF m 67 #[.val (.int ((((((p0 ^^^ (-1 : Int32)) &&& (p0 - (1 : Int32))).toUInt32 >>> ((16 : Int32) &&& 31).toUInt32).toInt32).toUInt32 >>> ((8 : Int32) &&& 31).toUInt32).toInt32)), .val (.int (((1 : Int32) + (16 : Int32)) + (8 : Int32)))] []))
            refine Owes.go ?_ fun t₀ k₀ => XS.iinc X0.here hx rfl (hb hby d9_67) rfl (l' := #[.val (.int ((((((p0 ^^^ (-1 : Int32)) &&& (p0 - (1 : Int32))).toUInt32 >>> ((16 : Int32) &&& 31).toUInt32).toInt32).toUInt32 >>> ((8 : Int32) &&& 31).toUInt32).toInt32)), .val (.int ((((1 : Int32) + (16 : Int32)) + (8 : Int32)) + (2 : Int32)))]) rfl k₀
            show Owes _ _ _ _ (s₁.setTop (mkF m 70 #[.val (.int ((((((p0 ^^^ (-1 : Int32)) &&& (p0 - (1 : Int32))).toUInt32 >>> ((16 : Int32) &&& 31).toUInt32).toInt32).toUInt32 >>> ((8 : Int32) &&& 31).toUInt32).toInt32)), .val (.int ((((1 : Int32) + (16 : Int32)) + (8 : Int32)) + (2 : Int32)))] []))
            refine Owes.go ?_ fun t₀ k₀ => XS.iloadN X0.here hx rfl (hb hby d9_70) rfl k₀
            show Owes _ _ _ _ (s₁.setTop (mkF m 71 #[.val (.int ((((((p0 ^^^ (-1 : Int32)) &&& (p0 - (1 : Int32))).toUInt32 >>> ((16 : Int32) &&& 31).toUInt32).toInt32).toUInt32 >>> ((8 : Int32) &&& 31).toUInt32).toInt32)), .val (.int ((((1 : Int32) + (16 : Int32)) + (8 : Int32)) + (2 : Int32)))] [(.int ((((((p0 ^^^ (-1 : Int32)) &&& (p0 - (1 : Int32))).toUInt32 >>> ((16 : Int32) &&& 31).toUInt32).toInt32).toUInt32 >>> ((8 : Int32) &&& 31).toUInt32).toInt32))]))
            refine Owes.go ?_ fun t₀ k₀ => XS.iconst X0.here hx rfl (hb hby d9_71) k₀
            show Owes _ _ _ _ (s₁.setTop (mkF m 72 #[.val (.int ((((((p0 ^^^ (-1 : Int32)) &&& (p0 - (1 : Int32))).toUInt32 >>> ((16 : Int32) &&& 31).toUInt32).toInt32).toUInt32 >>> ((8 : Int32) &&& 31).toUInt32).toInt32)), .val (.int ((((1 : Int32) + (16 : Int32)) + (8 : Int32)) + (2 : Int32)))] [(.int (2 : Int32)), (.int ((((((p0 ^^^ (-1 : Int32)) &&& (p0 - (1 : Int32))).toUInt32 >>> ((16 : Int32) &&& 31).toUInt32).toInt32).toUInt32 >>> ((8 : Int32) &&& 31).toUInt32).toInt32))]))
            refine Owes.go ?_ fun t₀ k₀ => XS.iushr X0.here hx rfl (hb hby d9_72) rfl k₀
            show Owes _ _ _ _ (s₁.setTop (mkF m 73 #[.val (.int ((((((p0 ^^^ (-1 : Int32)) &&& (p0 - (1 : Int32))).toUInt32 >>> ((16 : Int32) &&& 31).toUInt32).toInt32).toUInt32 >>> ((8 : Int32) &&& 31).toUInt32).toInt32)), .val (.int ((((1 : Int32) + (16 : Int32)) + (8 : Int32)) + (2 : Int32)))] [(.int ((((((((p0 ^^^ (-1 : Int32)) &&& (p0 - (1 : Int32))).toUInt32 >>> ((16 : Int32) &&& 31).toUInt32).toInt32).toUInt32 >>> ((8 : Int32) &&& 31).toUInt32).toInt32).toUInt32 >>> ((2 : Int32) &&& 31).toUInt32).toInt32))]))
            refine Owes.go ?_ fun t₀ k₀ => XS.istoreN X0.here hx rfl (hb hby d9_73) rfl (l' := #[.val (.int ((((((((p0 ^^^ (-1 : Int32)) &&& (p0 - (1 : Int32))).toUInt32 >>> ((16 : Int32) &&& 31).toUInt32).toInt32).toUInt32 >>> ((8 : Int32) &&& 31).toUInt32).toInt32).toUInt32 >>> ((2 : Int32) &&& 31).toUInt32).toInt32)), .val (.int ((((1 : Int32) + (16 : Int32)) + (8 : Int32)) + (2 : Int32)))]) rfl k₀
            show Owes _ _ _ _ (s₁.setTop (mkF m 74 #[.val (.int ((((((((p0 ^^^ (-1 : Int32)) &&& (p0 - (1 : Int32))).toUInt32 >>> ((16 : Int32) &&& 31).toUInt32).toInt32).toUInt32 >>> ((8 : Int32) &&& 31).toUInt32).toInt32).toUInt32 >>> ((2 : Int32) &&& 31).toUInt32).toInt32)), .val (.int ((((1 : Int32) + (16 : Int32)) + (8 : Int32)) + (2 : Int32)))] []))
            refine Owes.go ?_ fun t₀ k₀ => XS.iloadN X0.here hx rfl (hb hby d9_74) rfl k₀
            show Owes _ _ _ _ (s₁.setTop (mkF m 75 #[.val (.int ((((((((p0 ^^^ (-1 : Int32)) &&& (p0 - (1 : Int32))).toUInt32 >>> ((16 : Int32) &&& 31).toUInt32).toInt32).toUInt32 >>> ((8 : Int32) &&& 31).toUInt32).toInt32).toUInt32 >>> ((2 : Int32) &&& 31).toUInt32).toInt32)), .val (.int ((((1 : Int32) + (16 : Int32)) + (8 : Int32)) + (2 : Int32)))] [(.int ((((1 : Int32) + (16 : Int32)) + (8 : Int32)) + (2 : Int32)))]))
            refine Owes.go ?_ fun t₀ k₀ => XS.iloadN X0.here hx rfl (hb hby d9_75) rfl k₀
            show Owes _ _ _ _ (s₁.setTop (mkF m 76 #[.val (.int ((((((((p0 ^^^ (-1 : Int32)) &&& (p0 - (1 : Int32))).toUInt32 >>> ((16 : Int32) &&& 31).toUInt32).toInt32).toUInt32 >>> ((8 : Int32) &&& 31).toUInt32).toInt32).toUInt32 >>> ((2 : Int32) &&& 31).toUInt32).toInt32)), .val (.int ((((1 : Int32) + (16 : Int32)) + (8 : Int32)) + (2 : Int32)))] [(.int ((((((((p0 ^^^ (-1 : Int32)) &&& (p0 - (1 : Int32))).toUInt32 >>> ((16 : Int32) &&& 31).toUInt32).toInt32).toUInt32 >>> ((8 : Int32) &&& 31).toUInt32).toInt32).toUInt32 >>> ((2 : Int32) &&& 31).toUInt32).toInt32)), (.int ((((1 : Int32) + (16 : Int32)) + (8 : Int32)) + (2 : Int32)))]))
            refine Owes.go ?_ fun t₀ k₀ => XS.iconst X0.here hx rfl (hb hby d9_76) k₀
            show Owes _ _ _ _ (s₁.setTop (mkF m 77 #[.val (.int ((((((((p0 ^^^ (-1 : Int32)) &&& (p0 - (1 : Int32))).toUInt32 >>> ((16 : Int32) &&& 31).toUInt32).toInt32).toUInt32 >>> ((8 : Int32) &&& 31).toUInt32).toInt32).toUInt32 >>> ((2 : Int32) &&& 31).toUInt32).toInt32)), .val (.int ((((1 : Int32) + (16 : Int32)) + (8 : Int32)) + (2 : Int32)))] [(.int (1 : Int32)), (.int ((((((((p0 ^^^ (-1 : Int32)) &&& (p0 - (1 : Int32))).toUInt32 >>> ((16 : Int32) &&& 31).toUInt32).toInt32).toUInt32 >>> ((8 : Int32) &&& 31).toUInt32).toInt32).toUInt32 >>> ((2 : Int32) &&& 31).toUInt32).toInt32)), (.int ((((1 : Int32) + (16 : Int32)) + (8 : Int32)) + (2 : Int32)))]))
            refine Owes.go ?_ fun t₀ k₀ => XS.iushr X0.here hx rfl (hb hby d9_77) rfl k₀
            show Owes _ _ _ _ (s₁.setTop (mkF m 78 #[.val (.int ((((((((p0 ^^^ (-1 : Int32)) &&& (p0 - (1 : Int32))).toUInt32 >>> ((16 : Int32) &&& 31).toUInt32).toInt32).toUInt32 >>> ((8 : Int32) &&& 31).toUInt32).toInt32).toUInt32 >>> ((2 : Int32) &&& 31).toUInt32).toInt32)), .val (.int ((((1 : Int32) + (16 : Int32)) + (8 : Int32)) + (2 : Int32)))] [(.int ((((((((((p0 ^^^ (-1 : Int32)) &&& (p0 - (1 : Int32))).toUInt32 >>> ((16 : Int32) &&& 31).toUInt32).toInt32).toUInt32 >>> ((8 : Int32) &&& 31).toUInt32).toInt32).toUInt32 >>> ((2 : Int32) &&& 31).toUInt32).toInt32).toUInt32 >>> ((1 : Int32) &&& 31).toUInt32).toInt32)), (.int ((((1 : Int32) + (16 : Int32)) + (8 : Int32)) + (2 : Int32)))]))
            refine Owes.go ?_ fun t₀ k₀ => XS.iadd X0.here hx rfl (hb hby d9_78) rfl k₀
            show Owes _ _ _ _ (s₁.setTop (mkF m 79 #[.val (.int ((((((((p0 ^^^ (-1 : Int32)) &&& (p0 - (1 : Int32))).toUInt32 >>> ((16 : Int32) &&& 31).toUInt32).toInt32).toUInt32 >>> ((8 : Int32) &&& 31).toUInt32).toInt32).toUInt32 >>> ((2 : Int32) &&& 31).toUInt32).toInt32)), .val (.int ((((1 : Int32) + (16 : Int32)) + (8 : Int32)) + (2 : Int32)))] [(.int (((((1 : Int32) + (16 : Int32)) + (8 : Int32)) + (2 : Int32)) + ((((((((((p0 ^^^ (-1 : Int32)) &&& (p0 - (1 : Int32))).toUInt32 >>> ((16 : Int32) &&& 31).toUInt32).toInt32).toUInt32 >>> ((8 : Int32) &&& 31).toUInt32).toInt32).toUInt32 >>> ((2 : Int32) &&& 31).toUInt32).toInt32).toUInt32 >>> ((1 : Int32) &&& 31).toUInt32).toInt32)))]))
            exact Owes.retI X0 hx hlk hret (hb hby d9_79) (by decide) (by decide) ⟨congrArg (fun z => some (Value.int z)) (by unfold f_ntzI; rw [if_pos hc1, if_pos hc2, if_pos hc3, if_neg hc4, if_pos hc6]; first | done | rfl), rfl, e0⟩
          · skip
            refine Owes.go ?_ fun t₀ k₀ => XS.icmpYes X0.here hx rfl (pc0 := 64) (pc' := 74) rfl (hb hby d9_64) rfl (flt hc6).2.2.2 (by decide) (by decide) k₀
            show Owes _ _ _ _ (s₁.setTop (mkF m 74 #[.val (.int ((((((p0 ^^^ (-1 : Int32)) &&& (p0 - (1 : Int32))).toUInt32 >>> ((16 : Int32) &&& 31).toUInt32).toInt32).toUInt32 >>> ((8 : Int32) &&& 31).toUInt32).toInt32)), .val (.int (((1 : Int32) + (16 : Int32)) + (8 : Int32)))] []))
            refine Owes.go ?_ fun t₀ k₀ => XS.iloadN X0.here hx rfl (hb hby d9_74) rfl k₀
            show Owes _ _ _ _ (s₁.setTop (mkF m 75 #[.val (.int ((((((p0 ^^^ (-1 : Int32)) &&& (p0 - (1 : Int32))).toUInt32 >>> ((16 : Int32) &&& 31).toUInt32).toInt32).toUInt32 >>> ((8 : Int32) &&& 31).toUInt32).toInt32)), .val (.int (((1 : Int32) + (16 : Int32)) + (8 : Int32)))] [(.int (((1 : Int32) + (16 : Int32)) + (8 : Int32)))]))
            refine Owes.go ?_ fun t₀ k₀ => XS.iloadN X0.here hx rfl (hb hby d9_75) rfl k₀
            show Owes _ _ _ _ (s₁.setTop (mkF m 76 #[.val (.int ((((((p0 ^^^ (-1 : Int32)) &&& (p0 - (1 : Int32))).toUInt32 >>> ((16 : Int32) &&& 31).toUInt32).toInt32).toUInt32 >>> ((8 : Int32) &&& 31).toUInt32).toInt32)), .val (.int (((1 : Int32) + (16 : Int32)) + (8 : Int32)))] [(.int ((((((p0 ^^^ (-1 : Int32)) &&& (p0 - (1 : Int32))).toUInt32 >>> ((16 : Int32) &&& 31).toUInt32).toInt32).toUInt32 >>> ((8 : Int32) &&& 31).toUInt32).toInt32)), (.int (((1 : Int32) + (16 : Int32)) + (8 : Int32)))]))
            refine Owes.go ?_ fun t₀ k₀ => XS.iconst X0.here hx rfl (hb hby d9_76) k₀
            show Owes _ _ _ _ (s₁.setTop (mkF m 77 #[.val (.int ((((((p0 ^^^ (-1 : Int32)) &&& (p0 - (1 : Int32))).toUInt32 >>> ((16 : Int32) &&& 31).toUInt32).toInt32).toUInt32 >>> ((8 : Int32) &&& 31).toUInt32).toInt32)), .val (.int (((1 : Int32) + (16 : Int32)) + (8 : Int32)))] [(.int (1 : Int32)), (.int ((((((p0 ^^^ (-1 : Int32)) &&& (p0 - (1 : Int32))).toUInt32 >>> ((16 : Int32) &&& 31).toUInt32).toInt32).toUInt32 >>> ((8 : Int32) &&& 31).toUInt32).toInt32)), (.int (((1 : Int32) + (16 : Int32)) + (8 : Int32)))]))
            refine Owes.go ?_ fun t₀ k₀ => XS.iushr X0.here hx rfl (hb hby d9_77) rfl k₀
            show Owes _ _ _ _ (s₁.setTop (mkF m 78 #[.val (.int ((((((p0 ^^^ (-1 : Int32)) &&& (p0 - (1 : Int32))).toUInt32 >>> ((16 : Int32) &&& 31).toUInt32).toInt32).toUInt32 >>> ((8 : Int32) &&& 31).toUInt32).toInt32)), .val (.int (((1 : Int32) + (16 : Int32)) + (8 : Int32)))] [(.int ((((((((p0 ^^^ (-1 : Int32)) &&& (p0 - (1 : Int32))).toUInt32 >>> ((16 : Int32) &&& 31).toUInt32).toInt32).toUInt32 >>> ((8 : Int32) &&& 31).toUInt32).toInt32).toUInt32 >>> ((1 : Int32) &&& 31).toUInt32).toInt32)), (.int (((1 : Int32) + (16 : Int32)) + (8 : Int32)))]))
            refine Owes.go ?_ fun t₀ k₀ => XS.iadd X0.here hx rfl (hb hby d9_78) rfl k₀
            show Owes _ _ _ _ (s₁.setTop (mkF m 79 #[.val (.int ((((((p0 ^^^ (-1 : Int32)) &&& (p0 - (1 : Int32))).toUInt32 >>> ((16 : Int32) &&& 31).toUInt32).toInt32).toUInt32 >>> ((8 : Int32) &&& 31).toUInt32).toInt32)), .val (.int (((1 : Int32) + (16 : Int32)) + (8 : Int32)))] [(.int ((((1 : Int32) + (16 : Int32)) + (8 : Int32)) + ((((((((p0 ^^^ (-1 : Int32)) &&& (p0 - (1 : Int32))).toUInt32 >>> ((16 : Int32) &&& 31).toUInt32).toInt32).toUInt32 >>> ((8 : Int32) &&& 31).toUInt32).toInt32).toUInt32 >>> ((1 : Int32) &&& 31).toUInt32).toInt32)))]))
            exact Owes.retI X0 hx hlk hret (hb hby d9_79) (by decide) (by decide) ⟨congrArg (fun z => some (Value.int z)) (by unfold f_ntzI; rw [if_pos hc1, if_pos hc2, if_pos hc3, if_neg hc4, if_neg hc6]; first | done | rfl), rfl, e0⟩
      · skip
        refine Owes.go ?_ fun t₀ k₀ => XS.icmpYes X0.here hx rfl (pc0 := 38) (pc' := 49) rfl (hb hby d9_38) rfl (flt hc3).2.2.2 (by decide) (by decide) k₀
        show Owes _ _ _ _ (s₁.setTop (mkF m 49 #[.val (.int ((((p0 ^^^ (-1 : Int32)) &&& (p0 - (1 : Int32))).toUInt32 >>> ((16 : Int32) &&& 31).toUInt32).toInt32)), .val (.int ((1 : Int32) + (16 : Int32)))] []))
        refine Owes.go ?_ fun t₀ k₀ => XS.iloadN X0.here hx rfl (hb hby d9_49) rfl k₀
        show Owes _ _ _ _ (s₁.setTop (mkF m 50 #[.val (.int ((((p0 ^^^ (-1 : Int32)) &&& (p0 - (1 : Int32))).toUInt32 >>> ((16 : Int32) &&& 31).toUInt32).toInt32)), .val (.int ((1 : Int32) + (16 : Int32)))] [(.int ((((p0 ^^^ (-1 : Int32)) &&& (p0 - (1 : Int32))).toUInt32 >>> ((16 : Int32) &&& 31).toUInt32).toInt32))]))
        refine Owes.go ?_ fun t₀ k₀ => XS.bipush X0.here hx rfl (hb hby d9_50) k₀
        show Owes _ _ _ _ (s₁.setTop (mkF m 52 #[.val (.int ((((p0 ^^^ (-1 : Int32)) &&& (p0 - (1 : Int32))).toUInt32 >>> ((16 : Int32) &&& 31).toUInt32).toInt32)), .val (.int ((1 : Int32) + (16 : Int32)))] [(.int (16 : Int32)), (.int ((((p0 ^^^ (-1 : Int32)) &&& (p0 - (1 : Int32))).toUInt32 >>> ((16 : Int32) &&& 31).toUInt32).toInt32))]))
        by_cases hc7 : (16 : Int32) < ((((p0 ^^^ (-1 : Int32)) &&& (p0 - (1 : Int32))).toUInt32 >>> ((16 : Int32) &&& 31).toUInt32).toInt32)
        · skip
          refine Owes.go ?_ fun t₀ k₀ => XS.icmpNo X0.here hx rfl (hb hby d9_52) rfl (tlt hc7).2.2.2 k₀
          show Owes _ _ _ _ (s₁.setTop (mkF m 55 #[.val (.int ((((p0 ^^^ (-1 : Int32)) &&& (p0 - (1 : Int32))).toUInt32 >>> ((16 : Int32) &&& 31).toUInt32).toInt32)), .val (.int ((1 : Int32) + (16 : Int32)))] []))
          refine Owes.go ?_ fun t₀ k₀ => XS.iinc X0.here hx rfl (hb hby d9_55) rfl (l' := #[.val (.int ((((p0 ^^^ (-1 : Int32)) &&& (p0 - (1 : Int32))).toUInt32 >>> ((16 : Int32) &&& 31).toUInt32).toInt32)), .val (.int (((1 : Int32) + (16 : Int32)) + (4 : Int32)))]) rfl k₀
          show Owes _ _ _ _ (s₁.setTop (mkF m 58 #[.val (.int ((((p0 ^^^ (-1 : Int32)) &&& (p0 - (1 : Int32))).toUInt32 >>> ((16 : Int32) &&& 31).toUInt32).toInt32)), .val (.int (((1 : Int32) + (16 : Int32)) + (4 : Int32)))] []))
          refine Owes.go ?_ fun t₀ k₀ => XS.iloadN X0.here hx rfl (hb hby d9_58) rfl k₀
          show Owes _ _ _ _ (s₁.setTop (mkF m 59 #[.val (.int ((((p0 ^^^ (-1 : Int32)) &&& (p0 - (1 : Int32))).toUInt32 >>> ((16 : Int32) &&& 31).toUInt32).toInt32)), .val (.int (((1 : Int32) + (16 : Int32)) + (4 : Int32)))] [(.int ((((p0 ^^^ (-1 : Int32)) &&& (p0 - (1 : Int32))).toUInt32 >>> ((16 : Int32) &&& 31).toUInt32).toInt32))]))
          refine Owes.go ?_ fun t₀ k₀ => XS.iconst X0.here hx rfl (hb hby d9_59) k₀
          show Owes _ _ _ _ (s₁.setTop (mkF m 60 #[.val (.int ((((p0 ^^^ (-1 : Int32)) &&& (p0 - (1 : Int32))).toUInt32 >>> ((16 : Int32) &&& 31).toUInt32).toInt32)), .val (.int (((1 : Int32) + (16 : Int32)) + (4 : Int32)))] [(.int (4 : Int32)), (.int ((((p0 ^^^ (-1 : Int32)) &&& (p0 - (1 : Int32))).toUInt32 >>> ((16 : Int32) &&& 31).toUInt32).toInt32))]))
          refine Owes.go ?_ fun t₀ k₀ => XS.iushr X0.here hx rfl (hb hby d9_60) rfl k₀
          show Owes _ _ _ _ (s₁.setTop (mkF m 61 #[.val (.int ((((p0 ^^^ (-1 : Int32)) &&& (p0 - (1 : Int32))).toUInt32 >>> ((16 : Int32) &&& 31).toUInt32).toInt32)), .val (.int (((1 : Int32) + (16 : Int32)) + (4 : Int32)))] [(.int ((((((p0 ^^^ (-1 : Int32)) &&& (p0 - (1 : Int32))).toUInt32 >>> ((16 : Int32) &&& 31).toUInt32).toInt32).toUInt32 >>> ((4 : Int32) &&& 31).toUInt32).toInt32))]))
          refine Owes.go ?_ fun t₀ k₀ => XS.istoreN X0.here hx rfl (hb hby d9_61) rfl (l' := #[.val (.int ((((((p0 ^^^ (-1 : Int32)) &&& (p0 - (1 : Int32))).toUInt32 >>> ((16 : Int32) &&& 31).toUInt32).toInt32).toUInt32 >>> ((4 : Int32) &&& 31).toUInt32).toInt32)), .val (.int (((1 : Int32) + (16 : Int32)) + (4 : Int32)))]) rfl k₀
          show Owes _ _ _ _ (s₁.setTop (mkF m 62 #[.val (.int ((((((p0 ^^^ (-1 : Int32)) &&& (p0 - (1 : Int32))).toUInt32 >>> ((16 : Int32) &&& 31).toUInt32).toInt32).toUInt32 >>> ((4 : Int32) &&& 31).toUInt32).toInt32)), .val (.int (((1 : Int32) + (16 : Int32)) + (4 : Int32)))] []))
          refine Owes.go ?_ fun t₀ k₀ => XS.iloadN X0.here hx rfl (hb hby d9_62) rfl k₀
          show Owes _ _ _ _ (s₁.setTop (mkF m 63 #[.val (.int ((((((p0 ^^^ (-1 : Int32)) &&& (p0 - (1 : Int32))).toUInt32 >>> ((16 : Int32) &&& 31).toUInt32).toInt32).toUInt32 >>> ((4 : Int32) &&& 31).toUInt32).toInt32)), .val (.int (((1 : Int32) + (16 : Int32)) + (4 : Int32)))] [(.int ((((((p0 ^^^ (-1 : Int32)) &&& (p0 - (1 : Int32))).toUInt32 >>> ((16 : Int32) &&& 31).toUInt32).toInt32).toUInt32 >>> ((4 : Int32) &&& 31).toUInt32).toInt32))]))
          refine Owes.go ?_ fun t₀ k₀ => XS.iconst X0.here hx rfl (hb hby d9_63) k₀
          show Owes _ _ _ _ (s₁.setTop (mkF m 64 #[.val (.int ((((((p0 ^^^ (-1 : Int32)) &&& (p0 - (1 : Int32))).toUInt32 >>> ((16 : Int32) &&& 31).toUInt32).toInt32).toUInt32 >>> ((4 : Int32) &&& 31).toUInt32).toInt32)), .val (.int (((1 : Int32) + (16 : Int32)) + (4 : Int32)))] [(.int (4 : Int32)), (.int ((((((p0 ^^^ (-1 : Int32)) &&& (p0 - (1 : Int32))).toUInt32 >>> ((16 : Int32) &&& 31).toUInt32).toInt32).toUInt32 >>> ((4 : Int32) &&& 31).toUInt32).toInt32))]))
          by_cases hc8 : (4 : Int32) < ((((((p0 ^^^ (-1 : Int32)) &&& (p0 - (1 : Int32))).toUInt32 >>> ((16 : Int32) &&& 31).toUInt32).toInt32).toUInt32 >>> ((4 : Int32) &&& 31).toUInt32).toInt32)
          · skip
            refine Owes.go ?_ fun t₀ k₀ => XS.icmpNo X0.here hx rfl (hb hby d9_64) rfl (tlt hc8).2.2.2 k₀
            show Owes _ _ _ _ (s₁.setTop (mkF m 67 #[.val (.int ((((((p0 ^^^ (-1 : Int32)) &&& (p0 - (1 : Int32))).toUInt32 >>> ((16 : Int32) &&& 31).toUInt32).toInt32).toUInt32 >>> ((4 : Int32) &&& 31).toUInt32).toInt32)), .val (.int (((1 : Int32) + (16 : Int32)) + (4 : Int32)))] []))
            refine Owes.go ?_ fun t₀ k₀ => XS.iinc X0.here hx rfl (hb hby d9_67) rfl (l' := #[.val (.int ((((((p0 ^^^ (-1 : Int32)) &&& (p0 - (1 : Int32))).toUInt32 >>> ((16 : Int32) &&& 31).toUInt32).toInt32).toUInt32 >>> ((4 : Int32) &&& 31).toUInt32).toInt32)), .val (.int ((((1 : Int32) + (16 : Int32)) + (4 : Int32)) + (2 : Int32)))]) rfl k₀
            show Owes _ _ _ _ (s₁.setTop (mkF m 70 #[.val (.int ((((((p0 ^^^ (-1 : Int32)) &&& (p0 - (1 : Int32))).toUInt32 >>> ((16 : Int32) &&& 31).toUInt32).toInt32).toUInt32 >>> ((4 : Int32) &&& 31).toUInt32).toInt32)), .val (.int ((((1 : Int32) + (16 : Int32)) + (4 : Int32)) + (2 : Int32)))] []))
            refine Owes.go ?_ fun t₀ k₀ => XS.iloadN X0.here hx rfl (hb hby d9_70) rfl k₀
            show Owes _ _ _ _ (s₁.setTop (mkF m 71 #[.val (.int ((((((p0 ^^^ (-1 : Int32)) &&& (p0 - (1 : Int32))).toUInt32 >>> ((16 : Int32) &&& 31).toUInt32).toInt32).toUInt32 >>> ((4 : Int32) &&& 31).toUInt32).toInt32)), .val (.int ((((1 : Int32) + (16 : Int32)) + (4 : Int32)) + (2 : Int32)))] [(.int ((((((p0 ^^^ (-1 : Int32)) &&& (p0 - (1 : Int32))).toUInt32 >>> ((16 : Int32) &&& 31).toUInt32).toInt32).toUInt32 >>> ((4 : Int32) &&& 31).toUInt32).toInt32))]))
            refine Owes.go ?_ fun t₀ k₀ => XS.iconst X0.here hx rfl (hb hby d9_71) k₀
            show Owes _ _ _ _ (s₁.setTop (mkF m 72 #[.val (.int ((((((p0 ^^^ (-1 : Int32)) &&& (p0 - (1 : Int32))).toUInt32 >>> ((16 : Int32) &&& 31).toUInt32).toInt32).toUInt32 >>> ((4 : Int32) &&& 31).toUInt32).toInt32)), .val (.int ((((1 : Int32) + (16 : Int32)) + (4 : Int32)) + (2 : Int32)))] [(.int (2 : Int32)), (.int ((((((p0 ^^^ (-1 : Int32)) &&& (p0 - (1 : Int32))).toUInt32 >>> ((16 : Int32) &&& 31).toUInt32).toInt32).toUInt32 >>> ((4 : Int32) &&& 31).toUInt32).toInt32))]))
            refine Owes.go ?_ fun t₀ k₀ => XS.iushr X0.here hx rfl (hb hby d9_72) rfl k₀
            show Owes _ _ _ _ (s₁.setTop (mkF m 73 #[.val (.int ((((((p0 ^^^ (-1 : Int32)) &&& (p0 - (1 : Int32))).toUInt32 >>> ((16 : Int32) &&& 31).toUInt32).toInt32).toUInt32 >>> ((4 : Int32) &&& 31).toUInt32).toInt32)), .val (.int ((((1 : Int32) + (16 : Int32)) + (4 : Int32)) + (2 : Int32)))] [(.int ((((((((p0 ^^^ (-1 : Int32)) &&& (p0 - (1 : Int32))).toUInt32 >>> ((16 : Int32) &&& 31).toUInt32).toInt32).toUInt32 >>> ((4 : Int32) &&& 31).toUInt32).toInt32).toUInt32 >>> ((2 : Int32) &&& 31).toUInt32).toInt32))]))
            refine Owes.go ?_ fun t₀ k₀ => XS.istoreN X0.here hx rfl (hb hby d9_73) rfl (l' := #[.val (.int ((((((((p0 ^^^ (-1 : Int32)) &&& (p0 - (1 : Int32))).toUInt32 >>> ((16 : Int32) &&& 31).toUInt32).toInt32).toUInt32 >>> ((4 : Int32) &&& 31).toUInt32).toInt32).toUInt32 >>> ((2 : Int32) &&& 31).toUInt32).toInt32)), .val (.int ((((1 : Int32) + (16 : Int32)) + (4 : Int32)) + (2 : Int32)))]) rfl k₀
            show Owes _ _ _ _ (s₁.setTop (mkF m 74 #[.val (.int ((((((((p0 ^^^ (-1 : Int32)) &&& (p0 - (1 : Int32))).toUInt32 >>> ((16 : Int32) &&& 31).toUInt32).toInt32).toUInt32 >>> ((4 : Int32) &&& 31).toUInt32).toInt32).toUInt32 >>> ((2 : Int32) &&& 31).toUInt32).toInt32)), .val (.int ((((1 : Int32) + (16 : Int32)) + (4 : Int32)) + (2 : Int32)))] []))
            refine Owes.go ?_ fun t₀ k₀ => XS.iloadN X0.here hx rfl (hb hby d9_74) rfl k₀
            show Owes _ _ _ _ (s₁.setTop (mkF m 75 #[.val (.int ((((((((p0 ^^^ (-1 : Int32)) &&& (p0 - (1 : Int32))).toUInt32 >>> ((16 : Int32) &&& 31).toUInt32).toInt32).toUInt32 >>> ((4 : Int32) &&& 31).toUInt32).toInt32).toUInt32 >>> ((2 : Int32) &&& 31).toUInt32).toInt32)), .val (.int ((((1 : Int32) + (16 : Int32)) + (4 : Int32)) + (2 : Int32)))] [(.int ((((1 : Int32) + (16 : Int32)) + (4 : Int32)) + (2 : Int32)))]))
            refine Owes.go ?_ fun t₀ k₀ => XS.iloadN X0.here hx rfl (hb hby d9_75) rfl k₀
            show Owes _ _ _ _ (s₁.setTop (mkF m 76 #[.val (.int ((((((((p0 ^^^ (-1 : Int32)) &&& (p0 - (1 : Int32))).toUInt32 >>> ((16 : Int32) &&& 31).toUInt32).toInt32).toUInt32 >>> ((4 : Int32) &&& 31).toUInt32).toInt32).toUInt32 >>> ((2 : Int32) &&& 31).toUInt32).toInt32)), .val (.int ((((1 : Int32) + (16 : Int32)) + (4 : Int32)) + (2 : Int32)))] [(.int ((((((((p0 ^^^ (-1 : Int32)) &&& (p0 - (1 : Int32))).toUInt32 >>> ((16 : Int32) &&& 31).toUInt32).toInt32).toUInt32 >>> ((4 : Int32) &&& 31).toUInt32).toInt32).toUInt32 >>> ((2 : Int32) &&& 31).toUInt32).toInt32)), (.int ((((1 : Int32) + (16 : Int32)) + (4 : Int32)) + (2 : Int32)))]))
            refine Owes.go ?_ fun t₀ k₀ => XS.iconst X0.here hx rfl (hb hby d9_76) k₀
            show Owes _ _ _ _ (s₁.setTop (mkF m 77 #[.val (.int ((((((((p0 ^^^ (-1 : Int32)) &&& (p0 - (1 : Int32))).toUInt32 >>> ((16 : Int32) &&& 31).toUInt32).toInt32).toUInt32 >>> ((4 : Int32) &&& 31).toUInt32).toInt32).toUInt32 >>> ((2 : Int32) &&& 31).toUInt32).toInt32)), .val (.int ((((1 : Int32) + (16 : Int32)) + (4 : Int32)) + (2 : Int32)))] [(.int (1 : Int32)), (.int ((((((((p0 ^^^ (-1 : Int32)) &&& (p0 - (1 : Int32))).toUInt32 >>> ((16 : Int32) &&& 31).toUInt32).toInt32).toUInt32 >>> ((4 : Int32) &&& 31).toUInt32).toInt32).toUInt32 >>> ((2 : Int32) &&& 31).toUInt32).toInt32)), (.int ((((1 : Int32) + (16 : Int32)) + (4 : Int32)) + (2 : Int32)))]))
            refine Owes.go ?_ fun t₀ k₀ => XS.iushr X0.here hx rfl (hb hby d9_77) rfl k₀
            show Owes _ _ _ _ (s₁.setTop (mkF m 78 #[.val (.int ((((((((p0 ^^^ (-1 : Int32)) &&& (p0 - (1 : Int32))).toUInt32 >>> ((16 : Int32) &&& 31).toUInt32).toInt32).toUInt32 >>> ((4 : Int32) &&& 31).toUInt32).toInt32).toUInt32 >>> ((2 : Int32) &&& 31).toUInt32).toInt32)), .val (.int ((((1 : Int32) + (16 : Int32)) + (4 : Int32)) + (2 : Int32)))] [(.int ((((((((((p0 ^^^ (-1 : Int32)) &&& (p0 - (1 : Int32))).toUInt32 >>> ((16 : Int32) &&& 31).toUInt32).toInt32).toUInt32 >>> ((4 : Int32) &&& 31).toUInt32).toInt32).toUInt32 >>> ((2 : Int32) &&& 31).toUInt32).toInt32).toUInt32 >>> ((1 : Int32) &&& 31).toUInt32).toInt32)), (.int ((((1 : Int32) + (16 : Int32)) + (4 : Int32)) + (2 : Int32)))]))
            refine Owes.go ?_ fun t₀ k₀ => XS.iadd X0.here hx rfl (hb hby d9_78) rfl k₀
            show Owes _ _ _ _ (s₁.setTop (mkF m 79 #[.val (.int ((((((((p0 ^^^ (-1 : Int32)) &&& (p0 - (1 : Int32))).toUInt32 >>> ((16 : Int32) &&& 31).toUInt32).toInt32).toUInt32 >>> ((4 : Int32) &&& 31).toUInt32).toInt32).toUInt32 >>> ((2 : Int32) &&& 31).toUInt32).toInt32)), .val (.int ((((1 : Int32) + (16 : Int32)) + (4 : Int32)) + (2 : Int32)))] [(.int (((((1 : Int32) + (16 : Int32)) + (4 : Int32)) + (2 : Int32)) + ((((((((((p0 ^^^ (-1 : Int32)) &&& (p0 - (1 : Int32))).toUInt32 >>> ((16 : Int32) &&& 31).toUInt32).toInt32).toUInt32 >>> ((4 : Int32) &&& 31).toUInt32).toInt32).toUInt32 >>> ((2 : Int32) &&& 31).toUInt32).toInt32).toUInt32 >>> ((1 : Int32) &&& 31).toUInt32).toInt32)))]))
            exact Owes.retI X0 hx hlk hret (hb hby d9_79) (by decide) (by decide) ⟨congrArg (fun z => some (Value.int z)) (by unfold f_ntzI; rw [if_pos hc1, if_pos hc2, if_neg hc3, if_pos hc7, if_pos hc8]; first | done | rfl), rfl, e0⟩
          · skip
            refine Owes.go ?_ fun t₀ k₀ => XS.icmpYes X0.here hx rfl (pc0 := 64) (pc' := 74) rfl (hb hby d9_64) rfl (flt hc8).2.2.2 (by decide) (by decide) k₀
            show Owes _ _ _ _ (s₁.setTop (mkF m 74 #[.val (.int ((((((p0 ^^^ (-1 : Int32)) &&& (p0 - (1 : Int32))).toUInt32 >>> ((16 : Int32) &&& 31).toUInt32).toInt32).toUInt32 >>> ((4 : Int32) &&& 31).toUInt32).toInt32)), .val (.int (((1 : Int32) + (16 : Int32)) + (4 : Int32)))] []))
            refine Owes.go ?_ fun t₀ k₀ => XS.iloadN X0.here hx rfl (hb hby d9_74) rfl k₀
            show Owes _ _ _ _ (s₁.setTop (mkF m 75 #[.val (.int ((((((p0 ^^^ (-1 : Int32)) &&& (p0 - (1 : Int32))).toUInt32 >>> ((16 : Int32) &&& 31).toUInt32).toInt32).toUInt32 >>> ((4 : Int32) &&& 31).toUInt32).toInt32)), .val (.int (((1 : Int32) + (16 : Int32)) + (4 : Int32)))] [(.int (((1 : Int32) + (16 : Int32)) + (4 : Int32)))]))
            refine Owes.go ?_ fun t₀ k₀ => XS.iloadN X0.here hx rfl (hb hby d9_75) rfl k₀
            show Owes _ _ _ _ (s₁.setTop (mkF m 76 #[.val (.int ((((((p0 ^^^ (-1 : Int32)) &&& (p0 - (1 : Int32))).toUInt32 >>> ((16 : Int32) &&& 31).toUInt32).toInt32).toUInt32 >>> ((4 : Int32) &&& 31).toUInt32).toInt32)), .val (.int (((1 : Int32) + (16 : Int32)) + (4 : Int32)))] [(.int ((((((p0 ^^^ (-1 : Int32)) &&& (p0 - (1 : Int32))).toUInt32 >>> ((16 : Int32) &&& 31).toUInt32).toInt32).toUInt32 >>> ((4 : Int32) &&& 31).toUInt32).toInt32)), (.int (((1 : Int32) + (16 : Int32)) + (4 : Int32)))]))
            refine Owes.go ?_ fun t₀ k₀ => XS.iconst X0.here hx rfl (hb hby d9_76) k₀
            show Owes _ _ _ _ (s₁.setTop (mkF m 77 #[.val (.int ((((((p0 ^^^ (-1 : Int32)) &&& (p0 - (1 : Int32))).toUInt32 >>> ((16 : Int32) &&& 31).toUInt32).toInt32).toUInt32 >>> ((4 : Int32) &&& 31).toUInt32).toInt32)), .val (.int (((1 : Int32) + (16 : Int32)) + (4 : Int32)))] [(.int (1 : Int32)), (.int ((((((p0 ^^^ (-1 : Int32)) &&& (p0 - (1 : Int32))).toUInt32 >>> ((16 : Int32) &&& 31).toUInt32).toInt32).toUInt32 >>> ((4 : Int32) &&& 31).toUInt32).toInt32)), (.int (((1 : Int32) + (16 : Int32)) + (4 : Int32)))]))
            refine Owes.go ?_ fun t₀ k₀ => XS.iushr X0.here hx rfl (hb hby d9_77) rfl k₀
            show Owes _ _ _ _ (s₁.setTop (mkF m 78 #[.val (.int ((((((p0 ^^^ (-1 : Int32)) &&& (p0 - (1 : Int32))).toUInt32 >>> ((16 : Int32) &&& 31).toUInt32).toInt32).toUInt32 >>> ((4 : Int32) &&& 31).toUInt32).toInt32)), .val (.int (((1 : Int32) + (16 : Int32)) + (4 : Int32)))] [(.int ((((((((p0 ^^^ (-1 : Int32)) &&& (p0 - (1 : Int32))).toUInt32 >>> ((16 : Int32) &&& 31).toUInt32).toInt32).toUInt32 >>> ((4 : Int32) &&& 31).toUInt32).toInt32).toUInt32 >>> ((1 : Int32) &&& 31).toUInt32).toInt32)), (.int (((1 : Int32) + (16 : Int32)) + (4 : Int32)))]))
            refine Owes.go ?_ fun t₀ k₀ => XS.iadd X0.here hx rfl (hb hby d9_78) rfl k₀
            show Owes _ _ _ _ (s₁.setTop (mkF m 79 #[.val (.int ((((((p0 ^^^ (-1 : Int32)) &&& (p0 - (1 : Int32))).toUInt32 >>> ((16 : Int32) &&& 31).toUInt32).toInt32).toUInt32 >>> ((4 : Int32) &&& 31).toUInt32).toInt32)), .val (.int (((1 : Int32) + (16 : Int32)) + (4 : Int32)))] [(.int ((((1 : Int32) + (16 : Int32)) + (4 : Int32)) + ((((((((p0 ^^^ (-1 : Int32)) &&& (p0 - (1 : Int32))).toUInt32 >>> ((16 : Int32) &&& 31).toUInt32).toInt32).toUInt32 >>> ((4 : Int32) &&& 31).toUInt32).toInt32).toUInt32 >>> ((1 : Int32) &&& 31).toUInt32).toInt32)))]))
            exact Owes.retI X0 hx hlk hret (hb hby d9_79) (by decide) (by decide) ⟨congrArg (fun z => some (Value.int z)) (by unfold f_ntzI; rw [if_pos hc1, if_pos hc2, if_neg hc3, if_pos hc7, if_neg hc8]; first | done | rfl), rfl, e0⟩
        · skip
          refine Owes.go ?_ fun t₀ k₀ => XS.icmpYes X0.here hx rfl (pc0 := 52) (pc' := 62) rfl (hb hby d9_52) rfl (flt hc7).2.2.2 (by decide) (by decide) k₀
          show Owes _ _ _ _ (s₁.setTop (mkF m 62 #[.val (.int ((((p0 ^^^ (-1 : Int32)) &&& (p0 - (1 : Int32))).toUInt32 >>> ((16 : Int32) &&& 31).toUInt32).toInt32)), .val (.int ((1 : Int32) + (16 : Int32)))] []))
          refine Owes.go ?_ fun t₀ k₀ => XS.iloadN X0.here hx rfl (hb hby d9_62) rfl k₀
          show Owes _ _ _ _ (s₁.setTop (mkF m 63 #[.val (.int ((((p0 ^^^ (-1 : Int32)) &&& (p0 - (1 : Int32))).toUInt32 >>> ((16 : Int32) &&& 31).toUInt32).toInt32)), .val (.int ((1 : Int32) + (16 : Int32)))] [(.int ((((p0 ^^^ (-1 : Int32)) &&& (p0 - (1 : Int32))).toUInt32 >>> ((16 : Int32) &&& 31).toUInt32).toInt32))]))
          refine Owes.go ?_ fun t₀ k₀ => XS.iconst X0.here hx rfl (hb hby d9_63) k₀
          show Owes _ _ _ _ (s₁.setTop (mkF m 64 #[.val (.int ((((p0 ^^^ (-1 : Int32)) &&& (p0 - (1 : Int32))).toUInt32 >>> ((16 : Int32) &&& 31).toUInt32).toInt32)), .val (.int ((1 : Int32) + (16 : Int32)))] [(.int (4 : Int32)), (.int ((((p0 ^^^ (-1 : Int32)) &&& (p0 - (1 : Int32))).toUInt32 >>> ((16 : Int32) &&& 31).toUInt32).toInt32))]))
          by_cases hc9 : (4 : Int32) < ((((p0 ^^^ (-1 : Int32)) &&& (p0 - (1 : Int32))).toUInt32 >>> ((16 : Int32) &&& 31).toUInt32).toInt32)
          · skip
            refine Owes.go ?_ fun t₀ k₀ => XS.icmpNo X0.here hx rfl (hb hby d9_64) rfl (tlt hc9).2.2.2 k₀
            show Owes _ _ _ _ (s₁.setTop (mkF m 67 #[.val (.int ((((p0 ^^^ (-1 : Int32)) &&& (p0 - (1 : Int32))).toUInt32 >>> ((16 : Int32) &&& 31).toUInt32).toInt32)), .val (.int ((1 : Int32) + (16 : Int32)))] []))
            refine Owes.go ?_ fun t₀ k₀ => XS.iinc X0.here hx rfl (hb hby d9_67) rfl (l' := #[.val (.int ((((p0 ^^^ (-1 : Int32)) &&& (p0 - (1 : Int32))).toUInt32 >>> ((16 : Int32) &&& 31).toUInt32).toInt32)), .val (.int (((1 : Int32) + (16 : Int32)) + (2 : Int32)))]) rfl k₀
            show Owes _ _ _ _ (s₁.setTop (mkF m 70 #[.val (.int ((((p0 ^^^ (-1 : Int32)) &&& (p0 - (1 : Int32))).toUInt32 >>> ((16 : Int32) &&& 31).toUInt32).toInt32)), .val (.int (((1 : Int32) + (16 : Int32)) + (2 : Int32)))] []))
            refine Owes.go ?_ fun t₀ k₀ => XS.iloadN X0.here hx rfl (hb hby d9_70) rfl k₀
            show Owes _ _ _ _ (s₁.setTop (mkF m 71 #[.val (.int ((((p0 ^^^ (-1 : Int32)) &&& (p0 - (1 : Int32))).toUInt32 >>> ((16 : Int32) &&& 31).toUInt32).toInt32)), .val (.int (((1 : Int32) + (16 : Int32)) + (2 : Int32)))] [(.int ((((p0 ^^^ (-1 : Int32)) &&& (p0 - (1 : Int32))).toUInt32 >>> ((16 : Int32) &&& 31).toUInt32).toInt32))]))
            refine Owes.go ?_ fun t₀ k₀ => XS.iconst X0.here hx rfl (hb hby d9_71) k₀
            show Owes _ _ _ _ (s₁.setTop (mkF m 72 #[.val (.int ((((p0 ^^^ (-1 : Int32)) &&& (p0 - (1 : Int32))).toUInt32 >>> ((16 : Int32) &&& 31).toUInt32).toInt32)), .val (.int (((1 : Int32) + (16 : Int32)) + (2 : Int32)))] [(.int (2 : Int32)), (.int ((((p0 ^^^ (-1 : Int32)) &&& (p0 - (1 : Int32))).toUInt32 >>> ((16 : Int32) &&& 31).toUInt32).toInt32))]))
            refine Owes.go ?_ fun t₀ k₀ => XS.iushr X0.here hx rfl (hb hby d9_72) rfl k₀
            show Owes _ _ _ _ (s₁.setTop (mkF m 73 #[.val (.int ((((p0 ^^^ (-1 : Int32)) &&& (p0 - (1 : Int32))).toUInt32 >>> ((16 : Int32) &&& 31).toUInt32).toInt32)), .val (.int (((1 : Int32) + (16 : Int32)) + (2 : Int32)))] [(.int ((((((p0 ^^^ (-1 : Int32)) &&& (p0 - (1 : Int32))).toUInt32 >>> ((16 : Int32) &&& 31).toUInt32).toInt32).toUInt32 >>> ((2 : Int32) &&& 31).toUInt32).toInt32))]))
            refine Owes.go ?_ fun t₀ k₀ => XS.istoreN X0.here hx rfl (hb hby d9_73) rfl (l' := #[.val (.int ((((((p0 ^^^ (-1 : Int32)) &&& (p0 - (1 : Int32))).toUInt32 >>> ((16 : Int32) &&& 31).toUInt32).toInt32).toUInt32 >>> ((2 : Int32) &&& 31).toUInt32).toInt32)), .val (.int (((1 : Int32) + (16 : Int32)) + (2 : Int32)))]) rfl k₀
            show Owes _ _ _ _ (s₁.setTop (mkF m 74 #[.val (.int ((((((p0 ^^^ (-1 : Int32)) &&& (p0 - (1 : Int32))).toUInt32 >>> ((16 : Int32) &&& 31).toUInt32).toInt32).toUInt32 >>> ((2 : Int32) &&& 31).toUInt32).toInt32)), .val (.int (((1 : Int32) + (16 : Int32)) + (2 : Int32)))] []))
            refine Owes.go ?_ fun t₀ k₀ => XS.iloadN X0.here hx rfl (hb hby d9_74) rfl k₀
            show Owes _ _ _ _ (s₁.setTop (mkF m 75 #[.val (.int ((((((p0 ^^^ (-1 : Int32)) &&& (p0 - (1 : Int32))).toUInt32 >>> ((16 : Int32) &&& 31).toUInt32).toInt32).toUInt32 >>> ((2 : Int32) &&& 31).toUInt32).toInt32)), .val (.int (((1 : Int32) + (16 : Int32)) + (2 : Int32)))] [(.int (((1 : Int32) + (16 : Int32)) + (2 : Int32)))]))
            refine Owes.go ?_ fun t₀ k₀ => XS.iloadN X0.here hx rfl (hb hby d9_75) rfl k₀
            show Owes _ _ _ _ (s₁.setTop (mkF m 76 #[.val (.int ((((((p0 ^^^ (-1 : Int32)) &&& (p0 - (1 : Int32))).toUInt32 >>> ((16 : Int32) &&& 31).toUInt32).toInt32).toUInt32 >>> ((2 : Int32) &&& 31).toUInt32).toInt32)), .val (.int (((1 : Int32) + (16 : Int32)) + (2 : Int32)))] [(.int ((((((p0 ^^^ (-1 : Int32)) &&& (p0 - (1 : Int32))).toUInt32 >>> ((16 : Int32) &&& 31).toUInt32).toInt32).toUInt32 >>> ((2 : Int32) &&& 31).toUInt32).toInt32)), (.int (((1 : Int32) + (16 : Int32)) + (2 : Int32)))]))
            refine Owes.go ?_ fun t₀ k₀ => XS.iconst X0.here hx rfl (hb hby d9_76) k₀
            show Owes _ _ _ _ (s₁.setTop (mkF m 77 #[.val (.int ((((((p0 ^^^ (-1 : Int32)) &&& (p0 - (1 : Int32))).toUInt32 >>> ((16 : Int32) &&& 31).toUInt32).toInt32).toUInt32 >>> ((2 : Int32) &&& 31).toUInt32).toInt32)), .val (.int (((1 : Int32) + (16 : Int32)) + (2 : Int32)))] [(.int (1 : Int32)), (.int ((((((p0 ^^^ (-1 : Int32)) &&& (p0 - (1 : Int32))).toUInt32 >>> ((16 : Int32) &&& 31).toUInt32).toInt32).toUInt32 >>> ((2 : Int32) &&& 31).toUInt32).toInt32)), (.int (((1 : Int32) + (16 : Int32)) + (2 : Int32)))]))
            refine Owes.go ?_ fun t₀ k₀ => XS.iushr X0.here hx rfl (hb hby d9_77) rfl k₀
            show Owes _ _ _ _ (s₁.setTop (mkF m 78 #[.val (.int ((((((p0 ^^^ (-1 : Int32)) &&& (p0 - (1 : Int32))).toUInt32 >>> ((16 : Int32) &&& 31).toUInt32).toInt32).toUInt32 >>> ((2 : Int32) &&& 31).toUInt32).toInt32)), .val (.int (((1 : Int32) + (16 : Int32)) + (2 : Int32)))] [(.int ((((((((p0 ^^^ (-1 : Int32)) &&& (p0 - (1 : Int32))).toUInt32 >>> ((16 : Int32) &&& 31).toUInt32).toInt32).toUInt32 >>> ((2 : Int32) &&& 31).toUInt32).toInt32).toUInt32 >>> ((1 : Int32) &&& 31).toUInt32).toInt32)), (.int (((1 : Int32) + (16 : Int32)) + (2 : Int32)))]))
            refine Owes.go ?_ fun t₀ k₀ => XS.iadd X0.here hx rfl (hb hby d9_78) rfl k₀
            show Owes _ _ _ _ (s₁.setTop (mkF m 79 #[.val (.int ((((((p0 ^^^ (-1 : Int32)) &&& (p0 - (1 : Int32))).toUInt32 >>> ((16 : Int32) &&& 31).toUInt32).toInt32).toUInt32 >>> ((2 : Int32) &&& 31).toUInt32).toInt32)), .val (.int (((1 : Int32) + (16 : Int32)) + (2 : Int32)))] [(.int ((((1 : Int32) + (16 : Int32)) + (2 : Int32)) + ((((((((p0 ^^^ (-1 : Int32)) &&& (p0 - (1 : Int32))).toUInt32 >>> ((16 : Int32) &&& 31).toUInt32).toInt32).toUInt32 >>> ((2 : Int32) &&& 31).toUInt32).toInt32).toUInt32 >>> ((1 : Int32) &&& 31).toUInt32).toInt32)))]))
            exact Owes.retI X0 hx hlk hret (hb hby d9_79) (by decide) (by decide) ⟨congrArg (fun z => some (Value.int z)) (by unfold f_ntzI; rw [if_pos hc1, if_pos hc2, if_neg hc3, if_neg hc7, if_pos hc9]; first | done | rfl), rfl, e0⟩
          · skip
            refine Owes.go ?_ fun t₀ k₀ => XS.icmpYes X0.here hx rfl (pc0 := 64) (pc' := 74) rfl (hb hby d9_64) rfl (flt hc9).2.2.2 (by decide) (by decide) k₀
            show Owes _ _ _ _ (s₁.setTop (mkF m 74 #[.val (.int ((((p0 ^^^ (-1 : Int32)) &&& (p0 - (1 : Int32))).toUInt32 >>> ((16 : Int32) &&& 31).toUInt32).toInt32)), .val (.int ((1 : Int32) + (16 : Int32)))] []))
            refine Owes.go ?_ fun t₀ k₀ => XS.iloadN X0.here hx rfl (hb hby d9_74) rfl k₀
            show Owes _ _ _ _ (s₁.setTop (mkF m 75 #[.val (.int ((((p0 ^^^ (-1 : Int32)) &&& (p0 - (1 : Int32))).toUInt32 >>> ((16 : Int32) &&& 31).toUInt32).toInt32)), .val (.int ((1 : Int32) + (16 : Int32)))] [(.int ((1 : Int32) + (16 : Int32)))]))
            refine Owes.go ?_ fun t₀ k₀ => XS.iloadN X0.here hx rfl (hb hby d9_75) rfl k₀
            show Owes _ _ _ _ (s₁.setTop (mkF m 76 #[.val (.int ((((p0 ^^^ (-1 : Int32)) &&& (p0 - (1 : Int32))).toUInt32 >>> ((16 : Int32) &&& 31).toUInt32).toInt32)), .val (.int ((1 : Int32) + (16 : Int32)))] [(.int ((((p0 ^^^ (-1 : Int32)) &&& (p0 - (1 : Int32))).toUInt32 >>> ((16 : Int32) &&& 31).toUInt32).toInt32)), (.int ((1 : Int32) + (16 : Int32)))]))
            refine Owes.go ?_ fun t₀ k₀ => XS.iconst X0.here hx rfl (hb hby d9_76) k₀
            show Owes _ _ _ _ (s₁.setTop (mkF m 77 #[.val (.int ((((p0 ^^^ (-1 : Int32)) &&& (p0 - (1 : Int32))).toUInt32 >>> ((16 : Int32) &&& 31).toUInt32).toInt32)), .val (.int ((1 : Int32) + (16 : Int32)))] [(.int (1 : Int32)), (.int ((((p0 ^^^ (-1 : Int32)) &&& (p0 - (1 : Int32))).toUInt32 >>> ((16 : Int32) &&& 31).toUInt32).toInt32)), (.int ((1 : Int32) + (16 : Int32)))]))
            refine Owes.go ?_ fun t₀ k₀ => XS.iushr X0.here hx rfl (hb hby d9_77) rfl k₀
            show Owes _ _ _ _ (s₁.setTop (mkF m 78 #[.val (.int ((((p0 ^^^ (-1 : Int32)) &&& (p0 - (1 : Int32))).toUInt32 >>> ((16 : Int32) &&& 31).toUInt32).toInt32)), .val (.int ((1 : Int32) + (16 : Int32)))] [(.int ((((((p0 ^^^ (-1 : Int32)) &&& (p0 - (1 : Int32))).toUInt32 >>> ((16 : Int32) &&& 31).toUInt32).toInt32).toUInt32 >>> ((1 : Int32) &&& 31).toUInt32).toInt32)), (.int ((1 : Int32) + (16 : Int32)))]))
            refine Owes.go ?_ fun t₀ k₀ => XS.iadd X0.here hx rfl (hb hby d9_78) rfl k₀
            show Owes _ _ _ _ (s₁.setTop (mkF m 79 #[.val (.int ((((p0 ^^^ (-1 : Int32)) &&& (p0 - (1 : Int32))).toUInt32 >>> ((16 : Int32) &&& 31).toUInt32).toInt32)), .val (.int ((1 : Int32) + (16 : Int32)))] [(.int (((1 : Int32) + (16 : Int32)) + ((((((p0 ^^^ (-1 : Int32)) &&& (p0 - (1 : Int32))).toUInt32 >>> ((16 : Int32) &&& 31).toUInt32).toInt32).toUInt32 >>> ((1 : Int32) &&& 31).toUInt32).toInt32)))]))
            exact Owes.retI X0 hx hlk hret (hb hby d9_79) (by decide) (by decide) ⟨congrArg (fun z => some (Value.int z)) (by unfold f_ntzI; rw [if_pos hc1, if_pos hc2, if_neg hc3, if_neg hc7, if_neg hc9]; first | done | rfl), rfl, e0⟩
    · skip
      refine Owes.go ?_ fun t₀ k₀ => XS.icmpYes X0.here hx rfl (pc0 := 23) (pc' := 34) rfl (hb hby d9_23) rfl (flt hc2).2.2.2 (by decide) (by decide) k₀
      show Owes _ _ _ _ (s₁.setTop (mkF m 34 #[.val (.int ((p0 ^^^ (-1 : Int32)) &&& (p0 - (1 : Int32)))), .val (.int (1 : Int32))] []))
      refine Owes.go ?_ fun t₀ k₀ => XS.iloadN X0.here hx rfl (hb hby d9_34) rfl k₀
      show Owes _ _ _ _ (s₁.setTop (mkF m 35 #[.val (.int ((p0 ^^^ (-1 : Int32)) &&& (p0 - (1 : Int32)))), .val (.int (1 : Int32))] [(.int ((p0 ^^^ (-1 : Int32)) &&& (p0 - (1 : Int32))))]))
      refine Owes.go ?_ fun t₀ k₀ => XS.sipush X0.here hx rfl (hb hby d9_35) k₀
      show Owes _ _ _ _ (s₁.setTop (mkF m 38 #[.val (.int ((p0 ^^^ (-1 : Int32)) &&& (p0 - (1 : Int32)))), .val (.int (1 : Int32))] [(.int (256 : Int32)), (.int ((p0 ^^^ (-1 : Int32)) &&& (p0 - (1 : Int32))))]))
      by_cases hc10 : (256 : Int32) < ((p0 ^^^ (-1 : Int32)) &&& (p0 - (1 : Int32)))
      · skip
        refine Owes.go ?_ fun t₀ k₀ => XS.icmpNo X0.here hx rfl (hb hby d9_38) rfl (tlt hc10).2.2.2 k₀
        show Owes _ _ _ _ (s₁.setTop (mkF m 41 #[.val (.int ((p0 ^^^ (-1 : Int32)) &&& (p0 - (1 : Int32)))), .val (.int (1 : Int32))] []))
        refine Owes.go ?_ fun t₀ k₀ => XS.iinc X0.here hx rfl (hb hby d9_41) rfl (l' := #[.val (.int ((p0 ^^^ (-1 : Int32)) &&& (p0 - (1 : Int32)))), .val (.int ((1 : Int32) + (8 : Int32)))]) rfl k₀
        show Owes _ _ _ _ (s₁.setTop (mkF m 44 #[.val (.int ((p0 ^^^ (-1 : Int32)) &&& (p0 - (1 : Int32)))), .val (.int ((1 : Int32) + (8 : Int32)))] []))
        refine Owes.go ?_ fun t₀ k₀ => XS.iloadN X0.here hx rfl (hb hby d9_44) rfl k₀
        show Owes _ _ _ _ (s₁.setTop (mkF m 45 #[.val (.int ((p0 ^^^ (-1 : Int32)) &&& (p0 - (1 : Int32)))), .val (.int ((1 : Int32) + (8 : Int32)))] [(.int ((p0 ^^^ (-1 : Int32)) &&& (p0 - (1 : Int32))))]))
        refine Owes.go ?_ fun t₀ k₀ => XS.bipush X0.here hx rfl (hb hby d9_45) k₀
        show Owes _ _ _ _ (s₁.setTop (mkF m 47 #[.val (.int ((p0 ^^^ (-1 : Int32)) &&& (p0 - (1 : Int32)))), .val (.int ((1 : Int32) + (8 : Int32)))] [(.int (8 : Int32)), (.int ((p0 ^^^ (-1 : Int32)) &&& (p0 - (1 : Int32))))]))
        refine Owes.go ?_ fun t₀ k₀ => XS.iushr X0.here hx rfl (hb hby d9_47) rfl k₀
        show Owes _ _ _ _ (s₁.setTop (mkF m 48 #[.val (.int ((p0 ^^^ (-1 : Int32)) &&& (p0 - (1 : Int32)))), .val (.int ((1 : Int32) + (8 : Int32)))] [(.int ((((p0 ^^^ (-1 : Int32)) &&& (p0 - (1 : Int32))).toUInt32 >>> ((8 : Int32) &&& 31).toUInt32).toInt32))]))
        refine Owes.go ?_ fun t₀ k₀ => XS.istoreN X0.here hx rfl (hb hby d9_48) rfl (l' := #[.val (.int ((((p0 ^^^ (-1 : Int32)) &&& (p0 - (1 : Int32))).toUInt32 >>> ((8 : Int32) &&& 31).toUInt32).toInt32)), .val (.int ((1 : Int32) + (8 : Int32)))]) rfl k₀
        show Owes _ _ _ _ (s₁.setTop (mkF m 49 #[.val (.int ((((p0 ^^^ (-1 : Int32)) &&& (p0 - (1 : Int32))).toUInt32 >>> ((8 : Int32) &&& 31).toUInt32).toInt32)), .val (.int ((1 : Int32) + (8 : Int32)))] []))
        refine Owes.go ?_ fun t₀ k₀ => XS.iloadN X0.here hx rfl (hb hby d9_49) rfl k₀
        show Owes _ _ _ _ (s₁.setTop (mkF m 50 #[.val (.int ((((p0 ^^^ (-1 : Int32)) &&& (p0 - (1 : Int32))).toUInt32 >>> ((8 : Int32) &&& 31).toUInt32).toInt32)), .val (.int ((1 : Int32) + (8 : Int32)))] [(.int ((((p0 ^^^ (-1 : Int32)) &&& (p0 - (1 : Int32))).toUInt32 >>> ((8 : Int32) &&& 31).toUInt32).toInt32))]))
        refine Owes.go ?_ fun t₀ k₀ => XS.bipush X0.here hx rfl (hb hby d9_50) k₀
        show Owes _ _ _ _ (s₁.setTop (mkF m 52 #[.val (.int ((((p0 ^^^ (-1 : Int32)) &&& (p0 - (1 : Int32))).toUInt32 >>> ((8 : Int32) &&& 31).toUInt32).toInt32)), .val (.int ((1 : Int32) + (8 : Int32)))] [(.int (16 : Int32)), (.int ((((p0 ^^^ (-1 : Int32)) &&& (p0 - (1 : Int32))).toUInt32 >>> ((8 : Int32) &&& 31).toUInt32).toInt32))]))
        by_cases hc11 : (16 : Int32) < ((((p0 ^^^ (-1 : Int32)) &&& (p0 - (1 : Int32))).toUInt32 >>> ((8 : Int32) &&& 31).toUInt32).toInt32)
        · skip
          refine Owes.go ?_ fun t₀ k₀ => XS.icmpNo X0.here hx rfl (hb hby d9_52) rfl (tlt hc11).2.2.2 k₀
          show Owes _ _ _ _ (s₁.setTop (mkF m 55 #[.val (.int ((((p0 ^^^ (-1 : Int32)) &&& (p0 - (1 : Int32))).toUInt32 >>> ((8 : Int32) &&& 31).toUInt32).toInt32)), .val (.int ((1 : Int32) + (8 : Int32)))] []))
          refine Owes.go ?_ fun t₀ k₀ => XS.iinc X0.here hx rfl (hb hby d9_55) rfl (l' := #[.val (.int ((((p0 ^^^ (-1 : Int32)) &&& (p0 - (1 : Int32))).toUInt32 >>> ((8 : Int32) &&& 31).toUInt32).toInt32)), .val (.int (((1 : Int32) + (8 : Int32)) + (4 : Int32)))]) rfl k₀
          show Owes _ _ _ _ (s₁.setTop (mkF m 58 #[.val (.int ((((p0 ^^^ (-1 : Int32)) &&& (p0 - (1 : Int32))).toUInt32 >>> ((8 : Int32) &&& 31).toUInt32).toInt32)), .val (.int (((1 : Int32) + (8 : Int32)) + (4 : Int32)))] []))
          refine Owes.go ?_ fun t₀ k₀ => XS.iloadN X0.here hx rfl (hb hby d9_58) rfl k₀
          show Owes _ _ _ _ (s₁.setTop (mkF m 59 #[.val (.int ((((p0 ^^^ (-1 : Int32)) &&& (p0 - (1 : Int32))).toUInt32 >>> ((8 : Int32) &&& 31).toUInt32).toInt32)), .val (.int (((1 : Int32) + (8 : Int32)) + (4 : Int32)))] [(.int ((((p0 ^^^ (-1 : Int32)) &&& (p0 - (1 : Int32))).toUInt32 >>> ((8 : Int32) &&& 31).toUInt32).toInt32))]))
          refine Owes.go ?_ fun t₀ k₀ => XS.iconst X0.here hx rfl (hb hby d9_59) k₀
          show Owes _ _ _ _ (s₁.setTop (mkF m 60 #[.val (.int ((((p0 ^^^ (-1 : Int32)) &&& (p0 - (1 : Int32))).toUInt32 >>> ((8 : Int32) &&& 31).toUInt32).toInt32)), .val (.int (((1 : Int32) + (8 : Int32)) + (4 : Int32)))] [(.int (4 : Int32)), (.int ((((p0 ^^^ (-1 : Int32)) &&& (p0 - (1 : Int32))).toUInt32 >>> ((8 : Int32) &&& 31).toUInt32).toInt32))]))
          refine Owes.go ?_ fun t₀ k₀ => XS.iushr X0.here hx rfl (hb hby d9_60) rfl k₀
          show Owes _ _ _ _ (s₁.setTop (mkF m 61 #[.val (.int ((((p0 ^^^ (-1 : Int32)) &&& (p0 - (1 : Int32))).toUInt32 >>> ((8 : Int32) &&& 31).toUInt32).toInt32)), .val (.int (((1 : Int32) + (8 : Int32)) + (4 : Int32)))] [(.int ((((((p0 ^^^ (-1 : Int32)) &&& (p0 - (1 : Int32))).toUInt32 >>> ((8 : Int32) &&& 31).toUInt32).toInt32).toUInt32 >>> ((4 : Int32) &&& 31).toUInt32).toInt32))]))
          refine Owes.go ?_ fun t₀ k₀ => XS.istoreN X0.here hx rfl (hb hby d9_61) rfl (l' := #[.val (.int ((((((p0 ^^^ (-1 : Int32)) &&& (p0 - (1 : Int32))).toUInt32 >>> ((8 : Int32) &&& 31).toUInt32).toInt32).toUInt32 >>> ((4 : Int32) &&& 31).toUInt32).toInt32)), .val (.int (((1 : Int32) + (8 : Int32)) + (4 : Int32)))]) rfl k₀
          show Owes _ _ _ _ (s₁.setTop (mkF m 62 #[.val (.int ((((((p0 ^^^ (-1 : Int32)) &&& (p0 - (1 : Int32))).toUInt32 >>> ((8 : Int32) &&& 31).toUInt32).toInt32).toUInt32 >>> ((4 : Int32) &&& 31).toUInt32).toInt32)), .val (.int (((1 : Int32) + (8 : Int32)) + (4 : Int32)))] []))
          refine Owes.go ?_ fun t₀ k₀ => XS.iloadN X0.here hx rfl (hb hby d9_62) rfl k₀
          show Owes _ _ _ _ (s₁.setTop (mkF m 63 #[.val (.int ((((((p0 ^^^ (-1 : Int32)) &&& (p0 - (1 : Int32))).toUInt32 >>> ((8 : Int32) &&& 31).toUInt32).toInt32).toUInt32 >>> ((4 : Int32) &&& 31).toUInt32).toInt32)), .val (.int (((1 : Int32) + (8 : Int32)) + (4 : Int32)))] [(.int ((((((p0 ^^^ (-1 : Int32)) &&& (p0 - (1 : Int32))).toUInt32 >>> ((8 : Int32) &&& 31).toUInt32).toInt32).toUInt32 >>> ((4 : Int32) &&& 31).toUInt32).toInt32))]))
          refine Owes.go ?_ fun t₀ k₀ => XS.iconst X0.here hx rfl (hb hby d9_63) k₀
          show Owes _ _ _ _ (s₁.setTop (mkF m 64 #[.val (.int ((((((p0 ^^^ (-1 : Int32)) &&& (p0 - (1 : Int32))).toUInt32 >>> ((8 : Int32) &&& 31).toUInt32).toInt32).toUInt32 >>> ((4 : Int32) &&& 31).toUInt32).toInt32)), .val (.int (((1 : Int32) + (8 : Int32)) + (4 : Int32)))] [(.int (4 : Int32)), (.int ((((((p0 ^^^ (-1 : Int32)) &&& (p0 - (1 : Int32))).toUInt32 >>> ((8 : Int32) &&& 31).toUInt32).toInt32).toUInt32 >>> ((4 : Int32) &&& 31).toUInt32).toInt32))]))
          by_cases hc12 : (4 : Int32) < ((((((p0 ^^^ (-1 : Int32)) &&& (p0 - (1 : Int32))).toUInt32 >>> ((8 : Int32) &&& 31).toUInt32).toInt32).toUInt32 >>> ((4 : Int32) &&& 31).toUInt32).toInt32)
          · skip
            refine Owes.go ?_ fun t₀ k₀ => XS.icmpNo X0.here hx rfl (hb hby d9_64) rfl (tlt hc12).2.2.2 k₀
            show Owes _ _ _ _ (s₁.setTop (mkF m 67 #[.val (.int ((((((p0 ^^^ (-1 : Int32)) &&& (p0 - (1 : Int32))).toUInt32 >>> ((8 : Int32) &&& 31).toUInt32).toInt32).toUInt32 >>> ((4 : Int32) &&& 31).toUInt32).toInt32)), .val (.int (((1 : Int32) + (8 : Int32)) + (4 : Int32)))] []))
            refine Owes.go ?_ fun t₀ k₀ => XS.iinc X0.here hx rfl (hb hby d9_67) rfl (l' := #[.val (.int ((((((p0 ^^^ (-1 : Int32)) &&& (p0 - (1 : Int32))).toUInt32 >>> ((8 : Int32) &&& 31).toUInt32).toInt32).toUInt32 >>> ((4 : Int32) &&& 31).toUInt32).toInt32)), .val (.int ((((1 : Int32) + (8 : Int32)) + (4 : Int32)) + (2 : Int32)))]) rfl k₀
            show Owes _ _ _ _ (s₁.setTop (mkF m 70 #[.val (.int ((((((p0 ^^^ (-1 : Int32)) &&& (p0 - (1 : Int32))).toUInt32 >>> ((8 : Int32) &&& 31).toUInt32).toInt32).toUInt32 >>> ((4 : Int32) &&& 31).toUInt32).toInt32)), .val (.int ((((1 : Int32) + (8 : Int32)) + (4 : Int32)) + (2 : Int32)))] []))
            refine Owes.go ?_ fun t₀ k₀ => XS.iloadN X0.here hx rfl (hb hby d9_70) rfl k₀
            show Owes _ _ _ _ (s₁.setTop (mkF m 71 #[.val (.int ((((((p0 ^^^ (-1 : Int32)) &&& (p0 - (1 : Int32))).toUInt32 >>> ((8 : Int32) &&& 31).toUInt32).toInt32).toUInt32 >>> ((4 : Int32) &&& 31).toUInt32).toInt32)), .val (.int ((((1 : Int32) + (8 : Int32)) + (4 : Int32)) + (2 : Int32)))] [(.int ((((((p0 ^^^ (-1 : Int32)) &&& (p0 - (1 : Int32))).toUInt32 >>> ((8 : Int32) &&& 31).toUInt32).toInt32).toUInt32 >>> ((4 : Int32) &&& 31).toUInt32).toInt32))]))
            refine Owes.go ?_ fun t₀ k₀ => XS.iconst X0.here hx rfl (hb hby d9_71) k₀
            show Owes _ _ _ _ (s₁.setTop (mkF m 72 #[.val (.int ((((((p0 ^^^ (-1 : Int32)) &&& (p0 - (1 : Int32))).toUInt32 >>> ((8 : Int32) &&& 31).toUInt32).toInt32).toUInt32 >>> ((4 : Int32) &&& 31).toUInt32).toInt32)), .val (.int ((((1 : Int32) + (8 : Int32)) + (4 : Int32)) + (2 : Int32)))] [(.int (2 : Int32)), (.int ((((((p0 ^^^ (-1 : Int32)) &&& (p0 - (1 : Int32))).toUInt32 >>> ((8 : Int32) &&& 31).toUInt32).toInt32).toUInt32 >>> ((4 : Int32) &&& 31).toUInt32).toInt32))]))
            refine Owes.go ?_ fun t₀ k₀ => XS.iushr X0.here hx rfl (hb hby d9_72) rfl k₀
            show Owes _ _ _ _ (s₁.setTop (mkF m 73 #[.val (.int ((((((p0 ^^^ (-1 : Int32)) &&& (p0 - (1 : Int32))).toUInt32 >>> ((8 : Int32) &&& 31).toUInt32).toInt32).toUInt32 >>> ((4 : Int32) &&& 31).toUInt32).toInt32)), .val (.int ((((1 : Int32) + (8 : Int32)) + (4 : Int32)) + (2 : Int32)))] [(.int ((((((((p0 ^^^ (-1 : Int32)) &&& (p0 - (1 : Int32))).toUInt32 >>> ((8 : Int32) &&& 31).toUInt32).toInt32).toUInt32 >>> ((4 : Int32) &&& 31).toUInt32).toInt32).toUInt32 >>> ((2 : Int32) &&& 31).toUInt32).toInt32))]))
            refine Owes.go ?_ fun t₀ k₀ => XS.istoreN X0.here hx rfl (hb hby d9_73) rfl (l' := #[.val (.int ((((((((p0 ^^^ (-1 : Int32)) &&& (p0 - (1 : Int32))).toUInt32 >>> ((8 : Int32) &&& 31).toUInt32).toInt32).toUInt32 >>> ((4 : Int32) &&& 31).toUInt32).toInt32).toUInt32 >>> ((2 : Int32) &&& 31).toUInt32).toInt32)), .val (.int ((((1 : Int32) + (8 : Int32)) + (4 : Int32)) + (2 : Int32)))]) rfl k₀
            show Owes _ _ _ _ (s₁.setTop (mkF m 74 #[.val (.int ((((((((p0 ^^^ (-1 : Int32)) &&& (p0 - (1 : Int32))).toUInt32 >>> ((8 : Int32) &&& 31).toUInt32).toInt32).toUInt32 >>> ((4 : Int32) &&& 31).toUInt32).toInt32).toUInt32 >>> ((2 : Int32) &&& 31).toUInt32).toInt32)), .val (.int ((((1 : Int32) + (8 : Int32)) + (4 : Int32)) + (2 : Int32)))] []))
            refine Owes.go ?_ fun t₀ k₀ => XS.iloadN X0.here hx rfl (hb hby d9_74) rfl k₀
            show Owes _ _ _ _ (s₁.setTop (mkF m 75 #[.val (.int ((((((((p0 ^^^ (-1 : Int32)) &&& (p0 - (1 : Int32))).toUInt32 >>> ((8 : Int32) &&& 31).toUInt32).toInt32).toUInt32 >>> ((4 : Int32) &&& 31).toUInt32).toInt32).toUInt32 >>> ((2 : Int32) &&& 31).toUInt32).toInt32)), .val (.int ((((1 : Int32) + (8 : Int32)) + (4 : Int32)) + (2 : Int32)))] [(.int ((((1 : Int32) + (8 : Int32)) + (4 : Int32)) + (2 : Int32)))]))
            refine Owes.go ?_ fun t₀ k₀ => XS.iloadN X0.here hx rfl (hb hby d9_75) rfl k₀
            show Owes _ _ _ _ (s₁.setTop (mkF m 76 #[.val (.int ((((((((p0 ^^^ (-1 : Int32)) &&& (p0 - (1 : Int32))).toUInt32 >>> ((8 : Int32) &&& 31).toUInt32).toInt32).toUInt32 >>> ((4 : Int32) &&& 31).toUInt32).toInt32).toUInt32 >>> ((2 : Int32) &&& 31).toUInt32).toInt32)), .val (.int ((((1 : Int32) + (8 : Int32)) + (4 : Int32)) + (2 : Int32)))] [(.int ((((((((p0 ^^^ (-1 : Int32)) &&& (p0 - (1 : Int32))).toUInt32 >>> ((8 : Int32) &&& 31).toUInt32).toInt32).toUInt32 >>> ((4 : Int32) &&& 31).toUInt32).toInt32).toUInt32 >>> ((2 : Int32) &&& 31).toUInt32).toInt32)), (.int ((((1 : Int32) + (8 : Int32)) + (4 : Int32)) + (2 : Int32)))]))
            refine Owes.go ?_ fun t₀ k₀ => XS.iconst X0.here hx rfl (hb hby d9_76) k₀
            show Owes _ _ _ _ (s₁.setTop (mkF m 77 #[.val (.int ((((((((p0 ^^^ (-1 : Int32)) &&& (p0 - (1 : Int32))).toUInt32 >>> ((8 : Int32) &&& 31).toUInt32).toInt32).toUInt32 >>> ((4 : Int32) &&& 31).toUInt32).toInt32).toUInt32 >>> ((2 : Int32) &&& 31).toUInt32).toInt32)), .val (.int ((((1 : Int32) + (8 : Int32)) + (4 : Int32)) + (2 : Int32)))] [(.int (1 : Int32)), (.int ((((((((p0 ^^^ (-1 : Int32)) &&& (p0 - (1 : Int32))).toUInt32 >>> ((8 : Int32) &&& 31).toUInt32).toInt32).toUInt32 >>> ((4 : Int32) &&& 31).toUInt32).toInt32).toUInt32 >>> ((2 : Int32) &&& 31).toUInt32).toInt32)), (.int ((((1 : Int32) + (8 : Int32)) + (4 : Int32)) + (2 : Int32)))]))
            refine Owes.go ?_ fun t₀ k₀ => XS.iushr X0.here hx rfl (hb hby d9_77) rfl k₀
            show Owes _ _ _ _ (s₁.setTop (mkF m 78 #[.val (.int ((((((((p0 ^^^ (-1 : Int32)) &&& (p0 - (1 : Int32))).toUInt32 >>> ((8 : Int32) &&& 31).toUInt32).toInt32).toUInt32 >>> ((4 : Int32) &&& 31).toUInt32).toInt32).toUInt32 >>> ((2 : Int32) &&& 31).toUInt32).toInt32)), .val (.int ((((1 : Int32) + (8 : Int32)) + (4 : Int32)) + (2 : Int32)))] [(.int ((((((((((p0 ^^^ (-1 : Int32)) &&& (p0 - (1 : Int32))).toUInt32 >>> ((8 : Int32) &&& 31).toUInt32).toInt32).toUInt32 >>> ((4 : Int32) &&& 31).toUInt32).toInt32).toUInt32 >>> ((2 : Int32) &&& 31).toUInt32).toInt32).toUInt32 >>> ((1 : Int32) &&& 31).toUInt32).toInt32)), (.int ((((1 : Int32) + (8 : Int32)) + (4 : Int32)) + (2 : Int32)))]))
            refine Owes.go ?_ fun t₀ k₀ => XS.iadd X0.here hx rfl (hb hby d9_78) rfl k₀
            show Owes _ _ _ _ (s₁.setTop (mkF m 79 #[.val (.int ((((((((p0 ^^^ (-1 : Int32)) &&& (p0 - (1 : Int32))).toUInt32 >>> ((8 : Int32) &&& 31).toUInt32).toInt32).toUInt32 >>> ((4 : Int32) &&& 31).toUInt32).toInt32).toUInt32 >>> ((2 : Int32) &&& 31).toUInt32).toInt32)), .val (.int ((((1 : Int32) + (8 : Int32)) + (4 : Int32)) + (2 : Int32)))] [(.int (((((1 : Int32) + (8 : Int32)) + (4 : Int32)) + (2 : Int32)) + ((((((((((p0 ^^^ (-1 : Int32)) &&& (p0 - (1 : Int32))).toUInt32 >>> ((8 : Int32) &&& 31).toUInt32).toInt32).toUInt32 >>> ((4 : Int32) &&& 31).toUInt32).toInt32).toUInt32 >>> ((2 : Int32) &&& 31).toUInt32).toInt32).toUInt32 >>> ((1 : Int32) &&& 31).toUInt32).toInt32)))]))
            exact Owes.retI X0 hx hlk hret (hb hby d9_79) (by decide) (by decide) ⟨congrArg (fun z => some (Value.int z)) (by unfold f_ntzI; rw [if_pos hc1, if_neg hc2, if_pos hc10, if_pos hc11, if_pos hc12]; first | done | rfl), rfl, e0⟩
          · skip
            refine Owes.go ?_ fun t₀ k₀ => XS.icmpYes X0.here hx rfl (pc0 := 64) (pc' := 74) rfl (hb hby d9_64) rfl (flt hc12).2.2.2 (by decide) (by decide) k₀
            show Owes _ _ _ _ (s₁.setTop (mkF m 74 #[.val (.int ((((((p0 ^^^ (-1 : Int32)) &&& (p0 - (1 : Int32))).toUInt32 >>> ((8 : Int32) &&& 31).toUInt32).toInt32).toUInt32 >>> ((4 : Int32) &&& 31).toUInt32).toInt32)), .val (.int (((1 : Int32) + (8 : Int32)) + (4 : Int32)))] []))
            refine Owes.go ?_ fun t₀ k₀ => XS.iloadN X0.here hx rfl (hb hby d9_74) rfl k₀
            show Owes _ _ _ _ (s₁.setTop (mkF m 75 #[.val (.int ((((((p0 ^^^ (-1 : Int32)) &&& (p0 - (1 : Int32))).toUInt32 >>> ((8 : Int32) &&& 31).toUInt32).toInt32).toUInt32 >>> ((4 : Int32) &&& 31).toUInt32).toInt32)), .val (.int (((1 : Int32) + (8 : Int32)) + (4 : Int32)))] [(.int (((1 : Int32) + (8 : Int32)) + (4 : Int32)))]))
            refine Owes.go ?_ fun t₀ k₀ => XS.iloadN X0.here hx rfl (hb hby d9_75) rfl k₀
            show Owes _ _ _ _ (s₁.setTop (mkF m 76 #[.val (.int ((((((p0 ^^^ (-1 : Int32)) &&& (p0 - (1 : Int32))).toUInt32 >>> ((8 : Int32) &&& 31).toUInt32).toInt32).toUInt32 >>> ((4 : Int32) &&& 31).toUInt32).toInt32)), .val (.int (((1 : Int32) + (8 : Int32)) + (4 : Int32)))] [(.int ((((((p0 ^^^ (-1 : Int32)) &&& (p0 - (1 : Int32))).toUInt32 >>> ((8 : Int32) &&& 31).toUInt32).toInt32).toUInt32 >>> ((4 : Int32) &&& 31).toUInt32).toInt32)), (.int (((1 : Int32) + (8 : Int32)) + (4 : Int32)))]))
            refine Owes.go ?_ fun t₀ k₀ => XS.iconst X0.here hx rfl (hb hby d9_76) k₀
            show Owes _ _ _ _ (s₁.setTop (mkF m 77 #[.val (.int ((((((p0 ^^^ (-1 : Int32)) &&& (p0 - (1 : Int32))).toUInt32 >>> ((8 : Int32) &&& 31).toUInt32).toInt32).toUInt32 >>> ((4 : Int32) &&& 31).toUInt32).toInt32)), .val (.int (((1 : Int32) + (8 : Int32)) + (4 : Int32)))] [(.int (1 : Int32)), (.int ((((((p0 ^^^ (-1 : Int32)) &&& (p0 - (1 : Int32))).toUInt32 >>> ((8 : Int32) &&& 31).toUInt32).toInt32).toUInt32 >>> ((4 : Int32) &&& 31).toUInt32).toInt32)), (.int (((1 : Int32) + (8 : Int32)) + (4 : Int32)))]))
            refine Owes.go ?_ fun t₀ k₀ => XS.iushr X0.here hx rfl (hb hby d9_77) rfl k₀
            show Owes _ _ _ _ (s₁.setTop (mkF m 78 #[.val (.int ((((((p0 ^^^ (-1 : Int32)) &&& (p0 - (1 : Int32))).toUInt32 >>> ((8 : Int32) &&& 31).toUInt32).toInt32).toUInt32 >>> ((4 : Int32) &&& 31).toUInt32).toInt32)), .val (.int (((1 : Int32) + (8 : Int32)) + (4 : Int32)))] [(.int ((((((((p0 ^^^ (-1 : Int32)) &&& (p0 - (1 : Int32))).toUInt32 >>> ((8 : Int32) &&& 31).toUInt32).toInt32).toUInt32 >>> ((4 : Int32) &&& 31).toUInt32).toInt32).toUInt32 >>> ((1 : Int32) &&& 31).toUInt32).toInt32)), (.int (((1 : Int32) + (8 : Int32)) + (4 : Int32)))]))
            refine Owes.go ?_ fun t₀ k₀ => XS.iadd X0.here hx rfl (hb hby d9_78) rfl k₀
            show Owes _ _ _ _ (s₁.setTop (mkF m 79 #[.val (.int ((((((p0 ^^^ (-1 : Int32)) &&& (p0 - (1 : Int32))).toUInt32 >>> ((8 : Int32) &&& 31).toUInt32).toInt32).toUInt32 >>> ((4 : Int32) &&& 31).toUInt32).toInt32)), .val (.int (((1 : Int32) + (8 : Int32)) + (4 : Int32)))] [(.int ((((1 : Int32) + (8 : Int32)) + (4 : Int32)) + ((((((((p0 ^^^ (-1 : Int32)) &&& (p0 - (1 : Int32))).toUInt32 >>> ((8 : Int32) &&& 31).toUInt32).toInt32).toUInt32 >>> ((4 : Int32) &&& 31).toUInt32).toInt32).toUInt32 >>> ((1 : Int32) &&& 31).toUInt32).toInt32)))]))
            exact Owes.retI X0 hx hlk hret (hb hby d9_79) (by decide) (by decide) ⟨congrArg (fun z => some (Value.int z)) (by unfold f_ntzI; rw [if_pos hc1, if_neg hc2, if_pos hc10, if_pos hc11, if_neg hc12]; first | done | rfl), rfl, e0⟩
        · skip
          refine Owes.go ?_ fun t₀ k₀ => XS.icmpYes X0.here hx rfl (pc0 := 52) (pc' := 62) rfl (hb hby d9_52) rfl (flt hc11).2.2.2 (by decide) (by decide) k₀
          show Owes _ _ _ _ (s₁.setTop (mkF m 62 #[.val (.int ((((p0 ^^^ (-1 : Int32)) &&& (p0 - (1 : Int32))).toUInt32 >>> ((8 : Int32) &&& 31).toUInt32).toInt32)), .val (.int ((1 : Int32) + (8 : Int32)))] []))
          refine Owes.go ?_ fun t₀ k₀ => XS.iloadN X0.here hx rfl (hb hby d9_62) rfl k₀
          show Owes _ _ _ _ (s₁.setTop (mkF m 63 #[.val (.int ((((p0 ^^^ (-1 : Int32)) &&& (p0 - (1 : Int32))).toUInt32 >>> ((8 : Int32) &&& 31).toUInt32).toInt32)), .val (.int ((1 : Int32) + (8 : Int32)))] [(.int ((((p0 ^^^ (-1 : Int32)) &&& (p0 - (1 : Int32))).toUInt32 >>> ((8 : Int32) &&& 31).toUInt32).toInt32))]))
          refine Owes.go ?_ fun t₀ k₀ => XS.iconst X0.here hx rfl (hb hby d9_63) k₀
          show Owes _ _ _ _ (s₁.setTop (mkF m 64 #[.val (.int ((((p0 ^^^ (-1 : Int32)) &&& (p0 - (1 : Int32))).toUInt32 >>> ((8 : Int32) &&& 31).toUInt32).toInt32)), .val (.int ((1 : Int32) + (8 : Int32)))] [(.int (4 : Int32)), (.int ((((p0 ^^^ (-1 : Int32)) &&& (p0 - (1 : Int32))).toUInt32 >>> ((8 : Int32) &&& 31).toUInt32).toInt32))]))
          by_cases hc13 : (4 : Int32) < ((((p0 ^^^ (-1 : Int32)) &&& (p0 - (1 : Int32))).toUInt32 >>> ((8 : Int32) &&& 31).toUInt32).toInt32)
          · skip
            refine Owes.go ?_ fun t₀ k₀ => XS.icmpNo X0.here hx rfl (hb hby d9_64) rfl (tlt hc13).2.2.2 k₀
            show Owes _ _ _ _ (s₁.setTop (mkF m 67 #[.val (.int ((((p0 ^^^ (-1 : Int32)) &&& (p0 - (1 : Int32))).toUInt32 >>> ((8 : Int32) &&& 31).toUInt32).toInt32)), .val (.int ((1 : Int32) + (8 : Int32)))] []))
            refine Owes.go ?_ fun t₀ k₀ => XS.iinc X0.here hx rfl (hb hby d9_67) rfl (l' := #[.val (.int ((((p0 ^^^ (-1 : Int32)) &&& (p0 - (1 : Int32))).toUInt32 >>> ((8 : Int32) &&& 31).toUInt32).toInt32)), .val (.int (((1 : Int32) + (8 : Int32)) + (2 : Int32)))]) rfl k₀
            show Owes _ _ _ _ (s₁.setTop (mkF m 70 #[.val (.int ((((p0 ^^^ (-1 : Int32)) &&& (p0 - (1 : Int32))).toUInt32 >>> ((8 : Int32) &&& 31).toUInt32).toInt32)), .val (.int (((1 : Int32) + (8 : Int32)) + (2 : Int32)))] []))
            refine Owes.go ?_ fun t₀ k₀ => XS.iloadN X0.here hx rfl (hb hby d9_70) rfl k₀
            show Owes _ _ _ _ (s₁.setTop (mkF m 71 #[.val (.int ((((p0 ^^^ (-1 : Int32)) &&& (p0 - (1 : Int32))).toUInt32 >>> ((8 : Int32) &&& 31).toUInt32).toInt32)), .val (.int (((1 : Int32) + (8 : Int32)) + (2 : Int32)))] [(.int ((((p0 ^^^ (-1 : Int32)) &&& (p0 - (1 : Int32))).toUInt32 >>> ((8 : Int32) &&& 31).toUInt32).toInt32))]))
            refine Owes.go ?_ fun t₀ k₀ => XS.iconst X0.here hx rfl (hb hby d9_71) k₀
            show Owes _ _ _ _ (s₁.setTop (mkF m 72 #[.val (.int ((((p0 ^^^ (-1 : Int32)) &&& (p0 - (1 : Int32))).toUInt32 >>> ((8 : Int32) &&& 31).toUInt32).toInt32)), .val (.int (((1 : Int32) + (8 : Int32)) + (2 : Int32)))] [(.int (2 : Int32)), (.int ((((p0 ^^^ (-1 : Int32)) &&& (p0 - (1 : Int32))).toUInt32 >>> ((8 : Int32) &&& 31).toUInt32).toInt32))]))
            refine Owes.go ?_ fun t₀ k₀ => XS.iushr X0.here hx rfl (hb hby d9_72) rfl k₀
            show Owes _ _ _ _ (s₁.setTop (mkF m 73 #[.val (.int ((((p0 ^^^ (-1 : Int32)) &&& (p0 - (1 : Int32))).toUInt32 >>> ((8 : Int32) &&& 31).toUInt32).toInt32)), .val (.int (((1 : Int32) + (8 : Int32)) + (2 : Int32)))] [(.int ((((((p0 ^^^ (-1 : Int32)) &&& (p0 - (1 : Int32))).toUInt32 >>> ((8 : Int32) &&& 31).toUInt32).toInt32).toUInt32 >>> ((2 : Int32) &&& 31).toUInt32).toInt32))]))
            refine Owes.go ?_ fun t₀ k₀ => XS.istoreN X0.here hx rfl (hb hby d9_73) rfl (l' := #[.val (.int ((((((p0 ^^^ (-1 : Int32)) &&& (p0 - (1 : Int32))).toUInt32 >>> ((8 : Int32) &&& 31).toUInt32).toInt32).toUInt32 >>> ((2 : Int32) &&& 31).toUInt32).toInt32)), .val (.int (((1 : Int32) + (8 : Int32)) + (2 : Int32)))]) rfl k₀
            show Owes _ _ _ _ (s₁.setTop (mkF m 74 #[.val (.int ((((((p0 ^^^ (-1 : Int32)) &&& (p0 - (1 : Int32))).toUInt32 >>> ((8 : Int32) &&& 31).toUInt32).toInt32).toUInt32 >>> ((2 : Int32) &&& 31).toUInt32).toInt32)), .val (.int (((1 : Int32) + (8 : Int32)) + (2 : Int32)))] []))
            refine Owes.go ?_ fun t₀ k₀ => XS.iloadN X0.here hx rfl (hb hby d9_74) rfl k₀
            show Owes _ _ _ _ (s₁.setTop (mkF m 75 #[.val (.int ((((((p0 ^^^ (-1 : Int32)) &&& (p0 - (1 : Int32))).toUInt32 >>> ((8 : Int32) &&& 31).toUInt32).toInt32).toUInt32 >>> ((2 : Int32) &&& 31).toUInt32).toInt32)), .val (.int (((1 : Int32) + (8 : Int32)) + (2 : Int32)))] [(.int (((1 : Int32) + (8 : Int32)) + (2 : Int32)))]))
            refine Owes.go ?_ fun t₀ k₀ => XS.iloadN X0.here hx rfl (hb hby d9_75) rfl k₀
            show Owes _ _ _ _ (s₁.setTop (mkF m 76 #[.val (.int ((((((p0 ^^^ (-1 : Int32)) &&& (p0 - (1 : Int32))).toUInt32 >>> ((8 : Int32) &&& 31).toUInt32).toInt32).toUInt32 >>> ((2 : Int32) &&& 31).toUInt32).toInt32)), .val (.int (((1 : Int32) + (8 : Int32)) + (2 : Int32)))] [(.int ((((((p0 ^^^ (-1 : Int32)) &&& (p0 - (1 : Int32))).toUInt32 >>> ((8 : Int32) &&& 31).toUInt32).toInt32).toUInt32 >>> ((2 : Int32) &&& 31).toUInt32).toInt32)), (.int (((1 : Int32) + (8 : Int32)) + (2 : Int32)))]))
            refine Owes.go ?_ fun t₀ k₀ => XS.iconst X0.here hx rfl (hb hby d9_76) k₀
            show Owes _ _ _ _ (s₁.setTop (mkF m 77 #[.val (.int ((((((p0 ^^^ (-1 : Int32)) &&& (p0 - (1 : Int32))).toUInt32 >>> ((8 : Int32) &&& 31).toUInt32).toInt32).toUInt32 >>> ((2 : Int32) &&& 31).toUInt32).toInt32)), .val (.int (((1 : Int32) + (8 : Int32)) + (2 : Int32)))] [(.int (1 : Int32)), (.int ((((((p0 ^^^ (-1 : Int32)) &&& (p0 - (1 : Int32))).toUInt32 >>> ((8 : Int32) &&& 31).toUInt32).toInt32).toUInt32 >>> ((2 : Int32) &&& 31).toUInt32).toInt32)), (.int (((1 : Int32) + (8 : Int32)) + (2 : Int32)))]))
            refine Owes.go ?_ fun t₀ k₀ => XS.iushr X0.here hx rfl (hb hby d9_77) rfl k₀
            show Owes _ _ _ _ (s₁.setTop (mkF m 78 #[.val (.int ((((((p0 ^^^ (-1 : Int32)) &&& (p0 - (1 : Int32))).toUInt32 >>> ((8 : Int32) &&& 31).toUInt32).toInt32).toUInt32 >>> ((2 : Int32) &&& 31).toUInt32).toInt32)), .val (.int (((1 : Int32) + (8 : Int32)) + (2 : Int32)))] [(.int ((((((((p0 ^^^ (-1 : Int32)) &&& (p0 - (1 : Int32))).toUInt32 >>> ((8 : Int32) &&& 31).toUInt32).toInt32).toUInt32 >>> ((2 : Int32) &&& 31).toUInt32).toInt32).toUInt32 >>> ((1 : Int32) &&& 31).toUInt32).toInt32)), (.int (((1 : Int32) + (8 : Int32)) + (2 : Int32)))]))
            refine Owes.go ?_ fun t₀ k₀ => XS.iadd X0.here hx rfl (hb hby d9_78) rfl k₀
            show Owes _ _ _ _ (s₁.setTop (mkF m 79 #[.val (.int ((((((p0 ^^^ (-1 : Int32)) &&& (p0 - (1 : Int32))).toUInt32 >>> ((8 : Int32) &&& 31).toUInt32).toInt32).toUInt32 >>> ((2 : Int32) &&& 31).toUInt32).toInt32)), .val (.int (((1 : Int32) + (8 : Int32)) + (2 : Int32)))] [(.int ((((1 : Int32) + (8 : Int32)) + (2 : Int32)) + ((((((((p0 ^^^ (-1 : Int32)) &&& (p0 - (1 : Int32))).toUInt32 >>> ((8 : Int32) &&& 31).toUInt32).toInt32).toUInt32 >>> ((2 : Int32) &&& 31).toUInt32).toInt32).toUInt32 >>> ((1 : Int32) &&& 31).toUInt32).toInt32)))]))
            exact Owes.retI X0 hx hlk hret (hb hby d9_79) (by decide) (by decide) ⟨congrArg (fun z => some (Value.int z)) (by unfold f_ntzI; rw [if_pos hc1, if_neg hc2, if_pos hc10, if_neg hc11, if_pos hc13]; first | done | rfl), rfl, e0⟩
          · skip
            refine Owes.go ?_ fun t₀ k₀ => XS.icmpYes X0.here hx rfl (pc0 := 64) (pc' := 74) rfl (hb hby d9_64) rfl (flt hc13).2.2.2 (by decide) (by decide) k₀
            show Owes _ _ _ _ (s₁.setTop (mkF m 74 #[.val (.int ((((p0 ^^^ (-1 : Int32)) &&& (p0 - (1 : Int32))).toUInt32 >>> ((8 : Int32) &&& 31).toUInt32).toInt32)), .val (.int ((1 : Int32) + (8 : Int32)))] []))
            refine Owes.go ?_ fun t₀ k₀ => XS.iloadN X0.here hx rfl (hb hby d9_74) rfl k₀
            show Owes _ _ _ _ (s₁.setTop (mkF m 75 #[.val (.int ((((p0 ^^^ (-1 : Int32)) &&& (p0 - (1 : Int32))).toUInt32 >>> ((8 : Int32) &&& 31).toUInt32).toInt32)), .val (.int ((1 : Int32) + (8 : Int32)))] [(.int ((1 : Int32) + (8 : Int32)))]))
            refine Owes.go ?_ fun t₀ k₀ => XS.iloadN X0.here hx rfl (hb hby d9_75) rfl k₀
            show Owes _ _ _ _ (s₁.setTop (mkF m 76 #[.val (.int ((((p0 ^^^ (-1 : Int32)) &&& (p0 - (1 : Int32))).toUInt32 >>> ((8 : Int32) &&& 31).toUInt32).toInt32)), .val (.int ((1 : Int32) + (8 : Int32)))] [(.int ((((p0 ^^^ (-1 : Int32)) &&& (p0 - (1 : Int32))).toUInt32 >>> ((8 : Int32) &&& 31).toUInt32).toInt32)), (.int ((1 : Int32) + (8 : Int32)))]))
            refine Owes.go ?_ fun t₀ k₀ => XS.iconst X0.here hx rfl (hb hby d9_76) k₀
            show Owes _ _ _ _ (s₁.setTop (mkF m 77 #[.val (.int ((((p0 ^^^ (-1 : Int32)) &&& (p0 - (1 : Int32))).toUInt32 >>> ((8 : Int32) &&& 31).toUInt32).toInt32)), .val (.int ((1 : Int32) + (8 : Int32)))] [(.int (1 : Int32)), (.int ((((p0 ^^^ (-1 : Int32)) &&& (p0 - (1 : Int32))).toUInt32 >>> ((8 : Int32) &&& 31).toUInt32).toInt32)), (.int ((1 : Int32) + (8 : Int32)))]))
            refine Owes.go ?_ fun t₀ k₀ => XS.iushr X0.here hx rfl (hb hby d9_77) rfl k₀
            show Owes _ _ _ _ (s₁.setTop (mkF m 78 #[.val (.int ((((p0 ^^^ (-1 : Int32)) &&& (p0 - (1 : Int32))).toUInt32 >>> ((8 : Int32) &&& 31).toUInt32).toInt32)), .val (.int ((1 : Int32) + (8 : Int32)))] [(.int ((((((p0 ^^^ (-1 : Int32)) &&& (p0 - (1 : Int32))).toUInt32 >>> ((8 : Int32) &&& 31).toUInt32).toInt32).toUInt32 >>> ((1 : Int32) &&& 31).toUInt32).toInt32)), (.int ((1 : Int32) + (8 : Int32)))]))
            refine Owes.go ?_ fun t₀ k₀ => XS.iadd X0.here hx rfl (hb hby d9_78) rfl k₀
            show Owes _ _ _ _ (s₁.setTop (mkF m 79 #[.val (.int ((((p0 ^^^ (-1 : Int32)) &&& (p0 - (1 : Int32))).toUInt32 >>> ((8 : Int32) &&& 31).toUInt32).toInt32)), .val (.int ((1 : Int32) + (8 : Int32)))] [(.int (((1 : Int32) + (8 : Int32)) + ((((((p0 ^^^ (-1 : Int32)) &&& (p0 - (1 : Int32))).toUInt32 >>> ((8 : Int32) &&& 31).toUInt32).toInt32).toUInt32 >>> ((1 : Int32) &&& 31).toUInt32).toInt32)))]))
            exact Owes.retI X0 hx hlk hret (hb hby d9_79) (by decide) (by decide) ⟨congrArg (fun z => some (Value.int z)) (by unfold f_ntzI; rw [if_pos hc1, if_neg hc2, if_pos hc10, if_neg hc11, if_neg hc13]; first | done | rfl), rfl, e0⟩
      · skip
        refine Owes.go ?_ fun t₀ k₀ => XS.icmpYes X0.here hx rfl (pc0 := 38) (pc' := 49) rfl (hb hby d9_38) rfl (flt hc10).2.2.2 (by decide) (by decide) k₀
        show Owes _ _ _ _ (s₁.setTop (mkF m 49 #[.val (.int ((p0 ^^^ (-1 : Int32)) &&& (p0 - (1 : Int32)))), .val (.int (1 : Int32))] []))
        refine Owes.go ?_ fun t₀ k₀ => XS.iloadN X0.here hx rfl (hb hby d9_49) rfl k₀
        show Owes _ _ _ _ (s₁.setTop (mkF m 50 #[.val (.int ((p0 ^^^ (-1 : Int32)) &&& (p0 - (1 : Int32)))), .val (.int (1 : Int32))] [(.int ((p0 ^^^ (-1 : Int32)) &&& (p0 - (1 : Int32))))]))
        refine Owes.go ?_ fun t₀ k₀ => XS.bipush X0.here hx rfl (hb hby d9_50) k₀
        show Owes _ _ _ _ (s₁.setTop (mkF m 52 #[.val (.int ((p0 ^^^ (-1 : Int32)) &&& (p0 - (1 : Int32)))), .val (.int (1 : Int32))] [(.int (16 : Int32)), (.int ((p0 ^^^ (-1 : Int32)) &&& (p0 - (1 : Int32))))]))
        by_cases hc14 : (16 : Int32) < ((p0 ^^^ (-1 : Int32)) &&& (p0 - (1 : Int32)))
        · skip
          refine Owes.go ?_ fun t₀ k₀ => XS.icmpNo X0.here hx rfl (hb hby d9_52) rfl (tlt hc14).2.2.2 k₀
          show Owes _ _ _ _ (s₁.setTop (mkF m 55 #[.val (.int ((p0 ^^^ (-1 : Int32)) &&& (p0 - (1 : Int32)))), .val (.int (1 : Int32))] []))
          refine Owes.go ?_ fun t₀ k₀ => XS.iinc X0.here hx rfl (hb hby d9_55) rfl (l' := #[.val (.int ((p0 ^^^ (-1 : Int32)) &&& (p0 - (1 : Int32)))), .val (.int ((1 : Int32) + (4 : Int32)))]) rfl k₀
          show Owes _ _ _ _ (s₁.setTop (mkF m 58 #[.val (.int ((p0 ^^^ (-1 : Int32)) &&& (p0 - (1 : Int32)))), .val (.int ((1 : Int32) + (4 : Int32)))] []))
          refine Owes.go ?_ fun t₀ k₀ => XS.iloadN X0.here hx rfl (hb hby d9_58) rfl k₀
          show Owes _ _ _ _ (s₁.setTop (mkF m 59 #[.val (.int ((p0 ^^^ (-1 : Int32)) &&& (p0 - (1 : Int32)))), .val (.int ((1 : Int32) + (4 : Int32)))] [(.int ((p0 ^^^ (-1 : Int32)) &&& (p0 - (1 : Int32))))]))
          refine Owes.go ?_ fun t₀ k₀ => XS.iconst X0.here hx rfl (hb hby d9_59) k₀
          show Owes _ _ _ _ (s₁.setTop (mkF m 60 #[.val (.int ((p0 ^^^ (-1 : Int32)) &&& (p0 - (1 : Int32)))), .val (.int ((1 : Int32) + (4 : Int32)))] [(.int (4 : Int32)), (.int ((p0 ^^^ (-1 : Int32)) &&& (p0 - (1 : Int32))))]))
          refine Owes.go ?_ fun t₀ k₀ => XS.iushr X0.here hx rfl (hb hby d9_60) rfl k₀
          show Owes _ _ _ _ (s₁.setTop (mkF m 61 #[.val (.int ((p0 ^^^ (-1 : Int32)) &&& (p0 - (1 : Int32)))), .val (.int ((1 : Int32) + (4 : Int32)))] [(.int ((((p0 ^^^ (-1 : Int32)) &&& (p0 - (1 : Int32))).toUInt32 >>> ((4 : Int32) &&& 31).toUInt32).toInt32))]))
          refine Owes.go ?_ fun t₀ k₀ => XS.istoreN X0.here hx rfl (hb hby d9_61) rfl (l' := #[.val (.int ((((p0 ^^^ (-1 : Int32)) &&& (p0 - (1 : Int32))).toUInt32 >>> ((4 : Int32) &&& 31).toUInt32).toInt32)), .val (.int ((1 : Int32) + (4 : Int32)))]) rfl k₀
          show Owes _ _ _ _ (s₁.setTop (mkF m 62 #[.val (.int ((((p0 ^^^ (-1 : Int32)) &&& (p0 - (1 : Int32))).toUInt32 >>> ((4 : Int32) &&& 31).toUInt32).toInt32)), .val (.int ((1 : Int32) + (4 : Int32)))] []))
          refine Owes.go ?_ fun t₀ k₀ => XS.iloadN X0.here hx rfl (hb hby d9_62) rfl k₀
          show Owes _ _ _ _ (s₁.setTop (mkF m 63 #[.val (.int ((((p0 ^^^ (-1 : Int32)) &&& (p0 - (1 : Int32))).toUInt32 >>> ((4 : Int32) &&& 31).toUInt32).toInt32)), .val (.int ((1 : Int32) + (4 : Int32)))] [(.int ((((p0 ^^^ (-1 : Int32)) &&& (p0 - (1 : Int32))).toUInt32 >>> ((4 : Int32) &&& 31).toUInt32).toInt32))]))
          refine Owes.go ?_ fun t₀ k₀ => XS.iconst X0.here hx rfl (hb hby d9_63) k₀
          show Owes _ _ _ _ (s₁.setTop (mkF m 64 #[.val (.int ((((p0 ^^^ (-1 : Int32)) &&& (p0 - (1 : Int32))).toUInt32 >>> ((4 : Int32) &&& 31).toUInt32).toInt32)), .val (.int ((1 : Int32) + (4 : Int32)))] [(.int (4 : Int32)), (.int ((((p0 ^^^ (-1 : Int32)) &&& (p0 - (1 : Int32))).toUInt32 >>> ((4 : Int32) &&& 31).toUInt32).toInt32))]))
          by_cases hc15 : (4 : Int32) < ((((p0 ^^^ (-1 : Int32)) &&& (p0 - (1 : Int32))).toUInt32 >>> ((4 : Int32) &&& 31).toUInt32).toInt32)
          · skip
            refine Owes.go ?_ fun t₀ k₀ => XS.icmpNo X0.here hx rfl (hb hby d9_64) rfl (tlt hc15).2.2.2 k₀
            show Owes _ _ _ _ (s₁.setTop (mkF m 67 #[.val (.int ((((p0 ^^^ (-1 : Int32)) &&& (p0 - (1 : Int32))).toUInt32 >>> ((4 : Int32) &&& 31).toUInt32).toInt32)), .val (.int ((1 : Int32) + (4 : Int32)))] []))
            refine Owes.go ?_ fun t₀ k₀ => XS.iinc X0.here hx rfl (hb hby d9_67) rfl (l' := #[.val (.int ((((p0 ^^^ (-1 : Int32)) &&& (p0 - (1 : Int32))).toUInt32 >>> ((4 : Int32) &&& 31).toUInt32).toInt32)), .val (.int (((1 : Int32) + (4 : Int32)) + (2 : Int32)))]) rfl k₀
            show Owes _ _ _ _ (s₁.setTop (mkF m 70 #[.val (.int ((((p0 ^^^ (-1 : Int32)) &&& (p0 - (1 : Int32))).toUInt32 >>> ((4 : Int32) &&& 31).toUInt32).toInt32)), .val (.int (((1 : Int32) + (4 : Int32)) + (2 : Int32)))] []))
            refine Owes.go ?_ fun t₀ k₀ => XS.iloadN X0.here hx rfl (hb hby d9_70) rfl k₀
            show Owes _ _ _ _ (s₁.setTop (mkF m 71 #[.val (.int ((((p0 ^^^ (-1 : Int32)) &&& (p0 - (1 : Int32))).toUInt32 >>> ((4 : Int32) &&& 31).toUInt32).toInt32)), .val (.int (((1 : Int32) + (4 : Int32)) + (2 : Int32)))] [(.int ((((p0 ^^^ (-1 : Int32)) &&& (p0 - (1 : Int32))).toUInt32 >>> ((4 : Int32) &&& 31).toUInt32).toInt32))]))
            refine Owes.go ?_ fun t₀ k₀ => XS.iconst X0.here hx rfl (hb hby d9_71) k₀
            show Owes _ _ _ _ (s₁.setTop (mkF m 72 #[.val (.int ((((p0 ^^^ (-1 : Int32)) &&& (p0 - (1 : Int32))).toUInt32 >>> ((4 : Int32) &&& 31).toUInt32).toInt32)), .val (.int (((1 : Int32) + (4 : Int32)) + (2 : Int32)))] [(.int (2 : Int32)), (.int ((((p0 ^^^ (-1 : Int32)) &&& (p0 - (1 : Int32))).toUInt32 >>> ((4 : Int32) &&& 31).toUInt32).toInt32))]))
            refine Owes.go ?_ fun t₀ k₀ => XS.iushr X0.here hx rfl (hb hby d9_72) rfl k₀
            show Owes _ _ _ _ (s₁.setTop (mkF m 73 #[.val (.int ((((p0 ^^^ (-1 : Int32)) &&& (p0 - (1 : Int32))).toUInt32 >>> ((4 : Int32) &&& 31).toUInt32).toInt32)), .val (.int (((1 : Int32) + (4 : Int32)) + (2 : Int32)))] [(.int ((((((p0 ^^^ (-1 : Int32)) &&& (p0 - (1 : Int32))).toUInt32 >>> ((4 : Int32) &&& 31).toUInt32).toInt32).toUInt32 >>> ((2 : Int32) &&& 31).toUInt32).toInt32))]))
            refine Owes.go ?_ fun t₀ k₀ => XS.istoreN X0.here hx rfl (hb hby d9_73) rfl (l' := #[.val (.int ((((((p0 ^^^ (-1 : Int32)) &&& (p0 - (1 : Int32))).toUInt32 >>> ((4 : Int32) &&& 31).toUInt32).toInt32).toUInt32 >>> ((2 : Int32) &&& 31).toUInt32).toInt32)), .val (.int (((1 : Int32) + (4 : Int32)) + (2 : Int32)))]) rfl k₀
            show Owes _ _ _ _ (s₁.setTop (mkF m 74 #[.val (.int ((((((p0 ^^^ (-1 : Int32)) &&& (p0 - (1 : Int32))).toUInt32 >>> ((4 : Int32) &&& 31).toUInt32).toInt32).toUInt32 >>> ((2 : Int32) &&& 31).toUInt32).toInt32)), .val (.int (((1 : Int32) + (4 : Int32)) + (2 : Int32)))] []))
            refine Owes.go ?_ fun t₀ k₀ => XS.iloadN X0.here hx rfl (hb hby d9_74) rfl k₀
            show Owes _ _ _ _ (s₁.setTop (mkF m 75 #[.val (.int ((((((p0 ^^^ (-1 : Int32)) &&& (p0 - (1 : Int32))).toUInt32 >>> ((4 : Int32) &&& 31).toUInt32).toInt32).toUInt32 >>> ((2 : Int32) &&& 31).toUInt32).toInt32)), .val (.int (((1 : Int32) + (4 : Int32)) + (2 : Int32)))] [(.int (((1 : Int32) + (4 : Int32)) + (2 : Int32)))]))
            refine Owes.go ?_ fun t₀ k₀ => XS.iloadN X0.here hx rfl (hb hby d9_75) rfl k₀
            show Owes _ _ _ _ (s₁.setTop (mkF m 76 #[.val (.int ((((((p0 ^^^ (-1 : Int32)) &&& (p0 - (1 : Int32))).toUInt32 >>> ((4 : Int32) &&& 31).toUInt32).toInt32).toUInt32 >>> ((2 : Int32) &&& 31).toUInt32).toInt32)), .val (.int (((1 : Int32) + (4 : Int32)) + (2 : Int32)))] [(.int ((((((p0 ^^^ (-1 : Int32)) &&& (p0 - (1 : Int32))).toUInt32 >>> ((4 : Int32) &&& 31).toUInt32).toInt32).toUInt32 >>> ((2 : Int32) &&& 31).toUInt32).toInt32)), (.int (((1 : Int32) + (4 : Int32)) + (2 : Int32)))]))
            refine Owes.go ?_ fun t₀ k₀ => XS.iconst X0.here hx rfl (hb hby d9_76) k₀
            show Owes _ _ _ _ (s₁.setTop (mkF m 77 #[.val (.int ((((((p0 ^^^ (-1 : Int32)) &&& (p0 - (1 : Int32))).toUInt32 >>> ((4 : Int32) &&& 31).toUInt32).toInt32).toUInt32 >>> ((2 : Int32) &&& 31).toUInt32).toInt32)), .val (.int (((1 : Int32) + (4 : Int32)) + (2 : Int32)))] [(.int (1 : Int32)), (.int ((((((p0 ^^^ (-1 : Int32)) &&& (p0 - (1 : Int32))).toUInt32 >>> ((4 : Int32) &&& 31).toUInt32).toInt32).toUInt32 >>> ((2 : Int32) &&& 31).toUInt32).toInt32)), (.int (((1 : Int32) + (4 : Int32)) + (2 : Int32)))]))
            refine Owes.go ?_ fun t₀ k₀ => XS.iushr X0.here hx rfl (hb hby d9_77) rfl k₀
            show Owes _ _ _ _ (s₁.setTop (mkF m 78 #[.val (.int ((((((p0 ^^^ (-1 : Int32)) &&& (p0 - (1 : Int32))).toUInt32 >>> ((4 : Int32) &&& 31).toUInt32).toInt32).toUInt32 >>> ((2 : Int32) &&& 31).toUInt32).toInt32)), .val (.int (((1 : Int32) + (4 : Int32)) + (2 : Int32)))] [(.int ((((((((p0 ^^^ (-1 : Int32)) &&& (p0 - (1 : Int32))).toUInt32 >>> ((4 : Int32) &&& 31).toUInt32).toInt32).toUInt32 >>> ((2 : Int32) &&& 31).toUInt32).toInt32).toUInt32 >>> ((1 : Int32) &&& 31).toUInt32).toInt32)), (.int (((1 : Int32) + (4 : Int32)) + (2 : Int32)))]))
            refine Owes.go ?_ fun t₀ k₀ => XS.iadd X0.here hx rfl (hb hby d9_78) rfl k₀
            show Owes _ _ _ _ (s₁.setTop (mkF m 79 #[.val (.int ((((((p0 ^^^ (-1 : Int32)) &&& (p0 - (1 : Int32))).toUInt32 >>> ((4 : Int32) &&& 31).toUInt32).toInt32).toUInt32 >>> ((2 : Int32) &&& 31).toUInt32).toInt32)), .val (.int (((1 : Int32) + (4 : Int32)) + (2 : Int32)))] [(.int ((((1 : Int32) + (4 : Int32)) + (2 : Int32)) + ((((((((p0 ^^^ (-1 : Int32)) &&& (p0 - (1 : Int32))).toUInt32 >>> ((4 : Int32) &&& 31).toUInt32).toInt32).toUInt32 >>> ((2 : Int32) &&& 31).toUInt32).toInt32).toUInt32 >>> ((1 : Int32) &&& 31).toUInt32).toInt32)))]))
            exact Owes.retI X0 hx hlk hret (hb hby d9_79) (by decide) (by decide) ⟨congrArg (fun z => some (Value.int z)) (by unfold f_ntzI; rw [if_pos hc1, if_neg hc2, if_neg hc10, if_pos hc14, if_pos hc15]; first | done | rfl), rfl, e0⟩
          · skip
            refine Owes.go ?_ fun t₀ k₀ => XS.icmpYes X0.here hx rfl (pc0 := 64) (pc' := 74) rfl (hb hby d9_64) rfl (flt hc15).2.2.2 (by decide) (by decide) k₀
            show Owes _ _ _ _ (s₁.setTop (mkF m 74 #[.val (.int ((((p0 ^^^ (-1 : Int32)) &&& (p0 - (1 : Int32))).toUInt32 >>> ((4 : Int32) &&& 31).toUInt32).toInt32)), .val (.int ((1 : Int32) + (4 : Int32)))] []))
            refine Owes.go ?_ fun t₀ k₀ => XS.iloadN X0.here hx rfl (hb hby d9_74) rfl k₀
            show Owes _ _ _ _ (s₁.setTop (mkF m 75 #[.val (.int ((((p0 ^^^ (-1 : Int32)) &&& (p0 - (1 : Int32))).toUInt32 >>> ((4 : Int32) &&& 31).toUInt32).toInt32)), .val (.int ((1 : Int32) + (4 : Int32)))] [(.int ((1 : Int32) + (4 : Int32)))]))
            refine Owes.go ?_ fun t₀ k₀ => XS.iloadN X0.here hx rfl (hb hby d9_75) rfl k₀
            show Owes _ _ _ _ (s₁.setTop (mkF m 76 #[.val (.int ((((p0 ^^^ (-1 : Int32)) &&& (p0 - (1 : Int32))).toUInt32 >>> ((4 : Int32) &&& 31).toUInt32).toInt32)), .val (.int ((1 : Int32) + (4 : Int32)))] [(.int ((((p0 ^^^ (-1 : Int32)) &&& (p0 - (1 : Int32))).toUInt32 >>> ((4 : Int32) &&& 31).toUInt32).toInt32)), (.int ((1 : Int32) + (4 : Int32)))]))
            refine Owes.go ?_ fun t₀ k₀ => XS.iconst X0.here hx rfl (hb hby d9_76) k₀
            show Owes _ _ _ _ (s₁.setTop (mkF m 77 #[.val (.int ((((p0 ^^^ (-1 : Int32)) &&& (p0 - (1 : Int32))).toUInt32 >>> ((4 : Int32) &&& 31).toUInt32).toInt32)), .val (.int ((1 : Int32) + (4 : Int32)))] [(.int (1 : Int32)), (.int ((((p0 ^^^ (-1 : Int32)) &&& (p0 - (1 : Int32))).toUInt32 >>> ((4 : Int32) &&& 31).toUInt32).toInt32)), (.int ((1 : Int32) + (4 : Int32)))]))
            refine Owes.go ?_ fun t₀ k₀ => XS.iushr X0.here hx rfl (hb hby d9_77) rfl k₀
            show Owes _ _ _ _ (s₁.setTop (mkF m 78 #[.val (.int ((((p0 ^^^ (-1 : Int32)) &&& (p0 - (1 : Int32))).toUInt32 >>> ((4 : Int32) &&& 31).toUInt32).toInt32)), .val (.int ((1 : Int32) + (4 : Int32)))] [(.int ((((((p0 ^^^ (-1 : Int32)) &&& (p0 - (1 : Int32))).toUInt32 >>> ((4 : Int32) &&& 31).toUInt32).toInt32).toUInt32 >>> ((1 : Int32) &&& 31).toUInt32).toInt32)), (.int ((1 : Int32) + (4 : Int32)))]))
            refine Owes.go ?_ fun t₀ k₀ => XS.iadd X0.here hx rfl (hb hby d9_78) rfl k₀
            show Owes _ _ _ _ (s₁.setTop (mkF m 79 #[.val (.int ((((p0 ^^^ (-1 : Int32)) &&& (p0 - (1 : Int32))).toUInt32 >>> ((4 : Int32) &&& 31).toUInt32).toInt32)), .val (.int ((1 : Int32) + (4 : Int32)))] [(.int (((1 : Int32) + (4 : Int32)) + ((((((p0 ^^^ (-1 : Int32)) &&& (p0 - (1 : Int32))).toUInt32 >>> ((4 : Int32) &&& 31).toUInt32).toInt32).toUInt32 >>> ((1 : Int32) &&& 31).toUInt32).toInt32)))]))
            exact Owes.retI X0 hx hlk hret (hb hby d9_79) (by decide) (by decide) ⟨congrArg (fun z => some (Value.int z)) (by unfold f_ntzI; rw [if_pos hc1, if_neg hc2, if_neg hc10, if_pos hc14, if_neg hc15]; first | done | rfl), rfl, e0⟩
        · skip
          refine Owes.go ?_ fun t₀ k₀ => XS.icmpYes X0.here hx rfl (pc0 := 52) (pc' := 62) rfl (hb hby d9_52) rfl (flt hc14).2.2.2 (by decide) (by decide) k₀
          show Owes _ _ _ _ (s₁.setTop (mkF m 62 #[.val (.int ((p0 ^^^ (-1 : Int32)) &&& (p0 - (1 : Int32)))), .val (.int (1 : Int32))] []))
          refine Owes.go ?_ fun t₀ k₀ => XS.iloadN X0.here hx rfl (hb hby d9_62) rfl k₀
          show Owes _ _ _ _ (s₁.setTop (mkF m 63 #[.val (.int ((p0 ^^^ (-1 : Int32)) &&& (p0 - (1 : Int32)))), .val (.int (1 : Int32))] [(.int ((p0 ^^^ (-1 : Int32)) &&& (p0 - (1 : Int32))))]))
          refine Owes.go ?_ fun t₀ k₀ => XS.iconst X0.here hx rfl (hb hby d9_63) k₀
          show Owes _ _ _ _ (s₁.setTop (mkF m 64 #[.val (.int ((p0 ^^^ (-1 : Int32)) &&& (p0 - (1 : Int32)))), .val (.int (1 : Int32))] [(.int (4 : Int32)), (.int ((p0 ^^^ (-1 : Int32)) &&& (p0 - (1 : Int32))))]))
          by_cases hc16 : (4 : Int32) < ((p0 ^^^ (-1 : Int32)) &&& (p0 - (1 : Int32)))
          · skip
            refine Owes.go ?_ fun t₀ k₀ => XS.icmpNo X0.here hx rfl (hb hby d9_64) rfl (tlt hc16).2.2.2 k₀
            show Owes _ _ _ _ (s₁.setTop (mkF m 67 #[.val (.int ((p0 ^^^ (-1 : Int32)) &&& (p0 - (1 : Int32)))), .val (.int (1 : Int32))] []))
            refine Owes.go ?_ fun t₀ k₀ => XS.iinc X0.here hx rfl (hb hby d9_67) rfl (l' := #[.val (.int ((p0 ^^^ (-1 : Int32)) &&& (p0 - (1 : Int32)))), .val (.int ((1 : Int32) + (2 : Int32)))]) rfl k₀
            show Owes _ _ _ _ (s₁.setTop (mkF m 70 #[.val (.int ((p0 ^^^ (-1 : Int32)) &&& (p0 - (1 : Int32)))), .val (.int ((1 : Int32) + (2 : Int32)))] []))
            refine Owes.go ?_ fun t₀ k₀ => XS.iloadN X0.here hx rfl (hb hby d9_70) rfl k₀
            show Owes _ _ _ _ (s₁.setTop (mkF m 71 #[.val (.int ((p0 ^^^ (-1 : Int32)) &&& (p0 - (1 : Int32)))), .val (.int ((1 : Int32) + (2 : Int32)))] [(.int ((p0 ^^^ (-1 : Int32)) &&& (p0 - (1 : Int32))))]))
            refine Owes.go ?_ fun t₀ k₀ => XS.iconst X0.here hx rfl (hb hby d9_71) k₀
            show Owes _ _ _ _ (s₁.setTop (mkF m 72 #[.val (.int ((p0 ^^^ (-1 : Int32)) &&& (p0 - (1 : Int32)))), .val (.int ((1 : Int32) + (2 : Int32)))] [(.int (2 : Int32)), (.int ((p0 ^^^ (-1 : Int32)) &&& (p0 - (1 : Int32))))]))
            refine Owes.go ?_ fun t₀ k₀ => XS.iushr X0.here hx rfl (hb hby d9_72) rfl k₀
            show Owes _ _ _ _ (s₁.setTop (mkF m 73 #[.val (.int ((p0 ^^^ (-1 : Int32)) &&& (p0 - (1 : Int32)))), .val (.int ((1 : Int32) + (2 : Int32)))] [(.int ((((p0 ^^^ (-1 : Int32)) &&& (p0 - (1 : Int32))).toUInt32 >>> ((2 : Int32) &&& 31).toUInt32).toInt32))]))
            refine Owes.go ?_ fun t₀ k₀ => XS.istoreN X0.here hx rfl (hb hby d9_73) rfl (l' := #[.val (.int ((((p0 ^^^ (-1 : Int32)) &&& (p0 - (1 : Int32))).toUInt32 >>> ((2 : Int32) &&& 31).toUInt32).toInt32)), .val (.int ((1 : Int32) + (2 : Int32)))]) rfl k₀
            show Owes _ _ _ _ (s₁.setTop (mkF m 74 #[.val (.int ((((p0 ^^^ (-1 : Int32)) &&& (p0 - (1 : Int32))).toUInt32 >>> ((2 : Int32) &&& 31).toUInt32).toInt32)), .val (.int ((1 : Int32) + (2 : Int32)))] []))
            refine Owes.go ?_ fun t₀ k₀ => XS.iloadN X0.here hx rfl (hb hby d9_74) rfl k₀
            show Owes _ _ _ _ (s₁.setTop (mkF m 75 #[.val (.int ((((p0 ^^^ (-1 : Int32)) &&& (p0 - (1 : Int32))).toUInt32 >>> ((2 : Int32) &&& 31).toUInt32).toInt32)), .val (.int ((1 : Int32) + (2 : Int32)))] [(.int ((1 : Int32) + (2 : Int32)))]))
            refine Owes.go ?_ fun t₀ k₀ => XS.iloadN X0.here hx rfl (hb hby d9_75) rfl k₀
            show Owes _ _ _ _ (s₁.setTop (mkF m 76 #[.val (.int ((((p0 ^^^ (-1 : Int32)) &&& (p0 - (1 : Int32))).toUInt32 >>> ((2 : Int32) &&& 31).toUInt32).toInt32)), .val (.int ((1 : Int32) + (2 : Int32)))] [(.int ((((p0 ^^^ (-1 : Int32)) &&& (p0 - (1 : Int32))).toUInt32 >>> ((2 : Int32) &&& 31).toUInt32).toInt32)), (.int ((1 : Int32) + (2 : Int32)))]))
            refine Owes.go ?_ fun t₀ k₀ => XS.iconst X0.here hx rfl (hb hby d9_76) k₀
            show Owes _ _ _ _ (s₁.setTop (mkF m 77 #[.val (.int ((((p0 ^^^ (-1 : Int32)) &&& (p0 - (1 : Int32))).toUInt32 >>> ((2 : Int32) &&& 31).toUInt32).toInt32)), .val (.int ((1 : Int32) + (2 : Int32)))] [(.int (1 : Int32)), (.int ((((p0 ^^^ (-1 : Int32)) &&& (p0 - (1 : Int32))).toUInt32 >>> ((2 : Int32) &&& 31).toUInt32).toInt32)), (.int ((1 : Int32) + (2 : Int32)))]))
            refine Owes.go ?_ fun t₀ k₀ => XS.iushr X0.here hx rfl (hb hby d9_77) rfl k₀
            show Owes _ _ _ _ (s₁.setTop (mkF m 78 #[.val (.int ((((p0 ^^^ (-1 : Int32)) &&& (p0 - (1 : Int32))).toUInt32 >>> ((2 : Int32) &&& 31).toUInt32).toInt32)), .val (.int ((1 : Int32) + (2 : Int32)))] [(.int ((((((p0 ^^^ (-1 : Int32)) &&& (p0 - (1 : Int32))).toUInt32 >>> ((2 : Int32) &&& 31).toUInt32).toInt32).toUInt32 >>> ((1 : Int32) &&& 31).toUInt32).toInt32)), (.int ((1 : Int32) + (2 : Int32)))]))
            refine Owes.go ?_ fun t₀ k₀ => XS.iadd X0.here hx rfl (hb hby d9_78) rfl k₀
            show Owes _ _ _ _ (s₁.setTop (mkF m 79 #[.val (.int ((((p0 ^^^ (-1 : Int32)) &&& (p0 - (1 : Int32))).toUInt32 >>> ((2 : Int32) &&& 31).toUInt32).toInt32)), .val (.int ((1 : Int32) + (2 : Int32)))] [(.int (((1 : Int32) + (2 : Int32)) + ((((((p0 ^^^ (-1 : Int32)) &&& (p0 - (1 : Int32))).toUInt32 >>> ((2 : Int32) &&& 31).toUInt32).toInt32).toUInt32 >>> ((1 : Int32) &&& 31).toUInt32).toInt32)))]))
            exact Owes.retI X0 hx hlk hret (hb hby d9_79) (by decide) (by decide) ⟨congrArg (fun z => some (Value.int z)) (by unfold f_ntzI; rw [if_pos hc1, if_neg hc2, if_neg hc10, if_neg hc14, if_pos hc16]; first | done | rfl), rfl, e0⟩
          · skip
            refine Owes.go ?_ fun t₀ k₀ => XS.icmpYes X0.here hx rfl (pc0 := 64) (pc' := 74) rfl (hb hby d9_64) rfl (flt hc16).2.2.2 (by decide) (by decide) k₀
            show Owes _ _ _ _ (s₁.setTop (mkF m 74 #[.val (.int ((p0 ^^^ (-1 : Int32)) &&& (p0 - (1 : Int32)))), .val (.int (1 : Int32))] []))
            refine Owes.go ?_ fun t₀ k₀ => XS.iloadN X0.here hx rfl (hb hby d9_74) rfl k₀
            show Owes _ _ _ _ (s₁.setTop (mkF m 75 #[.val (.int ((p0 ^^^ (-1 : Int32)) &&& (p0 - (1 : Int32)))), .val (.int (1 : Int32))] [(.int (1 : Int32))]))
            refine Owes.go ?_ fun t₀ k₀ => XS.iloadN X0.here hx rfl (hb hby d9_75) rfl k₀
            show Owes _ _ _ _ (s₁.setTop (mkF m 76 #[.val (.int ((p0 ^^^ (-1 : Int32)) &&& (p0 - (1 : Int32)))), .val (.int (1 : Int32))] [(.int ((p0 ^^^ (-1 : Int32)) &&& (p0 - (1 : Int32)))), (.int (1 : Int32))]))
            refine Owes.go ?_ fun t₀ k₀ => XS.iconst X0.here hx rfl (hb hby d9_76) k₀
            show Owes _ _ _ _ (s₁.setTop (mkF m 77 #[.val (.int ((p0 ^^^ (-1 : Int32)) &&& (p0 - (1 : Int32)))), .val (.int (1 : Int32))] [(.int (1 : Int32)), (.int ((p0 ^^^ (-1 : Int32)) &&& (p0 - (1 : Int32)))), (.int (1 : Int32))]))
            refine Owes.go ?_ fun t₀ k₀ => XS.iushr X0.here hx rfl (hb hby d9_77) rfl k₀
            show Owes _ _ _ _ (s₁.setTop (mkF m 78 #[.val (.int ((p0 ^^^ (-1 : Int32)) &&& (p0 - (1 : Int32)))), .val (.int (1 : Int32))] [(.int ((((p0 ^^^ (-1 : Int32)) &&& (p0 - (1 : Int32))).toUInt32 >>> ((1 : Int32) &&& 31).toUInt32).toInt32)), (.int (1 : Int32))]))
            refine Owes.go ?_ fun t₀ k₀ => XS.iadd X0.here hx rfl (hb hby d9_78) rfl k₀
            show Owes _ _ _ _ (s₁.setTop (mkF m 79 #[.val (.int ((p0 ^^^ (-1 : Int32)) &&& (p0 - (1 : Int32)))), .val (.int (1 : Int32))] [(.int ((1 : Int32) + ((((p0 ^^^ (-1 : Int32)) &&& (p0 - (1 : Int32))).toUInt32 >>> ((1 : Int32) &&& 31).toUInt32).toInt32)))]))
            exact Owes.retI X0 hx hlk hret (hb hby d9_79) (by decide) (by decide) ⟨congrArg (fun z => some (Value.int z)) (by unfold f_ntzI; rw [if_pos hc1, if_neg hc2, if_neg hc10, if_neg hc14, if_neg hc16]; first | done | rfl), rfl, e0⟩
  · skip
    refine Owes.go ?_ fun t₀ k₀ => XS.ifNo X0.here hx rfl (hb hby d9_9) rfl ((if0 _ _).trans (flt hc1).2.2.1) k₀
    show Owes _ _ _ _ (s₁.setTop (mkF m 12 #[.val (.int ((p0 ^^^ (-1 : Int32)) &&& (p0 - (1 : Int32)))), .unset] []))
    refine Owes.go ?_ fun t₀ k₀ => XS.iloadN X0.here hx rfl (hb hby d9_12) rfl k₀
    show Owes _ _ _ _ (s₁.setTop (mkF m 13 #[.val (.int ((p0 ^^^ (-1 : Int32)) &&& (p0 - (1 : Int32)))), .unset] [(.int ((p0 ^^^ (-1 : Int32)) &&& (p0 - (1 : Int32))))]))
    refine Owes.go ?_ fun t₀ k₀ => XS.bipush X0.here hx rfl (hb hby d9_13) k₀
    show Owes _ _ _ _ (s₁.setTop (mkF m 15 #[.val (.int ((p0 ^^^ (-1 : Int32)) &&& (p0 - (1 : Int32)))), .unset] [(.int (32 : Int32)), (.int ((p0 ^^^ (-1 : Int32)) &&& (p0 - (1 : Int32))))]))
    refine Owes.go ?_ fun t₀ k₀ => XS.iand X0.here hx rfl (hb hby d9_15) rfl k₀
    show Owes _ _ _ _ (s₁.setTop (mkF m 16 #[.val (.int ((p0 ^^^ (-1 : Int32)) &&& (p0 - (1 : Int32)))), .unset] [(.int (((p0 ^^^ (-1 : Int32)) &&& (p0 - (1 : Int32))) &&& (32 : Int32)))]))
    exact Owes.retI X0 hx hlk hret (hb hby d9_16) (by decide) (by decide) ⟨congrArg (fun z => some (Value.int z)) (by unfold f_ntzI; rw [if_neg hc1]; first | done | rfl), rfl, e0⟩
theorem d8_0 : decode jdk_35_method_49_code 0 = .ok (.lload_n 0, 1) := by decide +kernel
theorem d8_1 : decode jdk_35_method_49_code 1 = .ok (.l2i, 1) := by decide +kernel
theorem d8_2 : decode jdk_35_method_49_code 2 = .ok (.istore_n 2, 1) := by decide +kernel
theorem d8_3 : decode jdk_35_method_49_code 3 = .ok (.iload_n 2, 1) := by decide +kernel
theorem d8_4 : decode jdk_35_method_49_code 4 = .ok (.ifCond .ne 17, 3) := by decide +kernel
theorem d8_7 : decode jdk_35_method_49_code 7 = .ok (.bipush 32, 2) := by decide +kernel
theorem d8_9 : decode jdk_35_method_49_code 9 = .ok (.lload_n 0, 1) := by decide +kernel
theorem d8_10 : decode jdk_35_method_49_code 10 = .ok (.bipush 32, 2) := by decide +kernel
theorem d8_12 : decode jdk_35_method_49_code 12 = .ok (.lushr, 1) := by decide +kernel
theorem d8_13 : decode jdk_35_method_49_code 13 = .ok (.l2i, 1) := by decide +kernel
theorem d8_14 : decode jdk_35_method_49_code 14 = .ok (.invokestatic 311, 3) := by decide +kernel
theorem pd_0 : parseMethodDescriptor "(I)I" = some ⟨[.int], some .int⟩ := by decide +kernel
theorem d8_17 : decode jdk_35_method_49_code 17 = .ok (.iadd, 1) := by decide +kernel
theorem d8_18 : decode jdk_35_method_49_code 18 = .ok (.goto 7, 3) := by decide +kernel
theorem d8_25 : decode jdk_35_method_49_code 25 = .ok (.ireturn, 1) := by decide +kernel
theorem d8_21 : decode jdk_35_method_49_code 21 = .ok (.iload_n 2, 1) := by decide +kernel
theorem d8_22 : decode jdk_35_method_49_code 22 = .ok (.invokestatic 311, 3) := by decide +kernel
def f_ntzJ (q0 : Int64)  : Int32 := (if (q0.toInt32) = (0 : Int32) then ((32 : Int32) + (f_ntzI (((q0.toUInt64 >>> ((32 : Int32) &&& 0x3f).toInt64.toUInt64).toInt64).toInt32))) else (f_ntzI (q0.toInt32)))
theorem ef_8_f_ntzJ (m : MethodId) (q0 : Int64) : entryFrame m #[(.long q0)] 3 = mkF m 0 #[.val (.long q0), .second, .unset] [] := by first | (simp [entryFrame, mkF, argsToLocals, Value.category]; done) | rfl
theorem pn_8 : plainFor (⟨"java/lang/Long", "numberOfTrailingZeros", "(J)I"⟩ : MethodName) = true := plainFor_of_name (by first | (simp [plainName, overriddenIn]; done) | decide +kernel)
set_option maxRecDepth 65536 in
set_option maxHeartbeats 40000000 in
theorem rm_f_ntzJ (l : Launch) (Z : State) (a0 : Array Value) (hw : ∀ d ∈ tables_1, d.before a0 Z = true) (ws : List Jvm.Cond) (q0 : Int64) (h0 : Heap)  :
    OMet l (⟨"java/lang/Long", "numberOfTrailingZeros", "(J)I"⟩ : MethodName) jdk_35_method_49_code 3 (some .int) ws ({ frames := 1, cells := 0, slots := 0, locals := 14 } : Room) #[(.long q0)] Z h0 (fun v h L => v = some (Value.int (f_ntzJ q0)) ∧ L = [] ∧ h = h0) := by
  refine OMet.of pn_8 (fun m => ef_8_f_ntzJ m q0) ?_
  intro p e s m below meth c s₁ hx hby hml hown hnm hret hlk hZ X0 e0
  refine Owes.go ?_ fun t₀ k₀ => XS.lloadN X0.here hx rfl (hb hby d8_0) rfl k₀
  show Owes _ _ _ _ (s₁.setTop (mkF m 1 #[.val (.long q0), .second, .unset] [(.long q0)]))
  refine Owes.go ?_ fun t₀ k₀ => XS.l2i X0.here hx rfl (hb hby d8_1) rfl k₀
  show Owes _ _ _ _ (s₁.setTop (mkF m 2 #[.val (.long q0), .second, .unset] [(.int (q0.toInt32))]))
  refine Owes.go ?_ fun t₀ k₀ => XS.istoreN X0.here hx rfl (hb hby d8_2) rfl (l' := #[.val (.long q0), .second, .val (.int (q0.toInt32))]) rfl k₀
  show Owes _ _ _ _ (s₁.setTop (mkF m 3 #[.val (.long q0), .second, .val (.int (q0.toInt32))] []))
  refine Owes.go ?_ fun t₀ k₀ => XS.iloadN X0.here hx rfl (hb hby d8_3) rfl k₀
  show Owes _ _ _ _ (s₁.setTop (mkF m 4 #[.val (.long q0), .second, .val (.int (q0.toInt32))] [(.int (q0.toInt32))]))
  by_cases hc1 : (q0.toInt32) = (0 : Int32)
  · skip
    refine Owes.go ?_ fun t₀ k₀ => XS.ifNo X0.here hx rfl (hb hby d8_4) rfl ((if0 _ _).trans (teq hc1).2) k₀
    show Owes _ _ _ _ (s₁.setTop (mkF m 7 #[.val (.long q0), .second, .val (.int (q0.toInt32))] []))
    refine Owes.go ?_ fun t₀ k₀ => XS.bipush X0.here hx rfl (hb hby d8_7) k₀
    show Owes _ _ _ _ (s₁.setTop (mkF m 9 #[.val (.long q0), .second, .val (.int (q0.toInt32))] [(.int (32 : Int32))]))
    refine Owes.go ?_ fun t₀ k₀ => XS.lloadN X0.here hx rfl (hb hby d8_9) rfl k₀
    show Owes _ _ _ _ (s₁.setTop (mkF m 10 #[.val (.long q0), .second, .val (.int (q0.toInt32))] [(.long q0), (.int (32 : Int32))]))
    refine Owes.go ?_ fun t₀ k₀ => XS.bipush X0.here hx rfl (hb hby d8_10) k₀
    show Owes _ _ _ _ (s₁.setTop (mkF m 12 #[.val (.long q0), .second, .val (.int (q0.toInt32))] [(.int (32 : Int32)), (.long q0), (.int (32 : Int32))]))
    refine Owes.go ?_ fun t₀ k₀ => XS.lushr X0.here hx rfl (hb hby d8_12) rfl k₀
    show Owes _ _ _ _ (s₁.setTop (mkF m 13 #[.val (.long q0), .second, .val (.int (q0.toInt32))] [(.long ((q0.toUInt64 >>> ((32 : Int32) &&& 0x3f).toInt64.toUInt64).toInt64)), (.int (32 : Int32))]))
    refine Owes.go ?_ fun t₀ k₀ => XS.l2i X0.here hx rfl (hb hby d8_13) rfl k₀
    show Owes _ _ _ _ (s₁.setTop (mkF m 14 #[.val (.long q0), .second, .val (.int (q0.toInt32))] [(.int (((q0.toUInt64 >>> ((32 : Int32) &&& 0x3f).toInt64.toUInt64).toInt64).toInt32)), (.int (32 : Int32))]))
    refine Owes.callS X0 hx hZ hown (hw _ (List.mem_of_getElem? (i := 42) rfl)) (hw _ (List.mem_of_getElem? (i := 43) rfl)) (hw _ (List.mem_of_getElem? (i := 44) rfl)) (hw _ (List.mem_of_getElem? (i := 45) rfl)) (by decide) (argsL := [(.int (((q0.toUInt64 >>> ((32 : Int32) &&& 0x3f).toInt64.toUInt64).toInt64).toInt32))]) (rest := [(.int (32 : Int32))]) (rm_f_ntzI l Z a0 hw [] (((q0.toUInt64 >>> ((32 : Int32) &&& 0x3f).toInt64.toUInt64).toInt64).toInt32) h0 ) e0 (by rw [hml]; rfl) pd_0 rfl rfl (hb hby d8_14) (by decide) (Nat.le_of_ble_eq_true rfl) (by decide) (by decide) ?_
    rintro T1 _ _ X1 ⟨rfl, rfl, e1⟩
    rw [List.append_nil] at X1
    show Owes _ _ _ _ (T1.setTop (mkF m 17 #[.val (.long q0), .second, .val (.int (q0.toInt32))] [(.int (f_ntzI (((q0.toUInt64 >>> ((32 : Int32) &&& 0x3f).toInt64.toUInt64).toInt64).toInt32))), (.int (32 : Int32))]))
    refine Owes.go ?_ fun t₀ k₀ => XS.iadd X1.here hx rfl (hb hby d8_17) rfl k₀
    show Owes _ _ _ _ (T1.setTop (mkF m 18 #[.val (.long q0), .second, .val (.int (q0.toInt32))] [(.int ((32 : Int32) + (f_ntzI (((q0.toUInt64 >>> ((32 : Int32) &&& 0x3f).toInt64.toUInt64).toInt64).toInt32))))]))
    refine Owes.go ?_ fun t₀ k₀ => XS.goto X1.here hx rfl (pc0 := 18) (pc' := 25) rfl (hb hby d8_18) (by decide) (by decide) k₀
    show Owes _ _ _ _ (T1.setTop (mkF m 25 #[.val (.long q0), .second, .val (.int (q0.toInt32))] [(.int ((32 : Int32) + (f_ntzI (((q0.toUInt64 >>> ((32 : Int32) &&& 0x3f).toInt64.toUInt64).toInt64).toInt32))))]))
    exact Owes.retI X1 hx hlk hret (hb hby d8_25) (by decide) (by decide) ⟨congrArg (fun z => some (Value.int z)) (by unfold f_ntzJ; rw [if_pos hc1]; first | done | rfl), rfl, e1⟩
  · skip
    refine Owes.go ?_ fun t₀ k₀ => XS.ifYes X0.here hx rfl (pc0 := 4) (pc' := 21) rfl (hb hby d8_4) rfl ((if0 _ _).trans (feq hc1).2) (by decide) (by decide) k₀
    show Owes _ _ _ _ (s₁.setTop (mkF m 21 #[.val (.long q0), .second, .val (.int (q0.toInt32))] []))
    refine Owes.go ?_ fun t₀ k₀ => XS.iloadN X0.here hx rfl (hb hby d8_21) rfl k₀
    show Owes _ _ _ _ (s₁.setTop (mkF m 22 #[.val (.long q0), .second, .val (.int (q0.toInt32))] [(.int (q0.toInt32))]))
    refine Owes.callS X0 hx hZ hown (hw _ (List.mem_of_getElem? (i := 42) rfl)) (hw _ (List.mem_of_getElem? (i := 43) rfl)) (hw _ (List.mem_of_getElem? (i := 44) rfl)) (hw _ (List.mem_of_getElem? (i := 45) rfl)) (by decide) (argsL := [(.int (q0.toInt32))]) (rest := []) (rm_f_ntzI l Z a0 hw [] (q0.toInt32) h0 ) e0 (by rw [hml]; rfl) pd_0 rfl rfl (hb hby d8_22) (by decide) (Nat.le_of_ble_eq_true rfl) (by decide) (by decide) ?_
    rintro T2 _ _ X2 ⟨rfl, rfl, e2⟩
    rw [List.append_nil] at X2
    show Owes _ _ _ _ (T2.setTop (mkF m 25 #[.val (.long q0), .second, .val (.int (q0.toInt32))] [(.int (f_ntzI (q0.toInt32)))]))
    exact Owes.retI X2 hx hlk hret (hb hby d8_25) (by decide) (by decide) ⟨congrArg (fun z => some (Value.int z)) (by unfold f_ntzJ; rw [if_neg hc1]; first | done | rfl), rfl, e2⟩
def f_ntzV (v : Int32) : Int32 := (if (0 : Int32) < v then (if (65536 : Int32) < v then (if (256 : Int32) < ((v.toUInt32 >>> ((16 : Int32) &&& 31).toUInt32).toInt32) then (if (16 : Int32) < ((((v.toUInt32 >>> ((16 : Int32) &&& 31).toUInt32).toInt32).toUInt32 >>> ((8 : Int32) &&& 31).toUInt32).toInt32) then (if (4 : Int32) < ((((((v.toUInt32 >>> ((16 : Int32) &&& 31).toUInt32).toInt32).toUInt32 >>> ((8 : Int32) &&& 31).toUInt32).toInt32).toUInt32 >>> ((4 : Int32) &&& 31).toUInt32).toInt32) then ((((((1 : Int32) + (16 : Int32)) + (8 : Int32)) + (4 : Int32)) + (2 : Int32)) + ((((((((((v.toUInt32 >>> ((16 : Int32) &&& 31).toUInt32).toInt32).toUInt32 >>> ((8 : Int32) &&& 31).toUInt32).toInt32).toUInt32 >>> ((4 : Int32) &&& 31).toUInt32).toInt32).toUInt32 >>> ((2 : Int32) &&& 31).toUInt32).toInt32).toUInt32 >>> ((1 : Int32) &&& 31).toUInt32).toInt32)) else (((((1 : Int32) + (16 : Int32)) + (8 : Int32)) + (4 : Int32)) + ((((((((v.toUInt32 >>> ((16 : Int32) &&& 31).toUInt32).toInt32).toUInt32 >>> ((8 : Int32) &&& 31).toUInt32).toInt32).toUInt32 >>> ((4 : Int32) &&& 31).toUInt32).toInt32).toUInt32 >>> ((1 : Int32) &&& 31).toUInt32).toInt32))) else (if (4 : Int32) < ((((v.toUInt32 >>> ((16 : Int32) &&& 31).toUInt32).toInt32).toUInt32 >>> ((8 : Int32) &&& 31).toUInt32).toInt32) then (((((1 : Int32) + (16 : Int32)) + (8 : Int32)) + (2 : Int32)) + ((((((((v.toUInt32 >>> ((16 : Int32) &&& 31).toUInt32).toInt32).toUInt32 >>> ((8 : Int32) &&& 31).toUInt32).toInt32).toUInt32 >>> ((2 : Int32) &&& 31).toUInt32).toInt32).toUInt32 >>> ((1 : Int32) &&& 31).toUInt32).toInt32)) else ((((1 : Int32) + (16 : Int32)) + (8 : Int32)) + ((((((v.toUInt32 >>> ((16 : Int32) &&& 31).toUInt32).toInt32).toUInt32 >>> ((8 : Int32) &&& 31).toUInt32).toInt32).toUInt32 >>> ((1 : Int32) &&& 31).toUInt32).toInt32)))) else (if (16 : Int32) < ((v.toUInt32 >>> ((16 : Int32) &&& 31).toUInt32).toInt32) then (if (4 : Int32) < ((((v.toUInt32 >>> ((16 : Int32) &&& 31).toUInt32).toInt32).toUInt32 >>> ((4 : Int32) &&& 31).toUInt32).toInt32) then (((((1 : Int32) + (16 : Int32)) + (4 : Int32)) + (2 : Int32)) + ((((((((v.toUInt32 >>> ((16 : Int32) &&& 31).toUInt32).toInt32).toUInt32 >>> ((4 : Int32) &&& 31).toUInt32).toInt32).toUInt32 >>> ((2 : Int32) &&& 31).toUInt32).toInt32).toUInt32 >>> ((1 : Int32) &&& 31).toUInt32).toInt32)) else ((((1 : Int32) + (16 : Int32)) + (4 : Int32)) + ((((((v.toUInt32 >>> ((16 : Int32) &&& 31).toUInt32).toInt32).toUInt32 >>> ((4 : Int32) &&& 31).toUInt32).toInt32).toUInt32 >>> ((1 : Int32) &&& 31).toUInt32).toInt32))) else (if (4 : Int32) < ((v.toUInt32 >>> ((16 : Int32) &&& 31).toUInt32).toInt32) then ((((1 : Int32) + (16 : Int32)) + (2 : Int32)) + ((((((v.toUInt32 >>> ((16 : Int32) &&& 31).toUInt32).toInt32).toUInt32 >>> ((2 : Int32) &&& 31).toUInt32).toInt32).toUInt32 >>> ((1 : Int32) &&& 31).toUInt32).toInt32)) else (((1 : Int32) + (16 : Int32)) + ((((v.toUInt32 >>> ((16 : Int32) &&& 31).toUInt32).toInt32).toUInt32 >>> ((1 : Int32) &&& 31).toUInt32).toInt32))))) else (if (256 : Int32) < v then (if (16 : Int32) < ((v.toUInt32 >>> ((8 : Int32) &&& 31).toUInt32).toInt32) then (if (4 : Int32) < ((((v.toUInt32 >>> ((8 : Int32) &&& 31).toUInt32).toInt32).toUInt32 >>> ((4 : Int32) &&& 31).toUInt32).toInt32) then (((((1 : Int32) + (8 : Int32)) + (4 : Int32)) + (2 : Int32)) + ((((((((v.toUInt32 >>> ((8 : Int32) &&& 31).toUInt32).toInt32).toUInt32 >>> ((4 : Int32) &&& 31).toUInt32).toInt32).toUInt32 >>> ((2 : Int32) &&& 31).toUInt32).toInt32).toUInt32 >>> ((1 : Int32) &&& 31).toUInt32).toInt32)) else ((((1 : Int32) + (8 : Int32)) + (4 : Int32)) + ((((((v.toUInt32 >>> ((8 : Int32) &&& 31).toUInt32).toInt32).toUInt32 >>> ((4 : Int32) &&& 31).toUInt32).toInt32).toUInt32 >>> ((1 : Int32) &&& 31).toUInt32).toInt32))) else (if (4 : Int32) < ((v.toUInt32 >>> ((8 : Int32) &&& 31).toUInt32).toInt32) then ((((1 : Int32) + (8 : Int32)) + (2 : Int32)) + ((((((v.toUInt32 >>> ((8 : Int32) &&& 31).toUInt32).toInt32).toUInt32 >>> ((2 : Int32) &&& 31).toUInt32).toInt32).toUInt32 >>> ((1 : Int32) &&& 31).toUInt32).toInt32)) else (((1 : Int32) + (8 : Int32)) + ((((v.toUInt32 >>> ((8 : Int32) &&& 31).toUInt32).toInt32).toUInt32 >>> ((1 : Int32) &&& 31).toUInt32).toInt32)))) else (if (16 : Int32) < v then (if (4 : Int32) < ((v.toUInt32 >>> ((4 : Int32) &&& 31).toUInt32).toInt32) then ((((1 : Int32) + (4 : Int32)) + (2 : Int32)) + ((((((v.toUInt32 >>> ((4 : Int32) &&& 31).toUInt32).toInt32).toUInt32 >>> ((2 : Int32) &&& 31).toUInt32).toInt32).toUInt32 >>> ((1 : Int32) &&& 31).toUInt32).toInt32)) else (((1 : Int32) + (4 : Int32)) + ((((v.toUInt32 >>> ((4 : Int32) &&& 31).toUInt32).toInt32).toUInt32 >>> ((1 : Int32) &&& 31).toUInt32).toInt32))) else (if (4 : Int32) < v then (((1 : Int32) + (2 : Int32)) + ((((v.toUInt32 >>> ((2 : Int32) &&& 31).toUInt32).toInt32).toUInt32 >>> ((1 : Int32) &&& 31).toUInt32).toInt32)) else ((1 : Int32) + ((v.toUInt32 >>> ((1 : Int32) &&& 31).toUInt32).toInt32)))))) else (v &&& (32 : Int32)))
theorem own_ntzV : ∀ t : Fin 32, (f_ntzV (Int32.ofNat (2 ^ t.1 - 1))).toInt = (t.1 : Int) := by decide +kernel
theorem own_ntzI (x : Int32) (t : Nat) (ht : t < 32) (h1 : x.toBitVec.getLsbD t = true) (h2 : ∀ b, b < t → x.toBitVec.getLsbD b = false) : (f_ntzI x).toInt = (t : Int) := by
  have h := own_low x t ht h1 h2
  show (f_ntzV ((x ^^^ (-1 : Int32)) &&& (x - (1 : Int32)))).toInt = _
  rw [h]; exact own_ntzV ⟨t, ht⟩
theorem lo32 (w : Int64) (b : Nat) (hb : b < 32) : w.toInt32.toBitVec.getLsbD b = bt w b := by
  rw [Int64.toBitVec_toInt32, BitVec.getLsbD_signExtend]; simp [hb, bt, show b < 64 by omega]
theorem hi32 (w : Int64) (b : Nat) (hb : b < 32) : (((w.toUInt64 >>> ((32 : Int32) &&& 0x3f).toInt64.toUInt64).toInt64).toInt32).toBitVec.getLsbD b = bt w (32 + b) := by
  rw [lo32 _ _ hb, bt_ushr w 32 32 (by decide)]
theorem ext32 {x y : Int32} (h : ∀ b, b < 32 → x.toBitVec.getLsbD b = y.toBitVec.getLsbD b) : x = y := Int32.toBitVec_inj.mp (BitVec.eq_of_getLsbD_eq h)
theorem own_ntzJ (w : Int64) (t : Nat) (h : Low w t) : (f_ntzJ w).toInt = (t : Int) := by
  obtain ⟨h0, h1, h2⟩ := h
  unfold f_ntzJ
  by_cases c : t < 32
  · have hne : ¬ (w.toInt32 = 0) := fun q => by
      have := lo32 w t c
      rw [q, h1] at this
      simp at this
    rw [if_neg hne]
    exact own_ntzI _ t c (by rw [lo32 w t c]; exact h1) (fun b hb => by rw [lo32 w b (by omega)]; exact h2 b hb)
  · have hz : w.toInt32 = 0 := ext32 fun b hb => by rw [lo32 w b hb, h2 b (by omega)]; simp
    rw [if_pos hz]
    have e := own_ntzI (((w.toUInt64 >>> ((32 : Int32) &&& 0x3f).toInt64.toUInt64).toInt64).toInt32) (t - 32) (by omega) (by rw [hi32 _ _ (by omega), show 32 + (t - 32) = t by omega]; exact h1) (fun b hb => by rw [hi32 _ _ (by omega)]; exact h2 _ (by omega))
    have h3 := c_iadd 32 (f_ntzI (((w.toUInt64 >>> ((32 : Int32) &&& 0x3f).toInt64.toUInt64).toInt64).toInt32))
    have r := rng32 ((32 : Int32) + (f_ntzI (((w.toUInt64 >>> ((32 : Int32) &&& 0x3f).toInt64.toUInt64).toInt64).toInt32)))
    rw [show (32 : Int32).toInt = 32 from rfl, e] at h3
    omega
theorem d12_0 : decode jdk_33_method_47_code 0 = .ok (.iload_n 0, 1) := by decide +kernel
theorem d12_1 : decode jdk_33_method_47_code 1 = .ok (.ifCond .gt 14, 3) := by decide +kernel
theorem d12_15 : decode jdk_33_method_47_code 15 = .ok (.bipush 31, 2) := by decide +kernel
theorem d12_17 : decode jdk_33_method_47_code 17 = .ok (.istore_n 1, 1) := by decide +kernel
theorem d12_18 : decode jdk_33_method_47_code 18 = .ok (.iload_n 0, 1) := by decide +kernel
theorem d12_19 : decode jdk_33_method_47_code 19 = .ok (.ldc_w 264, 3) := by decide +kernel
theorem d12_22 : decode jdk_33_method_47_code 22 = .ok (.if_icmp .lt 11, 3) := by decide +kernel
theorem d12_33 : decode jdk_33_method_47_code 33 = .ok (.iload_n 0, 1) := by decide +kernel
theorem d12_34 : decode jdk_33_method_47_code 34 = .ok (.sipush 256, 3) := by decide +kernel
theorem d12_37 : decode jdk_33_method_47_code 37 = .ok (.if_icmp .lt 11, 3) := by decide +kernel
theorem d12_48 : decode jdk_33_method_47_code 48 = .ok (.iload_n 0, 1) := by decide +kernel
theorem d12_49 : decode jdk_33_method_47_code 49 = .ok (.bipush 16, 2) := by decide +kernel
theorem d12_51 : decode jdk_33_method_47_code 51 = .ok (.if_icmp .lt 10, 3) := by decide +kernel
theorem d12_61 : decode jdk_33_method_47_code 61 = .ok (.iload_n 0, 1) := by decide +kernel
theorem d12_62 : decode jdk_33_method_47_code 62 = .ok (.iconst 4, 1) := by decide +kernel
theorem d12_63 : decode jdk_33_method_47_code 63 = .ok (.if_icmp .lt 10, 3) := by decide +kernel
theorem d12_73 : decode jdk_33_method_47_code 73 = .ok (.iload_n 1, 1) := by decide +kernel
theorem d12_74 : decode jdk_33_method_47_code 74 = .ok (.iload_n 0, 1) := by decide +kernel
theorem d12_75 : decode jdk_33_method_47_code 75 = .ok (.iconst 1, 1) := by decide +kernel
theorem d12_76 : decode jdk_33_method_47_code 76 = .ok (.iushr, 1) := by decide +kernel
theorem d12_77 : decode jdk_33_method_47_code 77 = .ok (.isub, 1) := by decide +kernel
theorem d12_78 : decode jdk_33_method_47_code 78 = .ok (.ireturn, 1) := by decide +kernel
theorem d12_66 : decode jdk_33_method_47_code 66 = .ok (.iinc 1 (-2), 3) := by decide +kernel
theorem d12_69 : decode jdk_33_method_47_code 69 = .ok (.iload_n 0, 1) := by decide +kernel
theorem d12_70 : decode jdk_33_method_47_code 70 = .ok (.iconst 2, 1) := by decide +kernel
theorem d12_71 : decode jdk_33_method_47_code 71 = .ok (.iushr, 1) := by decide +kernel
theorem d12_72 : decode jdk_33_method_47_code 72 = .ok (.istore_n 0, 1) := by decide +kernel
theorem d12_54 : decode jdk_33_method_47_code 54 = .ok (.iinc 1 (-4), 3) := by decide +kernel
theorem d12_57 : decode jdk_33_method_47_code 57 = .ok (.iload_n 0, 1) := by decide +kernel
theorem d12_58 : decode jdk_33_method_47_code 58 = .ok (.iconst 4, 1) := by decide +kernel
theorem d12_59 : decode jdk_33_method_47_code 59 = .ok (.iushr, 1) := by decide +kernel
theorem d12_60 : decode jdk_33_method_47_code 60 = .ok (.istore_n 0, 1) := by decide +kernel
theorem d12_40 : decode jdk_33_method_47_code 40 = .ok (.iinc 1 (-8), 3) := by decide +kernel
theorem d12_43 : decode jdk_33_method_47_code 43 = .ok (.iload_n 0, 1) := by decide +kernel
theorem d12_44 : decode jdk_33_method_47_code 44 = .ok (.bipush 8, 2) := by decide +kernel
theorem d12_46 : decode jdk_33_method_47_code 46 = .ok (.iushr, 1) := by decide +kernel
theorem d12_47 : decode jdk_33_method_47_code 47 = .ok (.istore_n 0, 1) := by decide +kernel
theorem d12_25 : decode jdk_33_method_47_code 25 = .ok (.iinc 1 (-16), 3) := by decide +kernel
theorem d12_28 : decode jdk_33_method_47_code 28 = .ok (.iload_n 0, 1) := by decide +kernel
theorem d12_29 : decode jdk_33_method_47_code 29 = .ok (.bipush 16, 2) := by decide +kernel
theorem d12_31 : decode jdk_33_method_47_code 31 = .ok (.iushr, 1) := by decide +kernel
theorem d12_32 : decode jdk_33_method_47_code 32 = .ok (.istore_n 0, 1) := by decide +kernel
theorem d12_4 : decode jdk_33_method_47_code 4 = .ok (.iload_n 0, 1) := by decide +kernel
theorem d12_5 : decode jdk_33_method_47_code 5 = .ok (.ifCond .ne 8, 3) := by decide +kernel
theorem d12_8 : decode jdk_33_method_47_code 8 = .ok (.bipush 32, 2) := by decide +kernel
theorem d12_10 : decode jdk_33_method_47_code 10 = .ok (.goto 4, 3) := by decide +kernel
theorem d12_14 : decode jdk_33_method_47_code 14 = .ok (.ireturn, 1) := by decide +kernel
theorem d12_13 : decode jdk_33_method_47_code 13 = .ok (.iconst 0, 1) := by decide +kernel
def f_nlzI (p0 : Int32)  : Int32 := (if (0 : Int32) < p0 then (if p0 < (65536 : Int32) then (if p0 < (256 : Int32) then (if p0 < (16 : Int32) then (if p0 < (4 : Int32) then ((31 : Int32) - ((p0.toUInt32 >>> ((1 : Int32) &&& 31).toUInt32).toInt32)) else (((31 : Int32) + (-2 : Int32)) - ((((p0.toUInt32 >>> ((2 : Int32) &&& 31).toUInt32).toInt32).toUInt32 >>> ((1 : Int32) &&& 31).toUInt32).toInt32))) else (if ((p0.toUInt32 >>> ((4 : Int32) &&& 31).toUInt32).toInt32) < (4 : Int32) then (((31 : Int32) + (-4 : Int32)) - ((((p0.toUInt32 >>> ((4 : Int32) &&& 31).toUInt32).toInt32).toUInt32 >>> ((1 : Int32) &&& 31).toUInt32).toInt32)) else ((((31 : Int32) + (-4 : Int32)) + (-2 : Int32)) - ((((((p0.toUInt32 >>> ((4 : Int32) &&& 31).toUInt32).toInt32).toUInt32 >>> ((2 : Int32) &&& 31).toUInt32).toInt32).toUInt32 >>> ((1 : Int32) &&& 31).toUInt32).toInt32)))) else (if ((p0.toUInt32 >>> ((8 : Int32) &&& 31).toUInt32).toInt32) < (16 : Int32) then (if ((p0.toUInt32 >>> ((8 : Int32) &&& 31).toUInt32).toInt32) < (4 : Int32) then (((31 : Int32) + (-8 : Int32)) - ((((p0.toUInt32 >>> ((8 : Int32) &&& 31).toUInt32).toInt32).toUInt32 >>> ((1 : Int32) &&& 31).toUInt32).toInt32)) else ((((31 : Int32) + (-8 : Int32)) + (-2 : Int32)) - ((((((p0.toUInt32 >>> ((8 : Int32) &&& 31).toUInt32).toInt32).toUInt32 >>> ((2 : Int32) &&& 31).toUInt32).toInt32).toUInt32 >>> ((1 : Int32) &&& 31).toUInt32).toInt32))) else (if ((((p0.toUInt32 >>> ((8 : Int32) &&& 31).toUInt32).toInt32).toUInt32 >>> ((4 : Int32) &&& 31).toUInt32).toInt32) < (4 : Int32) then ((((31 : Int32) + (-8 : Int32)) + (-4 : Int32)) - ((((((p0.toUInt32 >>> ((8 : Int32) &&& 31).toUInt32).toInt32).toUInt32 >>> ((4 : Int32) &&& 31).toUInt32).toInt32).toUInt32 >>> ((1 : Int32) &&& 31).toUInt32).toInt32)) else (((((31 : Int32) + (-8 : Int32)) + (-4 : Int32)) + (-2 : Int32)) - ((((((((p0.toUInt32 >>> ((8 : Int32) &&& 31).toUInt32).toInt32).toUInt32 >>> ((4 : Int32) &&& 31).toUInt32).toInt32).toUInt32 >>> ((2 : Int32) &&& 31).toUInt32).toInt32).toUInt32 >>> ((1 : Int32) &&& 31).toUInt32).toInt32))))) else (if ((p0.toUInt32 >>> ((16 : Int32) &&& 31).toUInt32).toInt32) < (256 : Int32) then (if ((p0.toUInt32 >>> ((16 : Int32) &&& 31).toUInt32).toInt32) < (16 : Int32) then (if ((p0.toUInt32 >>> ((16 : Int32) &&& 31).toUInt32).toInt32) < (4 : Int32) then (((31 : Int32) + (-16 : Int32)) - ((((p0.toUInt32 >>> ((16 : Int32) &&& 31).toUInt32).toInt32).toUInt32 >>> ((1 : Int32) &&& 31).toUInt32).toInt32)) else ((((31 : Int32) + (-16 : Int32)) + (-2 : Int32)) - ((((((p0.toUInt32 >>> ((16 : Int32) &&& 31).toUInt32).toInt32).toUInt32 >>> ((2 : Int32) &&& 31).toUInt32).toInt32).toUInt32 >>> ((1 : Int32) &&& 31).toUInt32).toInt32))) else (if ((((p0.toUInt32 >>> ((16 : Int32) &&& 31).toUInt32).toInt32).toUInt32 >>> ((4 : Int32) &&& 31).toUInt32).toInt32) < (4 : Int32) then ((((31 : Int32) + (-16 : Int32)) + (-4 : Int32)) - ((((((p0.toUInt32 >>> ((16 : Int32) &&& 31).toUInt32).toInt32).toUInt32 >>> ((4 : Int32) &&& 31).toUInt32).toInt32).toUInt32 >>> ((1 : Int32) &&& 31).toUInt32).toInt32)) else (((((31 : Int32) + (-16 : Int32)) + (-4 : Int32)) + (-2 : Int32)) - ((((((((p0.toUInt32 >>> ((16 : Int32) &&& 31).toUInt32).toInt32).toUInt32 >>> ((4 : Int32) &&& 31).toUInt32).toInt32).toUInt32 >>> ((2 : Int32) &&& 31).toUInt32).toInt32).toUInt32 >>> ((1 : Int32) &&& 31).toUInt32).toInt32)))) else (if ((((p0.toUInt32 >>> ((16 : Int32) &&& 31).toUInt32).toInt32).toUInt32 >>> ((8 : Int32) &&& 31).toUInt32).toInt32) < (16 : Int32) then (if ((((p0.toUInt32 >>> ((16 : Int32) &&& 31).toUInt32).toInt32).toUInt32 >>> ((8 : Int32) &&& 31).toUInt32).toInt32) < (4 : Int32) then ((((31 : Int32) + (-16 : Int32)) + (-8 : Int32)) - ((((((p0.toUInt32 >>> ((16 : Int32) &&& 31).toUInt32).toInt32).toUInt32 >>> ((8 : Int32) &&& 31).toUInt32).toInt32).toUInt32 >>> ((1 : Int32) &&& 31).toUInt32).toInt32)) else (((((31 : Int32) + (-16 : Int32)) + (-8 : Int32)) + (-2 : Int32)) - ((((((((p0.toUInt32 >>> ((16 : Int32) &&& 31).toUInt32).toInt32).toUInt32 >>> ((8 : Int32) &&& 31).toUInt32).toInt32).toUInt32 >>> ((2 : Int32) &&& 31).toUInt32).toInt32).toUInt32 >>> ((1 : Int32) &&& 31).toUInt32).toInt32))) else (if ((((((p0.toUInt32 >>> ((16 : Int32) &&& 31).toUInt32).toInt32).toUInt32 >>> ((8 : Int32) &&& 31).toUInt32).toInt32).toUInt32 >>> ((4 : Int32) &&& 31).toUInt32).toInt32) < (4 : Int32) then (((((31 : Int32) + (-16 : Int32)) + (-8 : Int32)) + (-4 : Int32)) - ((((((((p0.toUInt32 >>> ((16 : Int32) &&& 31).toUInt32).toInt32).toUInt32 >>> ((8 : Int32) &&& 31).toUInt32).toInt32).toUInt32 >>> ((4 : Int32) &&& 31).toUInt32).toInt32).toUInt32 >>> ((1 : Int32) &&& 31).toUInt32).toInt32)) else ((((((31 : Int32) + (-16 : Int32)) + (-8 : Int32)) + (-4 : Int32)) + (-2 : Int32)) - ((((((((((p0.toUInt32 >>> ((16 : Int32) &&& 31).toUInt32).toInt32).toUInt32 >>> ((8 : Int32) &&& 31).toUInt32).toInt32).toUInt32 >>> ((4 : Int32) &&& 31).toUInt32).toInt32).toUInt32 >>> ((2 : Int32) &&& 31).toUInt32).toInt32).toUInt32 >>> ((1 : Int32) &&& 31).toUInt32).toInt32)))))) else (if p0 = (0 : Int32) then (32 : Int32) else (0 : Int32)))
theorem ef_12_f_nlzI (m : MethodId) (p0 : Int32) : entryFrame m #[(.int p0)] 2 = mkF m 0 #[.val (.int p0), .unset] [] := by first | (simp [entryFrame, mkF, argsToLocals, Value.category]; done) | rfl
theorem pn_12 : plainFor (⟨"java/lang/Integer", "numberOfLeadingZeros", "(I)I"⟩ : MethodName) = true := plainFor_of_name (by first | (simp [plainName, overriddenIn]; done) | decide +kernel)
set_option maxRecDepth 65536 in
set_option maxHeartbeats 40000000 in
theorem rm_f_nlzI (l : Launch) (Z : State) (a0 : Array Value) (hw : ∀ d ∈ tables_1, d.before a0 Z = true) (ws : List Jvm.Cond) (p0 : Int32) (h0 : Heap)  :
    OMet l (⟨"java/lang/Integer", "numberOfLeadingZeros", "(I)I"⟩ : MethodName) jdk_33_method_47_code 2 (some .int) ws ({ frames := 0, cells := 0, slots := 0, locals := 0 } : Room) #[(.int p0)] Z h0 (fun v h L => v = some (Value.int (f_nlzI p0)) ∧ L = [] ∧ h = h0) := by
  refine OMet.of pn_12 (fun m => ef_12_f_nlzI m p0) ?_
  intro p e s m below meth c s₁ hx hby hml hown hnm hret hlk hZ X0 e0
  refine Owes.go ?_ fun t₀ k₀ => XS.iloadN X0.here hx rfl (hb hby d12_0) rfl k₀
  show Owes _ _ _ _ (s₁.setTop (mkF m 1 #[.val (.int p0), .unset] [(.int p0)]))
  by_cases hc1 : (0 : Int32) < p0
  · skip
    refine Owes.go ?_ fun t₀ k₀ => XS.ifYes X0.here hx rfl (pc0 := 1) (pc' := 15) rfl (hb hby d12_1) rfl ((if0 _ _).trans (tlt hc1).2.2.1) (by decide) (by decide) k₀
    show Owes _ _ _ _ (s₁.setTop (mkF m 15 #[.val (.int p0), .unset] []))
    refine Owes.go ?_ fun t₀ k₀ => XS.bipush X0.here hx rfl (hb hby d12_15) k₀
    show Owes _ _ _ _ (s₁.setTop (mkF m 17 #[.val (.int p0), .unset] [(.int (31 : Int32))]))
    refine Owes.go ?_ fun t₀ k₀ => XS.istoreN X0.here hx rfl (hb hby d12_17) rfl (l' := #[.val (.int p0), .val (.int (31 : Int32))]) rfl k₀
    show Owes _ _ _ _ (s₁.setTop (mkF m 18 #[.val (.int p0), .val (.int (31 : Int32))] []))
    refine Owes.go ?_ fun t₀ k₀ => XS.iloadN X0.here hx rfl (hb hby d12_18) rfl k₀
    show Owes _ _ _ _ (s₁.setTop (mkF m 19 #[.val (.int p0), .val (.int (31 : Int32))] [(.int p0)]))
    refine Owes.go ?_ fun t₀ k₀ => X0.ldcwInt hx hown (mvT hZ (hw _ (List.mem_of_getElem? (i := 46) rfl))) (g := (mkF m 19 #[.val (.int p0), .val (.int (31 : Int32))] [(.int p0)])) rfl (hb hby d12_19) _ k₀
    show Owes _ _ _ _ (s₁.setTop (mkF m 22 #[.val (.int p0), .val (.int (31 : Int32))] [(.int (65536 : Int32)), (.int p0)]))
    by_cases hc2 : p0 < (65536 : Int32)
    · skip
      refine Owes.go ?_ fun t₀ k₀ => XS.icmpYes X0.here hx rfl (pc0 := 22) (pc' := 33) rfl (hb hby d12_22) rfl (tlt hc2).1 (by decide) (by decide) k₀
      show Owes _ _ _ _ (s₁.setTop (mkF m 33 #[.val (.int p0), .val (.int (31 : Int32))] []))
      refine Owes.go ?_ fun t₀ k₀ => XS.iloadN X0.here hx rfl (hb hby d12_33) rfl k₀
      show Owes _ _ _ _ (s₁.setTop (mkF m 34 #[.val (.int p0), .val (.int (31 : Int32))] [(.int p0)]))
      refine Owes.go ?_ fun t₀ k₀ => XS.sipush X0.here hx rfl (hb hby d12_34) k₀
      show Owes _ _ _ _ (s₁.setTop (mkF m 37 #[.val (.int p0), .val (.int (31 : Int32))] [(.int (256 : Int32)), (.int p0)]))
      by_cases hc3 : p0 < (256 : Int32)
      · skip
        refine Owes.go ?_ fun t₀ k₀ => XS.icmpYes X0.here hx rfl (pc0 := 37) (pc' := 48) rfl (hb hby d12_37) rfl (tlt hc3).1 (by decide) (by decide) k₀
        show Owes _ _ _ _ (s₁.setTop (mkF m 48 #[.val (.int p0), .val (.int (31 : Int32))] []))
        refine Owes.go ?_ fun t₀ k₀ => XS.iloadN X0.here hx rfl (hb hby d12_48) rfl k₀
        show Owes _ _ _ _ (s₁.setTop (mkF m 49 #[.val (.int p0), .val (.int (31 : Int32))] [(.int p0)]))
        refine Owes.go ?_ fun t₀ k₀ => XS.bipush X0.here hx rfl (hb hby d12_49) k₀
        show Owes _ _ _ _ (s₁.setTop (mkF m 51 #[.val (.int p0), .val (.int (31 : Int32))] [(.int (16 : Int32)), (.int p0)]))
        by_cases hc4 : p0 < (16 : Int32)
        · skip
          refine Owes.go ?_ fun t₀ k₀ => XS.icmpYes X0.here hx rfl (pc0 := 51) (pc' := 61) rfl (hb hby d12_51) rfl (tlt hc4).1 (by decide) (by decide) k₀
          show Owes _ _ _ _ (s₁.setTop (mkF m 61 #[.val (.int p0), .val (.int (31 : Int32))] []))
          refine Owes.go ?_ fun t₀ k₀ => XS.iloadN X0.here hx rfl (hb hby d12_61) rfl k₀
          show Owes _ _ _ _ (s₁.setTop (mkF m 62 #[.val (.int p0), .val (.int (31 : Int32))] [(.int p0)]))
          refine Owes.go ?_ fun t₀ k₀ => XS.iconst X0.here hx rfl (hb hby d12_62) k₀
          show Owes _ _ _ _ (s₁.setTop (mkF m 63 #[.val (.int p0), .val (.int (31 : Int32))] [(.int (4 : Int32)), (.int p0)]))
          by_cases hc5 : p0 < (4 : Int32)
          · skip
            refine Owes.go ?_ fun t₀ k₀ => XS.icmpYes X0.here hx rfl (pc0 := 63) (pc' := 73) rfl (hb hby d12_63) rfl (tlt hc5).1 (by decide) (by decide) k₀
            show Owes _ _ _ _ (s₁.setTop (mkF m 73 #[.val (.int p0), .val (.int (31 : Int32))] []))
            refine Owes.go ?_ fun t₀ k₀ => XS.iloadN X0.here hx rfl (hb hby d12_73) rfl k₀
            show Owes _ _ _ _ (s₁.setTop (mkF m 74 #[.val (.int p0), .val (.int (31 : Int32))] [(.int (31 : Int32))]))
            refine Owes.go ?_ fun t₀ k₀ => XS.iloadN X0.here hx rfl (hb hby d12_74) rfl k₀
            show Owes _ _ _ _ (s₁.setTop (mkF m 75 #[.val (.int p0), .val (.int (31 : Int32))] [(.int p0), (.int (31 : Int32))]))
            refine Owes.go ?_ fun t₀ k₀ => XS.iconst X0.here hx rfl (hb hby d12_75) k₀
            show Owes _ _ _ _ (s₁.setTop (mkF m 76 #[.val (.int p0), .val (.int (31 : Int32))] [(.int (1 : Int32)), (.int p0), (.int (31 : Int32))]))
            refine Owes.go ?_ fun t₀ k₀ => XS.iushr X0.here hx rfl (hb hby d12_76) rfl k₀
            show Owes _ _ _ _ (s₁.setTop (mkF m 77 #[.val (.int p0), .val (.int (31 : Int32))] [(.int ((p0.toUInt32 >>> ((1 : Int32) &&& 31).toUInt32).toInt32)), (.int (31 : Int32))]))
            refine Owes.go ?_ fun t₀ k₀ => XS.isub X0.here hx rfl (hb hby d12_77) rfl k₀
            show Owes _ _ _ _ (s₁.setTop (mkF m 78 #[.val (.int p0), .val (.int (31 : Int32))] [(.int ((31 : Int32) - ((p0.toUInt32 >>> ((1 : Int32) &&& 31).toUInt32).toInt32)))]))
            exact Owes.retI X0 hx hlk hret (hb hby d12_78) (by decide) (by decide) ⟨congrArg (fun z => some (Value.int z)) (by unfold f_nlzI; rw [if_pos hc1, if_pos hc2, if_pos hc3, if_pos hc4, if_pos hc5]; first | done | rfl), rfl, e0⟩
          · skip
            refine Owes.go ?_ fun t₀ k₀ => XS.icmpNo X0.here hx rfl (hb hby d12_63) rfl (flt hc5).1 k₀
            show Owes _ _ _ _ (s₁.setTop (mkF m 66 #[.val (.int p0), .val (.int (31 : Int32))] []))
            refine Owes.go ?_ fun t₀ k₀ => XS.iinc X0.here hx rfl (hb hby d12_66) rfl (l' := #[.val (.int p0), .val (.int ((31 : Int32) + (-2 : Int32)))]) rfl k₀
            show Owes _ _ _ _ (s₁.setTop (mkF m 69 #[.val (.int p0), .val (.int ((31 : Int32) + (-2 : Int32)))] []))
            refine Owes.go ?_ fun t₀ k₀ => XS.iloadN X0.here hx rfl (hb hby d12_69) rfl k₀
            show Owes _ _ _ _ (s₁.setTop (mkF m 70 #[.val (.int p0), .val (.int ((31 : Int32) + (-2 : Int32)))] [(.int p0)]))
            refine Owes.go ?_ fun t₀ k₀ => XS.iconst X0.here hx rfl (hb hby d12_70) k₀
            show Owes _ _ _ _ (s₁.setTop (mkF m 71 #[.val (.int p0), .val (.int ((31 : Int32) + (-2 : Int32)))] [(.int (2 : Int32)), (.int p0)]))
            refine Owes.go ?_ fun t₀ k₀ => XS.iushr X0.here hx rfl (hb hby d12_71) rfl k₀
            show Owes _ _ _ _ (s₁.setTop (mkF m 72 #[.val (.int p0), .val (.int ((31 : Int32) + (-2 : Int32)))] [(.int ((p0.toUInt32 >>> ((2 : Int32) &&& 31).toUInt32).toInt32))]))
            refine Owes.go ?_ fun t₀ k₀ => XS.istoreN X0.here hx rfl (hb hby d12_72) rfl (l' := #[.val (.int ((p0.toUInt32 >>> ((2 : Int32) &&& 31).toUInt32).toInt32)), .val (.int ((31 : Int32) + (-2 : Int32)))]) rfl k₀
            show Owes _ _ _ _ (s₁.setTop (mkF m 73 #[.val (.int ((p0.toUInt32 >>> ((2 : Int32) &&& 31).toUInt32).toInt32)), .val (.int ((31 : Int32) + (-2 : Int32)))] []))
            refine Owes.go ?_ fun t₀ k₀ => XS.iloadN X0.here hx rfl (hb hby d12_73) rfl k₀
            show Owes _ _ _ _ (s₁.setTop (mkF m 74 #[.val (.int ((p0.toUInt32 >>> ((2 : Int32) &&& 31).toUInt32).toInt32)), .val (.int ((31 : Int32) + (-2 : Int32)))] [(.int ((31 : Int32) + (-2 : Int32)))]))
            refine Owes.go ?_ fun t₀ k₀ => XS.iloadN X0.here hx rfl (hb hby d12_74) rfl k₀
            show Owes _ _ _ _ (s₁.setTop (mkF m 75 #[.val (.int ((p0.toUInt32 >>> ((2 : Int32) &&& 31).toUInt32).toInt32)), .val (.int ((31 : Int32) + (-2 : Int32)))] [(.int ((p0.toUInt32 >>> ((2 : Int32) &&& 31).toUInt32).toInt32)), (.int ((31 : Int32) + (-2 : Int32)))]))
            refine Owes.go ?_ fun t₀ k₀ => XS.iconst X0.here hx rfl (hb hby d12_75) k₀
            show Owes _ _ _ _ (s₁.setTop (mkF m 76 #[.val (.int ((p0.toUInt32 >>> ((2 : Int32) &&& 31).toUInt32).toInt32)), .val (.int ((31 : Int32) + (-2 : Int32)))] [(.int (1 : Int32)), (.int ((p0.toUInt32 >>> ((2 : Int32) &&& 31).toUInt32).toInt32)), (.int ((31 : Int32) + (-2 : Int32)))]))
            refine Owes.go ?_ fun t₀ k₀ => XS.iushr X0.here hx rfl (hb hby d12_76) rfl k₀
            show Owes _ _ _ _ (s₁.setTop (mkF m 77 #[.val (.int ((p0.toUInt32 >>> ((2 : Int32) &&& 31).toUInt32).toInt32)), .val (.int ((31 : Int32) + (-2 : Int32)))] [(.int ((((p0.toUInt32 >>> ((2 : Int32) &&& 31).toUInt32).toInt32).toUInt32 >>> ((1 : Int32) &&& 31).toUInt32).toInt32)), (.int ((31 : Int32) + (-2 : Int32)))]))
            refine Owes.go ?_ fun t₀ k₀ => XS.isub X0.here hx rfl (hb hby d12_77) rfl k₀
            show Owes _ _ _ _ (s₁.setTop (mkF m 78 #[.val (.int ((p0.toUInt32 >>> ((2 : Int32) &&& 31).toUInt32).toInt32)), .val (.int ((31 : Int32) + (-2 : Int32)))] [(.int (((31 : Int32) + (-2 : Int32)) - ((((p0.toUInt32 >>> ((2 : Int32) &&& 31).toUInt32).toInt32).toUInt32 >>> ((1 : Int32) &&& 31).toUInt32).toInt32)))]))
            exact Owes.retI X0 hx hlk hret (hb hby d12_78) (by decide) (by decide) ⟨congrArg (fun z => some (Value.int z)) (by unfold f_nlzI; rw [if_pos hc1, if_pos hc2, if_pos hc3, if_pos hc4, if_neg hc5]; first | done | rfl), rfl, e0⟩
        · skip
          refine Owes.go ?_ fun t₀ k₀ => XS.icmpNo X0.here hx rfl (hb hby d12_51) rfl (flt hc4).1 k₀
          show Owes _ _ _ _ (s₁.setTop (mkF m 54 #[.val (.int p0), .val (.int (31 : Int32))] []))
          refine Owes.go ?_ fun t₀ k₀ => XS.iinc X0.here hx rfl (hb hby d12_54) rfl (l' := #[.val (.int p0), .val (.int ((31 : Int32) + (-4 : Int32)))]) rfl k₀
          show Owes _ _ _ _ (s₁.setTop (mkF m 57 #[.val (.int p0), .val (.int ((31 : Int32) + (-4 : Int32)))] []))
          refine Owes.go ?_ fun t₀ k₀ => XS.iloadN X0.here hx rfl (hb hby d12_57) rfl k₀
          show Owes _ _ _ _ (s₁.setTop (mkF m 58 #[.val (.int p0), .val (.int ((31 : Int32) + (-4 : Int32)))] [(.int p0)]))
          refine Owes.go ?_ fun t₀ k₀ => XS.iconst X0.here hx rfl (hb hby d12_58) k₀
          show Owes _ _ _ _ (s₁.setTop (mkF m 59 #[.val (.int p0), .val (.int ((31 : Int32) + (-4 : Int32)))] [(.int (4 : Int32)), (.int p0)]))
          refine Owes.go ?_ fun t₀ k₀ => XS.iushr X0.here hx rfl (hb hby d12_59) rfl k₀
          show Owes _ _ _ _ (s₁.setTop (mkF m 60 #[.val (.int p0), .val (.int ((31 : Int32) + (-4 : Int32)))] [(.int ((p0.toUInt32 >>> ((4 : Int32) &&& 31).toUInt32).toInt32))]))
          refine Owes.go ?_ fun t₀ k₀ => XS.istoreN X0.here hx rfl (hb hby d12_60) rfl (l' := #[.val (.int ((p0.toUInt32 >>> ((4 : Int32) &&& 31).toUInt32).toInt32)), .val (.int ((31 : Int32) + (-4 : Int32)))]) rfl k₀
          show Owes _ _ _ _ (s₁.setTop (mkF m 61 #[.val (.int ((p0.toUInt32 >>> ((4 : Int32) &&& 31).toUInt32).toInt32)), .val (.int ((31 : Int32) + (-4 : Int32)))] []))
          refine Owes.go ?_ fun t₀ k₀ => XS.iloadN X0.here hx rfl (hb hby d12_61) rfl k₀
          show Owes _ _ _ _ (s₁.setTop (mkF m 62 #[.val (.int ((p0.toUInt32 >>> ((4 : Int32) &&& 31).toUInt32).toInt32)), .val (.int ((31 : Int32) + (-4 : Int32)))] [(.int ((p0.toUInt32 >>> ((4 : Int32) &&& 31).toUInt32).toInt32))]))
          refine Owes.go ?_ fun t₀ k₀ => XS.iconst X0.here hx rfl (hb hby d12_62) k₀
          show Owes _ _ _ _ (s₁.setTop (mkF m 63 #[.val (.int ((p0.toUInt32 >>> ((4 : Int32) &&& 31).toUInt32).toInt32)), .val (.int ((31 : Int32) + (-4 : Int32)))] [(.int (4 : Int32)), (.int ((p0.toUInt32 >>> ((4 : Int32) &&& 31).toUInt32).toInt32))]))
          by_cases hc6 : ((p0.toUInt32 >>> ((4 : Int32) &&& 31).toUInt32).toInt32) < (4 : Int32)
          · skip
            refine Owes.go ?_ fun t₀ k₀ => XS.icmpYes X0.here hx rfl (pc0 := 63) (pc' := 73) rfl (hb hby d12_63) rfl (tlt hc6).1 (by decide) (by decide) k₀
            show Owes _ _ _ _ (s₁.setTop (mkF m 73 #[.val (.int ((p0.toUInt32 >>> ((4 : Int32) &&& 31).toUInt32).toInt32)), .val (.int ((31 : Int32) + (-4 : Int32)))] []))
            refine Owes.go ?_ fun t₀ k₀ => XS.iloadN X0.here hx rfl (hb hby d12_73) rfl k₀
            show Owes _ _ _ _ (s₁.setTop (mkF m 74 #[.val (.int ((p0.toUInt32 >>> ((4 : Int32) &&& 31).toUInt32).toInt32)), .val (.int ((31 : Int32) + (-4 : Int32)))] [(.int ((31 : Int32) + (-4 : Int32)))]))
            refine Owes.go ?_ fun t₀ k₀ => XS.iloadN X0.here hx rfl (hb hby d12_74) rfl k₀
            show Owes _ _ _ _ (s₁.setTop (mkF m 75 #[.val (.int ((p0.toUInt32 >>> ((4 : Int32) &&& 31).toUInt32).toInt32)), .val (.int ((31 : Int32) + (-4 : Int32)))] [(.int ((p0.toUInt32 >>> ((4 : Int32) &&& 31).toUInt32).toInt32)), (.int ((31 : Int32) + (-4 : Int32)))]))
            refine Owes.go ?_ fun t₀ k₀ => XS.iconst X0.here hx rfl (hb hby d12_75) k₀
            show Owes _ _ _ _ (s₁.setTop (mkF m 76 #[.val (.int ((p0.toUInt32 >>> ((4 : Int32) &&& 31).toUInt32).toInt32)), .val (.int ((31 : Int32) + (-4 : Int32)))] [(.int (1 : Int32)), (.int ((p0.toUInt32 >>> ((4 : Int32) &&& 31).toUInt32).toInt32)), (.int ((31 : Int32) + (-4 : Int32)))]))
            refine Owes.go ?_ fun t₀ k₀ => XS.iushr X0.here hx rfl (hb hby d12_76) rfl k₀
            show Owes _ _ _ _ (s₁.setTop (mkF m 77 #[.val (.int ((p0.toUInt32 >>> ((4 : Int32) &&& 31).toUInt32).toInt32)), .val (.int ((31 : Int32) + (-4 : Int32)))] [(.int ((((p0.toUInt32 >>> ((4 : Int32) &&& 31).toUInt32).toInt32).toUInt32 >>> ((1 : Int32) &&& 31).toUInt32).toInt32)), (.int ((31 : Int32) + (-4 : Int32)))]))
            refine Owes.go ?_ fun t₀ k₀ => XS.isub X0.here hx rfl (hb hby d12_77) rfl k₀
            show Owes _ _ _ _ (s₁.setTop (mkF m 78 #[.val (.int ((p0.toUInt32 >>> ((4 : Int32) &&& 31).toUInt32).toInt32)), .val (.int ((31 : Int32) + (-4 : Int32)))] [(.int (((31 : Int32) + (-4 : Int32)) - ((((p0.toUInt32 >>> ((4 : Int32) &&& 31).toUInt32).toInt32).toUInt32 >>> ((1 : Int32) &&& 31).toUInt32).toInt32)))]))
            exact Owes.retI X0 hx hlk hret (hb hby d12_78) (by decide) (by decide) ⟨congrArg (fun z => some (Value.int z)) (by unfold f_nlzI; rw [if_pos hc1, if_pos hc2, if_pos hc3, if_neg hc4, if_pos hc6]; first | done | rfl), rfl, e0⟩
          · skip
            refine Owes.go ?_ fun t₀ k₀ => XS.icmpNo X0.here hx rfl (hb hby d12_63) rfl (flt hc6).1 k₀
            show Owes _ _ _ _ (s₁.setTop (mkF m 66 #[.val (.int ((p0.toUInt32 >>> ((4 : Int32) &&& 31).toUInt32).toInt32)), .val (.int ((31 : Int32) + (-4 : Int32)))] []))
            refine Owes.go ?_ fun t₀ k₀ => XS.iinc X0.here hx rfl (hb hby d12_66) rfl (l' := #[.val (.int ((p0.toUInt32 >>> ((4 : Int32) &&& 31).toUInt32).toInt32)), .val (.int (((31 : Int32) + (-4 : Int32)) + (-2 : Int32)))]) rfl k₀
            show Owes _ _ _ _ (s₁.setTop (mkF m 69 #[.val (.int ((p0.toUInt32 >>> ((4 : Int32) &&& 31).toUInt32).toInt32)), .val (.int (((31 : Int32) + (-4 : Int32)) + (-2 : Int32)))] []))
            refine Owes.go ?_ fun t₀ k₀ => XS.iloadN X0.here hx rfl (hb hby d12_69) rfl k₀
            show Owes _ _ _ _ (s₁.setTop (mkF m 70 #[.val (.int ((p0.toUInt32 >>> ((4 : Int32) &&& 31).toUInt32).toInt32)), .val (.int (((31 : Int32) + (-4 : Int32)) + (-2 : Int32)))] [(.int ((p0.toUInt32 >>> ((4 : Int32) &&& 31).toUInt32).toInt32))]))
            refine Owes.go ?_ fun t₀ k₀ => XS.iconst X0.here hx rfl (hb hby d12_70) k₀
            show Owes _ _ _ _ (s₁.setTop (mkF m 71 #[.val (.int ((p0.toUInt32 >>> ((4 : Int32) &&& 31).toUInt32).toInt32)), .val (.int (((31 : Int32) + (-4 : Int32)) + (-2 : Int32)))] [(.int (2 : Int32)), (.int ((p0.toUInt32 >>> ((4 : Int32) &&& 31).toUInt32).toInt32))]))
            refine Owes.go ?_ fun t₀ k₀ => XS.iushr X0.here hx rfl (hb hby d12_71) rfl k₀
            show Owes _ _ _ _ (s₁.setTop (mkF m 72 #[.val (.int ((p0.toUInt32 >>> ((4 : Int32) &&& 31).toUInt32).toInt32)), .val (.int (((31 : Int32) + (-4 : Int32)) + (-2 : Int32)))] [(.int ((((p0.toUInt32 >>> ((4 : Int32) &&& 31).toUInt32).toInt32).toUInt32 >>> ((2 : Int32) &&& 31).toUInt32).toInt32))]))
            refine Owes.go ?_ fun t₀ k₀ => XS.istoreN X0.here hx rfl (hb hby d12_72) rfl (l' := #[.val (.int ((((p0.toUInt32 >>> ((4 : Int32) &&& 31).toUInt32).toInt32).toUInt32 >>> ((2 : Int32) &&& 31).toUInt32).toInt32)), .val (.int (((31 : Int32) + (-4 : Int32)) + (-2 : Int32)))]) rfl k₀
            show Owes _ _ _ _ (s₁.setTop (mkF m 73 #[.val (.int ((((p0.toUInt32 >>> ((4 : Int32) &&& 31).toUInt32).toInt32).toUInt32 >>> ((2 : Int32) &&& 31).toUInt32).toInt32)), .val (.int (((31 : Int32) + (-4 : Int32)) + (-2 : Int32)))] []))
            refine Owes.go ?_ fun t₀ k₀ => XS.iloadN X0.here hx rfl (hb hby d12_73) rfl k₀
            show Owes _ _ _ _ (s₁.setTop (mkF m 74 #[.val (.int ((((p0.toUInt32 >>> ((4 : Int32) &&& 31).toUInt32).toInt32).toUInt32 >>> ((2 : Int32) &&& 31).toUInt32).toInt32)), .val (.int (((31 : Int32) + (-4 : Int32)) + (-2 : Int32)))] [(.int (((31 : Int32) + (-4 : Int32)) + (-2 : Int32)))]))
            refine Owes.go ?_ fun t₀ k₀ => XS.iloadN X0.here hx rfl (hb hby d12_74) rfl k₀
            show Owes _ _ _ _ (s₁.setTop (mkF m 75 #[.val (.int ((((p0.toUInt32 >>> ((4 : Int32) &&& 31).toUInt32).toInt32).toUInt32 >>> ((2 : Int32) &&& 31).toUInt32).toInt32)), .val (.int (((31 : Int32) + (-4 : Int32)) + (-2 : Int32)))] [(.int ((((p0.toUInt32 >>> ((4 : Int32) &&& 31).toUInt32).toInt32).toUInt32 >>> ((2 : Int32) &&& 31).toUInt32).toInt32)), (.int (((31 : Int32) + (-4 : Int32)) + (-2 : Int32)))]))
            refine Owes.go ?_ fun t₀ k₀ => XS.iconst X0.here hx rfl (hb hby d12_75) k₀
            show Owes _ _ _ _ (s₁.setTop (mkF m 76 #[.val (.int ((((p0.toUInt32 >>> ((4 : Int32) &&& 31).toUInt32).toInt32).toUInt32 >>> ((2 : Int32) &&& 31).toUInt32).toInt32)), .val (.int (((31 : Int32) + (-4 : Int32)) + (-2 : Int32)))] [(.int (1 : Int32)), (.int ((((p0.toUInt32 >>> ((4 : Int32) &&& 31).toUInt32).toInt32).toUInt32 >>> ((2 : Int32) &&& 31).toUInt32).toInt32)), (.int (((31 : Int32) + (-4 : Int32)) + (-2 : Int32)))]))
            refine Owes.go ?_ fun t₀ k₀ => XS.iushr X0.here hx rfl (hb hby d12_76) rfl k₀
            show Owes _ _ _ _ (s₁.setTop (mkF m 77 #[.val (.int ((((p0.toUInt32 >>> ((4 : Int32) &&& 31).toUInt32).toInt32).toUInt32 >>> ((2 : Int32) &&& 31).toUInt32).toInt32)), .val (.int (((31 : Int32) + (-4 : Int32)) + (-2 : Int32)))] [(.int ((((((p0.toUInt32 >>> ((4 : Int32) &&& 31).toUInt32).toInt32).toUInt32 >>> ((2 : Int32) &&& 31).toUInt32).toInt32).toUInt32 >>> ((1 : Int32) &&& 31).toUInt32).toInt32)), (.int (((31 : Int32) + (-4 : Int32)) + (-2 : Int32)))]))
            refine Owes.go ?_ fun t₀ k₀ => XS.isub X0.here hx rfl (hb hby d12_77) rfl k₀
            show Owes _ _ _ _ (s₁.setTop (mkF m 78 #[.val (.int ((((p0.toUInt32 >>> ((4 : Int32) &&& 31).toUInt32).toInt32).toUInt32 >>> ((2 : Int32) &&& 31).toUInt32).toInt32)), .val (.int (((31 : Int32) + (-4 : Int32)) + (-2 : Int32)))] [(.int ((((31 : Int32) + (-4 : Int32)) + (-2 : Int32)) - ((((((p0.toUInt32 >>> ((4 : Int32) &&& 31).toUInt32).toInt32).toUInt32 >>> ((2 : Int32) &&& 31).toUInt32).toInt32).toUInt32 >>> ((1 : Int32) &&& 31).toUInt32).toInt32)))]))
            exact Owes.retI X0 hx hlk hret (hb hby d12_78) (by decide) (by decide) ⟨congrArg (fun z => some (Value.int z)) (by unfold f_nlzI; rw [if_pos hc1, if_pos hc2, if_pos hc3, if_neg hc4, if_neg hc6]; first | done | rfl), rfl, e0⟩
      · skip
        refine Owes.go ?_ fun t₀ k₀ => XS.icmpNo X0.here hx rfl (hb hby d12_37) rfl (flt hc3).1 k₀
        show Owes _ _ _ _ (s₁.setTop (mkF m 40 #[.val (.int p0), .val (.int (31 : Int32))] []))
        refine Owes.go ?_ fun t₀ k₀ => XS.iinc X0.here hx rfl (hb hby d12_40) rfl (l' := #[.val (.int p0), .val (.int ((31 : Int32) + (-8 : Int32)))]) rfl k₀
        show Owes _ _ _ _ (s₁.setTop (mkF m 43 #[.val (.int p0), .val (.int ((31 : Int32) + (-8 : Int32)))] []))
        refine Owes.go ?_ fun t₀ k₀ => XS.iloadN X0.here hx rfl (hb hby d12_43) rfl k₀
        show Owes _ _ _ _ (s₁.setTop (mkF m 44 #[.val (.int p0), .val (.int ((31 : Int32) + (-8 : Int32)))] [(.int p0)]))
        refine Owes.go ?_ fun t₀ k₀ => XS.bipush X0.here hx rfl (hb hby d12_44) k₀
        show Owes _ _ _ _ (s₁.setTop (mkF m 46 #[.val (.int p0), .val (.int ((31 : Int32) + (-8 : Int32)))] [(.int (8 : Int32)), (.int p0)]))
        refine Owes.go ?_ fun t₀ k₀ => XS.iushr X0.here hx rfl (hb hby d12_46) rfl k₀
        show Owes _ _ _ _ (s₁.setTop (mkF m 47 #[.val (.int p0), .val (.int ((31 : Int32) + (-8 : Int32)))] [(.int ((p0.toUInt32 >>> ((8 : Int32) &&& 31).toUInt32).toInt32))]))
        refine Owes.go ?_ fun t₀ k₀ => XS.istoreN X0.here hx rfl (hb hby d12_47) rfl (l' := #[.val (.int ((p0.toUInt32 >>> ((8 : Int32) &&& 31).toUInt32).toInt32)), .val (.int ((31 : Int32) + (-8 : Int32)))]) rfl k₀
        show Owes _ _ _ _ (s₁.setTop (mkF m 48 #[.val (.int ((p0.toUInt32 >>> ((8 : Int32) &&& 31).toUInt32).toInt32)), .val (.int ((31 : Int32) + (-8 : Int32)))] []))
        refine Owes.go ?_ fun t₀ k₀ => XS.iloadN X0.here hx rfl (hb hby d12_48) rfl k₀
        show Owes _ _ _ _ (s₁.setTop (mkF m 49 #[.val (.int ((p0.toUInt32 >>> ((8 : Int32) &&& 31).toUInt32).toInt32)), .val (.int ((31 : Int32) + (-8 : Int32)))] [(.int ((p0.toUInt32 >>> ((8 : Int32) &&& 31).toUInt32).toInt32))]))
        refine Owes.go ?_ fun t₀ k₀ => XS.bipush X0.here hx rfl (hb hby d12_49) k₀
        show Owes _ _ _ _ (s₁.setTop (mkF m 51 #[.val (.int ((p0.toUInt32 >>> ((8 : Int32) &&& 31).toUInt32).toInt32)), .val (.int ((31 : Int32) + (-8 : Int32)))] [(.int (16 : Int32)), (.int ((p0.toUInt32 >>> ((8 : Int32) &&& 31).toUInt32).toInt32))]))
        by_cases hc7 : ((p0.toUInt32 >>> ((8 : Int32) &&& 31).toUInt32).toInt32) < (16 : Int32)
        · skip
          refine Owes.go ?_ fun t₀ k₀ => XS.icmpYes X0.here hx rfl (pc0 := 51) (pc' := 61) rfl (hb hby d12_51) rfl (tlt hc7).1 (by decide) (by decide) k₀
          show Owes _ _ _ _ (s₁.setTop (mkF m 61 #[.val (.int ((p0.toUInt32 >>> ((8 : Int32) &&& 31).toUInt32).toInt32)), .val (.int ((31 : Int32) + (-8 : Int32)))] []))
          refine Owes.go ?_ fun t₀ k₀ => XS.iloadN X0.here hx rfl (hb hby d12_61) rfl k₀
          show Owes _ _ _ _ (s₁.setTop (mkF m 62 #[.val (.int ((p0.toUInt32 >>> ((8 : Int32) &&& 31).toUInt32).toInt32)), .val (.int ((31 : Int32) + (-8 : Int32)))] [(.int ((p0.toUInt32 >>> ((8 : Int32) &&& 31).toUInt32).toInt32))]))
          refine Owes.go ?_ fun t₀ k₀ => XS.iconst X0.here hx rfl (hb hby d12_62) k₀
          show Owes _ _ _ _ (s₁.setTop (mkF m 63 #[.val (.int ((p0.toUInt32 >>> ((8 : Int32) &&& 31).toUInt32).toInt32)), .val (.int ((31 : Int32) + (-8 : Int32)))] [(.int (4 : Int32)), (.int ((p0.toUInt32 >>> ((8 : Int32) &&& 31).toUInt32).toInt32))]))
          by_cases hc8 : ((p0.toUInt32 >>> ((8 : Int32) &&& 31).toUInt32).toInt32) < (4 : Int32)
          · skip
            refine Owes.go ?_ fun t₀ k₀ => XS.icmpYes X0.here hx rfl (pc0 := 63) (pc' := 73) rfl (hb hby d12_63) rfl (tlt hc8).1 (by decide) (by decide) k₀
            show Owes _ _ _ _ (s₁.setTop (mkF m 73 #[.val (.int ((p0.toUInt32 >>> ((8 : Int32) &&& 31).toUInt32).toInt32)), .val (.int ((31 : Int32) + (-8 : Int32)))] []))
            refine Owes.go ?_ fun t₀ k₀ => XS.iloadN X0.here hx rfl (hb hby d12_73) rfl k₀
            show Owes _ _ _ _ (s₁.setTop (mkF m 74 #[.val (.int ((p0.toUInt32 >>> ((8 : Int32) &&& 31).toUInt32).toInt32)), .val (.int ((31 : Int32) + (-8 : Int32)))] [(.int ((31 : Int32) + (-8 : Int32)))]))
            refine Owes.go ?_ fun t₀ k₀ => XS.iloadN X0.here hx rfl (hb hby d12_74) rfl k₀
            show Owes _ _ _ _ (s₁.setTop (mkF m 75 #[.val (.int ((p0.toUInt32 >>> ((8 : Int32) &&& 31).toUInt32).toInt32)), .val (.int ((31 : Int32) + (-8 : Int32)))] [(.int ((p0.toUInt32 >>> ((8 : Int32) &&& 31).toUInt32).toInt32)), (.int ((31 : Int32) + (-8 : Int32)))]))
            refine Owes.go ?_ fun t₀ k₀ => XS.iconst X0.here hx rfl (hb hby d12_75) k₀
            show Owes _ _ _ _ (s₁.setTop (mkF m 76 #[.val (.int ((p0.toUInt32 >>> ((8 : Int32) &&& 31).toUInt32).toInt32)), .val (.int ((31 : Int32) + (-8 : Int32)))] [(.int (1 : Int32)), (.int ((p0.toUInt32 >>> ((8 : Int32) &&& 31).toUInt32).toInt32)), (.int ((31 : Int32) + (-8 : Int32)))]))
            refine Owes.go ?_ fun t₀ k₀ => XS.iushr X0.here hx rfl (hb hby d12_76) rfl k₀
            show Owes _ _ _ _ (s₁.setTop (mkF m 77 #[.val (.int ((p0.toUInt32 >>> ((8 : Int32) &&& 31).toUInt32).toInt32)), .val (.int ((31 : Int32) + (-8 : Int32)))] [(.int ((((p0.toUInt32 >>> ((8 : Int32) &&& 31).toUInt32).toInt32).toUInt32 >>> ((1 : Int32) &&& 31).toUInt32).toInt32)), (.int ((31 : Int32) + (-8 : Int32)))]))
            refine Owes.go ?_ fun t₀ k₀ => XS.isub X0.here hx rfl (hb hby d12_77) rfl k₀
            show Owes _ _ _ _ (s₁.setTop (mkF m 78 #[.val (.int ((p0.toUInt32 >>> ((8 : Int32) &&& 31).toUInt32).toInt32)), .val (.int ((31 : Int32) + (-8 : Int32)))] [(.int (((31 : Int32) + (-8 : Int32)) - ((((p0.toUInt32 >>> ((8 : Int32) &&& 31).toUInt32).toInt32).toUInt32 >>> ((1 : Int32) &&& 31).toUInt32).toInt32)))]))
            exact Owes.retI X0 hx hlk hret (hb hby d12_78) (by decide) (by decide) ⟨congrArg (fun z => some (Value.int z)) (by unfold f_nlzI; rw [if_pos hc1, if_pos hc2, if_neg hc3, if_pos hc7, if_pos hc8]; first | done | rfl), rfl, e0⟩
          · skip
            refine Owes.go ?_ fun t₀ k₀ => XS.icmpNo X0.here hx rfl (hb hby d12_63) rfl (flt hc8).1 k₀
            show Owes _ _ _ _ (s₁.setTop (mkF m 66 #[.val (.int ((p0.toUInt32 >>> ((8 : Int32) &&& 31).toUInt32).toInt32)), .val (.int ((31 : Int32) + (-8 : Int32)))] []))
            refine Owes.go ?_ fun t₀ k₀ => XS.iinc X0.here hx rfl (hb hby d12_66) rfl (l' := #[.val (.int ((p0.toUInt32 >>> ((8 : Int32) &&& 31).toUInt32).toInt32)), .val (.int (((31 : Int32) + (-8 : Int32)) + (-2 : Int32)))]) rfl k₀
            show Owes _ _ _ _ (s₁.setTop (mkF m 69 #[.val (.int ((p0.toUInt32 >>> ((8 : Int32) &&& 31).toUInt32).toInt32)), .val (.int (((31 : Int32) + (-8 : Int32)) + (-2 : Int32)))] []))
            refine Owes.go ?_ fun t₀ k₀ => XS.iloadN X0.here hx rfl (hb hby d12_69) rfl k₀
            show Owes _ _ _ _ (s₁.setTop (mkF m 70 #[.val (.int ((p0.toUInt32 >>> ((8 : Int32) &&& 31).toUInt32).toInt32)), .val (.int (((31 : Int32) + (-8 : Int32)) + (-2 : Int32)))] [(.int ((p0.toUInt32 >>> ((8 : Int32) &&& 31).toUInt32).toInt32))]))
            refine Owes.go ?_ fun t₀ k₀ => XS.iconst X0.here hx rfl (hb hby d12_70) k₀
            show Owes _ _ _ _ (s₁.setTop (mkF m 71 #[.val (.int ((p0.toUInt32 >>> ((8 : Int32) &&& 31).toUInt32).toInt32)), .val (.int (((31 : Int32) + (-8 : Int32)) + (-2 : Int32)))] [(.int (2 : Int32)), (.int ((p0.toUInt32 >>> ((8 : Int32) &&& 31).toUInt32).toInt32))]))
            refine Owes.go ?_ fun t₀ k₀ => XS.iushr X0.here hx rfl (hb hby d12_71) rfl k₀
            show Owes _ _ _ _ (s₁.setTop (mkF m 72 #[.val (.int ((p0.toUInt32 >>> ((8 : Int32) &&& 31).toUInt32).toInt32)), .val (.int (((31 : Int32) + (-8 : Int32)) + (-2 : Int32)))] [(.int ((((p0.toUInt32 >>> ((8 : Int32) &&& 31).toUInt32).toInt32).toUInt32 >>> ((2 : Int32) &&& 31).toUInt32).toInt32))]))
            refine Owes.go ?_ fun t₀ k₀ => XS.istoreN X0.here hx rfl (hb hby d12_72) rfl (l' := #[.val (.int ((((p0.toUInt32 >>> ((8 : Int32) &&& 31).toUInt32).toInt32).toUInt32 >>> ((2 : Int32) &&& 31).toUInt32).toInt32)), .val (.int (((31 : Int32) + (-8 : Int32)) + (-2 : Int32)))]) rfl k₀
            show Owes _ _ _ _ (s₁.setTop (mkF m 73 #[.val (.int ((((p0.toUInt32 >>> ((8 : Int32) &&& 31).toUInt32).toInt32).toUInt32 >>> ((2 : Int32) &&& 31).toUInt32).toInt32)), .val (.int (((31 : Int32) + (-8 : Int32)) + (-2 : Int32)))] []))
            refine Owes.go ?_ fun t₀ k₀ => XS.iloadN X0.here hx rfl (hb hby d12_73) rfl k₀
            show Owes _ _ _ _ (s₁.setTop (mkF m 74 #[.val (.int ((((p0.toUInt32 >>> ((8 : Int32) &&& 31).toUInt32).toInt32).toUInt32 >>> ((2 : Int32) &&& 31).toUInt32).toInt32)), .val (.int (((31 : Int32) + (-8 : Int32)) + (-2 : Int32)))] [(.int (((31 : Int32) + (-8 : Int32)) + (-2 : Int32)))]))
            refine Owes.go ?_ fun t₀ k₀ => XS.iloadN X0.here hx rfl (hb hby d12_74) rfl k₀
            show Owes _ _ _ _ (s₁.setTop (mkF m 75 #[.val (.int ((((p0.toUInt32 >>> ((8 : Int32) &&& 31).toUInt32).toInt32).toUInt32 >>> ((2 : Int32) &&& 31).toUInt32).toInt32)), .val (.int (((31 : Int32) + (-8 : Int32)) + (-2 : Int32)))] [(.int ((((p0.toUInt32 >>> ((8 : Int32) &&& 31).toUInt32).toInt32).toUInt32 >>> ((2 : Int32) &&& 31).toUInt32).toInt32)), (.int (((31 : Int32) + (-8 : Int32)) + (-2 : Int32)))]))
            refine Owes.go ?_ fun t₀ k₀ => XS.iconst X0.here hx rfl (hb hby d12_75) k₀
            show Owes _ _ _ _ (s₁.setTop (mkF m 76 #[.val (.int ((((p0.toUInt32 >>> ((8 : Int32) &&& 31).toUInt32).toInt32).toUInt32 >>> ((2 : Int32) &&& 31).toUInt32).toInt32)), .val (.int (((31 : Int32) + (-8 : Int32)) + (-2 : Int32)))] [(.int (1 : Int32)), (.int ((((p0.toUInt32 >>> ((8 : Int32) &&& 31).toUInt32).toInt32).toUInt32 >>> ((2 : Int32) &&& 31).toUInt32).toInt32)), (.int (((31 : Int32) + (-8 : Int32)) + (-2 : Int32)))]))
            refine Owes.go ?_ fun t₀ k₀ => XS.iushr X0.here hx rfl (hb hby d12_76) rfl k₀
            show Owes _ _ _ _ (s₁.setTop (mkF m 77 #[.val (.int ((((p0.toUInt32 >>> ((8 : Int32) &&& 31).toUInt32).toInt32).toUInt32 >>> ((2 : Int32) &&& 31).toUInt32).toInt32)), .val (.int (((31 : Int32) + (-8 : Int32)) + (-2 : Int32)))] [(.int ((((((p0.toUInt32 >>> ((8 : Int32) &&& 31).toUInt32).toInt32).toUInt32 >>> ((2 : Int32) &&& 31).toUInt32).toInt32).toUInt32 >>> ((1 : Int32) &&& 31).toUInt32).toInt32)), (.int (((31 : Int32) + (-8 : Int32)) + (-2 : Int32)))]))
            refine Owes.go ?_ fun t₀ k₀ => XS.isub X0.here hx rfl (hb hby d12_77) rfl k₀
            show Owes _ _ _ _ (s₁.setTop (mkF m 78 #[.val (.int ((((p0.toUInt32 >>> ((8 : Int32) &&& 31).toUInt32).toInt32).toUInt32 >>> ((2 : Int32) &&& 31).toUInt32).toInt32)), .val (.int (((31 : Int32) + (-8 : Int32)) + (-2 : Int32)))] [(.int ((((31 : Int32) + (-8 : Int32)) + (-2 : Int32)) - ((((((p0.toUInt32 >>> ((8 : Int32) &&& 31).toUInt32).toInt32).toUInt32 >>> ((2 : Int32) &&& 31).toUInt32).toInt32).toUInt32 >>> ((1 : Int32) &&& 31).toUInt32).toInt32)))]))
            exact Owes.retI X0 hx hlk hret (hb hby d12_78) (by decide) (by decide) ⟨congrArg (fun z => some (Value.int z)) (by unfold f_nlzI; rw [if_pos hc1, if_pos hc2, if_neg hc3, if_pos hc7, if_neg hc8]; first | done | rfl), rfl, e0⟩
        · skip
          refine Owes.go ?_ fun t₀ k₀ => XS.icmpNo X0.here hx rfl (hb hby d12_51) rfl (flt hc7).1 k₀
          show Owes _ _ _ _ (s₁.setTop (mkF m 54 #[.val (.int ((p0.toUInt32 >>> ((8 : Int32) &&& 31).toUInt32).toInt32)), .val (.int ((31 : Int32) + (-8 : Int32)))] []))
          refine Owes.go ?_ fun t₀ k₀ => XS.iinc X0.here hx rfl (hb hby d12_54) rfl (l' := #[.val (.int ((p0.toUInt32 >>> ((8 : Int32) &&& 31).toUInt32).toInt32)), .val (.int (((31 : Int32) + (-8 : Int32)) + (-4 : Int32)))]) rfl k₀
          show Owes _ _ _ _ (s₁.setTop (mkF m 57 #[.val (.int ((p0.toUInt32 >>> ((8 : Int32) &&& 31).toUInt32).toInt32)), .val (.int (((31 : Int32) + (-8 : Int32)) + (-4 : Int32)))] []))
          refine Owes.go ?_ fun t₀ k₀ => XS.iloadN X0.here hx rfl (hb hby d12_57) rfl k₀
          show Owes _ _ _ _ (s₁.setTop (mkF m 58 #[.val (.int ((p0.toUInt32 >>> ((8 : Int32) &&& 31).toUInt32).toInt32)), .val (.int (((31 : Int32) + (-8 : Int32)) + (-4 : Int32)))] [(.int ((p0.toUInt32 >>> ((8 : Int32) &&& 31).toUInt32).toInt32))]))
          refine Owes.go ?_ fun t₀ k₀ => XS.iconst X0.here hx rfl (hb hby d12_58) k₀
          show Owes _ _ _ _ (s₁.setTop (mkF m 59 #[.val (.int ((p0.toUInt32 >>> ((8 : Int32) &&& 31).toUInt32).toInt32)), .val (.int (((31 : Int32) + (-8 : Int32)) + (-4 : Int32)))] [(.int (4 : Int32)), (.int ((p0.toUInt32 >>> ((8 : Int32) &&& 31).toUInt32).toInt32))]))
          refine Owes.go ?_ fun t₀ k₀ => XS.iushr X0.here hx rfl (hb hby d12_59) rfl k₀
          show Owes _ _ _ _ (s₁.setTop (mkF m 60 #[.val (.int ((p0.toUInt32 >>> ((8 : Int32) &&& 31).toUInt32).toInt32)), .val (.int (((31 : Int32) + (-8 : Int32)) + (-4 : Int32)))] [(.int ((((p0.toUInt32 >>> ((8 : Int32) &&& 31).toUInt32).toInt32).toUInt32 >>> ((4 : Int32) &&& 31).toUInt32).toInt32))]))
          refine Owes.go ?_ fun t₀ k₀ => XS.istoreN X0.here hx rfl (hb hby d12_60) rfl (l' := #[.val (.int ((((p0.toUInt32 >>> ((8 : Int32) &&& 31).toUInt32).toInt32).toUInt32 >>> ((4 : Int32) &&& 31).toUInt32).toInt32)), .val (.int (((31 : Int32) + (-8 : Int32)) + (-4 : Int32)))]) rfl k₀
          show Owes _ _ _ _ (s₁.setTop (mkF m 61 #[.val (.int ((((p0.toUInt32 >>> ((8 : Int32) &&& 31).toUInt32).toInt32).toUInt32 >>> ((4 : Int32) &&& 31).toUInt32).toInt32)), .val (.int (((31 : Int32) + (-8 : Int32)) + (-4 : Int32)))] []))
          refine Owes.go ?_ fun t₀ k₀ => XS.iloadN X0.here hx rfl (hb hby d12_61) rfl k₀
          show Owes _ _ _ _ (s₁.setTop (mkF m 62 #[.val (.int ((((p0.toUInt32 >>> ((8 : Int32) &&& 31).toUInt32).toInt32).toUInt32 >>> ((4 : Int32) &&& 31).toUInt32).toInt32)), .val (.int (((31 : Int32) + (-8 : Int32)) + (-4 : Int32)))] [(.int ((((p0.toUInt32 >>> ((8 : Int32) &&& 31).toUInt32).toInt32).toUInt32 >>> ((4 : Int32) &&& 31).toUInt32).toInt32))]))
          refine Owes.go ?_ fun t₀ k₀ => XS.iconst X0.here hx rfl (hb hby d12_62) k₀
          show Owes _ _ _ _ (s₁.setTop (mkF m 63 #[.val (.int ((((p0.toUInt32 >>> ((8 : Int32) &&& 31).toUInt32).toInt32).toUInt32 >>> ((4 : Int32) &&& 31).toUInt32).toInt32)), .val (.int (((31 : Int32) + (-8 : Int32)) + (-4 : Int32)))] [(.int (4 : Int32)), (.int ((((p0.toUInt32 >>> ((8 : Int32) &&& 31).toUInt32).toInt32).toUInt32 >>> ((4 : Int32) &&& 31).toUInt32).toInt32))]))
          by_cases hc9 : ((((p0.toUInt32 >>> ((8 : Int32) &&& 31).toUInt32).toInt32).toUInt32 >>> ((4 : Int32) &&& 31).toUInt32).toInt32) < (4 : Int32)
          · skip
            refine Owes.go ?_ fun t₀ k₀ => XS.icmpYes X0.here hx rfl (pc0 := 63) (pc' := 73) rfl (hb hby d12_63) rfl (tlt hc9).1 (by decide) (by decide) k₀
            show Owes _ _ _ _ (s₁.setTop (mkF m 73 #[.val (.int ((((p0.toUInt32 >>> ((8 : Int32) &&& 31).toUInt32).toInt32).toUInt32 >>> ((4 : Int32) &&& 31).toUInt32).toInt32)), .val (.int (((31 : Int32) + (-8 : Int32)) + (-4 : Int32)))] []))
            refine Owes.go ?_ fun t₀ k₀ => XS.iloadN X0.here hx rfl (hb hby d12_73) rfl k₀
            show Owes _ _ _ _ (s₁.setTop (mkF m 74 #[.val (.int ((((p0.toUInt32 >>> ((8 : Int32) &&& 31).toUInt32).toInt32).toUInt32 >>> ((4 : Int32) &&& 31).toUInt32).toInt32)), .val (.int (((31 : Int32) + (-8 : Int32)) + (-4 : Int32)))] [(.int (((31 : Int32) + (-8 : Int32)) + (-4 : Int32)))]))
            refine Owes.go ?_ fun t₀ k₀ => XS.iloadN X0.here hx rfl (hb hby d12_74) rfl k₀
            show Owes _ _ _ _ (s₁.setTop (mkF m 75 #[.val (.int ((((p0.toUInt32 >>> ((8 : Int32) &&& 31).toUInt32).toInt32).toUInt32 >>> ((4 : Int32) &&& 31).toUInt32).toInt32)), .val (.int (((31 : Int32) + (-8 : Int32)) + (-4 : Int32)))] [(.int ((((p0.toUInt32 >>> ((8 : Int32) &&& 31).toUInt32).toInt32).toUInt32 >>> ((4 : Int32) &&& 31).toUInt32).toInt32)), (.int (((31 : Int32) + (-8 : Int32)) + (-4 : Int32)))]))
            refine Owes.go ?_ fun t₀ k₀ => XS.iconst X0.here hx rfl (hb hby d12_75) k₀
            show Owes _ _ _ _ (s₁.setTop (mkF m 76 #[.val (.int ((((p0.toUInt32 >>> ((8 : Int32) &&& 31).toUInt32).toInt32).toUInt32 >>> ((4 : Int32) &&& 31).toUInt32).toInt32)), .val (.int (((31 : Int32) + (-8 : Int32)) + (-4 : Int32)))] [(.int (1 : Int32)), (.int ((((p0.toUInt32 >>> ((8 : Int32) &&& 31).toUInt32).toInt32).toUInt32 >>> ((4 : Int32) &&& 31).toUInt32).toInt32)), (.int (((31 : Int32) + (-8 : Int32)) + (-4 : Int32)))]))
            refine Owes.go ?_ fun t₀ k₀ => XS.iushr X0.here hx rfl (hb hby d12_76) rfl k₀
            show Owes _ _ _ _ (s₁.setTop (mkF m 77 #[.val (.int ((((p0.toUInt32 >>> ((8 : Int32) &&& 31).toUInt32).toInt32).toUInt32 >>> ((4 : Int32) &&& 31).toUInt32).toInt32)), .val (.int (((31 : Int32) + (-8 : Int32)) + (-4 : Int32)))] [(.int ((((((p0.toUInt32 >>> ((8 : Int32) &&& 31).toUInt32).toInt32).toUInt32 >>> ((4 : Int32) &&& 31).toUInt32).toInt32).toUInt32 >>> ((1 : Int32) &&& 31).toUInt32).toInt32)), (.int (((31 : Int32) + (-8 : Int32)) + (-4 : Int32)))]))
            refine Owes.go ?_ fun t₀ k₀ => XS.isub X0.here hx rfl (hb hby d12_77) rfl k₀
            show Owes _ _ _ _ (s₁.setTop (mkF m 78 #[.val (.int ((((p0.toUInt32 >>> ((8 : Int32) &&& 31).toUInt32).toInt32).toUInt32 >>> ((4 : Int32) &&& 31).toUInt32).toInt32)), .val (.int (((31 : Int32) + (-8 : Int32)) + (-4 : Int32)))] [(.int ((((31 : Int32) + (-8 : Int32)) + (-4 : Int32)) - ((((((p0.toUInt32 >>> ((8 : Int32) &&& 31).toUInt32).toInt32).toUInt32 >>> ((4 : Int32) &&& 31).toUInt32).toInt32).toUInt32 >>> ((1 : Int32) &&& 31).toUInt32).toInt32)))]))
            exact Owes.retI X0 hx hlk hret (hb hby d12_78) (by decide) (by decide) ⟨congrArg (fun z => some (Value.int z)) (by unfold f_nlzI; rw [if_pos hc1, if_pos hc2, if_neg hc3, if_neg hc7, if_pos hc9]; first | done | rfl), rfl, e0⟩
          · skip
            refine Owes.go ?_ fun t₀ k₀ => XS.icmpNo X0.here hx rfl (hb hby d12_63) rfl (flt hc9).1 k₀
            show Owes _ _ _ _ (s₁.setTop (mkF m 66 #[.val (.int ((((p0.toUInt32 >>> ((8 : Int32) &&& 31).toUInt32).toInt32).toUInt32 >>> ((4 : Int32) &&& 31).toUInt32).toInt32)), .val (.int (((31 : Int32) + (-8 : Int32)) + (-4 : Int32)))] []))
            refine Owes.go ?_ fun t₀ k₀ => XS.iinc X0.here hx rfl (hb hby d12_66) rfl (l' := #[.val (.int ((((p0.toUInt32 >>> ((8 : Int32) &&& 31).toUInt32).toInt32).toUInt32 >>> ((4 : Int32) &&& 31).toUInt32).toInt32)), .val (.int ((((31 : Int32) + (-8 : Int32)) + (-4 : Int32)) + (-2 : Int32)))]) rfl k₀
            show Owes _ _ _ _ (s₁.setTop (mkF m 69 #[.val (.int ((((p0.toUInt32 >>> ((8 : Int32) &&& 31).toUInt32).toInt32).toUInt32 >>> ((4 : Int32) &&& 31).toUInt32).toInt32)), .val (.int ((((31 : Int32) + (-8 : Int32)) + (-4 : Int32)) + (-2 : Int32)))] []))
            refine Owes.go ?_ fun t₀ k₀ => XS.iloadN X0.here hx rfl (hb hby d12_69) rfl k₀
            show Owes _ _ _ _ (s₁.setTop (mkF m 70 #[.val (.int ((((p0.toUInt32 >>> ((8 : Int32) &&& 31).toUInt32).toInt32).toUInt32 >>> ((4 : Int32) &&& 31).toUInt32).toInt32)), .val (.int ((((31 : Int32) + (-8 : Int32)) + (-4 : Int32)) + (-2 : Int32)))] [(.int ((((p0.toUInt32 >>> ((8 : Int32) &&& 31).toUInt32).toInt32).toUInt32 >>> ((4 : Int32) &&& 31).toUInt32).toInt32))]))
            refine Owes.go ?_ fun t₀ k₀ => XS.iconst X0.here hx rfl (hb hby d12_70) k₀
            show Owes _ _ _ _ (s₁.setTop (mkF m 71 #[.val (.int ((((p0.toUInt32 >>> ((8 : Int32) &&& 31).toUInt32).toInt32).toUInt32 >>> ((4 : Int32) &&& 31).toUInt32).toInt32)), .val (.int ((((31 : Int32) + (-8 : Int32)) + (-4 : Int32)) + (-2 : Int32)))] [(.int (2 : Int32)), (.int ((((p0.toUInt32 >>> ((8 : Int32) &&& 31).toUInt32).toInt32).toUInt32 >>> ((4 : Int32) &&& 31).toUInt32).toInt32))]))
            refine Owes.go ?_ fun t₀ k₀ => XS.iushr X0.here hx rfl (hb hby d12_71) rfl k₀
            show Owes _ _ _ _ (s₁.setTop (mkF m 72 #[.val (.int ((((p0.toUInt32 >>> ((8 : Int32) &&& 31).toUInt32).toInt32).toUInt32 >>> ((4 : Int32) &&& 31).toUInt32).toInt32)), .val (.int ((((31 : Int32) + (-8 : Int32)) + (-4 : Int32)) + (-2 : Int32)))] [(.int ((((((p0.toUInt32 >>> ((8 : Int32) &&& 31).toUInt32).toInt32).toUInt32 >>> ((4 : Int32) &&& 31).toUInt32).toInt32).toUInt32 >>> ((2 : Int32) &&& 31).toUInt32).toInt32))]))
            refine Owes.go ?_ fun t₀ k₀ => XS.istoreN X0.here hx rfl (hb hby d12_72) rfl (l' := #[.val (.int ((((((p0.toUInt32 >>> ((8 : Int32) &&& 31).toUInt32).toInt32).toUInt32 >>> ((4 : Int32) &&& 31).toUInt32).toInt32).toUInt32 >>> ((2 : Int32) &&& 31).toUInt32).toInt32)), .val (.int ((((31 : Int32) + (-8 : Int32)) + (-4 : Int32)) + (-2 : Int32)))]) rfl k₀
            show Owes _ _ _ _ (s₁.setTop (mkF m 73 #[.val (.int ((((((p0.toUInt32 >>> ((8 : Int32) &&& 31).toUInt32).toInt32).toUInt32 >>> ((4 : Int32) &&& 31).toUInt32).toInt32).toUInt32 >>> ((2 : Int32) &&& 31).toUInt32).toInt32)), .val (.int ((((31 : Int32) + (-8 : Int32)) + (-4 : Int32)) + (-2 : Int32)))] []))
            refine Owes.go ?_ fun t₀ k₀ => XS.iloadN X0.here hx rfl (hb hby d12_73) rfl k₀
            show Owes _ _ _ _ (s₁.setTop (mkF m 74 #[.val (.int ((((((p0.toUInt32 >>> ((8 : Int32) &&& 31).toUInt32).toInt32).toUInt32 >>> ((4 : Int32) &&& 31).toUInt32).toInt32).toUInt32 >>> ((2 : Int32) &&& 31).toUInt32).toInt32)), .val (.int ((((31 : Int32) + (-8 : Int32)) + (-4 : Int32)) + (-2 : Int32)))] [(.int ((((31 : Int32) + (-8 : Int32)) + (-4 : Int32)) + (-2 : Int32)))]))
            refine Owes.go ?_ fun t₀ k₀ => XS.iloadN X0.here hx rfl (hb hby d12_74) rfl k₀
            show Owes _ _ _ _ (s₁.setTop (mkF m 75 #[.val (.int ((((((p0.toUInt32 >>> ((8 : Int32) &&& 31).toUInt32).toInt32).toUInt32 >>> ((4 : Int32) &&& 31).toUInt32).toInt32).toUInt32 >>> ((2 : Int32) &&& 31).toUInt32).toInt32)), .val (.int ((((31 : Int32) + (-8 : Int32)) + (-4 : Int32)) + (-2 : Int32)))] [(.int ((((((p0.toUInt32 >>> ((8 : Int32) &&& 31).toUInt32).toInt32).toUInt32 >>> ((4 : Int32) &&& 31).toUInt32).toInt32).toUInt32 >>> ((2 : Int32) &&& 31).toUInt32).toInt32)), (.int ((((31 : Int32) + (-8 : Int32)) + (-4 : Int32)) + (-2 : Int32)))]))
            refine Owes.go ?_ fun t₀ k₀ => XS.iconst X0.here hx rfl (hb hby d12_75) k₀
            show Owes _ _ _ _ (s₁.setTop (mkF m 76 #[.val (.int ((((((p0.toUInt32 >>> ((8 : Int32) &&& 31).toUInt32).toInt32).toUInt32 >>> ((4 : Int32) &&& 31).toUInt32).toInt32).toUInt32 >>> ((2 : Int32) &&& 31).toUInt32).toInt32)), .val (.int ((((31 : Int32) + (-8 : Int32)) + (-4 : Int32)) + (-2 : Int32)))] [(.int (1 : Int32)), (.int ((((((p0.toUInt32 >>> ((8 : Int32) &&& 31).toUInt32).toInt32).toUInt32 >>> ((4 : Int32) &&& 31).toUInt32).toInt32).toUInt32 >>> ((2 : Int32) &&& 31).toUInt32).toInt32)), (.int ((((31 : Int32) + (-8 : Int32)) + (-4 : Int32)) + (-2 : Int32)))]))
            refine Owes.go ?_ fun t₀ k₀ => XS.iushr X0.here hx rfl (hb hby d12_76) rfl k₀
            show Owes _ _ _ _ (s₁.setTop (mkF m 77 #[.val (.int ((((((p0.toUInt32 >>> ((8 : Int32) &&& 31).toUInt32).toInt32).toUInt32 >>> ((4 : Int32) &&& 31).toUInt32).toInt32).toUInt32 >>> ((2 : Int32) &&& 31).toUInt32).toInt32)), .val (.int ((((31 : Int32) + (-8 : Int32)) + (-4 : Int32)) + (-2 : Int32)))] [(.int ((((((((p0.toUInt32 >>> ((8 : Int32) &&& 31).toUInt32).toInt32).toUInt32 >>> ((4 : Int32) &&& 31).toUInt32).toInt32).toUInt32 >>> ((2 : Int32) &&& 31).toUInt32).toInt32).toUInt32 >>> ((1 : Int32) &&& 31).toUInt32).toInt32)), (.int ((((31 : Int32) + (-8 : Int32)) + (-4 : Int32)) + (-2 : Int32)))]))
            refine Owes.go ?_ fun t₀ k₀ => XS.isub X0.here hx rfl (hb hby d12_77) rfl k₀
            show Owes _ _ _ _ (s₁.setTop (mkF m 78 #[.val (.int ((((((p0.toUInt32 >>> ((8 : Int32) &&& 31).toUInt32).toInt32).toUInt32 >>> ((4 : Int32) &&& 31).toUInt32).toInt32).toUInt32 >>> ((2 : Int32) &&& 31).toUInt32).toInt32)), .val (.int ((((31 : Int32) + (-8 : Int32)) + (-4 : Int32)) + (-2 : Int32)))] [(.int (((((31 : Int32) + (-8 : Int32)) + (-4 : Int32)) + (-2 : Int32)) - ((((((((p0.toUInt32 >>> ((8 : Int32) &&& 31).toUInt32).toInt32).toUInt32 >>> ((4 : Int32) &&& 31).toUInt32).toInt32).toUInt32 >>> ((2 : Int32) &&& 31).toUInt32).toInt32).toUInt32 >>> ((1 : Int32) &&& 31).toUInt32).toInt32)))]))
            exact Owes.retI X0 hx hlk hret (hb hby d12_78) (by decide) (by decide) ⟨congrArg (fun z => some (Value.int z)) (by unfold f_nlzI; rw [if_pos hc1, if_pos hc2, if_neg hc3, if_neg hc7, if_neg hc9]; first | done | rfl), rfl, e0⟩
    · skip
      refine Owes.go ?_ fun t₀ k₀ => XS.icmpNo X0.here hx rfl (hb hby d12_22) rfl (flt hc2).1 k₀
      show Owes _ _ _ _ (s₁.setTop (mkF m 25 #[.val (.int p0), .val (.int (31 : Int32))] []))
      refine Owes.go ?_ fun t₀ k₀ => XS.iinc X0.here hx rfl (hb hby d12_25) rfl (l' := #[.val (.int p0), .val (.int ((31 : Int32) + (-16 : Int32)))]) rfl k₀
      show Owes _ _ _ _ (s₁.setTop (mkF m 28 #[.val (.int p0), .val (.int ((31 : Int32) + (-16 : Int32)))] []))
      refine Owes.go ?_ fun t₀ k₀ => XS.iloadN X0.here hx rfl (hb hby d12_28) rfl k₀
      show Owes _ _ _ _ (s₁.setTop (mkF m 29 #[.val (.int p0), .val (.int ((31 : Int32) + (-16 : Int32)))] [(.int p0)]))
      refine Owes.go ?_ fun t₀ k₀ => XS.bipush X0.here hx rfl (hb hby d12_29) k₀
      show Owes _ _ _ _ (s₁.setTop (mkF m 31 #[.val (.int p0), .val (.int ((31 : Int32) + (-16 : Int32)))] [(.int (16 : Int32)), (.int p0)]))
      refine Owes.go ?_ fun t₀ k₀ => XS.iushr X0.here hx rfl (hb hby d12_31) rfl k₀
      show Owes _ _ _ _ (s₁.setTop (mkF m 32 #[.val (.int p0), .val (.int ((31 : Int32) + (-16 : Int32)))] [(.int ((p0.toUInt32 >>> ((16 : Int32) &&& 31).toUInt32).toInt32))]))
      refine Owes.go ?_ fun t₀ k₀ => XS.istoreN X0.here hx rfl (hb hby d12_32) rfl (l' := #[.val (.int ((p0.toUInt32 >>> ((16 : Int32) &&& 31).toUInt32).toInt32)), .val (.int ((31 : Int32) + (-16 : Int32)))]) rfl k₀
      show Owes _ _ _ _ (s₁.setTop (mkF m 33 #[.val (.int ((p0.toUInt32 >>> ((16 : Int32) &&& 31).toUInt32).toInt32)), .val (.int ((31 : Int32) + (-16 : Int32)))] []))
      refine Owes.go ?_ fun t₀ k₀ => XS.iloadN X0.here hx rfl (hb hby d12_33) rfl k₀
      show Owes _ _ _ _ (s₁.setTop (mkF m 34 #[.val (.int ((p0.toUInt32 >>> ((16 : Int32) &&& 31).toUInt32).toInt32)), .val (.int ((31 : Int32) + (-16 : Int32)))] [(.int ((p0.toUInt32 >>> ((16 : Int32) &&& 31).toUInt32).toInt32))]))
      refine Owes.go ?_ fun t₀ k₀ => XS.sipush X0.here hx rfl (hb hby d12_34) k₀
      show Owes _ _ _ _ (s₁.setTop (mkF m 37 #[.val (.int ((p0.toUInt32 >>> ((16 : Int32) &&& 31).toUInt32).toInt32)), .val (.int ((31 : Int32) + (-16 : Int32)))] [(.int (256 : Int32)), (.int ((p0.toUInt32 >>> ((16 : Int32) &&& 31).toUInt32).toInt32))]))
      by_cases hc10 : ((p0.toUInt32 >>> ((16 : Int32) &&& 31).toUInt32).toInt32) < (256 : Int32)
      · skip
        refine Owes.go ?_ fun t₀ k₀ => XS.icmpYes X0.here hx rfl (pc0 := 37) (pc' := 48) rfl (hb hby d12_37) rfl (tlt hc10).1 (by decide) (by decide) k₀
        show Owes _ _ _ _ (s₁.setTop (mkF m 48 #[.val (.int ((p0.toUInt32 >>> ((16 : Int32) &&& 31).toUInt32).toInt32)), .val (.int ((31 : Int32) + (-16 : Int32)))] []))
        refine Owes.go ?_ fun t₀ k₀ => XS.iloadN X0.here hx rfl (hb hby d12_48) rfl k₀
        show Owes _ _ _ _ (s₁.setTop (mkF m 49 #[.val (.int ((p0.toUInt32 >>> ((16 : Int32) &&& 31).toUInt32).toInt32)), .val (.int ((31 : Int32) + (-16 : Int32)))] [(.int ((p0.toUInt32 >>> ((16 : Int32) &&& 31).toUInt32).toInt32))]))
        refine Owes.go ?_ fun t₀ k₀ => XS.bipush X0.here hx rfl (hb hby d12_49) k₀
        show Owes _ _ _ _ (s₁.setTop (mkF m 51 #[.val (.int ((p0.toUInt32 >>> ((16 : Int32) &&& 31).toUInt32).toInt32)), .val (.int ((31 : Int32) + (-16 : Int32)))] [(.int (16 : Int32)), (.int ((p0.toUInt32 >>> ((16 : Int32) &&& 31).toUInt32).toInt32))]))
        by_cases hc11 : ((p0.toUInt32 >>> ((16 : Int32) &&& 31).toUInt32).toInt32) < (16 : Int32)
        · skip
          refine Owes.go ?_ fun t₀ k₀ => XS.icmpYes X0.here hx rfl (pc0 := 51) (pc' := 61) rfl (hb hby d12_51) rfl (tlt hc11).1 (by decide) (by decide) k₀
          show Owes _ _ _ _ (s₁.setTop (mkF m 61 #[.val (.int ((p0.toUInt32 >>> ((16 : Int32) &&& 31).toUInt32).toInt32)), .val (.int ((31 : Int32) + (-16 : Int32)))] []))
          refine Owes.go ?_ fun t₀ k₀ => XS.iloadN X0.here hx rfl (hb hby d12_61) rfl k₀
          show Owes _ _ _ _ (s₁.setTop (mkF m 62 #[.val (.int ((p0.toUInt32 >>> ((16 : Int32) &&& 31).toUInt32).toInt32)), .val (.int ((31 : Int32) + (-16 : Int32)))] [(.int ((p0.toUInt32 >>> ((16 : Int32) &&& 31).toUInt32).toInt32))]))
          refine Owes.go ?_ fun t₀ k₀ => XS.iconst X0.here hx rfl (hb hby d12_62) k₀
          show Owes _ _ _ _ (s₁.setTop (mkF m 63 #[.val (.int ((p0.toUInt32 >>> ((16 : Int32) &&& 31).toUInt32).toInt32)), .val (.int ((31 : Int32) + (-16 : Int32)))] [(.int (4 : Int32)), (.int ((p0.toUInt32 >>> ((16 : Int32) &&& 31).toUInt32).toInt32))]))
          by_cases hc12 : ((p0.toUInt32 >>> ((16 : Int32) &&& 31).toUInt32).toInt32) < (4 : Int32)
          · skip
            refine Owes.go ?_ fun t₀ k₀ => XS.icmpYes X0.here hx rfl (pc0 := 63) (pc' := 73) rfl (hb hby d12_63) rfl (tlt hc12).1 (by decide) (by decide) k₀
            show Owes _ _ _ _ (s₁.setTop (mkF m 73 #[.val (.int ((p0.toUInt32 >>> ((16 : Int32) &&& 31).toUInt32).toInt32)), .val (.int ((31 : Int32) + (-16 : Int32)))] []))
            refine Owes.go ?_ fun t₀ k₀ => XS.iloadN X0.here hx rfl (hb hby d12_73) rfl k₀
            show Owes _ _ _ _ (s₁.setTop (mkF m 74 #[.val (.int ((p0.toUInt32 >>> ((16 : Int32) &&& 31).toUInt32).toInt32)), .val (.int ((31 : Int32) + (-16 : Int32)))] [(.int ((31 : Int32) + (-16 : Int32)))]))
            refine Owes.go ?_ fun t₀ k₀ => XS.iloadN X0.here hx rfl (hb hby d12_74) rfl k₀
            show Owes _ _ _ _ (s₁.setTop (mkF m 75 #[.val (.int ((p0.toUInt32 >>> ((16 : Int32) &&& 31).toUInt32).toInt32)), .val (.int ((31 : Int32) + (-16 : Int32)))] [(.int ((p0.toUInt32 >>> ((16 : Int32) &&& 31).toUInt32).toInt32)), (.int ((31 : Int32) + (-16 : Int32)))]))
            refine Owes.go ?_ fun t₀ k₀ => XS.iconst X0.here hx rfl (hb hby d12_75) k₀
            show Owes _ _ _ _ (s₁.setTop (mkF m 76 #[.val (.int ((p0.toUInt32 >>> ((16 : Int32) &&& 31).toUInt32).toInt32)), .val (.int ((31 : Int32) + (-16 : Int32)))] [(.int (1 : Int32)), (.int ((p0.toUInt32 >>> ((16 : Int32) &&& 31).toUInt32).toInt32)), (.int ((31 : Int32) + (-16 : Int32)))]))
            refine Owes.go ?_ fun t₀ k₀ => XS.iushr X0.here hx rfl (hb hby d12_76) rfl k₀
            show Owes _ _ _ _ (s₁.setTop (mkF m 77 #[.val (.int ((p0.toUInt32 >>> ((16 : Int32) &&& 31).toUInt32).toInt32)), .val (.int ((31 : Int32) + (-16 : Int32)))] [(.int ((((p0.toUInt32 >>> ((16 : Int32) &&& 31).toUInt32).toInt32).toUInt32 >>> ((1 : Int32) &&& 31).toUInt32).toInt32)), (.int ((31 : Int32) + (-16 : Int32)))]))
            refine Owes.go ?_ fun t₀ k₀ => XS.isub X0.here hx rfl (hb hby d12_77) rfl k₀
            show Owes _ _ _ _ (s₁.setTop (mkF m 78 #[.val (.int ((p0.toUInt32 >>> ((16 : Int32) &&& 31).toUInt32).toInt32)), .val (.int ((31 : Int32) + (-16 : Int32)))] [(.int (((31 : Int32) + (-16 : Int32)) - ((((p0.toUInt32 >>> ((16 : Int32) &&& 31).toUInt32).toInt32).toUInt32 >>> ((1 : Int32) &&& 31).toUInt32).toInt32)))]))
            exact Owes.retI X0 hx hlk hret (hb hby d12_78) (by decide) (by decide) ⟨congrArg (fun z => some (Value.int z)) (by unfold f_nlzI; rw [if_pos hc1, if_neg hc2, if_pos hc10, if_pos hc11, if_pos hc12]; first | done | rfl), rfl, e0⟩
          · skip
            refine Owes.go ?_ fun t₀ k₀ => XS.icmpNo X0.here hx rfl (hb hby d12_63) rfl (flt hc12).1 k₀
            show Owes _ _ _ _ (s₁.setTop (mkF m 66 #[.val (.int ((p0.toUInt32 >>> ((16 : Int32) &&& 31).toUInt32).toInt32)), .val (.int ((31 : Int32) + (-16 : Int32)))] []))
            refine Owes.go ?_ fun t₀ k₀ => XS.iinc X0.here hx rfl (hb hby d12_66) rfl (l' := #[.val (.int ((p0.toUInt32 >>> ((16 : Int32) &&& 31).toUInt32).toInt32)), .val (.int (((31 : Int32) + (-16 : Int32)) + (-2 : Int32)))]) rfl k₀
            show Owes _ _ _ _ (s₁.setTop (mkF m 69 #[.val (.int ((p0.toUInt32 >>> ((16 : Int32) &&& 31).toUInt32).toInt32)), .val (.int (((31 : Int32) + (-16 : Int32)) + (-2 : Int32)))] []))
            refine Owes.go ?_ fun t₀ k₀ => XS.iloadN X0.here hx rfl (hb hby d12_69) rfl k₀
            show Owes _ _ _ _ (s₁.setTop (mkF m 70 #[.val (.int ((p0.toUInt32 >>> ((16 : Int32) &&& 31).toUInt32).toInt32)), .val (.int (((31 : Int32) + (-16 : Int32)) + (-2 : Int32)))] [(.int ((p0.toUInt32 >>> ((16 : Int32) &&& 31).toUInt32).toInt32))]))
            refine Owes.go ?_ fun t₀ k₀ => XS.iconst X0.here hx rfl (hb hby d12_70) k₀
            show Owes _ _ _ _ (s₁.setTop (mkF m 71 #[.val (.int ((p0.toUInt32 >>> ((16 : Int32) &&& 31).toUInt32).toInt32)), .val (.int (((31 : Int32) + (-16 : Int32)) + (-2 : Int32)))] [(.int (2 : Int32)), (.int ((p0.toUInt32 >>> ((16 : Int32) &&& 31).toUInt32).toInt32))]))
            refine Owes.go ?_ fun t₀ k₀ => XS.iushr X0.here hx rfl (hb hby d12_71) rfl k₀
            show Owes _ _ _ _ (s₁.setTop (mkF m 72 #[.val (.int ((p0.toUInt32 >>> ((16 : Int32) &&& 31).toUInt32).toInt32)), .val (.int (((31 : Int32) + (-16 : Int32)) + (-2 : Int32)))] [(.int ((((p0.toUInt32 >>> ((16 : Int32) &&& 31).toUInt32).toInt32).toUInt32 >>> ((2 : Int32) &&& 31).toUInt32).toInt32))]))
            refine Owes.go ?_ fun t₀ k₀ => XS.istoreN X0.here hx rfl (hb hby d12_72) rfl (l' := #[.val (.int ((((p0.toUInt32 >>> ((16 : Int32) &&& 31).toUInt32).toInt32).toUInt32 >>> ((2 : Int32) &&& 31).toUInt32).toInt32)), .val (.int (((31 : Int32) + (-16 : Int32)) + (-2 : Int32)))]) rfl k₀
            show Owes _ _ _ _ (s₁.setTop (mkF m 73 #[.val (.int ((((p0.toUInt32 >>> ((16 : Int32) &&& 31).toUInt32).toInt32).toUInt32 >>> ((2 : Int32) &&& 31).toUInt32).toInt32)), .val (.int (((31 : Int32) + (-16 : Int32)) + (-2 : Int32)))] []))
            refine Owes.go ?_ fun t₀ k₀ => XS.iloadN X0.here hx rfl (hb hby d12_73) rfl k₀
            show Owes _ _ _ _ (s₁.setTop (mkF m 74 #[.val (.int ((((p0.toUInt32 >>> ((16 : Int32) &&& 31).toUInt32).toInt32).toUInt32 >>> ((2 : Int32) &&& 31).toUInt32).toInt32)), .val (.int (((31 : Int32) + (-16 : Int32)) + (-2 : Int32)))] [(.int (((31 : Int32) + (-16 : Int32)) + (-2 : Int32)))]))
            refine Owes.go ?_ fun t₀ k₀ => XS.iloadN X0.here hx rfl (hb hby d12_74) rfl k₀
            show Owes _ _ _ _ (s₁.setTop (mkF m 75 #[.val (.int ((((p0.toUInt32 >>> ((16 : Int32) &&& 31).toUInt32).toInt32).toUInt32 >>> ((2 : Int32) &&& 31).toUInt32).toInt32)), .val (.int (((31 : Int32) + (-16 : Int32)) + (-2 : Int32)))] [(.int ((((p0.toUInt32 >>> ((16 : Int32) &&& 31).toUInt32).toInt32).toUInt32 >>> ((2 : Int32) &&& 31).toUInt32).toInt32)), (.int (((31 : Int32) + (-16 : Int32)) + (-2 : Int32)))]))
            refine Owes.go ?_ fun t₀ k₀ => XS.iconst X0.here hx rfl (hb hby d12_75) k₀
            show Owes _ _ _ _ (s₁.setTop (mkF m 76 #[.val (.int ((((p0.toUInt32 >>> ((16 : Int32) &&& 31).toUInt32).toInt32).toUInt32 >>> ((2 : Int32) &&& 31).toUInt32).toInt32)), .val (.int (((31 : Int32) + (-16 : Int32)) + (-2 : Int32)))] [(.int (1 : Int32)), (.int ((((p0.toUInt32 >>> ((16 : Int32) &&& 31).toUInt32).toInt32).toUInt32 >>> ((2 : Int32) &&& 31).toUInt32).toInt32)), (.int (((31 : Int32) + (-16 : Int32)) + (-2 : Int32)))]))
            refine Owes.go ?_ fun t₀ k₀ => XS.iushr X0.here hx rfl (hb hby d12_76) rfl k₀
            show Owes _ _ _ _ (s₁.setTop (mkF m 77 #[.val (.int ((((p0.toUInt32 >>> ((16 : Int32) &&& 31).toUInt32).toInt32).toUInt32 >>> ((2 : Int32) &&& 31).toUInt32).toInt32)), .val (.int (((31 : Int32) + (-16 : Int32)) + (-2 : Int32)))] [(.int ((((((p0.toUInt32 >>> ((16 : Int32) &&& 31).toUInt32).toInt32).toUInt32 >>> ((2 : Int32) &&& 31).toUInt32).toInt32).toUInt32 >>> ((1 : Int32) &&& 31).toUInt32).toInt32)), (.int (((31 : Int32) + (-16 : Int32)) + (-2 : Int32)))]))
            refine Owes.go ?_ fun t₀ k₀ => XS.isub X0.here hx rfl (hb hby d12_77) rfl k₀
            show Owes _ _ _ _ (s₁.setTop (mkF m 78 #[.val (.int ((((p0.toUInt32 >>> ((16 : Int32) &&& 31).toUInt32).toInt32).toUInt32 >>> ((2 : Int32) &&& 31).toUInt32).toInt32)), .val (.int (((31 : Int32) + (-16 : Int32)) + (-2 : Int32)))] [(.int ((((31 : Int32) + (-16 : Int32)) + (-2 : Int32)) - ((((((p0.toUInt32 >>> ((16 : Int32) &&& 31).toUInt32).toInt32).toUInt32 >>> ((2 : Int32) &&& 31).toUInt32).toInt32).toUInt32 >>> ((1 : Int32) &&& 31).toUInt32).toInt32)))]))
            exact Owes.retI X0 hx hlk hret (hb hby d12_78) (by decide) (by decide) ⟨congrArg (fun z => some (Value.int z)) (by unfold f_nlzI; rw [if_pos hc1, if_neg hc2, if_pos hc10, if_pos hc11, if_neg hc12]; first | done | rfl), rfl, e0⟩
        · skip
          refine Owes.go ?_ fun t₀ k₀ => XS.icmpNo X0.here hx rfl (hb hby d12_51) rfl (flt hc11).1 k₀
          show Owes _ _ _ _ (s₁.setTop (mkF m 54 #[.val (.int ((p0.toUInt32 >>> ((16 : Int32) &&& 31).toUInt32).toInt32)), .val (.int ((31 : Int32) + (-16 : Int32)))] []))
          refine Owes.go ?_ fun t₀ k₀ => XS.iinc X0.here hx rfl (hb hby d12_54) rfl (l' := #[.val (.int ((p0.toUInt32 >>> ((16 : Int32) &&& 31).toUInt32).toInt32)), .val (.int (((31 : Int32) + (-16 : Int32)) + (-4 : Int32)))]) rfl k₀
          show Owes _ _ _ _ (s₁.setTop (mkF m 57 #[.val (.int ((p0.toUInt32 >>> ((16 : Int32) &&& 31).toUInt32).toInt32)), .val (.int (((31 : Int32) + (-16 : Int32)) + (-4 : Int32)))] []))
          refine Owes.go ?_ fun t₀ k₀ => XS.iloadN X0.here hx rfl (hb hby d12_57) rfl k₀
          show Owes _ _ _ _ (s₁.setTop (mkF m 58 #[.val (.int ((p0.toUInt32 >>> ((16 : Int32) &&& 31).toUInt32).toInt32)), .val (.int (((31 : Int32) + (-16 : Int32)) + (-4 : Int32)))] [(.int ((p0.toUInt32 >>> ((16 : Int32) &&& 31).toUInt32).toInt32))]))
          refine Owes.go ?_ fun t₀ k₀ => XS.iconst X0.here hx rfl (hb hby d12_58) k₀
          show Owes _ _ _ _ (s₁.setTop (mkF m 59 #[.val (.int ((p0.toUInt32 >>> ((16 : Int32) &&& 31).toUInt32).toInt32)), .val (.int (((31 : Int32) + (-16 : Int32)) + (-4 : Int32)))] [(.int (4 : Int32)), (.int ((p0.toUInt32 >>> ((16 : Int32) &&& 31).toUInt32).toInt32))]))
          refine Owes.go ?_ fun t₀ k₀ => XS.iushr X0.here hx rfl (hb hby d12_59) rfl k₀
          show Owes _ _ _ _ (s₁.setTop (mkF m 60 #[.val (.int ((p0.toUInt32 >>> ((16 : Int32) &&& 31).toUInt32).toInt32)), .val (.int (((31 : Int32) + (-16 : Int32)) + (-4 : Int32)))] [(.int ((((p0.toUInt32 >>> ((16 : Int32) &&& 31).toUInt32).toInt32).toUInt32 >>> ((4 : Int32) &&& 31).toUInt32).toInt32))]))
          refine Owes.go ?_ fun t₀ k₀ => XS.istoreN X0.here hx rfl (hb hby d12_60) rfl (l' := #[.val (.int ((((p0.toUInt32 >>> ((16 : Int32) &&& 31).toUInt32).toInt32).toUInt32 >>> ((4 : Int32) &&& 31).toUInt32).toInt32)), .val (.int (((31 : Int32) + (-16 : Int32)) + (-4 : Int32)))]) rfl k₀
          show Owes _ _ _ _ (s₁.setTop (mkF m 61 #[.val (.int ((((p0.toUInt32 >>> ((16 : Int32) &&& 31).toUInt32).toInt32).toUInt32 >>> ((4 : Int32) &&& 31).toUInt32).toInt32)), .val (.int (((31 : Int32) + (-16 : Int32)) + (-4 : Int32)))] []))
          refine Owes.go ?_ fun t₀ k₀ => XS.iloadN X0.here hx rfl (hb hby d12_61) rfl k₀
          show Owes _ _ _ _ (s₁.setTop (mkF m 62 #[.val (.int ((((p0.toUInt32 >>> ((16 : Int32) &&& 31).toUInt32).toInt32).toUInt32 >>> ((4 : Int32) &&& 31).toUInt32).toInt32)), .val (.int (((31 : Int32) + (-16 : Int32)) + (-4 : Int32)))] [(.int ((((p0.toUInt32 >>> ((16 : Int32) &&& 31).toUInt32).toInt32).toUInt32 >>> ((4 : Int32) &&& 31).toUInt32).toInt32))]))
          refine Owes.go ?_ fun t₀ k₀ => XS.iconst X0.here hx rfl (hb hby d12_62) k₀
          show Owes _ _ _ _ (s₁.setTop (mkF m 63 #[.val (.int ((((p0.toUInt32 >>> ((16 : Int32) &&& 31).toUInt32).toInt32).toUInt32 >>> ((4 : Int32) &&& 31).toUInt32).toInt32)), .val (.int (((31 : Int32) + (-16 : Int32)) + (-4 : Int32)))] [(.int (4 : Int32)), (.int ((((p0.toUInt32 >>> ((16 : Int32) &&& 31).toUInt32).toInt32).toUInt32 >>> ((4 : Int32) &&& 31).toUInt32).toInt32))]))
          by_cases hc13 : ((((p0.toUInt32 >>> ((16 : Int32) &&& 31).toUInt32).toInt32).toUInt32 >>> ((4 : Int32) &&& 31).toUInt32).toInt32) < (4 : Int32)
          · skip
            refine Owes.go ?_ fun t₀ k₀ => XS.icmpYes X0.here hx rfl (pc0 := 63) (pc' := 73) rfl (hb hby d12_63) rfl (tlt hc13).1 (by decide) (by decide) k₀
            show Owes _ _ _ _ (s₁.setTop (mkF m 73 #[.val (.int ((((p0.toUInt32 >>> ((16 : Int32) &&& 31).toUInt32).toInt32).toUInt32 >>> ((4 : Int32) &&& 31).toUInt32).toInt32)), .val (.int (((31 : Int32) + (-16 : Int32)) + (-4 : Int32)))] []))
            refine Owes.go ?_ fun t₀ k₀ => XS.iloadN X0.here hx rfl (hb hby d12_73) rfl k₀
            show Owes _ _ _ _ (s₁.setTop (mkF m 74 #[.val (.int ((((p0.toUInt32 >>> ((16 : Int32) &&& 31).toUInt32).toInt32).toUInt32 >>> ((4 : Int32) &&& 31).toUInt32).toInt32)), .val (.int (((31 : Int32) + (-16 : Int32)) + (-4 : Int32)))] [(.int (((31 : Int32) + (-16 : Int32)) + (-4 : Int32)))]))
            refine Owes.go ?_ fun t₀ k₀ => XS.iloadN X0.here hx rfl (hb hby d12_74) rfl k₀
            show Owes _ _ _ _ (s₁.setTop (mkF m 75 #[.val (.int ((((p0.toUInt32 >>> ((16 : Int32) &&& 31).toUInt32).toInt32).toUInt32 >>> ((4 : Int32) &&& 31).toUInt32).toInt32)), .val (.int (((31 : Int32) + (-16 : Int32)) + (-4 : Int32)))] [(.int ((((p0.toUInt32 >>> ((16 : Int32) &&& 31).toUInt32).toInt32).toUInt32 >>> ((4 : Int32) &&& 31).toUInt32).toInt32)), (.int (((31 : Int32) + (-16 : Int32)) + (-4 : Int32)))]))
            refine Owes.go ?_ fun t₀ k₀ => XS.iconst X0.here hx rfl (hb hby d12_75) k₀
            show Owes _ _ _ _ (s₁.setTop (mkF m 76 #[.val (.int ((((p0.toUInt32 >>> ((16 : Int32) &&& 31).toUInt32).toInt32).toUInt32 >>> ((4 : Int32) &&& 31).toUInt32).toInt32)), .val (.int (((31 : Int32) + (-16 : Int32)) + (-4 : Int32)))] [(.int (1 : Int32)), (.int ((((p0.toUInt32 >>> ((16 : Int32) &&& 31).toUInt32).toInt32).toUInt32 >>> ((4 : Int32) &&& 31).toUInt32).toInt32)), (.int (((31 : Int32) + (-16 : Int32)) + (-4 : Int32)))]))
            refine Owes.go ?_ fun t₀ k₀ => XS.iushr X0.here hx rfl (hb hby d12_76) rfl k₀
            show Owes _ _ _ _ (s₁.setTop (mkF m 77 #[.val (.int ((((p0.toUInt32 >>> ((16 : Int32) &&& 31).toUInt32).toInt32).toUInt32 >>> ((4 : Int32) &&& 31).toUInt32).toInt32)), .val (.int (((31 : Int32) + (-16 : Int32)) + (-4 : Int32)))] [(.int ((((((p0.toUInt32 >>> ((16 : Int32) &&& 31).toUInt32).toInt32).toUInt32 >>> ((4 : Int32) &&& 31).toUInt32).toInt32).toUInt32 >>> ((1 : Int32) &&& 31).toUInt32).toInt32)), (.int (((31 : Int32) + (-16 : Int32)) + (-4 : Int32)))]))
            refine Owes.go ?_ fun t₀ k₀ => XS.isub X0.here hx rfl (hb hby d12_77) rfl k₀
            show Owes _ _ _ _ (s₁.setTop (mkF m 78 #[.val (.int ((((p0.toUInt32 >>> ((16 : Int32) &&& 31).toUInt32).toInt32).toUInt32 >>> ((4 : Int32) &&& 31).toUInt32).toInt32)), .val (.int (((31 : Int32) + (-16 : Int32)) + (-4 : Int32)))] [(.int ((((31 : Int32) + (-16 : Int32)) + (-4 : Int32)) - ((((((p0.toUInt32 >>> ((16 : Int32) &&& 31).toUInt32).toInt32).toUInt32 >>> ((4 : Int32) &&& 31).toUInt32).toInt32).toUInt32 >>> ((1 : Int32) &&& 31).toUInt32).toInt32)))]))
            exact Owes.retI X0 hx hlk hret (hb hby d12_78) (by decide) (by decide) ⟨congrArg (fun z => some (Value.int z)) (by unfold f_nlzI; rw [if_pos hc1, if_neg hc2, if_pos hc10, if_neg hc11, if_pos hc13]; first | done | rfl), rfl, e0⟩
          · skip
            refine Owes.go ?_ fun t₀ k₀ => XS.icmpNo X0.here hx rfl (hb hby d12_63) rfl (flt hc13).1 k₀
            show Owes _ _ _ _ (s₁.setTop (mkF m 66 #[.val (.int ((((p0.toUInt32 >>> ((16 : Int32) &&& 31).toUInt32).toInt32).toUInt32 >>> ((4 : Int32) &&& 31).toUInt32).toInt32)), .val (.int (((31 : Int32) + (-16 : Int32)) + (-4 : Int32)))] []))
            refine Owes.go ?_ fun t₀ k₀ => XS.iinc X0.here hx rfl (hb hby d12_66) rfl (l' := #[.val (.int ((((p0.toUInt32 >>> ((16 : Int32) &&& 31).toUInt32).toInt32).toUInt32 >>> ((4 : Int32) &&& 31).toUInt32).toInt32)), .val (.int ((((31 : Int32) + (-16 : Int32)) + (-4 : Int32)) + (-2 : Int32)))]) rfl k₀
            show Owes _ _ _ _ (s₁.setTop (mkF m 69 #[.val (.int ((((p0.toUInt32 >>> ((16 : Int32) &&& 31).toUInt32).toInt32).toUInt32 >>> ((4 : Int32) &&& 31).toUInt32).toInt32)), .val (.int ((((31 : Int32) + (-16 : Int32)) + (-4 : Int32)) + (-2 : Int32)))] []))
            refine Owes.go ?_ fun t₀ k₀ => XS.iloadN X0.here hx rfl (hb hby d12_69) rfl k₀
            show Owes _ _ _ _ (s₁.setTop (mkF m 70 #[.val (.int ((((p0.toUInt32 >>> ((16 : Int32) &&& 31).toUInt32).toInt32).toUInt32 >>> ((4 : Int32) &&& 31).toUInt32).toInt32)), .val (.int ((((31 : Int32) + (-16 : Int32)) + (-4 : Int32)) + (-2 : Int32)))] [(.int ((((p0.toUInt32 >>> ((16 : Int32) &&& 31).toUInt32).toInt32).toUInt32 >>> ((4 : Int32) &&& 31).toUInt32).toInt32))]))
            refine Owes.go ?_ fun t₀ k₀ => XS.iconst X0.here hx rfl (hb hby d12_70) k₀
            show Owes _ _ _ _ (s₁.setTop (mkF m 71 #[.val (.int ((((p0.toUInt32 >>> ((16 : Int32) &&& 31).toUInt32).toInt32).toUInt32 >>> ((4 : Int32) &&& 31).toUInt32).toInt32)), .val (.int ((((31 : Int32) + (-16 : Int32)) + (-4 : Int32)) + (-2 : Int32)))] [(.int (2 : Int32)), (.int ((((p0.toUInt32 >>> ((16 : Int32) &&& 31).toUInt32).toInt32).toUInt32 >>> ((4 : Int32) &&& 31).toUInt32).toInt32))]))
            refine Owes.go ?_ fun t₀ k₀ => XS.iushr X0.here hx rfl (hb hby d12_71) rfl k₀
            show Owes _ _ _ _ (s₁.setTop (mkF m 72 #[.val (.int ((((p0.toUInt32 >>> ((16 : Int32) &&& 31).toUInt32).toInt32).toUInt32 >>> ((4 : Int32) &&& 31).toUInt32).toInt32)), .val (.int ((((31 : Int32) + (-16 : Int32)) + (-4 : Int32)) + (-2 : Int32)))] [(.int ((((((p0.toUInt32 >>> ((16 : Int32) &&& 31).toUInt32).toInt32).toUInt32 >>> ((4 : Int32) &&& 31).toUInt32).toInt32).toUInt32 >>> ((2 : Int32) &&& 31).toUInt32).toInt32))]))
            refine Owes.go ?_ fun t₀ k₀ => XS.istoreN X0.here hx rfl (hb hby d12_72) rfl (l' := #[.val (.int ((((((p0.toUInt32 >>> ((16 : Int32) &&& 31).toUInt32).toInt32).toUInt32 >>> ((4 : Int32) &&& 31).toUInt32).toInt32).toUInt32 >>> ((2 : Int32) &&& 31).toUInt32).toInt32)), .val (.int ((((31 : Int32) + (-16 : Int32)) + (-4 : Int32)) + (-2 : Int32)))]) rfl k₀
            show Owes _ _ _ _ (s₁.setTop (mkF m 73 #[.val (.int ((((((p0.toUInt32 >>> ((16 : Int32) &&& 31).toUInt32).toInt32).toUInt32 >>> ((4 : Int32) &&& 31).toUInt32).toInt32).toUInt32 >>> ((2 : Int32) &&& 31).toUInt32).toInt32)), .val (.int ((((31 : Int32) + (-16 : Int32)) + (-4 : Int32)) + (-2 : Int32)))] []))
            refine Owes.go ?_ fun t₀ k₀ => XS.iloadN X0.here hx rfl (hb hby d12_73) rfl k₀
            show Owes _ _ _ _ (s₁.setTop (mkF m 74 #[.val (.int ((((((p0.toUInt32 >>> ((16 : Int32) &&& 31).toUInt32).toInt32).toUInt32 >>> ((4 : Int32) &&& 31).toUInt32).toInt32).toUInt32 >>> ((2 : Int32) &&& 31).toUInt32).toInt32)), .val (.int ((((31 : Int32) + (-16 : Int32)) + (-4 : Int32)) + (-2 : Int32)))] [(.int ((((31 : Int32) + (-16 : Int32)) + (-4 : Int32)) + (-2 : Int32)))]))
            refine Owes.go ?_ fun t₀ k₀ => XS.iloadN X0.here hx rfl (hb hby d12_74) rfl k₀
            show Owes _ _ _ _ (s₁.setTop (mkF m 75 #[.val (.int ((((((p0.toUInt32 >>> ((16 : Int32) &&& 31).toUInt32).toInt32).toUInt32 >>> ((4 : Int32) &&& 31).toUInt32).toInt32).toUInt32 >>> ((2 : Int32) &&& 31).toUInt32).toInt32)), .val (.int ((((31 : Int32) + (-16 : Int32)) + (-4 : Int32)) + (-2 : Int32)))] [(.int ((((((p0.toUInt32 >>> ((16 : Int32) &&& 31).toUInt32).toInt32).toUInt32 >>> ((4 : Int32) &&& 31).toUInt32).toInt32).toUInt32 >>> ((2 : Int32) &&& 31).toUInt32).toInt32)), (.int ((((31 : Int32) + (-16 : Int32)) + (-4 : Int32)) + (-2 : Int32)))]))
            refine Owes.go ?_ fun t₀ k₀ => XS.iconst X0.here hx rfl (hb hby d12_75) k₀
            show Owes _ _ _ _ (s₁.setTop (mkF m 76 #[.val (.int ((((((p0.toUInt32 >>> ((16 : Int32) &&& 31).toUInt32).toInt32).toUInt32 >>> ((4 : Int32) &&& 31).toUInt32).toInt32).toUInt32 >>> ((2 : Int32) &&& 31).toUInt32).toInt32)), .val (.int ((((31 : Int32) + (-16 : Int32)) + (-4 : Int32)) + (-2 : Int32)))] [(.int (1 : Int32)), (.int ((((((p0.toUInt32 >>> ((16 : Int32) &&& 31).toUInt32).toInt32).toUInt32 >>> ((4 : Int32) &&& 31).toUInt32).toInt32).toUInt32 >>> ((2 : Int32) &&& 31).toUInt32).toInt32)), (.int ((((31 : Int32) + (-16 : Int32)) + (-4 : Int32)) + (-2 : Int32)))]))
            refine Owes.go ?_ fun t₀ k₀ => XS.iushr X0.here hx rfl (hb hby d12_76) rfl k₀
            show Owes _ _ _ _ (s₁.setTop (mkF m 77 #[.val (.int ((((((p0.toUInt32 >>> ((16 : Int32) &&& 31).toUInt32).toInt32).toUInt32 >>> ((4 : Int32) &&& 31).toUInt32).toInt32).toUInt32 >>> ((2 : Int32) &&& 31).toUInt32).toInt32)), .val (.int ((((31 : Int32) + (-16 : Int32)) + (-4 : Int32)) + (-2 : Int32)))] [(.int ((((((((p0.toUInt32 >>> ((16 : Int32) &&& 31).toUInt32).toInt32).toUInt32 >>> ((4 : Int32) &&& 31).toUInt32).toInt32).toUInt32 >>> ((2 : Int32) &&& 31).toUInt32).toInt32).toUInt32 >>> ((1 : Int32) &&& 31).toUInt32).toInt32)), (.int ((((31 : Int32) + (-16 : Int32)) + (-4 : Int32)) + (-2 : Int32)))]))
            refine Owes.go ?_ fun t₀ k₀ => XS.isub X0.here hx rfl (hb hby d12_77) rfl k₀
            show Owes _ _ _ _ (s₁.setTop (mkF m 78 #[.val (.int ((((((p0.toUInt32 >>> ((16 : Int32) &&& 31).toUInt32).toInt32).toUInt32 >>> ((4 : Int32) &&& 31).toUInt32).toInt32).toUInt32 >>> ((2 : Int32) &&& 31).toUInt32).toInt32)), .val (.int ((((31 : Int32) + (-16 : Int32)) + (-4 : Int32)) + (-2 : Int32)))] [(.int (((((31 : Int32) + (-16 : Int32)) + (-4 : Int32)) + (-2 : Int32)) - ((((((((p0.toUInt32 >>> ((16 : Int32) &&& 31).toUInt32).toInt32).toUInt32 >>> ((4 : Int32) &&& 31).toUInt32).toInt32).toUInt32 >>> ((2 : Int32) &&& 31).toUInt32).toInt32).toUInt32 >>> ((1 : Int32) &&& 31).toUInt32).toInt32)))]))
            exact Owes.retI X0 hx hlk hret (hb hby d12_78) (by decide) (by decide) ⟨congrArg (fun z => some (Value.int z)) (by unfold f_nlzI; rw [if_pos hc1, if_neg hc2, if_pos hc10, if_neg hc11, if_neg hc13]; first | done | rfl), rfl, e0⟩
      · skip
        refine Owes.go ?_ fun t₀ k₀ => XS.icmpNo X0.here hx rfl (hb hby d12_37) rfl (flt hc10).1 k₀
        show Owes _ _ _ _ (s₁.setTop (mkF m 40 #[.val (.int ((p0.toUInt32 >>> ((16 : Int32) &&& 31).toUInt32).toInt32)), .val (.int ((31 : Int32) + (-16 : Int32)))] []))
        refine Owes.go ?_ fun t₀ k₀ => XS.iinc X0.here hx rfl (hb hby d12_40) rfl (l' := #[.val (.int ((p0.toUInt32 >>> ((16 : Int32) &&& 31).toUInt32).toInt32)), .val (.int (((31 : Int32) + (-16 : Int32)) + (-8 : Int32)))]) rfl k₀
        show Owes _ _ _ _ (s₁.setTop (mkF m 43 #[.val (.int ((p0.toUInt32 >>> ((16 : Int32) &&& 31).toUInt32).toInt32)), .val (.int (((31 : Int32) + (-16 : Int32)) + (-8 : Int32)))] []))
        refine Owes.go ?_ fun t₀ k₀ => XS.iloadN X0.here hx rfl (hb hby d12_43) rfl k₀
        show Owes _ _ _ _ (s₁.setTop (mkF m 44 #[.val (.int ((p0.toUInt32 >>> ((16 : Int32) &&& 31).toUInt32).toInt32)), .val (.int (((31 : Int32) + (-16 : Int32)) + (-8 : Int32)))] [(.int ((p0.toUInt32 >>> ((16 : Int32) &&& 31).toUInt32).toInt32))]))
        refine Owes.go ?_ fun t₀ k₀ => XS.bipush X0.here hx rfl (hb hby d12_44) k₀
        show Owes _ _ _ _ (s₁.setTop (mkF m 46 #[.val (.int ((p0.toUInt32 >>> ((16 : Int32) &&& 31).toUInt32).toInt32)), .val (.int (((31 : Int32) + (-16 : Int32)) + (-8 : Int32)))] [(.int (8 : Int32)), (.int ((p0.toUInt32 >>> ((16 : Int32) &&& 31).toUInt32).toInt32))]))
        refine Owes.go ?_ fun t₀ k₀ => XS.iushr X0.here hx rfl (hb hby d12_46) rfl k₀
        show Owes _ _ _ _ (s₁.setTop (mkF m 47 #[.val (.int ((p0.toUInt32 >>> ((16 : Int32) &&& 31).toUInt32).toInt32)), .val (.int (((31 : Int32) + (-16 : Int32)) + (-8 : Int32)))] [(.int ((((p0.toUInt32 >>> ((16 : Int32) &&& 31).toUInt32).toInt32).toUInt32 >>> ((8 : Int32) &&& 31).toUInt32).toInt32))]))
        refine Owes.go ?_ fun t₀ k₀ => XS.istoreN X0.here hx rfl (hb hby d12_47) rfl (l' := #[.val (.int ((((p0.toUInt32 >>> ((16 : Int32) &&& 31).toUInt32).toInt32).toUInt32 >>> ((8 : Int32) &&& 31).toUInt32).toInt32)), .val (.int (((31 : Int32) + (-16 : Int32)) + (-8 : Int32)))]) rfl k₀
        show Owes _ _ _ _ (s₁.setTop (mkF m 48 #[.val (.int ((((p0.toUInt32 >>> ((16 : Int32) &&& 31).toUInt32).toInt32).toUInt32 >>> ((8 : Int32) &&& 31).toUInt32).toInt32)), .val (.int (((31 : Int32) + (-16 : Int32)) + (-8 : Int32)))] []))
        refine Owes.go ?_ fun t₀ k₀ => XS.iloadN X0.here hx rfl (hb hby d12_48) rfl k₀
        show Owes _ _ _ _ (s₁.setTop (mkF m 49 #[.val (.int ((((p0.toUInt32 >>> ((16 : Int32) &&& 31).toUInt32).toInt32).toUInt32 >>> ((8 : Int32) &&& 31).toUInt32).toInt32)), .val (.int (((31 : Int32) + (-16 : Int32)) + (-8 : Int32)))] [(.int ((((p0.toUInt32 >>> ((16 : Int32) &&& 31).toUInt32).toInt32).toUInt32 >>> ((8 : Int32) &&& 31).toUInt32).toInt32))]))
        refine Owes.go ?_ fun t₀ k₀ => XS.bipush X0.here hx rfl (hb hby d12_49) k₀
        show Owes _ _ _ _ (s₁.setTop (mkF m 51 #[.val (.int ((((p0.toUInt32 >>> ((16 : Int32) &&& 31).toUInt32).toInt32).toUInt32 >>> ((8 : Int32) &&& 31).toUInt32).toInt32)), .val (.int (((31 : Int32) + (-16 : Int32)) + (-8 : Int32)))] [(.int (16 : Int32)), (.int ((((p0.toUInt32 >>> ((16 : Int32) &&& 31).toUInt32).toInt32).toUInt32 >>> ((8 : Int32) &&& 31).toUInt32).toInt32))]))
        by_cases hc14 : ((((p0.toUInt32 >>> ((16 : Int32) &&& 31).toUInt32).toInt32).toUInt32 >>> ((8 : Int32) &&& 31).toUInt32).toInt32) < (16 : Int32)
        · skip
          refine Owes.go ?_ fun t₀ k₀ => XS.icmpYes X0.here hx rfl (pc0 := 51) (pc' := 61) rfl (hb hby d12_51) rfl (tlt hc14).1 (by decide) (by decide) k₀
          show Owes _ _ _ _ (s₁.setTop (mkF m 61 #[.val (.int ((((p0.toUInt32 >>> ((16 : Int32) &&& 31).toUInt32).toInt32).toUInt32 >>> ((8 : Int32) &&& 31).toUInt32).toInt32)), .val (.int (((31 : Int32) + (-16 : Int32)) + (-8 : Int32)))] []))
          refine Owes.go ?_ fun t₀ k₀ => XS.iloadN X0.here hx rfl (hb hby d12_61) rfl k₀
          show Owes _ _ _ _ (s₁.setTop (mkF m 62 #[.val (.int ((((p0.toUInt32 >>> ((16 : Int32) &&& 31).toUInt32).toInt32).toUInt32 >>> ((8 : Int32) &&& 31).toUInt32).toInt32)), .val (.int (((31 : Int32) + (-16 : Int32)) + (-8 : Int32)))] [(.int ((((p0.toUInt32 >>> ((16 : Int32) &&& 31).toUInt32).toInt32).toUInt32 >>> ((8 : Int32) &&& 31).toUInt32).toInt32))]))
          refine Owes.go ?_ fun t₀ k₀ => XS.iconst X0.here hx rfl (hb hby d12_62) k₀
          show Owes _ _ _ _ (s₁.setTop (mkF m 63 #[.val (.int ((((p0.toUInt32 >>> ((16 : Int32) &&& 31).toUInt32).toInt32).toUInt32 >>> ((8 : Int32) &&& 31).toUInt32).toInt32)), .val (.int (((31 : Int32) + (-16 : Int32)) + (-8 : Int32)))] [(.int (4 : Int32)), (.int ((((p0.toUInt32 >>> ((16 : Int32) &&& 31).toUInt32).toInt32).toUInt32 >>> ((8 : Int32) &&& 31).toUInt32).toInt32))]))
          by_cases hc15 : ((((p0.toUInt32 >>> ((16 : Int32) &&& 31).toUInt32).toInt32).toUInt32 >>> ((8 : Int32) &&& 31).toUInt32).toInt32) < (4 : Int32)
          · skip
            refine Owes.go ?_ fun t₀ k₀ => XS.icmpYes X0.here hx rfl (pc0 := 63) (pc' := 73) rfl (hb hby d12_63) rfl (tlt hc15).1 (by decide) (by decide) k₀
            show Owes _ _ _ _ (s₁.setTop (mkF m 73 #[.val (.int ((((p0.toUInt32 >>> ((16 : Int32) &&& 31).toUInt32).toInt32).toUInt32 >>> ((8 : Int32) &&& 31).toUInt32).toInt32)), .val (.int (((31 : Int32) + (-16 : Int32)) + (-8 : Int32)))] []))
            refine Owes.go ?_ fun t₀ k₀ => XS.iloadN X0.here hx rfl (hb hby d12_73) rfl k₀
            show Owes _ _ _ _ (s₁.setTop (mkF m 74 #[.val (.int ((((p0.toUInt32 >>> ((16 : Int32) &&& 31).toUInt32).toInt32).toUInt32 >>> ((8 : Int32) &&& 31).toUInt32).toInt32)), .val (.int (((31 : Int32) + (-16 : Int32)) + (-8 : Int32)))] [(.int (((31 : Int32) + (-16 : Int32)) + (-8 : Int32)))]))
            refine Owes.go ?_ fun t₀ k₀ => XS.iloadN X0.here hx rfl (hb hby d12_74) rfl k₀
            show Owes _ _ _ _ (s₁.setTop (mkF m 75 #[.val (.int ((((p0.toUInt32 >>> ((16 : Int32) &&& 31).toUInt32).toInt32).toUInt32 >>> ((8 : Int32) &&& 31).toUInt32).toInt32)), .val (.int (((31 : Int32) + (-16 : Int32)) + (-8 : Int32)))] [(.int ((((p0.toUInt32 >>> ((16 : Int32) &&& 31).toUInt32).toInt32).toUInt32 >>> ((8 : Int32) &&& 31).toUInt32).toInt32)), (.int (((31 : Int32) + (-16 : Int32)) + (-8 : Int32)))]))
            refine Owes.go ?_ fun t₀ k₀ => XS.iconst X0.here hx rfl (hb hby d12_75) k₀
            show Owes _ _ _ _ (s₁.setTop (mkF m 76 #[.val (.int ((((p0.toUInt32 >>> ((16 : Int32) &&& 31).toUInt32).toInt32).toUInt32 >>> ((8 : Int32) &&& 31).toUInt32).toInt32)), .val (.int (((31 : Int32) + (-16 : Int32)) + (-8 : Int32)))] [(.int (1 : Int32)), (.int ((((p0.toUInt32 >>> ((16 : Int32) &&& 31).toUInt32).toInt32).toUInt32 >>> ((8 : Int32) &&& 31).toUInt32).toInt32)), (.int (((31 : Int32) + (-16 : Int32)) + (-8 : Int32)))]))
            refine Owes.go ?_ fun t₀ k₀ => XS.iushr X0.here hx rfl (hb hby d12_76) rfl k₀
            show Owes _ _ _ _ (s₁.setTop (mkF m 77 #[.val (.int ((((p0.toUInt32 >>> ((16 : Int32) &&& 31).toUInt32).toInt32).toUInt32 >>> ((8 : Int32) &&& 31).toUInt32).toInt32)), .val (.int (((31 : Int32) + (-16 : Int32)) + (-8 : Int32)))] [(.int ((((((p0.toUInt32 >>> ((16 : Int32) &&& 31).toUInt32).toInt32).toUInt32 >>> ((8 : Int32) &&& 31).toUInt32).toInt32).toUInt32 >>> ((1 : Int32) &&& 31).toUInt32).toInt32)), (.int (((31 : Int32) + (-16 : Int32)) + (-8 : Int32)))]))
            refine Owes.go ?_ fun t₀ k₀ => XS.isub X0.here hx rfl (hb hby d12_77) rfl k₀
            show Owes _ _ _ _ (s₁.setTop (mkF m 78 #[.val (.int ((((p0.toUInt32 >>> ((16 : Int32) &&& 31).toUInt32).toInt32).toUInt32 >>> ((8 : Int32) &&& 31).toUInt32).toInt32)), .val (.int (((31 : Int32) + (-16 : Int32)) + (-8 : Int32)))] [(.int ((((31 : Int32) + (-16 : Int32)) + (-8 : Int32)) - ((((((p0.toUInt32 >>> ((16 : Int32) &&& 31).toUInt32).toInt32).toUInt32 >>> ((8 : Int32) &&& 31).toUInt32).toInt32).toUInt32 >>> ((1 : Int32) &&& 31).toUInt32).toInt32)))]))
            exact Owes.retI X0 hx hlk hret (hb hby d12_78) (by decide) (by decide) ⟨congrArg (fun z => some (Value.int z)) (by unfold f_nlzI; rw [if_pos hc1, if_neg hc2, if_neg hc10, if_pos hc14, if_pos hc15]; first | done | rfl), rfl, e0⟩
          · skip
            refine Owes.go ?_ fun t₀ k₀ => XS.icmpNo X0.here hx rfl (hb hby d12_63) rfl (flt hc15).1 k₀
            show Owes _ _ _ _ (s₁.setTop (mkF m 66 #[.val (.int ((((p0.toUInt32 >>> ((16 : Int32) &&& 31).toUInt32).toInt32).toUInt32 >>> ((8 : Int32) &&& 31).toUInt32).toInt32)), .val (.int (((31 : Int32) + (-16 : Int32)) + (-8 : Int32)))] []))
            refine Owes.go ?_ fun t₀ k₀ => XS.iinc X0.here hx rfl (hb hby d12_66) rfl (l' := #[.val (.int ((((p0.toUInt32 >>> ((16 : Int32) &&& 31).toUInt32).toInt32).toUInt32 >>> ((8 : Int32) &&& 31).toUInt32).toInt32)), .val (.int ((((31 : Int32) + (-16 : Int32)) + (-8 : Int32)) + (-2 : Int32)))]) rfl k₀
            show Owes _ _ _ _ (s₁.setTop (mkF m 69 #[.val (.int ((((p0.toUInt32 >>> ((16 : Int32) &&& 31).toUInt32).toInt32).toUInt32 >>> ((8 : Int32) &&& 31).toUInt32).toInt32)), .val (.int ((((31 : Int32) + (-16 : Int32)) + (-8 : Int32)) + (-2 : Int32)))] []))
            refine Owes.go ?_ fun t₀ k₀ => XS.iloadN X0.here hx rfl (hb hby d12_69) rfl k₀
            show Owes _ _ _ _ (s₁.setTop (mkF m 70 #[.val (.int ((((p0.toUInt32 >>> ((16 : Int32) &&& 31).toUInt32).toInt32).toUInt32 >>> ((8 : Int32) &&& 31).toUInt32).toInt32)), .val (.int ((((31 : Int32) + (-16 : Int32)) + (-8 : Int32)) + (-2 : Int32)))] [(.int ((((p0.toUInt32 >>> ((16 : Int32) &&& 31).toUInt32).toInt32).toUInt32 >>> ((8 : Int32) &&& 31).toUInt32).toInt32))]))
            refine Owes.go ?_ fun t₀ k₀ => XS.iconst X0.here hx rfl (hb hby d12_70) k₀
            show Owes _ _ _ _ (s₁.setTop (mkF m 71 #[.val (.int ((((p0.toUInt32 >>> ((16 : Int32) &&& 31).toUInt32).toInt32).toUInt32 >>> ((8 : Int32) &&& 31).toUInt32).toInt32)), .val (.int ((((31 : Int32) + (-16 : Int32)) + (-8 : Int32)) + (-2 : Int32)))] [(.int (2 : Int32)), (.int ((((p0.toUInt32 >>> ((16 : Int32) &&& 31).toUInt32).toInt32).toUInt32 >>> ((8 : Int32) &&& 31).toUInt32).toInt32))]))
            refine Owes.go ?_ fun t₀ k₀ => XS.iushr X0.here hx rfl (hb hby d12_71) rfl k₀
            show Owes _ _ _ _ (s₁.setTop (mkF m 72 #[.val (.int ((((p0.toUInt32 >>> ((16 : Int32) &&& 31).toUInt32).toInt32).toUInt32 >>> ((8 : Int32) &&& 31).toUInt32).toInt32)), .val (.int ((((31 : Int32) + (-16 : Int32)) + (-8 : Int32)) + (-2 : Int32)))] [(.int ((((((p0.toUInt32 >>> ((16 : Int32) &&& 31).toUInt32).toInt32).toUInt32 >>> ((8 : Int32) &&& 31).toUInt32).toInt32).toUInt32 >>> ((2 : Int32) &&& 31).toUInt32).toInt32))]))
            refine Owes.go ?_ fun t₀ k₀ => XS.istoreN X0.here hx rfl (hb hby d12_72) rfl (l' := #[.val (.int ((((((p0.toUInt32 >>> ((16 : Int32) &&& 31).toUInt32).toInt32).toUInt32 >>> ((8 : Int32) &&& 31).toUInt32).toInt32).toUInt32 >>> ((2 : Int32) &&& 31).toUInt32).toInt32)), .val (.int ((((31 : Int32) + (-16 : Int32)) + (-8 : Int32)) + (-2 : Int32)))]) rfl k₀
            show Owes _ _ _ _ (s₁.setTop (mkF m 73 #[.val (.int ((((((p0.toUInt32 >>> ((16 : Int32) &&& 31).toUInt32).toInt32).toUInt32 >>> ((8 : Int32) &&& 31).toUInt32).toInt32).toUInt32 >>> ((2 : Int32) &&& 31).toUInt32).toInt32)), .val (.int ((((31 : Int32) + (-16 : Int32)) + (-8 : Int32)) + (-2 : Int32)))] []))
            refine Owes.go ?_ fun t₀ k₀ => XS.iloadN X0.here hx rfl (hb hby d12_73) rfl k₀
            show Owes _ _ _ _ (s₁.setTop (mkF m 74 #[.val (.int ((((((p0.toUInt32 >>> ((16 : Int32) &&& 31).toUInt32).toInt32).toUInt32 >>> ((8 : Int32) &&& 31).toUInt32).toInt32).toUInt32 >>> ((2 : Int32) &&& 31).toUInt32).toInt32)), .val (.int ((((31 : Int32) + (-16 : Int32)) + (-8 : Int32)) + (-2 : Int32)))] [(.int ((((31 : Int32) + (-16 : Int32)) + (-8 : Int32)) + (-2 : Int32)))]))
            refine Owes.go ?_ fun t₀ k₀ => XS.iloadN X0.here hx rfl (hb hby d12_74) rfl k₀
            show Owes _ _ _ _ (s₁.setTop (mkF m 75 #[.val (.int ((((((p0.toUInt32 >>> ((16 : Int32) &&& 31).toUInt32).toInt32).toUInt32 >>> ((8 : Int32) &&& 31).toUInt32).toInt32).toUInt32 >>> ((2 : Int32) &&& 31).toUInt32).toInt32)), .val (.int ((((31 : Int32) + (-16 : Int32)) + (-8 : Int32)) + (-2 : Int32)))] [(.int ((((((p0.toUInt32 >>> ((16 : Int32) &&& 31).toUInt32).toInt32).toUInt32 >>> ((8 : Int32) &&& 31).toUInt32).toInt32).toUInt32 >>> ((2 : Int32) &&& 31).toUInt32).toInt32)), (.int ((((31 : Int32) + (-16 : Int32)) + (-8 : Int32)) + (-2 : Int32)))]))
            refine Owes.go ?_ fun t₀ k₀ => XS.iconst X0.here hx rfl (hb hby d12_75) k₀
            show Owes _ _ _ _ (s₁.setTop (mkF m 76 #[.val (.int ((((((p0.toUInt32 >>> ((16 : Int32) &&& 31).toUInt32).toInt32).toUInt32 >>> ((8 : Int32) &&& 31).toUInt32).toInt32).toUInt32 >>> ((2 : Int32) &&& 31).toUInt32).toInt32)), .val (.int ((((31 : Int32) + (-16 : Int32)) + (-8 : Int32)) + (-2 : Int32)))] [(.int (1 : Int32)), (.int ((((((p0.toUInt32 >>> ((16 : Int32) &&& 31).toUInt32).toInt32).toUInt32 >>> ((8 : Int32) &&& 31).toUInt32).toInt32).toUInt32 >>> ((2 : Int32) &&& 31).toUInt32).toInt32)), (.int ((((31 : Int32) + (-16 : Int32)) + (-8 : Int32)) + (-2 : Int32)))]))
            refine Owes.go ?_ fun t₀ k₀ => XS.iushr X0.here hx rfl (hb hby d12_76) rfl k₀
            show Owes _ _ _ _ (s₁.setTop (mkF m 77 #[.val (.int ((((((p0.toUInt32 >>> ((16 : Int32) &&& 31).toUInt32).toInt32).toUInt32 >>> ((8 : Int32) &&& 31).toUInt32).toInt32).toUInt32 >>> ((2 : Int32) &&& 31).toUInt32).toInt32)), .val (.int ((((31 : Int32) + (-16 : Int32)) + (-8 : Int32)) + (-2 : Int32)))] [(.int ((((((((p0.toUInt32 >>> ((16 : Int32) &&& 31).toUInt32).toInt32).toUInt32 >>> ((8 : Int32) &&& 31).toUInt32).toInt32).toUInt32 >>> ((2 : Int32) &&& 31).toUInt32).toInt32).toUInt32 >>> ((1 : Int32) &&& 31).toUInt32).toInt32)), (.int ((((31 : Int32) + (-16 : Int32)) + (-8 : Int32)) + (-2 : Int32)))]))
            refine Owes.go ?_ fun t₀ k₀ => XS.isub X0.here hx rfl (hb hby d12_77) rfl k₀
            show Owes _ _ _ _ (s₁.setTop (mkF m 78 #[.val (.int ((((((p0.toUInt32 >>> ((16 : Int32) &&& 31).toUInt32).toInt32).toUInt32 >>> ((8 : Int32) &&& 31).toUInt32).toInt32).toUInt32 >>> ((2 : Int32) &&& 31).toUInt32).toInt32)), .val (.int ((((31 : Int32) + (-16 : Int32)) + (-8 : Int32)) + (-2 : Int32)))] [(.int (((((31 : Int32) + (-16 : Int32)) + (-8 : Int32)) + (-2 : Int32)) - ((((((((p0.toUInt32 >>> ((16 : Int32) &&& 31).toUInt32).toInt32).toUInt32 >>> ((8 : Int32) &&& 31).toUInt32).toInt32).toUInt32 >>> ((2 : Int32) &&& 31).toUInt32).toInt32).toUInt32 >>> ((1 : Int32) &&& 31).toUInt32).toInt32)))]))
            exact Owes.retI X0 hx hlk hret (hb hby d12_78) (by decide) (by decide) ⟨congrArg (fun z => some (Value.int z)) (by unfold f_nlzI; rw [if_pos hc1, if_neg hc2, if_neg hc10, if_pos hc14, if_neg hc15]; first | done | rfl), rfl, e0⟩
        · skip
          refine Owes.go ?_ fun t₀ k₀ => XS.icmpNo X0.here hx rfl (hb hby d12_51) rfl (flt hc14).1 k₀
          show Owes _ _ _ _ (s₁.setTop (mkF m 54 #[.val (.int ((((p0.toUInt32 >>> ((16 : Int32) &&& 31).toUInt32).toInt32).toUInt32 >>> ((8 : Int32) &&& 31).toUInt32).toInt32)), .val (.int (((31 : Int32) + (-16 : Int32)) + (-8 : Int32)))] []))
          refine Owes.go ?_ fun t₀ k₀ => XS.iinc X0.here hx rfl (hb hby d12_54) rfl (l' := #[.val (.int ((((p0.toUInt32 >>> ((16 : Int32) &&& 31).toUInt32).toInt32).toUInt32 >>> ((8 : Int32) &&& 31).toUInt32).toInt32)), .val (.int ((((31 : Int32) + (-16 : Int32)) + (-8 : Int32)) + (-4 : Int32)))]) rfl k₀
          show Owes _ _ _ _ (s₁.setTop (mkF m 57 #[.val (.int ((((p0.toUInt32 >>> ((16 : Int32) &&& 31).toUInt32).toInt32).toUInt32 >>> ((8 : Int32) &&& 31).toUInt32).toInt32)), .val (.int ((((31 : Int32) + (-16 : Int32)) + (-8 : Int32)) + (-4 : Int32)))] []))
          refine Owes.go ?_ fun t₀ k₀ => XS.iloadN X0.here hx rfl (hb hby d12_57) rfl k₀
          show Owes _ _ _ _ (s₁.setTop (mkF m 58 #[.val (.int ((((p0.toUInt32 >>> ((16 : Int32) &&& 31).toUInt32).toInt32).toUInt32 >>> ((8 : Int32) &&& 31).toUInt32).toInt32)), .val (.int ((((31 : Int32) + (-16 : Int32)) + (-8 : Int32)) + (-4 : Int32)))] [(.int ((((p0.toUInt32 >>> ((16 : Int32) &&& 31).toUInt32).toInt32).toUInt32 >>> ((8 : Int32) &&& 31).toUInt32).toInt32))]))
          refine Owes.go ?_ fun t₀ k₀ => XS.iconst X0.here hx rfl (hb hby d12_58) k₀
          show Owes _ _ _ _ (s₁.setTop (mkF m 59 #[.val (.int ((((p0.toUInt32 >>> ((16 : Int32) &&& 31).toUInt32).toInt32).toUInt32 >>> ((8 : Int32) &&& 31).toUInt32).toInt32)), .val (.int ((((31 : Int32) + (-16 : Int32)) + (-8 : Int32)) + (-4 : Int32)))] [(.int (4 : Int32)), (.int ((((p0.toUInt32 >>> ((16 : Int32) &&& 31).toUInt32).toInt32).toUInt32 >>> ((8 : Int32) &&& 31).toUInt32).toInt32))]))
          refine Owes.go ?_ fun t₀ k₀ => XS.iushr X0.here hx rfl (hb hby d12_59) rfl k₀
          show Owes _ _ _ _ (s₁.setTop (mkF m 60 #[.val (.int ((((p0.toUInt32 >>> ((16 : Int32) &&& 31).toUInt32).toInt32).toUInt32 >>> ((8 : Int32) &&& 31).toUInt32).toInt32)), .val (.int ((((31 : Int32) + (-16 : Int32)) + (-8 : Int32)) + (-4 : Int32)))] [(.int ((((((p0.toUInt32 >>> ((16 : Int32) &&& 31).toUInt32).toInt32).toUInt32 >>> ((8 : Int32) &&& 31).toUInt32).toInt32).toUInt32 >>> ((4 : Int32) &&& 31).toUInt32).toInt32))]))
          refine Owes.go ?_ fun t₀ k₀ => XS.istoreN X0.here hx rfl (hb hby d12_60) rfl (l' := #[.val (.int ((((((p0.toUInt32 >>> ((16 : Int32) &&& 31).toUInt32).toInt32).toUInt32 >>> ((8 : Int32) &&& 31).toUInt32).toInt32).toUInt32 >>> ((4 : Int32) &&& 31).toUInt32).toInt32)), .val (.int ((((31 : Int32) + (-16 : Int32)) + (-8 : Int32)) + (-4 : Int32)))]) rfl k₀
          show Owes _ _ _ _ (s₁.setTop (mkF m 61 #[.val (.int ((((((p0.toUInt32 >>> ((16 : Int32) &&& 31).toUInt32).toInt32).toUInt32 >>> ((8 : Int32) &&& 31).toUInt32).toInt32).toUInt32 >>> ((4 : Int32) &&& 31).toUInt32).toInt32)), .val (.int ((((31 : Int32) + (-16 : Int32)) + (-8 : Int32)) + (-4 : Int32)))] []))
          refine Owes.go ?_ fun t₀ k₀ => XS.iloadN X0.here hx rfl (hb hby d12_61) rfl k₀
          show Owes _ _ _ _ (s₁.setTop (mkF m 62 #[.val (.int ((((((p0.toUInt32 >>> ((16 : Int32) &&& 31).toUInt32).toInt32).toUInt32 >>> ((8 : Int32) &&& 31).toUInt32).toInt32).toUInt32 >>> ((4 : Int32) &&& 31).toUInt32).toInt32)), .val (.int ((((31 : Int32) + (-16 : Int32)) + (-8 : Int32)) + (-4 : Int32)))] [(.int ((((((p0.toUInt32 >>> ((16 : Int32) &&& 31).toUInt32).toInt32).toUInt32 >>> ((8 : Int32) &&& 31).toUInt32).toInt32).toUInt32 >>> ((4 : Int32) &&& 31).toUInt32).toInt32))]))
          refine Owes.go ?_ fun t₀ k₀ => XS.iconst X0.here hx rfl (hb hby d12_62) k₀
          show Owes _ _ _ _ (s₁.setTop (mkF m 63 #[.val (.int ((((((p0.toUInt32 >>> ((16 : Int32) &&& 31).toUInt32).toInt32).toUInt32 >>> ((8 : Int32) &&& 31).toUInt32).toInt32).toUInt32 >>> ((4 : Int32) &&& 31).toUInt32).toInt32)), .val (.int ((((31 : Int32) + (-16 : Int32)) + (-8 : Int32)) + (-4 : Int32)))] [(.int (4 : Int32)), (.int ((((((p0.toUInt32 >>> ((16 : Int32) &&& 31).toUInt32).toInt32).toUInt32 >>> ((8 : Int32) &&& 31).toUInt32).toInt32).toUInt32 >>> ((4 : Int32) &&& 31).toUInt32).toInt32))]))
          by_cases hc16 : ((((((p0.toUInt32 >>> ((16 : Int32) &&& 31).toUInt32).toInt32).toUInt32 >>> ((8 : Int32) &&& 31).toUInt32).toInt32).toUInt32 >>> ((4 : Int32) &&& 31).toUInt32).toInt32) < (4 : Int32)
          · skip
            refine Owes.go ?_ fun t₀ k₀ => XS.icmpYes X0.here hx rfl (pc0 := 63) (pc' := 73) rfl (hb hby d12_63) rfl (tlt hc16).1 (by decide) (by decide) k₀
            show Owes _ _ _ _ (s₁.setTop (mkF m 73 #[.val (.int ((((((p0.toUInt32 >>> ((16 : Int32) &&& 31).toUInt32).toInt32).toUInt32 >>> ((8 : Int32) &&& 31).toUInt32).toInt32).toUInt32 >>> ((4 : Int32) &&& 31).toUInt32).toInt32)), .val (.int ((((31 : Int32) + (-16 : Int32)) + (-8 : Int32)) + (-4 : Int32)))] []))
            refine Owes.go ?_ fun t₀ k₀ => XS.iloadN X0.here hx rfl (hb hby d12_73) rfl k₀
            show Owes _ _ _ _ (s₁.setTop (mkF m 74 #[.val (.int ((((((p0.toUInt32 >>> ((16 : Int32) &&& 31).toUInt32).toInt32).toUInt32 >>> ((8 : Int32) &&& 31).toUInt32).toInt32).toUInt32 >>> ((4 : Int32) &&& 31).toUInt32).toInt32)), .val (.int ((((31 : Int32) + (-16 : Int32)) + (-8 : Int32)) + (-4 : Int32)))] [(.int ((((31 : Int32) + (-16 : Int32)) + (-8 : Int32)) + (-4 : Int32)))]))
            refine Owes.go ?_ fun t₀ k₀ => XS.iloadN X0.here hx rfl (hb hby d12_74) rfl k₀
            show Owes _ _ _ _ (s₁.setTop (mkF m 75 #[.val (.int ((((((p0.toUInt32 >>> ((16 : Int32) &&& 31).toUInt32).toInt32).toUInt32 >>> ((8 : Int32) &&& 31).toUInt32).toInt32).toUInt32 >>> ((4 : Int32) &&& 31).toUInt32).toInt32)), .val (.int ((((31 : Int32) + (-16 : Int32)) + (-8 : Int32)) + (-4 : Int32)))] [(.int ((((((p0.toUInt32 >>> ((16 : Int32) &&& 31).toUInt32).toInt32).toUInt32 >>> ((8 : Int32) &&& 31).toUInt32).toInt32).toUInt32 >>> ((4 : Int32) &&& 31).toUInt32).toInt32)), (.int ((((31 : Int32) + (-16 : Int32)) + (-8 : Int32)) + (-4 : Int32)))]))
            refine Owes.go ?_ fun t₀ k₀ => XS.iconst X0.here hx rfl (hb hby d12_75) k₀
            show Owes _ _ _ _ (s₁.setTop (mkF m 76 #[.val (.int ((((((p0.toUInt32 >>> ((16 : Int32) &&& 31).toUInt32).toInt32).toUInt32 >>> ((8 : Int32) &&& 31).toUInt32).toInt32).toUInt32 >>> ((4 : Int32) &&& 31).toUInt32).toInt32)), .val (.int ((((31 : Int32) + (-16 : Int32)) + (-8 : Int32)) + (-4 : Int32)))] [(.int (1 : Int32)), (.int ((((((p0.toUInt32 >>> ((16 : Int32) &&& 31).toUInt32).toInt32).toUInt32 >>> ((8 : Int32) &&& 31).toUInt32).toInt32).toUInt32 >>> ((4 : Int32) &&& 31).toUInt32).toInt32)), (.int ((((31 : Int32) + (-16 : Int32)) + (-8 : Int32)) + (-4 : Int32)))]))
            refine Owes.go ?_ fun t₀ k₀ => XS.iushr X0.here hx rfl (hb hby d12_76) rfl k₀
            show Owes _ _ _ _ (s₁.setTop (mkF m 77 #[.val (.int ((((((p0.toUInt32 >>> ((16 : Int32) &&& 31).toUInt32).toInt32).toUInt32 >>> ((8 : Int32) &&& 31).toUInt32).toInt32).toUInt32 >>> ((4 : Int32) &&& 31).toUInt32).toInt32)), .val (.int ((((31 : Int32) + (-16 : Int32)) + (-8 : Int32)) + (-4 : Int32)))] [(.int ((((((((p0.toUInt32 >>> ((16 : Int32) &&& 31).toUInt32).toInt32).toUInt32 >>> ((8 : Int32) &&& 31).toUInt32).toInt32).toUInt32 >>> ((4 : Int32) &&& 31).toUInt32).toInt32).toUInt32 >>> ((1 : Int32) &&& 31).toUInt32).toInt32)), (.int ((((31 : Int32) + (-16 : Int32)) + (-8 : Int32)) + (-4 : Int32)))]))
            refine Owes.go ?_ fun t₀ k₀ => XS.isub X0.here hx rfl (hb hby d12_77) rfl k₀
            show Owes _ _ _ _ (s₁.setTop (mkF m 78 #[.val (.int ((((((p0.toUInt32 >>> ((16 : Int32) &&& 31).toUInt32).toInt32).toUInt32 >>> ((8 : Int32) &&& 31).toUInt32).toInt32).toUInt32 >>> ((4 : Int32) &&& 31).toUInt32).toInt32)), .val (.int ((((31 : Int32) + (-16 : Int32)) + (-8 : Int32)) + (-4 : Int32)))] [(.int (((((31 : Int32) + (-16 : Int32)) + (-8 : Int32)) + (-4 : Int32)) - ((((((((p0.toUInt32 >>> ((16 : Int32) &&& 31).toUInt32).toInt32).toUInt32 >>> ((8 : Int32) &&& 31).toUInt32).toInt32).toUInt32 >>> ((4 : Int32) &&& 31).toUInt32).toInt32).toUInt32 >>> ((1 : Int32) &&& 31).toUInt32).toInt32)))]))
            exact Owes.retI X0 hx hlk hret (hb hby d12_78) (by decide) (by decide) ⟨congrArg (fun z => some (Value.int z)) (by unfold f_nlzI; rw [if_pos hc1, if_neg hc2, if_neg hc10, if_neg hc14, if_pos hc16]; first | done | rfl), rfl, e0⟩
          · skip
            refine Owes.go ?_ fun t₀ k₀ => XS.icmpNo X0.here hx rfl (hb hby d12_63) rfl (flt hc16).1 k₀
            show Owes _ _ _ _ (s₁.setTop (mkF m 66 #[.val (.int ((((((p0.toUInt32 >>> ((16 : Int32) &&& 31).toUInt32).toInt32).toUInt32 >>> ((8 : Int32) &&& 31).toUInt32).toInt32).toUInt32 >>> ((4 : Int32) &&& 31).toUInt32).toInt32)), .val (.int ((((31 : Int32) + (-16 : Int32)) + (-8 : Int32)) + (-4 : Int32)))] []))
            refine Owes.go ?_ fun t₀ k₀ => XS.iinc X0.here hx rfl (hb hby d12_66) rfl (l' := #[.val (.int ((((((p0.toUInt32 >>> ((16 : Int32) &&& 31).toUInt32).toInt32).toUInt32 >>> ((8 : Int32) &&& 31).toUInt32).toInt32).toUInt32 >>> ((4 : Int32) &&& 31).toUInt32).toInt32)), .val (.int (((((31 : Int32) + (-16 : Int32)) + (-8 : Int32)) + (-4 : Int32)) + (-2 : Int32)))]) rfl k₀
            show Owes _ _ _ _ (s₁.setTop (mkF m 69 #[.val (.int ((((((p0.toUInt32 >>> ((16 : Int32) &&& 31).toUInt32).toInt32).toUInt32 >>> ((8 : Int32) &&& 31).toUInt32).toInt32).toUInt32 >>> ((4 : Int32) &&& 31).toUInt32).toInt32)), .val (.int (((((31 : Int32) + (-16 : Int32)) + (-8 : Int32)) + (-4 : Int32)) + (-2 : Int32)))] []))
            refine Owes.go ?_ fun t₀ k₀ => XS.iloadN X0.here hx rfl (hb hby d12_69) rfl k₀
            show Owes _ _ _ _ (s₁.setTop (mkF m 70 #[.val (.int ((((((p0.toUInt32 >>> ((16 : Int32) &&& 31).toUInt32).toInt32).toUInt32 >>> ((8 : Int32) &&& 31).toUInt32).toInt32).toUInt32 >>> ((4 : Int32) &&& 31).toUInt32).toInt32)), .val (.int (((((31 : Int32) + (-16 : Int32)) + (-8 : Int32)) + (-4 : Int32)) + (-2 : Int32)))] [(.int ((((((p0.toUInt32 >>> ((16 : Int32) &&& 31).toUInt32).toInt32).toUInt32 >>> ((8 : Int32) &&& 31).toUInt32).toInt32).toUInt32 >>> ((4 : Int32) &&& 31).toUInt32).toInt32))]))
            refine Owes.go ?_ fun t₀ k₀ => XS.iconst X0.here hx rfl (hb hby d12_70) k₀
            show Owes _ _ _ _ (s₁.setTop (mkF m 71 #[.val (.int ((((((p0.toUInt32 >>> ((16 : Int32) &&& 31).toUInt32).toInt32).toUInt32 >>> ((8 : Int32) &&& 31).toUInt32).toInt32).toUInt32 >>> ((4 : Int32) &&& 31).toUInt32).toInt32)), .val (.int (((((31 : Int32) + (-16 : Int32)) + (-8 : Int32)) + (-4 : Int32)) + (-2 : Int32)))] [(.int (2 : Int32)), (.int ((((((p0.toUInt32 >>> ((16 : Int32) &&& 31).toUInt32).toInt32).toUInt32 >>> ((8 : Int32) &&& 31).toUInt32).toInt32).toUInt32 >>> ((4 : Int32) &&& 31).toUInt32).toInt32))]))
            refine Owes.go ?_ fun t₀ k₀ => XS.iushr X0.here hx rfl (hb hby d12_71) rfl k₀
            show Owes _ _ _ _ (s₁.setTop (mkF m 72 #[.val (.int ((((((p0.toUInt32 >>> ((16 : Int32) &&& 31).toUInt32).toInt32).toUInt32 >>> ((8 : Int32) &&& 31).toUInt32).toInt32).toUInt32 >>> ((4 : Int32) &&& 31).toUInt32).toInt32)), .val (.int (((((31 : Int32) + (-16 : Int32)) + (-8 : Int32)) + (-4 : Int32)) + (-2 : Int32)))] [(.int ((((((((p0.toUInt32 >>> ((16 : Int32) &&& 31).toUInt32).toInt32).toUInt32 >>> ((8 : Int32) &&& 31).toUInt32).toInt32).toUInt32 >>> ((4 : Int32) &&& 31).toUInt32).toInt32).toUInt32 >>> ((2 : Int32) &&& 31).toUInt32).toInt32))]))
            refine Owes.go ?_ fun t₀ k₀ => XS.istoreN X0.here hx rfl (hb hby d12_72) rfl (l' := #[.val (.int ((((((((p0.toUInt32 >>> ((16 : Int32) &&& 31).toUInt32).toInt32).toUInt32 >>> ((8 : Int32) &&& 31).toUInt32).toInt32).toUInt32 >>> ((4 : Int32) &&& 31).toUInt32).toInt32).toUInt32 >>> ((2 : Int32) &&& 31).toUInt32).toInt32)), .val (.int (((((31 : Int32) + (-16 : Int32)) + (-8 : Int32)) + (-4 : Int32)) + (-2 : Int32)))]) rfl k₀
            show Owes _ _ _ _ (s₁.setTop (mkF m 73 #[.val (.int ((((((((p0.toUInt32 >>> ((16 : Int32) &&& 31).toUInt32).toInt32).toUInt32 >>> ((8 : Int32) &&& 31).toUInt32).toInt32).toUInt32 >>> ((4 : Int32) &&& 31).toUInt32).toInt32).toUInt32 >>> ((2 : Int32) &&& 31).toUInt32).toInt32)), .val (.int (((((31 : Int32) + (-16 : Int32)) + (-8 : Int32)) + (-4 : Int32)) + (-2 : Int32)))] []))
            refine Owes.go ?_ fun t₀ k₀ => XS.iloadN X0.here hx rfl (hb hby d12_73) rfl k₀
            show Owes _ _ _ _ (s₁.setTop (mkF m 74 #[.val (.int ((((((((p0.toUInt32 >>> ((16 : Int32) &&& 31).toUInt32).toInt32).toUInt32 >>> ((8 : Int32) &&& 31).toUInt32).toInt32).toUInt32 >>> ((4 : Int32) &&& 31).toUInt32).toInt32).toUInt32 >>> ((2 : Int32) &&& 31).toUInt32).toInt32)), .val (.int (((((31 : Int32) + (-16 : Int32)) + (-8 : Int32)) + (-4 : Int32)) + (-2 : Int32)))] [(.int (((((31 : Int32) + (-16 : Int32)) + (-8 : Int32)) + (-4 : Int32)) + (-2 : Int32)))]))
            refine Owes.go ?_ fun t₀ k₀ => XS.iloadN X0.here hx rfl (hb hby d12_74) rfl k₀
            show Owes _ _ _ _ (s₁.setTop (mkF m 75 #[.val (.int ((((((((p0.toUInt32 >>> ((16 : Int32) &&& 31).toUInt32).toInt32).toUInt32 >>> ((8 : Int32) &&& 31).toUInt32).toInt32).toUInt32 >>> ((4 : Int32) &&& 31).toUInt32).toInt32).toUInt32 >>> ((2 : Int32) &&& 31).toUInt32).toInt32)), .val (.int (((((31 : Int32) + (-16 : Int32)) + (-8 : Int32)) + (-4 : Int32)) + (-2 : Int32)))] [(.int ((((((((p0.toUInt32 >>> ((16 : Int32) &&& 31).toUInt32).toInt32).toUInt32 >>> ((8 : Int32) &&& 31).toUInt32).toInt32).toUInt32 >>> ((4 : Int32) &&& 31).toUInt32).toInt32).toUInt32 >>> ((2 : Int32) &&& 31).toUInt32).toInt32)), (.int (((((31 : Int32) + (-16 : Int32)) + (-8 : Int32)) + (-4 : Int32)) + (-2 : Int32)))]))
            refine Owes.go ?_ fun t₀ k₀ => XS.iconst X0.here hx rfl (hb hby d12_75) k₀
            show Owes _ _ _ _ (s₁.setTop (mkF m 76 #[.val (.int ((((((((p0.toUInt32 >>> ((16 : Int32) &&& 31).toUInt32).toInt32).toUInt32 >>> ((8 : Int32) &&& 31).toUInt32).toInt32).toUInt32 >>> ((4 : Int32) &&& 31).toUInt32).toInt32).toUInt32 >>> ((2 : Int32) &&& 31).toUInt32).toInt32)), .val (.int (((((31 : Int32) + (-16 : Int32)) + (-8 : Int32)) + (-4 : Int32)) + (-2 : Int32)))] [(.int (1 : Int32)), (.int ((((((((p0.toUInt32 >>> ((16 : Int32) &&& 31).toUInt32).toInt32).toUInt32 >>> ((8 : Int32) &&& 31).toUInt32).toInt32).toUInt32 >>> ((4 : Int32) &&& 31).toUInt32).toInt32).toUInt32 >>> ((2 : Int32) &&& 31).toUInt32).toInt32)), (.int (((((31 : Int32) + (-16 : Int32)) + (-8 : Int32)) + (-4 : Int32)) + (-2 : Int32)))]))
            refine Owes.go ?_ fun t₀ k₀ => XS.iushr X0.here hx rfl (hb hby d12_76) rfl k₀
            show Owes _ _ _ _ (s₁.setTop (mkF m 77 #[.val (.int ((((((((p0.toUInt32 >>> ((16 : Int32) &&& 31).toUInt32).toInt32).toUInt32 >>> ((8 : Int32) &&& 31).toUInt32).toInt32).toUInt32 >>> ((4 : Int32) &&& 31).toUInt32).toInt32).toUInt32 >>> ((2 : Int32) &&& 31).toUInt32).toInt32)), .val (.int (((((31 : Int32) + (-16 : Int32)) + (-8 : Int32)) + (-4 : Int32)) + (-2 : Int32)))] [(.int ((((((((((p0.toUInt32 >>> ((16 : Int32) &&& 31).toUInt32).toInt32).toUInt32 >>> ((8 : Int32) &&& 31).toUInt32).toInt32).toUInt32 >>> ((4 : Int32) &&& 31).toUInt32).toInt32).toUInt32 >>> ((2 : Int32) &&& 31).toUInt32).toInt32).toUInt32 >>> ((1 : Int32) &&& 31).toUInt32).toInt32)), (.int (((((31 : Int32) + (-16 : Int32)) + (-8 : Int32)) + (-4 : Int32)) + (-2 : Int32)))]))
            refine Owes.go ?_ fun t₀ k₀ => XS.isub X0.here hx rfl (hb hby d12_77) rfl k₀
            show Owes _ _ _ _ (s₁.setTop (mkF m 78 #[.val (.int ((((((((p0.toUInt32 >>> ((16 : Int32) &&& 31).toUInt32).toInt32).toUInt32 >>> ((8 : Int32) &&& 31).toUInt32).toInt32).toUInt32 >>> ((4 : Int32) &&& 31).toUInt32).toInt32).toUInt32 >>> ((2 : Int32) &&& 31).toUInt32).toInt32)), .val (.int (((((31 : Int32) + (-16 : Int32)) + (-8 : Int32)) + (-4 : Int32)) + (-2 : Int32)))] [(.int ((((((31 : Int32) + (-16 : Int32)) + (-8 : Int32)) + (-4 : Int32)) + (-2 : Int32)) - ((((((((((p0.toUInt32 >>> ((16 : Int32) &&& 31).toUInt32).toInt32).toUInt32 >>> ((8 : Int32) &&& 31).toUInt32).toInt32).toUInt32 >>> ((4 : Int32) &&& 31).toUInt32).toInt32).toUInt32 >>> ((2 : Int32) &&& 31).toUInt32).toInt32).toUInt32 >>> ((1 : Int32) &&& 31).toUInt32).toInt32)))]))
            exact Owes.retI X0 hx hlk hret (hb hby d12_78) (by decide) (by decide) ⟨congrArg (fun z => some (Value.int z)) (by unfold f_nlzI; rw [if_pos hc1, if_neg hc2, if_neg hc10, if_neg hc14, if_neg hc16]; first | done | rfl), rfl, e0⟩
  · skip
    refine Owes.go ?_ fun t₀ k₀ => XS.ifNo X0.here hx rfl (hb hby d12_1) rfl ((if0 _ _).trans (flt hc1).2.2.1) k₀
    show Owes _ _ _ _ (s₁.setTop (mkF m 4 #[.val (.int p0), .unset] []))
    refine Owes.go ?_ fun t₀ k₀ => XS.iloadN X0.here hx rfl (hb hby d12_4) rfl k₀
    show Owes _ _ _ _ (s₁.setTop (mkF m 5 #[.val (.int p0), .unset] [(.int p0)]))
    by_cases hc17 : p0 = (0 : Int32)
    · skip
      refine Owes.go ?_ fun t₀ k₀ => XS.ifNo X0.here hx rfl (hb hby d12_5) rfl ((if0 _ _).trans (teq hc17).2) k₀
      show Owes _ _ _ _ (s₁.setTop (mkF m 8 #[.val (.int p0), .unset] []))
      refine Owes.go ?_ fun t₀ k₀ => XS.bipush X0.here hx rfl (hb hby d12_8) k₀
      show Owes _ _ _ _ (s₁.setTop (mkF m 10 #[.val (.int p0), .unset] [(.int (32 : Int32))]))
      refine Owes.go ?_ fun t₀ k₀ => XS.goto X0.here hx rfl (pc0 := 10) (pc' := 14) rfl (hb hby d12_10) (by decide) (by decide) k₀
      show Owes _ _ _ _ (s₁.setTop (mkF m 14 #[.val (.int p0), .unset] [(.int (32 : Int32))]))
      exact Owes.retI X0 hx hlk hret (hb hby d12_14) (by decide) (by decide) ⟨congrArg (fun z => some (Value.int z)) (by unfold f_nlzI; rw [if_neg hc1, if_pos hc17]; first | done | rfl), rfl, e0⟩
    · skip
      refine Owes.go ?_ fun t₀ k₀ => XS.ifYes X0.here hx rfl (pc0 := 5) (pc' := 13) rfl (hb hby d12_5) rfl ((if0 _ _).trans (feq hc17).2) (by decide) (by decide) k₀
      show Owes _ _ _ _ (s₁.setTop (mkF m 13 #[.val (.int p0), .unset] []))
      refine Owes.go ?_ fun t₀ k₀ => XS.iconst X0.here hx rfl (hb hby d12_13) k₀
      show Owes _ _ _ _ (s₁.setTop (mkF m 14 #[.val (.int p0), .unset] [(.int (0 : Int32))]))
      exact Owes.retI X0 hx hlk hret (hb hby d12_14) (by decide) (by decide) ⟨congrArg (fun z => some (Value.int z)) (by unfold f_nlzI; rw [if_neg hc1, if_neg hc17]; first | done | rfl), rfl, e0⟩
theorem d11_0 : decode jdk_35_method_48_code 0 = .ok (.lload_n 0, 1) := by decide +kernel
theorem d11_1 : decode jdk_35_method_48_code 1 = .ok (.bipush 32, 2) := by decide +kernel
theorem d11_3 : decode jdk_35_method_48_code 3 = .ok (.lushr, 1) := by decide +kernel
theorem d11_4 : decode jdk_35_method_48_code 4 = .ok (.l2i, 1) := by decide +kernel
theorem d11_5 : decode jdk_35_method_48_code 5 = .ok (.istore_n 2, 1) := by decide +kernel
theorem d11_6 : decode jdk_35_method_48_code 6 = .ok (.iload_n 2, 1) := by decide +kernel
theorem d11_7 : decode jdk_35_method_48_code 7 = .ok (.ifCond .ne 14, 3) := by decide +kernel
theorem d11_10 : decode jdk_35_method_48_code 10 = .ok (.bipush 32, 2) := by decide +kernel
theorem d11_12 : decode jdk_35_method_48_code 12 = .ok (.lload_n 0, 1) := by decide +kernel
theorem d11_13 : decode jdk_35_method_48_code 13 = .ok (.l2i, 1) := by decide +kernel
theorem d11_14 : decode jdk_35_method_48_code 14 = .ok (.invokestatic 308, 3) := by decide +kernel
theorem d11_17 : decode jdk_35_method_48_code 17 = .ok (.iadd, 1) := by decide +kernel
theorem d11_18 : decode jdk_35_method_48_code 18 = .ok (.goto 7, 3) := by decide +kernel
theorem d11_25 : decode jdk_35_method_48_code 25 = .ok (.ireturn, 1) := by decide +kernel
theorem d11_21 : decode jdk_35_method_48_code 21 = .ok (.iload_n 2, 1) := by decide +kernel
theorem d11_22 : decode jdk_35_method_48_code 22 = .ok (.invokestatic 308, 3) := by decide +kernel
def f_nlzJ (q0 : Int64)  : Int32 := (if (((q0.toUInt64 >>> ((32 : Int32) &&& 0x3f).toInt64.toUInt64).toInt64).toInt32) = (0 : Int32) then ((32 : Int32) + (f_nlzI (q0.toInt32))) else (f_nlzI (((q0.toUInt64 >>> ((32 : Int32) &&& 0x3f).toInt64.toUInt64).toInt64).toInt32)))
theorem ef_11_f_nlzJ (m : MethodId) (q0 : Int64) : entryFrame m #[(.long q0)] 3 = mkF m 0 #[.val (.long q0), .second, .unset] [] := by first | (simp [entryFrame, mkF, argsToLocals, Value.category]; done) | rfl
theorem pn_11 : plainFor (⟨"java/lang/Long", "numberOfLeadingZeros", "(J)I"⟩ : MethodName) = true := plainFor_of_name (by first | (simp [plainName, overriddenIn]; done) | decide +kernel)
set_option maxRecDepth 65536 in
set_option maxHeartbeats 40000000 in
theorem rm_f_nlzJ (l : Launch) (Z : State) (a0 : Array Value) (hw : ∀ d ∈ tables_1, d.before a0 Z = true) (ws : List Jvm.Cond) (q0 : Int64) (h0 : Heap)  :
    OMet l (⟨"java/lang/Long", "numberOfLeadingZeros", "(J)I"⟩ : MethodName) jdk_35_method_48_code 3 (some .int) ws ({ frames := 1, cells := 0, slots := 0, locals := 14 } : Room) #[(.long q0)] Z h0 (fun v h L => v = some (Value.int (f_nlzJ q0)) ∧ L = [] ∧ h = h0) := by
  refine OMet.of pn_11 (fun m => ef_11_f_nlzJ m q0) ?_
  intro p e s m below meth c s₁ hx hby hml hown hnm hret hlk hZ X0 e0
  refine Owes.go ?_ fun t₀ k₀ => XS.lloadN X0.here hx rfl (hb hby d11_0) rfl k₀
  show Owes _ _ _ _ (s₁.setTop (mkF m 1 #[.val (.long q0), .second, .unset] [(.long q0)]))
  refine Owes.go ?_ fun t₀ k₀ => XS.bipush X0.here hx rfl (hb hby d11_1) k₀
  show Owes _ _ _ _ (s₁.setTop (mkF m 3 #[.val (.long q0), .second, .unset] [(.int (32 : Int32)), (.long q0)]))
  refine Owes.go ?_ fun t₀ k₀ => XS.lushr X0.here hx rfl (hb hby d11_3) rfl k₀
  show Owes _ _ _ _ (s₁.setTop (mkF m 4 #[.val (.long q0), .second, .unset] [(.long ((q0.toUInt64 >>> ((32 : Int32) &&& 0x3f).toInt64.toUInt64).toInt64))]))
  refine Owes.go ?_ fun t₀ k₀ => XS.l2i X0.here hx rfl (hb hby d11_4) rfl k₀
  show Owes _ _ _ _ (s₁.setTop (mkF m 5 #[.val (.long q0), .second, .unset] [(.int (((q0.toUInt64 >>> ((32 : Int32) &&& 0x3f).toInt64.toUInt64).toInt64).toInt32))]))
  refine Owes.go ?_ fun t₀ k₀ => XS.istoreN X0.here hx rfl (hb hby d11_5) rfl (l' := #[.val (.long q0), .second, .val (.int (((q0.toUInt64 >>> ((32 : Int32) &&& 0x3f).toInt64.toUInt64).toInt64).toInt32))]) rfl k₀
  show Owes _ _ _ _ (s₁.setTop (mkF m 6 #[.val (.long q0), .second, .val (.int (((q0.toUInt64 >>> ((32 : Int32) &&& 0x3f).toInt64.toUInt64).toInt64).toInt32))] []))
  refine Owes.go ?_ fun t₀ k₀ => XS.iloadN X0.here hx rfl (hb hby d11_6) rfl k₀
  show Owes _ _ _ _ (s₁.setTop (mkF m 7 #[.val (.long q0), .second, .val (.int (((q0.toUInt64 >>> ((32 : Int32) &&& 0x3f).toInt64.toUInt64).toInt64).toInt32))] [(.int (((q0.toUInt64 >>> ((32 : Int32) &&& 0x3f).toInt64.toUInt64).toInt64).toInt32))]))
  by_cases hc1 : (((q0.toUInt64 >>> ((32 : Int32) &&& 0x3f).toInt64.toUInt64).toInt64).toInt32) = (0 : Int32)
  · skip
    refine Owes.go ?_ fun t₀ k₀ => XS.ifNo X0.here hx rfl (hb hby d11_7) rfl ((if0 _ _).trans (teq hc1).2) k₀
    show Owes _ _ _ _ (s₁.setTop (mkF m 10 #[.val (.long q0), .second, .val (.int (((q0.toUInt64 >>> ((32 : Int32) &&& 0x3f).toInt64.toUInt64).toInt64).toInt32))] []))
    refine Owes.go ?_ fun t₀ k₀ => XS.bipush X0.here hx rfl (hb hby d11_10) k₀
    show Owes _ _ _ _ (s₁.setTop (mkF m 12 #[.val (.long q0), .second, .val (.int (((q0.toUInt64 >>> ((32 : Int32) &&& 0x3f).toInt64.toUInt64).toInt64).toInt32))] [(.int (32 : Int32))]))
    refine Owes.go ?_ fun t₀ k₀ => XS.lloadN X0.here hx rfl (hb hby d11_12) rfl k₀
    show Owes _ _ _ _ (s₁.setTop (mkF m 13 #[.val (.long q0), .second, .val (.int (((q0.toUInt64 >>> ((32 : Int32) &&& 0x3f).toInt64.toUInt64).toInt64).toInt32))] [(.long q0), (.int (32 : Int32))]))
    refine Owes.go ?_ fun t₀ k₀ => XS.l2i X0.here hx rfl (hb hby d11_13) rfl k₀
    show Owes _ _ _ _ (s₁.setTop (mkF m 14 #[.val (.long q0), .second, .val (.int (((q0.toUInt64 >>> ((32 : Int32) &&& 0x3f).toInt64.toUInt64).toInt64).toInt32))] [(.int (q0.toInt32)), (.int (32 : Int32))]))
    refine Owes.callS X0 hx hZ hown (hw _ (List.mem_of_getElem? (i := 55) rfl)) (hw _ (List.mem_of_getElem? (i := 56) rfl)) (hw _ (List.mem_of_getElem? (i := 44) rfl)) (hw _ (List.mem_of_getElem? (i := 57) rfl)) (by decide) (argsL := [(.int (q0.toInt32))]) (rest := [(.int (32 : Int32))]) (rm_f_nlzI l Z a0 hw [] (q0.toInt32) h0 ) e0 (by rw [hml]; rfl) pd_0 rfl rfl (hb hby d11_14) (by decide) (Nat.le_of_ble_eq_true rfl) (by decide) (by decide) ?_
    rintro T3 _ _ X3 ⟨rfl, rfl, e3⟩
    rw [List.append_nil] at X3
    show Owes _ _ _ _ (T3.setTop (mkF m 17 #[.val (.long q0), .second, .val (.int (((q0.toUInt64 >>> ((32 : Int32) &&& 0x3f).toInt64.toUInt64).toInt64).toInt32))] [(.int (f_nlzI (q0.toInt32))), (.int (32 : Int32))]))
    refine Owes.go ?_ fun t₀ k₀ => XS.iadd X3.here hx rfl (hb hby d11_17) rfl k₀
    show Owes _ _ _ _ (T3.setTop (mkF m 18 #[.val (.long q0), .second, .val (.int (((q0.toUInt64 >>> ((32 : Int32) &&& 0x3f).toInt64.toUInt64).toInt64).toInt32))] [(.int ((32 : Int32) + (f_nlzI (q0.toInt32))))]))
    refine Owes.go ?_ fun t₀ k₀ => XS.goto X3.here hx rfl (pc0 := 18) (pc' := 25) rfl (hb hby d11_18) (by decide) (by decide) k₀
    show Owes _ _ _ _ (T3.setTop (mkF m 25 #[.val (.long q0), .second, .val (.int (((q0.toUInt64 >>> ((32 : Int32) &&& 0x3f).toInt64.toUInt64).toInt64).toInt32))] [(.int ((32 : Int32) + (f_nlzI (q0.toInt32))))]))
    exact Owes.retI X3 hx hlk hret (hb hby d11_25) (by decide) (by decide) ⟨congrArg (fun z => some (Value.int z)) (by unfold f_nlzJ; rw [if_pos hc1]; first | done | rfl), rfl, e3⟩
  · skip
    refine Owes.go ?_ fun t₀ k₀ => XS.ifYes X0.here hx rfl (pc0 := 7) (pc' := 21) rfl (hb hby d11_7) rfl ((if0 _ _).trans (feq hc1).2) (by decide) (by decide) k₀
    show Owes _ _ _ _ (s₁.setTop (mkF m 21 #[.val (.long q0), .second, .val (.int (((q0.toUInt64 >>> ((32 : Int32) &&& 0x3f).toInt64.toUInt64).toInt64).toInt32))] []))
    refine Owes.go ?_ fun t₀ k₀ => XS.iloadN X0.here hx rfl (hb hby d11_21) rfl k₀
    show Owes _ _ _ _ (s₁.setTop (mkF m 22 #[.val (.long q0), .second, .val (.int (((q0.toUInt64 >>> ((32 : Int32) &&& 0x3f).toInt64.toUInt64).toInt64).toInt32))] [(.int (((q0.toUInt64 >>> ((32 : Int32) &&& 0x3f).toInt64.toUInt64).toInt64).toInt32))]))
    refine Owes.callS X0 hx hZ hown (hw _ (List.mem_of_getElem? (i := 55) rfl)) (hw _ (List.mem_of_getElem? (i := 56) rfl)) (hw _ (List.mem_of_getElem? (i := 44) rfl)) (hw _ (List.mem_of_getElem? (i := 57) rfl)) (by decide) (argsL := [(.int (((q0.toUInt64 >>> ((32 : Int32) &&& 0x3f).toInt64.toUInt64).toInt64).toInt32))]) (rest := []) (rm_f_nlzI l Z a0 hw [] (((q0.toUInt64 >>> ((32 : Int32) &&& 0x3f).toInt64.toUInt64).toInt64).toInt32) h0 ) e0 (by rw [hml]; rfl) pd_0 rfl rfl (hb hby d11_22) (by decide) (Nat.le_of_ble_eq_true rfl) (by decide) (by decide) ?_
    rintro T4 _ _ X4 ⟨rfl, rfl, e4⟩
    rw [List.append_nil] at X4
    show Owes _ _ _ _ (T4.setTop (mkF m 25 #[.val (.long q0), .second, .val (.int (((q0.toUInt64 >>> ((32 : Int32) &&& 0x3f).toInt64.toUInt64).toInt64).toInt32))] [(.int (f_nlzI (((q0.toUInt64 >>> ((32 : Int32) &&& 0x3f).toInt64.toUInt64).toInt64).toInt32)))]))
    exact Owes.retI X4 hx hlk hret (hb hby d11_25) (by decide) (by decide) ⟨congrArg (fun z => some (Value.int z)) (by unfold f_nlzJ; rw [if_neg hc1]; first | done | rfl), rfl, e4⟩
theorem own_u1 (y : Int32) (h : 0 ≤ y.toInt) : ((y.toUInt32 >>> ((1 : Int32) &&& 31).toUInt32).toInt32).toInt = y.toInt / 2 := by
  have := c_iushr y 1 1 (by decide) (by decide)
  have r := rng32 y
  rw [this]; omega
theorem own_u2 (y : Int32) (h : 0 ≤ y.toInt) : ((y.toUInt32 >>> ((2 : Int32) &&& 31).toUInt32).toInt32).toInt = y.toInt / 4 := by
  have := c_iushr y 2 2 (by decide) (by decide)
  have r := rng32 y
  rw [this]; omega
theorem own_u4 (y : Int32) (h : 0 ≤ y.toInt) : ((y.toUInt32 >>> ((4 : Int32) &&& 31).toUInt32).toInt32).toInt = y.toInt / 16 := by
  have := c_iushr y 4 4 (by decide) (by decide)
  have r := rng32 y
  rw [this]; omega
theorem own_u8 (y : Int32) (h : 0 ≤ y.toInt) : ((y.toUInt32 >>> ((8 : Int32) &&& 31).toUInt32).toInt32).toInt = y.toInt / 256 := by
  have := c_iushr y 8 8 (by decide) (by decide)
  have r := rng32 y
  rw [this]; omega
theorem own_u16 (y : Int32) (h : 0 ≤ y.toInt) : ((y.toUInt32 >>> ((16 : Int32) &&& 31).toUInt32).toInt32).toInt = y.toInt / 65536 := by
  have := c_iushr y 16 16 (by decide) (by decide)
  have r := rng32 y
  rw [this]; omega
def nl2 (n y : Int32) : Int32 := if y < (4 : Int32) then n - ((y.toUInt32 >>> ((1 : Int32) &&& 31).toUInt32).toInt32) else (n + (-2 : Int32)) - ((((y.toUInt32 >>> ((2 : Int32) &&& 31).toUInt32).toInt32).toUInt32 >>> ((1 : Int32) &&& 31).toUInt32).toInt32)
def nl4 (n y : Int32) : Int32 := if y < (16 : Int32) then nl2 n y else nl2 (n + (-4 : Int32)) ((y.toUInt32 >>> ((4 : Int32) &&& 31).toUInt32).toInt32)
def nl8 (n y : Int32) : Int32 := if y < (256 : Int32) then nl4 n y else nl4 (n + (-8 : Int32)) ((y.toUInt32 >>> ((8 : Int32) &&& 31).toUInt32).toInt32)
def nl16 (n y : Int32) : Int32 := if y < (65536 : Int32) then nl8 n y else nl8 (n + (-16 : Int32)) ((y.toUInt32 >>> ((16 : Int32) &&& 31).toUInt32).toInt32)
theorem own_ltk {y : Int32} {k : Int32} {a : Int} (hk : k.toInt = a) (h : y.toInt < a) : y < k := by rw [Int32.lt_iff_toInt_lt, hk]; exact h
theorem own_nltk {y : Int32} {k : Int32} {a : Int} (hk : k.toInt = a) (h : ¬ y.toInt < a) : ¬ y < k := by rw [Int32.lt_iff_toInt_lt, hk]; exact h
theorem own_nl2a (n A B C n2 r1 r2 y : Int) (t : Nat) (ht : t < 4) (h1 : (2 : Int) ^ t ≤ y) (h2 : y < (2 : Int) ^ (t + 1)) (hn : 3 ≤ n ∧ n ≤ 31) (e1 : A = y / 2) (e2 : C = y / 4) (e3 : B = C / 2) (q1 : (r1 - (n - A)) % 4294967296 = 0) (q2 : (n2 - (n + -2)) % 4294967296 = 0) (q3 : (r2 - (n2 - B)) % 4294967296 = 0) (g1 : -2147483648 ≤ r1 ∧ r1 < 2147483648) (g2 : -2147483648 ≤ r2 ∧ r2 < 2147483648) (g3 : -2147483648 ≤ n2 ∧ n2 < 2147483648) : (t < 2 → y < 4 ∧ r1 = n - t) ∧ (¬ t < 2 → ¬ y < 4 ∧ r2 = n - t) := by
  rcases (by omega : t = 0 ∨ t = 1 ∨ t = 2 ∨ t = 3) with rfl | rfl | rfl | rfl
  · simp only [Nat.zero_add, Nat.reduceAdd, Int.reducePow] at h1 h2
    have hA : 0 ≤ A ∧ A ≤ 8 := by clear q1 q2 q3; omega
    have hB : 0 ≤ B ∧ B ≤ 8 := by clear q1 q2 q3; omega
    have k1 : n2 = n - 2 := by clear q1 q3 e1 e2 e3; omega
    have k2 : r1 = n - A := by clear q2 q3 e1 e2 e3; omega
    have k3 : r2 = n2 - B := by clear q1 q2 e1 e2 e3; omega
    clear q1 q2 q3; omega
  · simp only [Nat.zero_add, Nat.reduceAdd, Int.reducePow] at h1 h2
    have hA : 0 ≤ A ∧ A ≤ 8 := by clear q1 q2 q3; omega
    have hB : 0 ≤ B ∧ B ≤ 8 := by clear q1 q2 q3; omega
    have k1 : n2 = n - 2 := by clear q1 q3 e1 e2 e3; omega
    have k2 : r1 = n - A := by clear q2 q3 e1 e2 e3; omega
    have k3 : r2 = n2 - B := by clear q1 q2 e1 e2 e3; omega
    clear q1 q2 q3; omega
  · simp only [Nat.zero_add, Nat.reduceAdd, Int.reducePow] at h1 h2
    have hA : 0 ≤ A ∧ A ≤ 8 := by clear q1 q2 q3; omega
    have hB : 0 ≤ B ∧ B ≤ 8 := by clear q1 q2 q3; omega
    have k1 : n2 = n - 2 := by clear q1 q3 e1 e2 e3; omega
    have k2 : r1 = n - A := by clear q2 q3 e1 e2 e3; omega
    have k3 : r2 = n2 - B := by clear q1 q2 e1 e2 e3; omega
    clear q1 q2 q3; omega
  · simp only [Nat.zero_add, Nat.reduceAdd, Int.reducePow] at h1 h2
    have hA : 0 ≤ A ∧ A ≤ 8 := by clear q1 q2 q3; omega
    have hB : 0 ≤ B ∧ B ≤ 8 := by clear q1 q2 q3; omega
    have k1 : n2 = n - 2 := by clear q1 q3 e1 e2 e3; omega
    have k2 : r1 = n - A := by clear q2 q3 e1 e2 e3; omega
    have k3 : r2 = n2 - B := by clear q1 q2 e1 e2 e3; omega
    clear q1 q2 q3; omega
theorem own_nl2 (n y : Int32) (t : Nat) (ht : t < 4) (hn : 3 ≤ n.toInt ∧ n.toInt ≤ 31) (h1 : (2 : Int) ^ t ≤ y.toInt) (h2 : y.toInt < (2 : Int) ^ (t + 1)) : (nl2 n y).toInt = n.toInt - t := by
  have hy : 0 ≤ y.toInt := Int.le_trans (Int.le_of_lt (Int.pow_pos (by decide))) h1
  have e1 := own_u1 y hy
  have e2 := own_u2 y hy
  have hy2 : 0 ≤ ((y.toUInt32 >>> ((2 : Int32) &&& 31).toUInt32).toInt32).toInt := by rw [e2]; exact Int.ediv_nonneg hy (by decide)
  have e3 := own_u1 ((y.toUInt32 >>> ((2 : Int32) &&& 31).toUInt32).toInt32) hy2
  unfold nl2
  generalize ((((y.toUInt32 >>> ((2 : Int32) &&& 31).toUInt32).toInt32).toUInt32 >>> ((1 : Int32) &&& 31).toUInt32).toInt32) = B at *
  generalize ((y.toUInt32 >>> ((2 : Int32) &&& 31).toUInt32).toInt32) = C at *
  generalize ((y.toUInt32 >>> ((1 : Int32) &&& 31).toUInt32).toInt32) = A at *
  have q := own_nl2a _ _ _ _ _ _ _ _ t ht h1 h2 hn e1 e2 e3 (c_isub n A) (c_iadd n (-2)) (c_isub (n + (-2 : Int32)) B) (rng32 _) (rng32 _) (rng32 _)
  by_cases c : t < 2
  · rw [if_pos (own_ltk (a := 4) rfl (q.1 c).1)]; exact (q.1 c).2
  · rw [if_neg (own_nltk (a := 4) rfl (q.2 c).1)]; exact (q.2 c).2
theorem own_nl4a (n n2 C y : Int) (t : Nat) (ht : t < 8) (h1 : (2 : Int) ^ t ≤ y) (h2 : y < (2 : Int) ^ (t + 1)) (hn : 7 ≤ n ∧ n ≤ 31) (e1 : C = y / 16) (q2 : (n2 - (n + -4)) % 4294967296 = 0) (g3 : -2147483648 ≤ n2 ∧ n2 < 2147483648) : (t < 4 → y < 16) ∧ (¬ t < 4 → ¬ y < 16 ∧ n2 = n - 4 ∧ (2 : Int) ^ (t - 4) ≤ C ∧ C < (2 : Int) ^ (t - 4 + 1)) := by
  rcases (by omega : t = 0 ∨ t = 1 ∨ t = 2 ∨ t = 3 ∨ t = 4 ∨ t = 5 ∨ t = 6 ∨ t = 7) with rfl | rfl | rfl | rfl | rfl | rfl | rfl | rfl
  · simp only [Nat.zero_add, Nat.reduceAdd, Nat.reduceSub, Int.reducePow] at h1 h2 ⊢; omega
  · simp only [Nat.zero_add, Nat.reduceAdd, Nat.reduceSub, Int.reducePow] at h1 h2 ⊢; omega
  · simp only [Nat.zero_add, Nat.reduceAdd, Nat.reduceSub, Int.reducePow] at h1 h2 ⊢; omega
  · simp only [Nat.zero_add, Nat.reduceAdd, Nat.reduceSub, Int.reducePow] at h1 h2 ⊢; omega
  · simp only [Nat.zero_add, Nat.reduceAdd, Nat.reduceSub, Int.reducePow] at h1 h2 ⊢; omega
  · simp only [Nat.zero_add, Nat.reduceAdd, Nat.reduceSub, Int.reducePow] at h1 h2 ⊢; omega
  · simp only [Nat.zero_add, Nat.reduceAdd, Nat.reduceSub, Int.reducePow] at h1 h2 ⊢; omega
  · simp only [Nat.zero_add, Nat.reduceAdd, Nat.reduceSub, Int.reducePow] at h1 h2 ⊢; omega
theorem own_nl4 (n y : Int32) (t : Nat) (ht : t < 8) (hn : 7 ≤ n.toInt ∧ n.toInt ≤ 31) (h1 : (2 : Int) ^ t ≤ y.toInt) (h2 : y.toInt < (2 : Int) ^ (t + 1)) : (nl4 n y).toInt = n.toInt - t := by
  have hy : 0 ≤ y.toInt := Int.le_trans (Int.le_of_lt (Int.pow_pos (by decide))) h1
  have e1 := own_u4 y hy
  unfold nl4
  generalize ((y.toUInt32 >>> ((4 : Int32) &&& 31).toUInt32).toInt32) = C at *
  have q := own_nl4a _ _ _ _ t ht h1 h2 hn e1 (c_iadd n (-4)) (rng32 _)
  by_cases c : t < 4
  · rw [if_pos (own_ltk (a := 16) rfl (q.1 c))]; exact own_nl2 n y t c (by omega) h1 h2
  · obtain ⟨q1, q2, q3, q4⟩ := q.2 c
    rw [if_neg (own_nltk (a := 16) rfl q1), own_nl2 _ _ (t - 4) (by omega) (by rw [q2]; omega) q3 q4, q2]
    omega
theorem own_nl8a (n n2 C y : Int) (t : Nat) (ht : t < 16) (h1 : (2 : Int) ^ t ≤ y) (h2 : y < (2 : Int) ^ (t + 1)) (hn : 15 ≤ n ∧ n ≤ 31) (e1 : C = y / 256) (q2 : (n2 - (n + -8)) % 4294967296 = 0) (g3 : -2147483648 ≤ n2 ∧ n2 < 2147483648) : (t < 8 → y < 256) ∧ (¬ t < 8 → ¬ y < 256 ∧ n2 = n - 8 ∧ (2 : Int) ^ (t - 8) ≤ C ∧ C < (2 : Int) ^ (t - 8 + 1)) := by
  rcases (by omega : t = 0 ∨ t = 1 ∨ t = 2 ∨ t = 3 ∨ t = 4 ∨ t = 5 ∨ t = 6 ∨ t = 7 ∨ t = 8 ∨ t = 9 ∨ t = 10 ∨ t = 11 ∨ t = 12 ∨ t = 13 ∨ t = 14 ∨ t = 15) with rfl | rfl | rfl | rfl | rfl | rfl | rfl | rfl | rfl | rfl | rfl | rfl | rfl | rfl | rfl | rfl
  · simp only [Nat.zero_add, Nat.reduceAdd, Nat.reduceSub, Int.reducePow] at h1 h2 ⊢; omega
  · simp only [Nat.zero_add, Nat.reduceAdd, Nat.reduceSub, Int.reducePow] at h1 h2 ⊢; omega
  · simp only [Nat.zero_add, Nat.reduceAdd, Nat.reduceSub, Int.reducePow] at h1 h2 ⊢; omega
  · simp only [Nat.zero_add, Nat.reduceAdd, Nat.reduceSub, Int.reducePow] at h1 h2 ⊢; omega
  · simp only [Nat.zero_add, Nat.reduceAdd, Nat.reduceSub, Int.reducePow] at h1 h2 ⊢; omega
  · simp only [Nat.zero_add, Nat.reduceAdd, Nat.reduceSub, Int.reducePow] at h1 h2 ⊢; omega
  · simp only [Nat.zero_add, Nat.reduceAdd, Nat.reduceSub, Int.reducePow] at h1 h2 ⊢; omega
  · simp only [Nat.zero_add, Nat.reduceAdd, Nat.reduceSub, Int.reducePow] at h1 h2 ⊢; omega
  · simp only [Nat.zero_add, Nat.reduceAdd, Nat.reduceSub, Int.reducePow] at h1 h2 ⊢; omega
  · simp only [Nat.zero_add, Nat.reduceAdd, Nat.reduceSub, Int.reducePow] at h1 h2 ⊢; omega
  · simp only [Nat.zero_add, Nat.reduceAdd, Nat.reduceSub, Int.reducePow] at h1 h2 ⊢; omega
  · simp only [Nat.zero_add, Nat.reduceAdd, Nat.reduceSub, Int.reducePow] at h1 h2 ⊢; omega
  · simp only [Nat.zero_add, Nat.reduceAdd, Nat.reduceSub, Int.reducePow] at h1 h2 ⊢; omega
  · simp only [Nat.zero_add, Nat.reduceAdd, Nat.reduceSub, Int.reducePow] at h1 h2 ⊢; omega
  · simp only [Nat.zero_add, Nat.reduceAdd, Nat.reduceSub, Int.reducePow] at h1 h2 ⊢; omega
  · simp only [Nat.zero_add, Nat.reduceAdd, Nat.reduceSub, Int.reducePow] at h1 h2 ⊢; omega
theorem own_nl8 (n y : Int32) (t : Nat) (ht : t < 16) (hn : 15 ≤ n.toInt ∧ n.toInt ≤ 31) (h1 : (2 : Int) ^ t ≤ y.toInt) (h2 : y.toInt < (2 : Int) ^ (t + 1)) : (nl8 n y).toInt = n.toInt - t := by
  have hy : 0 ≤ y.toInt := Int.le_trans (Int.le_of_lt (Int.pow_pos (by decide))) h1
  have e1 := own_u8 y hy
  unfold nl8
  generalize ((y.toUInt32 >>> ((8 : Int32) &&& 31).toUInt32).toInt32) = C at *
  have q := own_nl8a _ _ _ _ t ht h1 h2 hn e1 (c_iadd n (-8)) (rng32 _)
  by_cases c : t < 8
  · rw [if_pos (own_ltk (a := 256) rfl (q.1 c))]; exact own_nl4 n y t c (by omega) h1 h2
  · obtain ⟨q1, q2, q3, q4⟩ := q.2 c
    rw [if_neg (own_nltk (a := 256) rfl q1), own_nl4 _ _ (t - 8) (by omega) (by rw [q2]; omega) q3 q4, q2]
    omega
theorem own_nl16a (n n2 C y : Int) (t : Nat) (ht : t < 31) (h1 : (2 : Int) ^ t ≤ y) (h2 : y < (2 : Int) ^ (t + 1)) (hn : 31 ≤ n ∧ n ≤ 31) (e1 : C = y / 65536) (q2 : (n2 - (n + -16)) % 4294967296 = 0) (g3 : -2147483648 ≤ n2 ∧ n2 < 2147483648) : (t < 16 → y < 65536) ∧ (¬ t < 16 → ¬ y < 65536 ∧ n2 = n - 16 ∧ (2 : Int) ^ (t - 16) ≤ C ∧ C < (2 : Int) ^ (t - 16 + 1)) := by
  rcases (by omega : t = 0 ∨ t = 1 ∨ t = 2 ∨ t = 3 ∨ t = 4 ∨ t = 5 ∨ t = 6 ∨ t = 7 ∨ t = 8 ∨ t = 9 ∨ t = 10 ∨ t = 11 ∨ t = 12 ∨ t = 13 ∨ t = 14 ∨ t = 15 ∨ t = 16 ∨ t = 17 ∨ t = 18 ∨ t = 19 ∨ t = 20 ∨ t = 21 ∨ t = 22 ∨ t = 23 ∨ t = 24 ∨ t = 25 ∨ t = 26 ∨ t = 27 ∨ t = 28 ∨ t = 29 ∨ t = 30) with rfl | rfl | rfl | rfl | rfl | rfl | rfl | rfl | rfl | rfl | rfl | rfl | rfl | rfl | rfl | rfl | rfl | rfl | rfl | rfl | rfl | rfl | rfl | rfl | rfl | rfl | rfl | rfl | rfl | rfl | rfl
  · simp only [Nat.zero_add, Nat.reduceAdd, Nat.reduceSub, Int.reducePow] at h1 h2 ⊢; omega
  · simp only [Nat.zero_add, Nat.reduceAdd, Nat.reduceSub, Int.reducePow] at h1 h2 ⊢; omega
  · simp only [Nat.zero_add, Nat.reduceAdd, Nat.reduceSub, Int.reducePow] at h1 h2 ⊢; omega
  · simp only [Nat.zero_add, Nat.reduceAdd, Nat.reduceSub, Int.reducePow] at h1 h2 ⊢; omega
  · simp only [Nat.zero_add, Nat.reduceAdd, Nat.reduceSub, Int.reducePow] at h1 h2 ⊢; omega
  · simp only [Nat.zero_add, Nat.reduceAdd, Nat.reduceSub, Int.reducePow] at h1 h2 ⊢; omega
  · simp only [Nat.zero_add, Nat.reduceAdd, Nat.reduceSub, Int.reducePow] at h1 h2 ⊢; omega
  · simp only [Nat.zero_add, Nat.reduceAdd, Nat.reduceSub, Int.reducePow] at h1 h2 ⊢; omega
  · simp only [Nat.zero_add, Nat.reduceAdd, Nat.reduceSub, Int.reducePow] at h1 h2 ⊢; omega
  · simp only [Nat.zero_add, Nat.reduceAdd, Nat.reduceSub, Int.reducePow] at h1 h2 ⊢; omega
  · simp only [Nat.zero_add, Nat.reduceAdd, Nat.reduceSub, Int.reducePow] at h1 h2 ⊢; omega
  · simp only [Nat.zero_add, Nat.reduceAdd, Nat.reduceSub, Int.reducePow] at h1 h2 ⊢; omega
  · simp only [Nat.zero_add, Nat.reduceAdd, Nat.reduceSub, Int.reducePow] at h1 h2 ⊢; omega
  · simp only [Nat.zero_add, Nat.reduceAdd, Nat.reduceSub, Int.reducePow] at h1 h2 ⊢; omega
  · simp only [Nat.zero_add, Nat.reduceAdd, Nat.reduceSub, Int.reducePow] at h1 h2 ⊢; omega
  · simp only [Nat.zero_add, Nat.reduceAdd, Nat.reduceSub, Int.reducePow] at h1 h2 ⊢; omega
  · simp only [Nat.zero_add, Nat.reduceAdd, Nat.reduceSub, Int.reducePow] at h1 h2 ⊢; omega
  · simp only [Nat.zero_add, Nat.reduceAdd, Nat.reduceSub, Int.reducePow] at h1 h2 ⊢; omega
  · simp only [Nat.zero_add, Nat.reduceAdd, Nat.reduceSub, Int.reducePow] at h1 h2 ⊢; omega
  · simp only [Nat.zero_add, Nat.reduceAdd, Nat.reduceSub, Int.reducePow] at h1 h2 ⊢; omega
  · simp only [Nat.zero_add, Nat.reduceAdd, Nat.reduceSub, Int.reducePow] at h1 h2 ⊢; omega
  · simp only [Nat.zero_add, Nat.reduceAdd, Nat.reduceSub, Int.reducePow] at h1 h2 ⊢; omega
  · simp only [Nat.zero_add, Nat.reduceAdd, Nat.reduceSub, Int.reducePow] at h1 h2 ⊢; omega
  · simp only [Nat.zero_add, Nat.reduceAdd, Nat.reduceSub, Int.reducePow] at h1 h2 ⊢; omega
  · simp only [Nat.zero_add, Nat.reduceAdd, Nat.reduceSub, Int.reducePow] at h1 h2 ⊢; omega
  · simp only [Nat.zero_add, Nat.reduceAdd, Nat.reduceSub, Int.reducePow] at h1 h2 ⊢; omega
  · simp only [Nat.zero_add, Nat.reduceAdd, Nat.reduceSub, Int.reducePow] at h1 h2 ⊢; omega
  · simp only [Nat.zero_add, Nat.reduceAdd, Nat.reduceSub, Int.reducePow] at h1 h2 ⊢; omega
  · simp only [Nat.zero_add, Nat.reduceAdd, Nat.reduceSub, Int.reducePow] at h1 h2 ⊢; omega
  · simp only [Nat.zero_add, Nat.reduceAdd, Nat.reduceSub, Int.reducePow] at h1 h2 ⊢; omega
  · simp only [Nat.zero_add, Nat.reduceAdd, Nat.reduceSub, Int.reducePow] at h1 h2 ⊢; omega
theorem own_nl16 (n y : Int32) (t : Nat) (ht : t < 31) (hn : 31 ≤ n.toInt ∧ n.toInt ≤ 31) (h1 : (2 : Int) ^ t ≤ y.toInt) (h2 : y.toInt < (2 : Int) ^ (t + 1)) : (nl16 n y).toInt = n.toInt - t := by
  have hy : 0 ≤ y.toInt := Int.le_trans (Int.le_of_lt (Int.pow_pos (by decide))) h1
  have e1 := own_u16 y hy
  unfold nl16
  generalize ((y.toUInt32 >>> ((16 : Int32) &&& 31).toUInt32).toInt32) = C at *
  have q := own_nl16a _ _ _ _ t ht h1 h2 hn e1 (c_iadd n (-16)) (rng32 _)
  by_cases c : t < 16
  · rw [if_pos (own_ltk (a := 65536) rfl (q.1 c))]; exact own_nl8 n y t c (by omega) h1 h2
  · obtain ⟨q1, q2, q3, q4⟩ := q.2 c
    rw [if_neg (own_nltk (a := 65536) rfl q1), own_nl8 _ _ (t - 16) (by omega) (by rw [q2]; omega) q3 q4, q2]
    omega
theorem own_nlzI (x : Int32) (t : Nat) (ht : t < 32) (h1 : x.toBitVec.getLsbD t = true) (h2 : ∀ b, t < b → b < 32 → x.toBitVec.getLsbD b = false) : (f_nlzI x).toInt = 31 - (t : Int) := by
  show (if (0 : Int32) < x then nl16 31 x else if x = (0 : Int32) then (32 : Int32) else (0 : Int32)).toInt = _
  have b1 : x.toBitVec.toNat.testBit t = true := h1
  have g1 : 2 ^ t ≤ x.toBitVec.toNat := Nat.ge_two_pow_of_testBit b1
  have g2 : x.toBitVec.toNat < 2 ^ (t + 1) := by
    apply Nat.lt_pow_two_of_testBit
    intro i hi
    by_cases c : i < 32
    · exact h2 i (by omega) c
    · exact Nat.testBit_lt_two_pow (Nat.lt_of_lt_of_le x.toBitVec.isLt (Nat.pow_le_pow_right (by decide) (by omega)))
  have hx : x.toInt = x.toBitVec.toInt := rfl
  rw [BitVec.toInt_eq_toNat_cond] at hx
  by_cases c : t = 31
  · subst c
    have hlt : x.toInt < 0 := by
      rw [hx, if_neg (by omega)]
      have := x.toBitVec.isLt
      omega
    have n1 : ¬ ((0 : Int32) < x) := by rw [Int32.lt_iff_toInt_lt, show (0 : Int32).toInt = 0 from rfl]; omega
    have n2 : ¬ (x = (0 : Int32)) := fun q => by rw [q] at hlt; exact absurd hlt (by decide)
    rw [if_neg n1, if_neg n2]; rfl
  · have p31 : 2 ^ (t + 1) ≤ 2 ^ 31 := Nat.pow_le_pow_right (by decide) (by omega)
    rw [if_pos (by omega)] at hx
    have k1 : (2 : Int) ^ t ≤ x.toInt := by rw [hx]; exact_mod_cast g1
    have k2 : x.toInt < (2 : Int) ^ (t + 1) := by rw [hx]; exact_mod_cast g2
    have hp : 0 < (2 : Int) ^ t := Int.pow_pos (by decide)
    have n1 : (0 : Int32) < x := by rw [Int32.lt_iff_toInt_lt, show (0 : Int32).toInt = 0 from rfl]; omega
    rw [if_pos n1]
    exact own_nl16 31 x t (by omega) (by decide) k1 k2
theorem own_nlzJ (w : Int64) (t : Nat) (h : High w t) : (f_nlzJ w).toInt = 63 - (t : Int) := by
  obtain ⟨h0, h1, h2⟩ := h
  unfold f_nlzJ
  by_cases c : 32 ≤ t
  · have e1 := hi32 w (t - 32) (by omega)
    rw [show 32 + (t - 32) = t by omega, h1] at e1
    have hne : ¬ ((((w.toUInt64 >>> ((32 : Int32) &&& 0x3f).toInt64.toUInt64).toInt64).toInt32) = 0) := fun q => by
      rw [q] at e1
      simp at e1
    rw [if_neg hne, own_nlzI _ (t - 32) (by omega) e1 (fun b hb hb' => by rw [hi32 _ _ hb']; exact h2 _ (by omega) (by omega))]
    omega
  · have hz : (((w.toUInt64 >>> ((32 : Int32) &&& 0x3f).toInt64.toUInt64).toInt64).toInt32) = 0 := ext32 fun b hb => by rw [hi32 w b hb, h2 _ (by omega) (by omega)]; simp
    rw [if_pos hz]
    have e := own_nlzI w.toInt32 t (by omega) (by rw [lo32 _ _ (by omega)]; exact h1) (fun b hb hb' => by rw [lo32 _ _ hb']; exact h2 b hb (by omega))
    have h3 := c_iadd 32 (f_nlzI w.toInt32)
    have r := rng32 ((32 : Int32) + f_nlzI w.toInt32)
    rw [show (32 : Int32).toInt = 32 from rfl, e] at h3
    omega
/-- a RankSet r: its levels' array lv, d levels, level k the array g k of len k words W k -/
def RS (Z : State) (h : Heap) (n0 : Nat) (r lv : Addr) (d : Nat) (g : Nat → Addr) (len : Nat → Nat) (W : Nat → Nat → Int64) : Prop :=
  Exa Z h r "com/example/slotwright/slotwright/core/RankSet" ∧ Fld Z h r "com/example/slotwright/slotwright/core/RankSet" "levels" "[[J" (.ref lv) ∧ GA Z h lv (.array .long) d (fun i => .ref (g i)) ∧ (∀ k, k < d → GA Z h (g k) .long (len k) (fun i => .long (W k i)) ∧ n0 ≤ g k) ∧ ∀ j k, j < d → k < d → g j = g k → j = k
theorem RS.wr {Z : State} {h h' : Heap} {n0 : Nat} {r lv : Addr} {d : Nat} {g : Nat → Addr} {len : Nat → Nat} {W : Nat → Nat → Int64} {a0 : Array Value} (F : RS Z h n0 r lv d g len W) (wi : (Jvm.Cond.instantiable "com/example/slotwright/slotwright/core/RankSet" 1).before a0 Z = true) {k i : Nat} {x : Int64} (hk : k < d) (Wr0 : Wr h h' (g k) i (.long x)) :
    RS Z h' n0 r lv d g len (upd W k (upd (W k) i x)) := by
  obtain ⟨E, L, G, A, J⟩ := F
  have n1 : r ≠ g k := GA.ne_obj E wi (A k hk).1
  have n2 : lv ≠ g k := GA.ne G (A k hk).1 (by decide)
  refine ⟨E.wr Wr0, L.other Wr0 (Or.inl n1), G.other Wr0 n2, fun j hj => ⟨?_, (A j hj).2⟩, J⟩
  by_cases q : j = k
  · subst q
    refine ((A j hj).1.set Wr0).congr fun i' hi' => ?_
    rw [upd_same]
    by_cases q' : i' = i
    · subst q'; rw [upd_same, upd_same]
    · rw [upd_ne _ _ q', upd_ne _ _ q']
  · rw [upd_ne _ _ q]
    exact (A j hj).1.other Wr0 fun z => q (J j k hj hk z)
/-- how many words level k has: the size's 64^(k+1)-th part, rounded up; the last level has one -/
def Fits (size d : Nat) (len : Nat → Nat) : Prop := 0 < d ∧ d ≤ 20 ∧ size ≤ 64 * len 0 ∧ (∀ k, k + 1 < d → len k ≤ 64 * len (k + 1)) ∧ len (d - 1) = 1 ∧ (∀ k, k < d → 0 < len k ∧ len k < 33554432)
theorem Fits.at {size d : Nat} {len : Nat → Nat} (F : Fits size d len) {n : Nat} (hn : n < size) : ∀ k, k < d → n / 64 ^ k / 64 < len k := by
  intro k
  induction k with
  | zero => intro _; have := F.2.2.1; simp only [Nat.pow_zero, Nat.div_one]; omega
  | succ k ih =>
    intro hk
    have h1 := ih (by omega)
    have h2 := F.2.2.2.1 k hk
    rw [dk_succ]; omega
theorem Fits.up {size d : Nat} {len : Nat → Nat} (F : Fits size d len) {n : Nat} (hn : n < size) : n / 64 ^ d = 0 := by
  have h := F.at hn (d - 1) (by have := F.1; omega)
  rw [F.2.2.2.2.1, ← dk_succ] at h
  have e : d - 1 + 1 = d := by have := F.1; omega
  rw [e] at h
  exact Nat.lt_one_iff.mp h
theorem own_m64 {x : Int32} {A : Nat} (h : x.toInt = (A : Int)) : (x &&& (-64 : Int32)).toInt = ((A - A % 64 : Nat) : Int) := by
  have hx := i32_nat h
  have hlt := x.toBitVec.isLt
  have r := rng32 x
  have e : (x &&& (-64 : Int32)).toBitVec.toNat = A - A % 64 := by
    show (x.toBitVec &&& (-64 : Int32).toBitVec).toNat = _
    have e2 : A - A % 64 = (A >>> 6) <<< 6 := by rw [Nat.shiftRight_eq_div_pow, Nat.shiftLeft_eq]; omega
    rw [e2, ← hx]
    apply Nat.eq_of_testBit_eq
    intro j
    rw [Nat.testBit_shiftLeft, Nat.testBit_shiftRight]
    by_cases c : j < 32
    · have m : ((-64 : Int32).toBitVec.getLsbD j) = decide (6 ≤ j) := (by decide +kernel : ∀ j : Fin 32, (-64 : Int32).toBitVec.getLsbD j.1 = decide (6 ≤ j.1)) ⟨j, c⟩
      have l : (x.toBitVec &&& (-64 : Int32).toBitVec).toNat.testBit j = (x.toBitVec.getLsbD j && (-64 : Int32).toBitVec.getLsbD j) := BitVec.getLsbD_and
      rw [l, m]
      by_cases c6 : 6 ≤ j
      · simp [c6, show 6 + (j - 6) = j by omega]; rfl
      · simp [c6]
    · have z1 : (x.toBitVec &&& (-64 : Int32).toBitVec).toNat.testBit j = false := Nat.testBit_lt_two_pow (Nat.lt_of_lt_of_le (x.toBitVec &&& (-64 : Int32).toBitVec).isLt (Nat.pow_le_pow_right (by decide) (by omega)))
      have z2 : x.toBitVec.toNat.testBit (6 + (j - 6)) = false := Nat.testBit_lt_two_pow (Nat.lt_of_lt_of_le hlt (Nat.pow_le_pow_right (by decide) (by omega)))
      rw [z1, z2]; simp
  show (x &&& (-64 : Int32)).toBitVec.toInt = _
  rw [BitVec.toInt_eq_toNat_cond, e, if_pos (by omega)]
theorem own_addt {x t : Int32} {a b : Nat} (hx : x.toInt = (a : Int)) (ht : t.toInt = (b : Int)) (h : a + b < 2147483648) : (x + t).toInt = ((a + b : Nat) : Int) := by
  have h1 := c_iadd x t
  have r := rng32 (x + t)
  omega
theorem own_shl6 {x : Int32} {a : Nat} (hx : x.toInt = (a : Int)) (h : a < 33554432) : (x <<< ((6 : Int32) &&& 31)).toInt = ((64 * a : Nat) : Int) := by
  have h1 := c_ishl x 6 6 (by decide)
  have r := rng32 (x <<< ((6 : Int32) &&& 31))
  generalize (x <<< ((6 : Int32) &&& 31)).toInt = v at *
  omega
theorem own_pos {x : Int32} {a : Nat} (hx : x.toInt = ((a + 1 : Nat) : Int)) : (0 : Int32) < x := by rw [Int32.lt_iff_toInt_lt, hx, show (0 : Int32).toInt = 0 from rfl]; omega
theorem own_zero {x : Int32} (hx : x.toInt = ((0 : Nat) : Int)) : ¬ (0 : Int32) < x := by rw [Int32.lt_iff_toInt_lt, hx, show (0 : Int32).toInt = 0 from rfl]; omega
theorem own_hi {x z : Int32} {a t : Nat} (hx : x.toInt = (a : Int)) (hz : z.toInt = 63 - (t : Int)) (ht : t < 64) (h : a + 63 < 2147483648) : ((x + (63 : Int32)) - z).toInt = ((a + t : Nat) : Int) := by
  have h1 := c_iadd x 63
  have h2 := c_isub (x + 63) z
  have r1 := rng32 (x + 63)
  have r2 := rng32 ((x + 63) - z)
  rw [show (63 : Int32).toInt = 63 from rfl] at h1
  generalize ((x + 63) - z).toInt = v2 at *
  generalize (x + 63).toInt = v1 at *
  have : v1 = a + 63 := by omega
  omega
theorem own_63 {x : Int32} {A : Nat} (h : x.toInt = (A : Int)) : ((63 : Int32) - (x &&& (63 : Int32))).toInt = ((63 - A % 64 : Nat) : Int) := by
  have h1 := c_mask x 63 6 (by decide) (by decide)
  have h2 := c_isub 63 (x &&& 63)
  have r := rng32 (63 - (x &&& 63))
  rw [show (63 : Int32).toInt = 63 from rfl, h1, h] at h2
  generalize (63 - (x &&& 63)).toInt = v at *
  omega
theorem own_sub1 {x : Int32} {a : Nat} (hx : x.toInt = (a : Int)) : (x - (1 : Int32)).toInt = (a : Int) - 1 := by
  have h1 := c_isub x 1
  have r := rng32 (x - 1)
  have r2 := rng32 x
  rw [show (1 : Int32).toInt = 1 from rfl] at h1
  generalize (x - 1).toInt = v at *
  omega
theorem own_nn {x : Int32} {a : Nat} (hx : x.toInt = (a : Int)) : ¬ x < (0 : Int32) := (own_nat hx).1
theorem own_ltn {x y : Int32} {a b : Nat} (hx : x.toInt = (a : Int)) (hy : y.toInt = (b : Int)) (h : x < y) : a < b := by rw [Int32.lt_iff_toInt_lt, hx, hy] at h; omega
theorem own_ge {x y : Int32} {a b : Nat} (hx : x.toInt = (a : Int)) (hy : y.toInt = (b : Int)) (h : ¬ x < y) : b ≤ a := by rw [Int32.lt_iff_toInt_lt, hx, hy] at h; omega
theorem own_lim {size d k A : Nat} {len : Nat → Nat} (FT : Fits size d len) (hk : k < d) (hA : (A : Int) < 64 * (len k : Int)) : -1 ≤ ((A / 64 : Nat) : Int) - 1 ∧ (k + 1 < d → ((A / 64 : Nat) : Int) - 1 < 64 * (len (k + 1) : Int)) ∧ (k + 1 = d → ((A / 64 : Nat) : Int) - 1 = -1) := by
  refine ⟨by omega, fun h => ?_, fun h => ?_⟩
  · have := FT.2.2.2.1 k h; omega
  · have e : k = d - 1 := by omega
    have := FT.2.2.2.2.1
    rw [e, this] at hA; omega
theorem own_neg1 {x : Int32} {A : Int} (hx : x.toInt = A) (h : A < 0) : x < (0 : Int32) := by rw [Int32.lt_iff_toInt_lt, hx, show (0 : Int32).toInt = 0 from rfl]; exact h
theorem d3_0 : decode prog_118_method_7_code 0 = .ok (.iload_n 0, 1) := by decide +kernel
theorem d3_1 : decode prog_118_method_7_code 1 = .ok (.bipush 63, 2) := by decide +kernel
theorem d3_3 : decode prog_118_method_7_code 3 = .ok (.iadd, 1) := by decide +kernel
theorem d3_4 : decode prog_118_method_7_code 4 = .ok (.bipush 6, 2) := by decide +kernel
theorem d3_6 : decode prog_118_method_7_code 6 = .ok (.iushr, 1) := by decide +kernel
theorem d3_7 : decode prog_118_method_7_code 7 = .ok (.ireturn, 1) := by decide +kernel
def f_wf (p0 : Int32)  : Int32 := (((p0 + (63 : Int32)).toUInt32 >>> ((6 : Int32) &&& 31).toUInt32).toInt32)
theorem ef_3_f_wf (m : MethodId) (p0 : Int32) : entryFrame m #[(.int p0)] 1 = mkF m 0 #[.val (.int p0)] [] := by first | (simp [entryFrame, mkF, argsToLocals, Value.category]; done) | rfl
theorem pn_3 : plainFor (⟨"com/example/slotwright/slotwright/core/RankSet", "wordsFor", "(I)I"⟩ : MethodName) = true := plainFor_of_name (by first | (simp [plainName, overriddenIn]; done) | decide +kernel)
set_option maxRecDepth 65536 in
set_option maxHeartbeats 40000000 in
theorem rm_f_wf (l : Launch) (Z : State) (a0 : Array Value) (hw : ∀ d ∈ tables_1, d.before a0 Z = true) (ws : List Jvm.Cond) (p0 : Int32) (h0 : Heap)  :
    OMet l (⟨"com/example/slotwright/slotwright/core/RankSet", "wordsFor", "(I)I"⟩ : MethodName) prog_118_method_7_code 1 (some .int) ws ({ frames := 0, cells := 0, slots := 0, locals := 0 } : Room) #[(.int p0)] Z h0 (fun v h L => v = some (Value.int (f_wf p0)) ∧ L = [] ∧ h = h0) := by
  refine OMet.of pn_3 (fun m => ef_3_f_wf m p0) ?_
  intro p e s m below meth c s₁ hx hby hml hown hnm hret hlk hZ X0 e0
  refine Owes.go ?_ fun t₀ k₀ => XS.iloadN X0.here hx rfl (hb hby d3_0) rfl k₀
  show Owes _ _ _ _ (s₁.setTop (mkF m 1 #[.val (.int p0)] [(.int p0)]))
  refine Owes.go ?_ fun t₀ k₀ => XS.bipush X0.here hx rfl (hb hby d3_1) k₀
  show Owes _ _ _ _ (s₁.setTop (mkF m 3 #[.val (.int p0)] [(.int (63 : Int32)), (.int p0)]))
  refine Owes.go ?_ fun t₀ k₀ => XS.iadd X0.here hx rfl (hb hby d3_3) rfl k₀
  show Owes _ _ _ _ (s₁.setTop (mkF m 4 #[.val (.int p0)] [(.int (p0 + (63 : Int32)))]))
  refine Owes.go ?_ fun t₀ k₀ => XS.bipush X0.here hx rfl (hb hby d3_4) k₀
  show Owes _ _ _ _ (s₁.setTop (mkF m 6 #[.val (.int p0)] [(.int (6 : Int32)), (.int (p0 + (63 : Int32)))]))
  refine Owes.go ?_ fun t₀ k₀ => XS.iushr X0.here hx rfl (hb hby d3_6) rfl k₀
  show Owes _ _ _ _ (s₁.setTop (mkF m 7 #[.val (.int p0)] [(.int (((p0 + (63 : Int32)).toUInt32 >>> ((6 : Int32) &&& 31).toUInt32).toInt32))]))
  exact Owes.retI X0 hx hlk hret (hb hby d3_7) (by decide) (by decide) ⟨congrArg (fun z => some (Value.int z)) (by unfold f_wf; first | done | rfl), rfl, e0⟩
theorem d4_0 : decode jdk_29_method_65_code 0 = .ok (.iload_n 0, 1) := by decide +kernel
theorem d4_1 : decode jdk_29_method_65_code 1 = .ok (.iload_n 1, 1) := by decide +kernel
theorem d4_2 : decode jdk_29_method_65_code 2 = .ok (.if_icmp .lt 7, 3) := by decide +kernel
theorem d4_9 : decode jdk_29_method_65_code 9 = .ok (.iload_n 1, 1) := by decide +kernel
theorem d4_10 : decode jdk_29_method_65_code 10 = .ok (.ireturn, 1) := by decide +kernel
theorem d4_5 : decode jdk_29_method_65_code 5 = .ok (.iload_n 0, 1) := by decide +kernel
theorem d4_6 : decode jdk_29_method_65_code 6 = .ok (.goto 4, 3) := by decide +kernel
def f_max (p0 : Int32) (p1 : Int32)  : Int32 := (if p0 < p1 then p1 else p0)
theorem ef_4_f_max (m : MethodId) (p0 : Int32) (p1 : Int32) : entryFrame m #[(.int p0), (.int p1)] 2 = mkF m 0 #[.val (.int p0), .val (.int p1)] [] := by first | (simp [entryFrame, mkF, argsToLocals, Value.category]; done) | rfl
theorem pn_4 : plainFor (⟨"java/lang/Math", "max", "(II)I"⟩ : MethodName) = true := Jvm.Free.JP.mathPlain rfl (by decide +kernel)
set_option maxRecDepth 65536 in
set_option maxHeartbeats 40000000 in
theorem rm_f_max (l : Launch) (Z : State) (a0 : Array Value) (hw : ∀ d ∈ tables_1, d.before a0 Z = true) (ws : List Jvm.Cond) (p0 : Int32) (p1 : Int32) (h0 : Heap)  :
    OMet l (⟨"java/lang/Math", "max", "(II)I"⟩ : MethodName) jdk_29_method_65_code 2 (some .int) ws ({ frames := 0, cells := 0, slots := 0, locals := 0 } : Room) #[(.int p0), (.int p1)] Z h0 (fun v h L => v = some (Value.int (f_max p0 p1)) ∧ L = [] ∧ h = h0) := by
  refine OMet.of pn_4 (fun m => ef_4_f_max m p0 p1) ?_
  intro p e s m below meth c s₁ hx hby hml hown hnm hret hlk hZ X0 e0
  refine Owes.go ?_ fun t₀ k₀ => XS.iloadN X0.here hx rfl (hb hby d4_0) rfl k₀
  show Owes _ _ _ _ (s₁.setTop (mkF m 1 #[.val (.int p0), .val (.int p1)] [(.int p0)]))
  refine Owes.go ?_ fun t₀ k₀ => XS.iloadN X0.here hx rfl (hb hby d4_1) rfl k₀
  show Owes _ _ _ _ (s₁.setTop (mkF m 2 #[.val (.int p0), .val (.int p1)] [(.int p1), (.int p0)]))
  by_cases hc1 : p0 < p1
  · skip
    refine Owes.go ?_ fun t₀ k₀ => XS.icmpYes X0.here hx rfl (pc0 := 2) (pc' := 9) rfl (hb hby d4_2) rfl (tlt hc1).1 (by decide) (by decide) k₀
    show Owes _ _ _ _ (s₁.setTop (mkF m 9 #[.val (.int p0), .val (.int p1)] []))
    refine Owes.go ?_ fun t₀ k₀ => XS.iloadN X0.here hx rfl (hb hby d4_9) rfl k₀
    show Owes _ _ _ _ (s₁.setTop (mkF m 10 #[.val (.int p0), .val (.int p1)] [(.int p1)]))
    exact Owes.retI X0 hx hlk hret (hb hby d4_10) (by decide) (by decide) ⟨congrArg (fun z => some (Value.int z)) (by unfold f_max; rw [if_pos hc1]; first | done | rfl), rfl, e0⟩
  · skip
    refine Owes.go ?_ fun t₀ k₀ => XS.icmpNo X0.here hx rfl (hb hby d4_2) rfl (flt hc1).1 k₀
    show Owes _ _ _ _ (s₁.setTop (mkF m 5 #[.val (.int p0), .val (.int p1)] []))
    refine Owes.go ?_ fun t₀ k₀ => XS.iloadN X0.here hx rfl (hb hby d4_5) rfl k₀
    show Owes _ _ _ _ (s₁.setTop (mkF m 6 #[.val (.int p0), .val (.int p1)] [(.int p0)]))
    refine Owes.go ?_ fun t₀ k₀ => XS.goto X0.here hx rfl (pc0 := 6) (pc' := 10) rfl (hb hby d4_6) (by decide) (by decide) k₀
    show Owes _ _ _ _ (s₁.setTop (mkF m 10 #[.val (.int p0), .val (.int p1)] [(.int p0)]))
    exact Owes.retI X0 hx hlk hret (hb hby d4_10) (by decide) (by decide) ⟨congrArg (fun z => some (Value.int z)) (by unfold f_max; rw [if_neg hc1]; first | done | rfl), rfl, e0⟩
/-- the words that hold so many bits, level by level -/
def wsz (size : Nat) : Nat → Nat
  | 0 => size
  | k + 1 => (wsz size k + 63) / 64
def used (size : Nat) : Nat → Nat
  | 0 => 0
  | k + 1 => used size k + wsz size (k + 1)
theorem own_wf {x : Int32} {a : Nat} (hx : x.toInt = (a : Int)) (h : a < 2147483000) : (f_wf x).toInt = (((a + 63) / 64 : Nat) : Int) := by
  unfold f_wf
  have h1 := c_iadd x 63
  have r := rng32 (x + 63)
  rw [show (63 : Int32).toInt = 63 from rfl] at h1
  have e : (x + 63).toInt = ((a + 63 : Nat) : Int) := by
    generalize (x + 63).toInt = v at *
    omega
  exact own_sh6 e
theorem own_max1 {x : Int32} {a : Nat} (hx : x.toInt = (a : Int)) (h : 0 < a) : f_max x (1 : Int32) = x := by
  unfold f_max
  by_cases c : x < (1 : Int32)
  · rw [Int32.lt_iff_toInt_lt, hx, show (1 : Int32).toInt = 1 from rfl] at c; omega
  · rw [if_neg c]
theorem wsz_pos {size : Nat} (h : 0 < size) (k : Nat) : 0 < wsz size k := by
  induction k with
  | zero => exact h
  | succ k ih => show 0 < (wsz size k + 63) / 64; omega
theorem wsz_le {size : Nat} (h : size ≤ 1073741824) (k : Nat) : wsz size k ≤ 1073741824 := by
  induction k with
  | zero => exact h
  | succ k ih => show (wsz size k + 63) / 64 ≤ _; omega
theorem wsz_5 {size : Nat} (h : size ≤ 1073741824) : wsz size 5 ≤ 1 := by
  show ((((((size + 63) / 64) + 63) / 64 + 63) / 64 + 63) / 64 + 63) / 64 ≤ 1
  omega
theorem used_mono {size : Nat} {a b : Nat} (h : a ≤ b) : used size a ≤ used size b := by
  induction h with
  | refl => exact Nat.le_refl _
  | step _ ih => exact Nat.le_trans ih (Nat.le_add_right _ _)
theorem own_fits {size d : Nat} (h0 : 0 < size) (h1 : size ≤ 1073741824) (hd : 0 < d ∧ d ≤ 5) (hl : wsz size d ≤ 1) : Fits size d (fun k => wsz size (k + 1)) := by
  refine ⟨hd.1, by omega, ?_, fun k _ => ?_, ?_, fun k _ => ⟨wsz_pos h0 _, ?_⟩⟩
  · show size ≤ 64 * ((wsz size 0 + 63) / 64)
    show size ≤ 64 * ((size + 63) / 64)
    omega
  · show wsz size (k + 1) ≤ 64 * ((wsz size (k + 1) + 63) / 64)
    omega
  · show wsz size (d - 1 + 1) = 1
    have e : d - 1 + 1 = d := by omega
    rw [e]
    have := wsz_pos h0 d
    omega
  · show (wsz size k + 63) / 64 < _
    have := wsz_le h1 k
    omega
/-- the set while it is made: k of its d levels stand -/
def RB (Z : State) (h : Heap) (n0 : Nat) (r lv : Addr) (d k : Nat) (g : Nat → Addr) (size : Nat) (cA : ClassId) : Prop :=
  Exa Z h r "com/example/slotwright/slotwright/core/RankSet" ∧ Fld Z h r "com/example/slotwright/slotwright/core/RankSet" "levels" "[[J" (.ref lv) ∧ GC Z h lv (.array .long) d (fun i => if i < k then .ref (g i) else .null) cA ∧ n0 ≤ lv ∧ n0 ≤ h.size ∧ (∀ j, j < k → GA Z h (g j) .long (wsz size (j + 1)) (fun _ => .long 0) ∧ n0 ≤ g j) ∧ ∀ j i, j < k → i < k → g j = g i → j = i
theorem RB.ext {Z : State} {h h' : Heap} {n0 : Nat} {r lv : Addr} {d k : Nat} {g : Nat → Addr} {size : Nat} {cA : ClassId} (F : RB Z h n0 r lv d k g size cA) (E : Ext h h') : RB Z h' n0 r lv d k g size cA := by
  obtain ⟨a1, a2, a3, a4, a5, a6, a7⟩ := F
  exact ⟨a1.ext E, a2.ext E, a3.ext E, a4, Nat.le_trans a5 E.1, fun j hj => ⟨(a6 j hj).1.ext E, (a6 j hj).2⟩, a7⟩
theorem RB.more {Z : State} {h h' : Heap} {n0 : Nat} {r lv x : Addr} {d k : Nat} {g : Nat → Addr} {size : Nat} {cA : ClassId} {a0 : Array Value} (F : RB Z h n0 r lv d k g size cA) (wi : (Jvm.Cond.instantiable "com/example/slotwright/slotwright/core/RankSet" 1).before a0 Z = true) (hx : ∀ j, j < k → g j ≠ x) (hn : n0 ≤ x) (A : GA Z h x .long (wsz size (k + 1)) (fun _ => .long 0)) (W : Wr h h' lv k (.ref x)) : RB Z h' n0 r lv d (k + 1) (upd g k x) size cA := by
  obtain ⟨a1, a2, a3, a4, a5, a6, a7⟩ := F
  have nl : r ≠ lv := GA.ne_obj a1 wi a3.ga
  refine ⟨a1.wr W, a2.other W (Or.inl nl), (a3.set W).congr fun i hi => ?_, a4, by rw [W.size]; exact a5, fun j hj => ?_, fun j i hj hi q => ?_⟩
  · by_cases q : i = k
    · subst q; rw [upd_same, if_pos (by omega), upd_same]
    · rw [upd_ne _ _ q, upd_ne _ _ q]
      by_cases c : i < k
      · rw [if_pos c, if_pos (by omega)]
      · rw [if_neg c, if_neg (by omega)]
  · by_cases q : j = k
    · subst q; rw [upd_same]; exact ⟨A.other W (GA.ne A a3.ga (by decide)), hn⟩
    · rw [upd_ne _ _ q]
      have := a6 j (by omega)
      exact ⟨this.1.other W (GA.ne this.1 a3.ga (by decide)), this.2⟩
  · by_cases q1 : j = k
    · by_cases q2 : i = k
      · omega
      · rw [q1, upd_same, upd_ne _ _ q2] at q
        exact absurd q.symm (hx i (by omega))
    · by_cases q2 : i = k
      · rw [q2, upd_same, upd_ne _ _ q1] at q
        exact absurd q (hx j (by omega))
      · rw [upd_ne _ _ q1, upd_ne _ _ q2] at q
        exact a7 j i (by omega) (by omega) q
theorem RB.done {Z : State} {h : Heap} {n0 : Nat} {r lv : Addr} {d : Nat} {g : Nat → Addr} {size : Nat} {cA : ClassId} (F : RB Z h n0 r lv d d g size cA) : RS Z h n0 r lv d g (fun k => wsz size (k + 1)) (fun _ _ => 0) := by
  obtain ⟨a1, a2, a3, a4, a5, a6, a7⟩ := F
  exact ⟨a1, a2, a3.ga.congr fun i hi => if_pos hi, a6, a7⟩
theorem d1_0 : decode prog_118_method_1_code 0 = .ok (.aload_n 0, 1) := by decide +kernel
theorem d1_1 : decode prog_118_method_1_code 1 = .ok (.invokespecial 1, 3) := by decide +kernel
theorem d1_4 : decode prog_118_method_1_code 4 = .ok (.iconst 1, 1) := by decide +kernel
theorem d1_5 : decode prog_118_method_1_code 5 = .ok (.istore_n 2, 1) := by decide +kernel
theorem d1_6 : decode prog_118_method_1_code 6 = .ok (.iload_n 1, 1) := by decide +kernel
theorem d1_7 : decode prog_118_method_1_code 7 = .ok (.invokestatic 7, 3) := by decide +kernel
theorem d1_10 : decode prog_118_method_1_code 10 = .ok (.istore_n 3, 1) := by decide +kernel
theorem d1_27 : decode prog_118_method_1_code 27 = .ok (.aload_n 0, 1) := by decide +kernel
theorem d1_28 : decode prog_118_method_1_code 28 = .ok (.iload_n 2, 1) := by decide +kernel
theorem d1_29 : decode prog_118_method_1_code 29 = .ok (.anewarray 13, 3) := by decide +kernel
theorem d1_32 : decode prog_118_method_1_code 32 = .ok (.putfield 15, 3) := by decide +kernel
theorem d1_35 : decode prog_118_method_1_code 35 = .ok (.iload_n 1, 1) := by decide +kernel
theorem d1_36 : decode prog_118_method_1_code 36 = .ok (.istore_n 3, 1) := by decide +kernel
theorem d1_37 : decode prog_118_method_1_code 37 = .ok (.iconst 0, 1) := by decide +kernel
theorem d1_38 : decode prog_118_method_1_code 38 = .ok (.istore 4, 2) := by decide +kernel
theorem d1_40 : decode prog_118_method_1_code 40 = .ok (.iload 4, 2) := by decide +kernel
theorem d1_42 : decode prog_118_method_1_code 42 = .ok (.iload_n 2, 1) := by decide +kernel
theorem d1_43 : decode prog_118_method_1_code 43 = .ok (.if_icmp .ge 35, 3) := by decide +kernel
theorem d1_78 : decode prog_118_method_1_code 78 = .ok (.return_, 1) := by decide +kernel
theorem d1_46 : decode prog_118_method_1_code 46 = .ok (.aload_n 0, 1) := by decide +kernel
theorem d1_47 : decode prog_118_method_1_code 47 = .ok (.getfield 15, 3) := by decide +kernel
theorem d1_50 : decode prog_118_method_1_code 50 = .ok (.iload 4, 2) := by decide +kernel
theorem d1_52 : decode prog_118_method_1_code 52 = .ok (.iload_n 3, 1) := by decide +kernel
theorem d1_53 : decode prog_118_method_1_code 53 = .ok (.invokestatic 7, 3) := by decide +kernel
theorem d1_56 : decode prog_118_method_1_code 56 = .ok (.iconst 1, 1) := by decide +kernel
theorem d1_57 : decode prog_118_method_1_code 57 = .ok (.invokestatic 19, 3) := by decide +kernel
theorem pd_1 : parseMethodDescriptor "(II)I" = some ⟨[.int, .int], some .int⟩ := by decide +kernel
theorem d1_60 : decode prog_118_method_1_code 60 = .ok (.newarray .long, 2) := by decide +kernel
theorem d1_62 : decode prog_118_method_1_code 62 = .ok (.aastore, 1) := by decide +kernel
theorem d1_63 : decode prog_118_method_1_code 63 = .ok (.aload_n 0, 1) := by decide +kernel
theorem d1_64 : decode prog_118_method_1_code 64 = .ok (.getfield 15, 3) := by decide +kernel
theorem d1_67 : decode prog_118_method_1_code 67 = .ok (.iload 4, 2) := by decide +kernel
theorem d1_69 : decode prog_118_method_1_code 69 = .ok (.aaload, 1) := by decide +kernel
theorem d1_70 : decode prog_118_method_1_code 70 = .ok (.arraylength, 1) := by decide +kernel
theorem d1_71 : decode prog_118_method_1_code 71 = .ok (.istore_n 3, 1) := by decide +kernel
theorem d1_72 : decode prog_118_method_1_code 72 = .ok (.iinc 4 1, 3) := by decide +kernel
theorem d1_75 : decode prog_118_method_1_code 75 = .ok (.goto (-35), 3) := by decide +kernel
theorem d1_11 : decode prog_118_method_1_code 11 = .ok (.iload_n 3, 1) := by decide +kernel
theorem d1_12 : decode prog_118_method_1_code 12 = .ok (.iconst 1, 1) := by decide +kernel
theorem d1_13 : decode prog_118_method_1_code 13 = .ok (.if_icmp .le 14, 3) := by decide +kernel
theorem d1_16 : decode prog_118_method_1_code 16 = .ok (.iinc 2 1, 3) := by decide +kernel
theorem d1_19 : decode prog_118_method_1_code 19 = .ok (.iload_n 3, 1) := by decide +kernel
theorem d1_20 : decode prog_118_method_1_code 20 = .ok (.invokestatic 7, 3) := by decide +kernel
theorem d1_23 : decode prog_118_method_1_code 23 = .ok (.istore_n 3, 1) := by decide +kernel
theorem d1_24 : decode prog_118_method_1_code 24 = .ok (.goto (-13), 3) := by decide +kernel
theorem ef_1 (m : MethodId) (r0 : Addr) (p1 : Int32) : entryFrame m #[(.ref r0), (.int p1)] 5 = mkF m 0 #[.val (.ref r0), .val (.int p1), .unset, .unset, .unset] [] := by first | (simp [entryFrame, mkF, argsToLocals, Value.category]; done) | rfl
theorem pn_1 : plainFor (⟨"com/example/slotwright/slotwright/core/RankSet", "<init>", "(I)V"⟩ : MethodName) = true := plainFor_of_name (by first | (simp [plainName, overriddenIn]; done) | decide +kernel)
set_option maxRecDepth 65536 in
set_option maxHeartbeats 40000000 in
theorem rm_init (l : Launch) (Z : State) (a0 : Array Value) (hw : ∀ d ∈ tables_1, d.before a0 Z = true) (ws : List Jvm.Cond) (r0 : Addr) (p1 : Int32) (h0 : Heap) (n0 : Nat) (Z0 : n0 ≤ h0.size) (g0 : n0 ≤ r0) (E00 : Exa Z h0 r0 "com/example/slotwright/slotwright/core/RankSet") (F00 : Fld Z h0 r0 "com/example/slotwright/slotwright/core/RankSet" "levels" "[[J" .null) (size : Nat) (hp : p1.toInt = (size : Int)) (hs0 : 0 < size) (hs1 : size ≤ 1073741824) (hSL : 5 + used size 5 ≤ 140) :
    OMet l (⟨"com/example/slotwright/slotwright/core/RankSet", "<init>", "(I)V"⟩ : MethodName) prog_118_method_1_code 5 none ws ({ frames := 1, cells := 6, slots := 140, locals := 15 } : Room) #[(.ref r0), (.int p1)] Z h0 (fun v h L => v = none ∧ Fr n0 L ∧ ∃ (lv : Addr) (d : Nat) (g : Nat → Addr), RS Z h n0 r0 lv d g (fun k => wsz size (k + 1)) (fun _ _ => 0) ∧ Fits size d (fun k => wsz size (k + 1))) := by
  refine OMet.of pn_1 (fun m => ef_1 m r0 p1) ?_
  intro p e s m below meth c s₁ hx hby hml hown hnm hret hlk hZ X0 e0
  have wi := (hw _ (List.mem_of_getElem? (i := 1) rfl))
  refine Owes.go ?_ fun t₀ k₀ => XS.aloadN X0.here hx rfl (hb hby d1_0) rfl rfl k₀
  show Owes _ _ _ _ (s₁.setTop (mkF m 1 #[.val (.ref r0), .val (.int p1), .unset, .unset, .unset] [(.ref r0)]))
  refine Owes.initO X0 hx hZ hown (hw _ (List.mem_of_getElem? (i := 6) rfl)) (hw _ (List.mem_of_getElem? (i := 7) rfl)) (hw _ (List.mem_of_getElem? (i := 8) rfl)) e0 (by rw [hml]; rfl) (hb hby d1_1) (by decide) (Nat.le_of_ble_eq_true rfl) ?_
  intro T5 X5 e5
  show Owes _ _ _ _ (T5.setTop (mkF m 4 #[.val (.ref r0), .val (.int p1), .unset, .unset, .unset] []))
  refine Owes.go ?_ fun t₀ k₀ => XS.iconst X5.here hx rfl (hb hby d1_4) k₀
  show Owes _ _ _ _ (T5.setTop (mkF m 5 #[.val (.ref r0), .val (.int p1), .unset, .unset, .unset] [(.int (1 : Int32))]))
  refine Owes.go ?_ fun t₀ k₀ => XS.istoreN X5.here hx rfl (hb hby d1_5) rfl (l' := #[.val (.ref r0), .val (.int p1), .val (.int (1 : Int32)), .unset, .unset]) rfl k₀
  show Owes _ _ _ _ (T5.setTop (mkF m 6 #[.val (.ref r0), .val (.int p1), .val (.int (1 : Int32)), .unset, .unset] []))
  refine Owes.go ?_ fun t₀ k₀ => XS.iloadN X5.here hx rfl (hb hby d1_6) rfl k₀
  show Owes _ _ _ _ (T5.setTop (mkF m 7 #[.val (.ref r0), .val (.int p1), .val (.int (1 : Int32)), .unset, .unset] [(.int p1)]))
  refine Owes.callS X5 hx hZ hown (hw _ (List.mem_of_getElem? (i := 9) rfl)) (hw _ (List.mem_of_getElem? (i := 10) rfl)) (hw _ (List.mem_of_getElem? (i := 2) rfl)) (hw _ (List.mem_of_getElem? (i := 11) rfl)) (by decide) (argsL := [(.int p1)]) (rest := []) (rm_f_wf l Z a0 hw [] p1 h0 ) e5 (by rw [hml]; rfl) pd_0 rfl rfl (hb hby d1_7) (by decide) (Nat.le_of_ble_eq_true rfl) (by decide) (by decide) ?_
  rintro T6 _ _ X6 ⟨rfl, rfl, e6⟩
  rw [List.append_nil] at X6
  show Owes _ _ _ _ (T6.setTop (mkF m 10 #[.val (.ref r0), .val (.int p1), .val (.int (1 : Int32)), .unset, .unset] [(.int (f_wf p1))]))
  refine Owes.go ?_ fun t₀ k₀ => XS.istoreN X6.here hx rfl (hb hby d1_10) rfl (l' := #[.val (.ref r0), .val (.int p1), .val (.int (1 : Int32)), .val (.int (f_wf p1)), .unset]) rfl k₀
  show Owes _ _ _ _ (T6.setTop (mkF m 11 #[.val (.ref r0), .val (.int p1), .val (.int (1 : Int32)), .val (.int (f_wf p1)), .unset] []))
  have l1 : ∀ (r k : Nat), k + r = 5 → 0 < k → ∀ (kI wI : Int32) (T : State), Stand p l e ({ frames := 1, cells := 6, slots := 140, locals := 15 } : Room) s m #[(.ref r0), (.int p1)] below meth c T [] 0 0 → T.heap = h0 → kI.toInt = (k : Int) → wI.toInt = (wsz size k : Int) → Owes p e below (EndN s (fun v h L => v = none ∧ Fr n0 L ∧ ∃ (lv : Addr) (d : Nat) (g : Nat → Addr), RS Z h n0 r0 lv d g (fun k => wsz size (k + 1)) (fun _ _ => 0) ∧ Fits size d (fun k => wsz size (k + 1))) ({ frames := 1, cells := 6, slots := 140, locals := 15 } : Room).cells ({ frames := 1, cells := 6, slots := 140, locals := 15 } : Room).slots) (T.setTop (mkF m 11 #[.val (.ref r0), .val (.int p1), .val (.int kI), .val (.int wI), .unset] [])) := by
    have l2 : ∀ (d : Nat), 0 < d → d ≤ 5 → wsz size d ≤ 1 → ∀ (dI wI : Int32) (T : State), Stand p l e ({ frames := 1, cells := 6, slots := 140, locals := 15 } : Room) s m #[(.ref r0), (.int p1)] below meth c T [] 0 0 → T.heap = h0 → dI.toInt = (d : Int) → Owes p e below (EndN s (fun v h L => v = none ∧ Fr n0 L ∧ ∃ (lv : Addr) (d : Nat) (g : Nat → Addr), RS Z h n0 r0 lv d g (fun k => wsz size (k + 1)) (fun _ _ => 0) ∧ Fits size d (fun k => wsz size (k + 1))) ({ frames := 1, cells := 6, slots := 140, locals := 15 } : Room).cells ({ frames := 1, cells := 6, slots := 140, locals := 15 } : Room).slots) (T.setTop (mkF m 27 #[.val (.ref r0), .val (.int p1), .val (.int dI), .val (.int wI), .unset] [])) := by
      intro d hd0 hd5 hdl dI wI T X eT hdI
      refine Owes.go ?_ fun t₀ k₀ => XS.aloadN X.here hx rfl (hb hby d1_27) rfl rfl k₀
      show Owes _ _ _ _ (T.setTop (mkF m 28 #[.val (.ref r0), .val (.int p1), .val (.int dI), .val (.int wI), .unset] [(.ref r0)]))
      refine Owes.go ?_ fun t₀ k₀ => XS.iloadN X.here hx rfl (hb hby d1_28) rfl k₀
      show Owes _ _ _ _ (T.setTop (mkF m 29 #[.val (.ref r0), .val (.int p1), .val (.int dI), .val (.int wI), .unset] [(.int dI), (.ref r0)]))
      refine Owes.newArrA X hx hZ hown (ty := .long) (by decide) (hw _ (List.mem_of_getElem? (i := 12) rfl)) (hw _ (List.mem_of_getElem? (i := 13) rfl)) eT hdI (by omega) (by decide) (show 0 + d ≤ 140 by omega) (hb hby d1_29) ?_
      intro T7 h7 cA X7 e7 E7 A7 OV
      obtain ⟨lv, glv⟩ : ∃ z, z = h0.size := ⟨_, rfl⟩
      rw [← glv] at A7 ⊢
      show Owes _ _ _ _ (T7.setTop (mkF m 32 #[.val (.ref r0), .val (.int p1), .val (.int dI), .val (.int wI), .unset] [(.ref lv), (.ref r0)]))
      refine Owes.putF X7 hx hZ hown (host := "") (Or.inl (hw _ (List.mem_of_getElem? (i := 14) rfl))) Via.refl e7 (F00.ext E7) (E00.ext E7) (Or.inr ⟨(hw _ (List.mem_of_getElem? (i := 15) rfl)), rfl, hnm⟩) wi (ty := .array (.array .long)) (by decide) rfl rfl (hb hby d1_32) ?_
      intro T8 h8 X8 e8 W8
      have lv_r : r0 ≠ lv := by rw [glv]; exact Nat.ne_of_lt E00.lt
      have GL : GC Z h8 lv (.array .long) d (fun _ => .null) cA := (GC.new A7 hdI).other W8 (Ne.symm lv_r)
      have hbn : n0 ≤ h8.size := by rw [W8.size]; exact Nat.le_trans Z0 E7.1
      have FB0 : RB Z h8 n0 r0 lv d 0 (fun _ => 0) size cA := ⟨(E00.ext E7).wr W8, (F00.ext E7).same W8, GL.congr (fun i hi => (if_neg (Nat.not_lt_zero _)).symm), by rw [glv]; exact Z0, hbn, fun j hj => absurd hj (Nat.not_lt_zero _), fun j i hj => absurd hj (Nat.not_lt_zero _)⟩
      have N8 := Fr.snoc X8 (Fr.nil n0) g0
      show Owes _ _ _ _ (T8.setTop (mkF m 35 #[.val (.ref r0), .val (.int p1), .val (.int dI), .val (.int wI), .unset] []))
      refine Owes.go ?_ fun t₀ k₀ => XS.iloadN X8.here hx rfl (hb hby d1_35) rfl k₀
      show Owes _ _ _ _ (T8.setTop (mkF m 36 #[.val (.ref r0), .val (.int p1), .val (.int dI), .val (.int wI), .unset] [(.int p1)]))
      refine Owes.go ?_ fun t₀ k₀ => XS.istoreN X8.here hx rfl (hb hby d1_36) rfl (l' := #[.val (.ref r0), .val (.int p1), .val (.int dI), .val (.int p1), .unset]) rfl k₀
      show Owes _ _ _ _ (T8.setTop (mkF m 37 #[.val (.ref r0), .val (.int p1), .val (.int dI), .val (.int p1), .unset] []))
      refine Owes.go ?_ fun t₀ k₀ => XS.iconst X8.here hx rfl (hb hby d1_37) k₀
      show Owes _ _ _ _ (T8.setTop (mkF m 38 #[.val (.ref r0), .val (.int p1), .val (.int dI), .val (.int p1), .unset] [(.int (0 : Int32))]))
      refine Owes.go ?_ fun t₀ k₀ => XS.istore X8.here hx rfl (hb hby d1_38) rfl (l' := #[.val (.ref r0), .val (.int p1), .val (.int dI), .val (.int p1), .val (.int (0 : Int32))]) rfl k₀
      show Owes _ _ _ _ (T8.setTop (mkF m 40 #[.val (.ref r0), .val (.int p1), .val (.int dI), .val (.int p1), .val (.int (0 : Int32))] []))
      have l3 : ∀ (r k : Nat), k + r = d → ∀ (kI bI : Int32) (T : State) (locs : List Loc) (h : Heap) (g : Nat → Addr), Stand p l e ({ frames := 1, cells := 6, slots := 140, locals := 15 } : Room) s m #[(.ref r0), (.int p1)] below meth c T locs (1 + k) (d + used size k) → T.heap = h → Fr n0 locs → RB Z h n0 r0 lv d k g size cA → kI.toInt = (k : Int) → bI.toInt = (wsz size k : Int) → Owes p e below (EndN s (fun v h L => v = none ∧ Fr n0 L ∧ ∃ (lv : Addr) (d : Nat) (g : Nat → Addr), RS Z h n0 r0 lv d g (fun k => wsz size (k + 1)) (fun _ _ => 0) ∧ Fits size d (fun k => wsz size (k + 1))) ({ frames := 1, cells := 6, slots := 140, locals := 15 } : Room).cells ({ frames := 1, cells := 6, slots := 140, locals := 15 } : Room).slots) (T.setTop (mkF m 40 #[.val (.ref r0), .val (.int p1), .val (.int dI), .val (.int bI), .val (.int kI)] [])) := by
        intro r
        induction r with
        | zero =>
          intro k hk0 kI bI T locs h g X eT N FB hkI hbI
          have hkd : k = d := by omega
          subst hkd
          refine Owes.go ?_ fun t₀ k₀ => XS.iload X.here hx rfl (hb hby d1_40) rfl k₀
          show Owes _ _ _ _ (T.setTop (mkF m 42 #[.val (.ref r0), .val (.int p1), .val (.int dI), .val (.int bI), .val (.int kI)] [(.int kI)]))
          refine Owes.go ?_ fun t₀ k₀ => XS.iloadN X.here hx rfl (hb hby d1_42) rfl k₀
          show Owes _ _ _ _ (T.setTop (mkF m 43 #[.val (.ref r0), .val (.int p1), .val (.int dI), .val (.int bI), .val (.int kI)] [(.int dI), (.int kI)]))
          refine Owes.go ?_ fun t₀ k₀ => XS.icmpYes X.here hx rfl (pc0 := 43) (pc' := 78) rfl (hb hby d1_43) rfl (flt (own_nlti hkI hdI (by omega))).2.1 (by decide) (by decide) k₀
          show Owes _ _ _ _ (T.setTop (mkF m 78 #[.val (.ref r0), .val (.int p1), .val (.int dI), .val (.int bI), .val (.int kI)] []))
          exact Owes.retV X hx hlk hret (hb hby d1_78) (show 1 + k ≤ 6 by omega) (show k + used size k ≤ 140 by have := used_mono (size := size) hd5; omega) (by rw [eT]; exact ⟨rfl, N, lv, k, g, FB.done, own_fits hs0 hs1 ⟨hd0, hd5⟩ hdl⟩)
        | succ r ih =>
          intro k hk0 kI bI T locs h g X eT N FB hkI hbI
          have hk : k < d := by omega
          have hws := wsz_le hs1 k
          have hw1 : (f_wf bI).toInt = (wsz size (k + 1) : Int) := own_wf hbI (by omega)
          have hpos := wsz_pos hs0 (k + 1)
          have hmx : f_max (f_wf bI) (1 : Int32) = f_wf bI := own_max1 hw1 hpos
          have hus : used size (k + 1) ≤ used size 5 := used_mono (by omega)
          have hus' : used size (k + 1) = used size k + wsz size (k + 1) := rfl
          refine Owes.go ?_ fun t₀ k₀ => XS.iload X.here hx rfl (hb hby d1_40) rfl k₀
          show Owes _ _ _ _ (T.setTop (mkF m 42 #[.val (.ref r0), .val (.int p1), .val (.int dI), .val (.int bI), .val (.int kI)] [(.int kI)]))
          refine Owes.go ?_ fun t₀ k₀ => XS.iloadN X.here hx rfl (hb hby d1_42) rfl k₀
          show Owes _ _ _ _ (T.setTop (mkF m 43 #[.val (.ref r0), .val (.int p1), .val (.int dI), .val (.int bI), .val (.int kI)] [(.int dI), (.int kI)]))
          refine Owes.go ?_ fun t₀ k₀ => XS.icmpNo X.here hx rfl (hb hby d1_43) rfl (tlt (own_lti hkI hdI hk)).2.1 k₀
          show Owes _ _ _ _ (T.setTop (mkF m 46 #[.val (.ref r0), .val (.int p1), .val (.int dI), .val (.int bI), .val (.int kI)] []))
          refine Owes.go ?_ fun t₀ k₀ => XS.aloadN X.here hx rfl (hb hby d1_46) rfl rfl k₀
          show Owes _ _ _ _ (T.setTop (mkF m 47 #[.val (.ref r0), .val (.int p1), .val (.int dI), .val (.int bI), .val (.int kI)] [(.ref r0)]))
          obtain ⟨T9, X9, e9, st9⟩ := getF X hx hZ hown (host := "") (Or.inl (hw _ (List.mem_of_getElem? (i := 14) rfl))) Via.refl eT FB.2.1 (g := (mkF m 47 #[.val (.ref r0), .val (.int p1), .val (.int dI), .val (.int bI), .val (.int kI)] [(.ref r0)])) rfl rfl (hb hby d1_47)
          refine Owes.go ?_ st9
          show Owes _ _ _ _ (T9.setTop (mkF m 50 #[.val (.ref r0), .val (.int p1), .val (.int dI), .val (.int bI), .val (.int kI)] [(.ref lv)]))
          refine Owes.go ?_ fun t₀ k₀ => XS.iload X9.here hx rfl (hb hby d1_50) rfl k₀
          show Owes _ _ _ _ (T9.setTop (mkF m 52 #[.val (.ref r0), .val (.int p1), .val (.int dI), .val (.int bI), .val (.int kI)] [(.int kI), (.ref lv)]))
          refine Owes.go ?_ fun t₀ k₀ => XS.iloadN X9.here hx rfl (hb hby d1_52) rfl k₀
          show Owes _ _ _ _ (T9.setTop (mkF m 53 #[.val (.ref r0), .val (.int p1), .val (.int dI), .val (.int bI), .val (.int kI)] [(.int bI), (.int kI), (.ref lv)]))
          refine Owes.callS X9 hx hZ hown (hw _ (List.mem_of_getElem? (i := 9) rfl)) (hw _ (List.mem_of_getElem? (i := 10) rfl)) (hw _ (List.mem_of_getElem? (i := 2) rfl)) (hw _ (List.mem_of_getElem? (i := 11) rfl)) (by decide) (argsL := [(.int bI)]) (rest := [(.int kI), (.ref lv)]) (rm_f_wf l Z a0 hw [] bI h ) e9 (by rw [hml]; rfl) pd_0 rfl rfl (hb hby d1_53) (by decide) (Nat.le_of_ble_eq_true rfl) (show 1 + k ≤ 6 by omega) (show d + used size k ≤ 140 by omega) ?_
          rintro T10 _ _ X10 ⟨rfl, rfl, e10⟩
          rw [List.append_nil] at X10
          show Owes _ _ _ _ (T10.setTop (mkF m 56 #[.val (.ref r0), .val (.int p1), .val (.int dI), .val (.int bI), .val (.int kI)] [(.int (f_wf bI)), (.int kI), (.ref lv)]))
          refine Owes.go ?_ fun t₀ k₀ => XS.iconst X10.here hx rfl (hb hby d1_56) k₀
          show Owes _ _ _ _ (T10.setTop (mkF m 57 #[.val (.ref r0), .val (.int p1), .val (.int dI), .val (.int bI), .val (.int kI)] [(.int (1 : Int32)), (.int (f_wf bI)), (.int kI), (.ref lv)]))
          refine Owes.callS X10 hx hZ hown (hw _ (List.mem_of_getElem? (i := 16) rfl)) (hw _ (List.mem_of_getElem? (i := 17) rfl)) (hw _ (List.mem_of_getElem? (i := 18) rfl)) (hw _ (List.mem_of_getElem? (i := 19) rfl)) (by decide) (argsL := [(.int (f_wf bI)), (.int (1 : Int32))]) (rest := [(.int kI), (.ref lv)]) (rm_f_max l Z a0 hw [] (f_wf bI) (1 : Int32) h ) e10 (by rw [hml]; rfl) pd_1 rfl rfl (hb hby d1_57) (by decide) (Nat.le_of_ble_eq_true rfl) (show 1 + k ≤ 6 by omega) (show d + used size k ≤ 140 by omega) ?_
          rintro T11 _ _ X11 ⟨rfl, rfl, e11⟩
          rw [List.append_nil] at X11
          show Owes _ _ _ _ (T11.setTop (mkF m 60 #[.val (.ref r0), .val (.int p1), .val (.int dI), .val (.int bI), .val (.int kI)] [(.int (f_max (f_wf bI) (1 : Int32))), (.int kI), (.ref lv)]))
          rw [hmx]
          refine Owes.newArr X11 hx hZ (aty := .long) (hw _ (List.mem_of_getElem? (i := 20) rfl)) e11 hw1 (by have := wsz_le hs1 (k + 1); omega) (show 1 + k + 1 ≤ 6 by omega) (show d + used size k + wsz size (k + 1) ≤ 140 by omega) (ad := "[J") (by decide) (hb hby d1_60) ?_
          intro T12 h12 X12 e12 E12 A12 EX12
          have FB1 := FB.ext E12
          obtain ⟨x, gx⟩ : ∃ z, z = h.size := ⟨_, rfl⟩
          rw [← gx] at A12 EX12 ⊢
          have hxn : n0 ≤ x := by rw [gx]; exact FB.2.2.2.2.1
          have hxg : ∀ j, j < k → g j ≠ x := fun j hj => by rw [gx]; exact Nat.ne_of_lt (FB.2.2.2.2.2.1 j hj).1.lt
          show Owes _ _ _ _ (T12.setTop (mkF m 62 #[.val (.ref r0), .val (.int p1), .val (.int dI), .val (.int bI), .val (.int kI)] [(.ref x), (.int kI), (.ref lv)]))
          refine Owes.sR X12 hx hZ e12 FB1.2.2.1.ga rfl hkI hk (FB1.2.2.1.sto OV (Ins.self EX12)) (hb hby d1_62) ?_
          intro T13 h13 X13 e13 W13 _
          have FB2 := FB1.more wi hxg hxn A12 W13
          have N13 := Fr.snoc X13 N FB.2.2.2.1
          show Owes _ _ _ _ (T13.setTop (mkF m 63 #[.val (.ref r0), .val (.int p1), .val (.int dI), .val (.int bI), .val (.int kI)] []))
          refine Owes.go ?_ fun t₀ k₀ => XS.aloadN X13.here hx rfl (hb hby d1_63) rfl rfl k₀
          show Owes _ _ _ _ (T13.setTop (mkF m 64 #[.val (.ref r0), .val (.int p1), .val (.int dI), .val (.int bI), .val (.int kI)] [(.ref r0)]))
          obtain ⟨T14, X14, e14, st14⟩ := getF X13 hx hZ hown (host := "") (Or.inl (hw _ (List.mem_of_getElem? (i := 14) rfl))) Via.refl e13 FB2.2.1 (g := (mkF m 64 #[.val (.ref r0), .val (.int p1), .val (.int dI), .val (.int bI), .val (.int kI)] [(.ref r0)])) rfl rfl (hb hby d1_64)
          refine Owes.go ?_ st14
          show Owes _ _ _ _ (T14.setTop (mkF m 67 #[.val (.ref r0), .val (.int p1), .val (.int dI), .val (.int bI), .val (.int kI)] [(.ref lv)]))
          refine Owes.go ?_ fun t₀ k₀ => XS.iload X14.here hx rfl (hb hby d1_67) rfl k₀
          show Owes _ _ _ _ (T14.setTop (mkF m 69 #[.val (.ref r0), .val (.int p1), .val (.int dI), .val (.int bI), .val (.int kI)] [(.int kI), (.ref lv)]))
          refine Owes.gR X14 hx hZ e14 FB2.2.2.1.ga rfl hkI hk (v := .ref x) (by rw [if_pos (by omega), upd_same]) (hb hby d1_69) ?_
          show Owes _ _ _ _ (T14.setTop (mkF m 70 #[.val (.ref r0), .val (.int p1), .val (.int dI), .val (.int bI), .val (.int kI)] [(.ref x)]))
          have AX := (FB2.2.2.2.2.2.1 k (by omega)).1
          rw [upd_same] at AX
          refine Owes.glen X14 hx hZ e14 AX hw1 (hb hby d1_70) ?_
          show Owes _ _ _ _ (T14.setTop (mkF m 71 #[.val (.ref r0), .val (.int p1), .val (.int dI), .val (.int bI), .val (.int kI)] [(.int (f_wf bI))]))
          refine Owes.go ?_ fun t₀ k₀ => XS.istoreN X14.here hx rfl (hb hby d1_71) rfl (l' := #[.val (.ref r0), .val (.int p1), .val (.int dI), .val (.int (f_wf bI)), .val (.int kI)]) rfl k₀
          show Owes _ _ _ _ (T14.setTop (mkF m 72 #[.val (.ref r0), .val (.int p1), .val (.int dI), .val (.int (f_wf bI)), .val (.int kI)] []))
          refine Owes.go ?_ fun t₀ k₀ => XS.iinc X14.here hx rfl (hb hby d1_72) rfl (l' := #[.val (.ref r0), .val (.int p1), .val (.int dI), .val (.int (f_wf bI)), .val (.int (kI + (1 : Int32)))]) rfl k₀
          show Owes _ _ _ _ (T14.setTop (mkF m 75 #[.val (.ref r0), .val (.int p1), .val (.int dI), .val (.int (f_wf bI)), .val (.int (kI + (1 : Int32)))] []))
          refine Owes.go ?_ fun t₀ k₀ => XS.goto X14.here hx rfl (pc0 := 75) (pc' := 40) rfl (hb hby d1_75) (by decide) (by decide) k₀
          show Owes _ _ _ _ (T14.setTop (mkF m 40 #[.val (.ref r0), .val (.int p1), .val (.int dI), .val (.int (f_wf bI)), .val (.int (kI + (1 : Int32)))] []))
          exact ih (k + 1) (by omega) _ _ _ _ _ _ (own_st X14 (show 1 + k + 1 = 1 + (k + 1) by omega) (show d + used size k + wsz size (k + 1) = d + used size (k + 1) by rw [hus']; omega)) e14 N13 FB2 (own_inc hkI (by omega)) hw1
      exact l3 d 0 (by omega) _ _ _ _ _ _ (own_st X8 (show 0 + 1 = 1 + 0 by omega) (show 0 + d = d + 0 by omega)) e8 N8 FB0 rfl hp
    intro r
    induction r with
    | zero =>
      intro k hk0 hkp kI wI T X eT hkI hwI
      have hk5 : k = 5 := by omega
      have h5 : wsz size k ≤ 1 := by rw [hk5]; exact wsz_5 hs1
      refine Owes.go ?_ fun t₀ k₀ => XS.iloadN X.here hx rfl (hb hby d1_11) rfl k₀
      show Owes _ _ _ _ (T.setTop (mkF m 12 #[.val (.ref r0), .val (.int p1), .val (.int kI), .val (.int wI), .unset] [(.int wI)]))
      refine Owes.go ?_ fun t₀ k₀ => XS.iconst X.here hx rfl (hb hby d1_12) k₀
      show Owes _ _ _ _ (T.setTop (mkF m 13 #[.val (.ref r0), .val (.int p1), .val (.int kI), .val (.int wI), .unset] [(.int (1 : Int32)), (.int wI)]))
      refine Owes.go ?_ fun t₀ k₀ => XS.icmpYes X.here hx rfl (pc0 := 13) (pc' := 27) rfl (hb hby d1_13) rfl (flt (own_nlti (a := 1) rfl hwI (by omega))).2.2.2 (by decide) (by decide) k₀
      show Owes _ _ _ _ (T.setTop (mkF m 27 #[.val (.ref r0), .val (.int p1), .val (.int kI), .val (.int wI), .unset] []))
      exact l2 k hkp (by omega) h5 _ _ _ X eT hkI
    | succ r ih =>
      intro k hk0 hkp kI wI T X eT hkI hwI
      by_cases h5 : wsz size k ≤ 1
      · skip
        refine Owes.go ?_ fun t₀ k₀ => XS.iloadN X.here hx rfl (hb hby d1_11) rfl k₀
        show Owes _ _ _ _ (T.setTop (mkF m 12 #[.val (.ref r0), .val (.int p1), .val (.int kI), .val (.int wI), .unset] [(.int wI)]))
        refine Owes.go ?_ fun t₀ k₀ => XS.iconst X.here hx rfl (hb hby d1_12) k₀
        show Owes _ _ _ _ (T.setTop (mkF m 13 #[.val (.ref r0), .val (.int p1), .val (.int kI), .val (.int wI), .unset] [(.int (1 : Int32)), (.int wI)]))
        refine Owes.go ?_ fun t₀ k₀ => XS.icmpYes X.here hx rfl (pc0 := 13) (pc' := 27) rfl (hb hby d1_13) rfl (flt (own_nlti (a := 1) rfl hwI (by omega))).2.2.2 (by decide) (by decide) k₀
        show Owes _ _ _ _ (T.setTop (mkF m 27 #[.val (.ref r0), .val (.int p1), .val (.int kI), .val (.int wI), .unset] []))
        exact l2 k hkp (by omega) h5 _ _ _ X eT hkI
      · skip
        refine Owes.go ?_ fun t₀ k₀ => XS.iloadN X.here hx rfl (hb hby d1_11) rfl k₀
        show Owes _ _ _ _ (T.setTop (mkF m 12 #[.val (.ref r0), .val (.int p1), .val (.int kI), .val (.int wI), .unset] [(.int wI)]))
        refine Owes.go ?_ fun t₀ k₀ => XS.iconst X.here hx rfl (hb hby d1_12) k₀
        show Owes _ _ _ _ (T.setTop (mkF m 13 #[.val (.ref r0), .val (.int p1), .val (.int kI), .val (.int wI), .unset] [(.int (1 : Int32)), (.int wI)]))
        refine Owes.go ?_ fun t₀ k₀ => XS.icmpNo X.here hx rfl (hb hby d1_13) rfl (tlt (own_lti (a := 1) rfl hwI (by omega))).2.2.2 k₀
        show Owes _ _ _ _ (T.setTop (mkF m 16 #[.val (.ref r0), .val (.int p1), .val (.int kI), .val (.int wI), .unset] []))
        refine Owes.go ?_ fun t₀ k₀ => XS.iinc X.here hx rfl (hb hby d1_16) rfl (l' := #[.val (.ref r0), .val (.int p1), .val (.int (kI + (1 : Int32))), .val (.int wI), .unset]) rfl k₀
        show Owes _ _ _ _ (T.setTop (mkF m 19 #[.val (.ref r0), .val (.int p1), .val (.int (kI + (1 : Int32))), .val (.int wI), .unset] []))
        refine Owes.go ?_ fun t₀ k₀ => XS.iloadN X.here hx rfl (hb hby d1_19) rfl k₀
        show Owes _ _ _ _ (T.setTop (mkF m 20 #[.val (.ref r0), .val (.int p1), .val (.int (kI + (1 : Int32))), .val (.int wI), .unset] [(.int wI)]))
        refine Owes.callS X hx hZ hown (hw _ (List.mem_of_getElem? (i := 9) rfl)) (hw _ (List.mem_of_getElem? (i := 10) rfl)) (hw _ (List.mem_of_getElem? (i := 2) rfl)) (hw _ (List.mem_of_getElem? (i := 11) rfl)) (by decide) (argsL := [(.int wI)]) (rest := []) (rm_f_wf l Z a0 hw [] wI h0 ) eT (by rw [hml]; rfl) pd_0 rfl rfl (hb hby d1_20) (by decide) (Nat.le_of_ble_eq_true rfl) (by decide) (by decide) ?_
        rintro T15 _ _ X15 ⟨rfl, rfl, e15⟩
        rw [List.append_nil] at X15
        show Owes _ _ _ _ (T15.setTop (mkF m 23 #[.val (.ref r0), .val (.int p1), .val (.int (kI + (1 : Int32))), .val (.int wI), .unset] [(.int (f_wf wI))]))
        refine Owes.go ?_ fun t₀ k₀ => XS.istoreN X15.here hx rfl (hb hby d1_23) rfl (l' := #[.val (.ref r0), .val (.int p1), .val (.int (kI + (1 : Int32))), .val (.int (f_wf wI)), .unset]) rfl k₀
        show Owes _ _ _ _ (T15.setTop (mkF m 24 #[.val (.ref r0), .val (.int p1), .val (.int (kI + (1 : Int32))), .val (.int (f_wf wI)), .unset] []))
        refine Owes.go ?_ fun t₀ k₀ => XS.goto X15.here hx rfl (pc0 := 24) (pc' := 11) rfl (hb hby d1_24) (by decide) (by decide) k₀
        show Owes _ _ _ _ (T15.setTop (mkF m 11 #[.val (.ref r0), .val (.int p1), .val (.int (kI + (1 : Int32))), .val (.int (f_wf wI)), .unset] []))
        exact ih (k + 1) (by omega) (by omega) _ _ _ X15 e15 (own_inc hkI (by omega)) (own_wf hwI (by have := wsz_le hs1 k; omega))
  exact l1 4 1 (by omega) (by omega) _ _ _ X6 e6 rfl (own_wf hp (show size < 2147483000 by omega))
theorem d5_0 : decode prog_118_method_2_code 0 = .ok (.iload_n 1, 1) := by decide +kernel
theorem d5_1 : decode prog_118_method_2_code 1 = .ok (.istore_n 2, 1) := by decide +kernel
theorem d5_2 : decode prog_118_method_2_code 2 = .ok (.aload_n 0, 1) := by decide +kernel
theorem d5_3 : decode prog_118_method_2_code 3 = .ok (.getfield 15, 3) := by decide +kernel
theorem d5_6 : decode prog_118_method_2_code 6 = .ok (.astore_n 3, 1) := by decide +kernel
theorem d5_7 : decode prog_118_method_2_code 7 = .ok (.aload_n 3, 1) := by decide +kernel
theorem d5_8 : decode prog_118_method_2_code 8 = .ok (.arraylength, 1) := by decide +kernel
theorem d5_9 : decode prog_118_method_2_code 9 = .ok (.istore 4, 2) := by decide +kernel
theorem d5_11 : decode prog_118_method_2_code 11 = .ok (.iconst 0, 1) := by decide +kernel
theorem d5_12 : decode prog_118_method_2_code 12 = .ok (.istore 5, 2) := by decide +kernel
theorem d5_14 : decode prog_118_method_2_code 14 = .ok (.iload 5, 2) := by decide +kernel
theorem d5_16 : decode prog_118_method_2_code 16 = .ok (.iload 4, 2) := by decide +kernel
theorem d5_18 : decode prog_118_method_2_code 18 = .ok (.if_icmp .ge 58, 3) := by decide +kernel
theorem d5_76 : decode prog_118_method_2_code 76 = .ok (.return_, 1) := by decide +kernel
theorem d5_21 : decode prog_118_method_2_code 21 = .ok (.aload_n 3, 1) := by decide +kernel
theorem d5_22 : decode prog_118_method_2_code 22 = .ok (.iload 5, 2) := by decide +kernel
theorem d5_24 : decode prog_118_method_2_code 24 = .ok (.aaload, 1) := by decide +kernel
theorem d5_25 : decode prog_118_method_2_code 25 = .ok (.astore 6, 2) := by decide +kernel
theorem d5_27 : decode prog_118_method_2_code 27 = .ok (.aload 6, 2) := by decide +kernel
theorem d5_29 : decode prog_118_method_2_code 29 = .ok (.iload_n 2, 1) := by decide +kernel
theorem d5_30 : decode prog_118_method_2_code 30 = .ok (.bipush 6, 2) := by decide +kernel
theorem d5_32 : decode prog_118_method_2_code 32 = .ok (.iushr, 1) := by decide +kernel
theorem d5_33 : decode prog_118_method_2_code 33 = .ok (.laload, 1) := by decide +kernel
theorem d5_34 : decode prog_118_method_2_code 34 = .ok (.lconst 0, 1) := by decide +kernel
theorem d5_35 : decode prog_118_method_2_code 35 = .ok (.lcmp, 1) := by decide +kernel
theorem d5_36 : decode prog_118_method_2_code 36 = .ok (.ifCond .ne 7, 3) := by decide +kernel
theorem d5_39 : decode prog_118_method_2_code 39 = .ok (.iconst 1, 1) := by decide +kernel
theorem d5_40 : decode prog_118_method_2_code 40 = .ok (.goto 4, 3) := by decide +kernel
theorem d5_44 : decode prog_118_method_2_code 44 = .ok (.istore 7, 2) := by decide +kernel
theorem d5_46 : decode prog_118_method_2_code 46 = .ok (.aload 6, 2) := by decide +kernel
theorem d5_48 : decode prog_118_method_2_code 48 = .ok (.iload_n 2, 1) := by decide +kernel
theorem d5_49 : decode prog_118_method_2_code 49 = .ok (.bipush 6, 2) := by decide +kernel
theorem d5_51 : decode prog_118_method_2_code 51 = .ok (.iushr, 1) := by decide +kernel
theorem d5_52 : decode prog_118_method_2_code 52 = .ok (.dup2, 1) := by decide +kernel
theorem d5_53 : decode prog_118_method_2_code 53 = .ok (.laload, 1) := by decide +kernel
theorem d5_54 : decode prog_118_method_2_code 54 = .ok (.lconst 1, 1) := by decide +kernel
theorem d5_55 : decode prog_118_method_2_code 55 = .ok (.iload_n 2, 1) := by decide +kernel
theorem d5_56 : decode prog_118_method_2_code 56 = .ok (.lshl, 1) := by decide +kernel
theorem d5_57 : decode prog_118_method_2_code 57 = .ok (.lor, 1) := by decide +kernel
theorem d5_58 : decode prog_118_method_2_code 58 = .ok (.lastore, 1) := by decide +kernel
theorem d5_59 : decode prog_118_method_2_code 59 = .ok (.iload 7, 2) := by decide +kernel
theorem d5_61 : decode prog_118_method_2_code 61 = .ok (.ifCond .ne 4, 3) := by decide +kernel
theorem d5_65 : decode prog_118_method_2_code 65 = .ok (.iload_n 2, 1) := by decide +kernel
theorem d5_66 : decode prog_118_method_2_code 66 = .ok (.bipush 6, 2) := by decide +kernel
theorem d5_68 : decode prog_118_method_2_code 68 = .ok (.iushr, 1) := by decide +kernel
theorem d5_69 : decode prog_118_method_2_code 69 = .ok (.istore_n 2, 1) := by decide +kernel
theorem d5_70 : decode prog_118_method_2_code 70 = .ok (.iinc 5 1, 3) := by decide +kernel
theorem d5_73 : decode prog_118_method_2_code 73 = .ok (.goto (-59), 3) := by decide +kernel
theorem d5_43 : decode prog_118_method_2_code 43 = .ok (.iconst 0, 1) := by decide +kernel
theorem d5_64 : decode prog_118_method_2_code 64 = .ok (.return_, 1) := by decide +kernel
theorem ef_5 (m : MethodId) (r0 : Addr) (p1 : Int32) : entryFrame m #[(.ref r0), (.int p1)] 8 = mkF m 0 #[.val (.ref r0), .val (.int p1), .unset, .unset, .unset, .unset, .unset, .unset] [] := by first | (simp [entryFrame, mkF, argsToLocals, Value.category]; done) | rfl
theorem pn_5 : plainFor (⟨"com/example/slotwright/slotwright/core/RankSet", "add", "(I)V"⟩ : MethodName) = true := plainFor_of_name (by first | (simp [plainName, overriddenIn]; done) | decide +kernel)
set_option maxRecDepth 65536 in
set_option maxHeartbeats 40000000 in
theorem rm_add (l : Launch) (Z : State) (a0 : Array Value) (hw : ∀ d ∈ tables_1, d.before a0 Z = true) (ws : List Jvm.Cond) (r0 : Addr) (p1 : Int32) (h0 : Heap) (n0 : Nat) (lv : Addr) (d : Nat) (g : Nat → Addr) (len : Nat → Nat) (W : Nat → Nat → Int64) (M : Nat → Prop) (size : Nat) (F0 : RS Z h0 n0 r0 lv d g len W) (H0 : ∀ k, k < d → LV M k (len k) (W k)) (FT : Fits size d len) (n : Nat) (hn : n < size) (hp : p1.toInt = (n : Int)) :
    OMet l (⟨"com/example/slotwright/slotwright/core/RankSet", "add", "(I)V"⟩ : MethodName) prog_118_method_2_code 8 none ws ({ frames := 0, cells := 0, slots := 0, locals := 0 } : Room) #[(.ref r0), (.int p1)] Z h0 (fun v h L => v = none ∧ Fr n0 L ∧ ∃ W', RS Z h n0 r0 lv d g len W' ∧ ∀ k, k < d → LV (fun x => M x ∨ x = n) k (len k) (W' k)) := by
  refine OMet.of pn_5 (fun m => ef_5 m r0 p1) ?_
  intro p e s m below meth c s₁ hx hby hml hown hnm hret hlk hZ X0 e0
  have wi := (hw _ (List.mem_of_getElem? (i := 1) rfl))
  have hd20 := FT.2.1
  refine Owes.go ?_ fun t₀ k₀ => XS.iloadN X0.here hx rfl (hb hby d5_0) rfl k₀
  show Owes _ _ _ _ (s₁.setTop (mkF m 1 #[.val (.ref r0), .val (.int p1), .unset, .unset, .unset, .unset, .unset, .unset] [(.int p1)]))
  refine Owes.go ?_ fun t₀ k₀ => XS.istoreN X0.here hx rfl (hb hby d5_1) rfl (l' := #[.val (.ref r0), .val (.int p1), .val (.int p1), .unset, .unset, .unset, .unset, .unset]) rfl k₀
  show Owes _ _ _ _ (s₁.setTop (mkF m 2 #[.val (.ref r0), .val (.int p1), .val (.int p1), .unset, .unset, .unset, .unset, .unset] []))
  refine Owes.go ?_ fun t₀ k₀ => XS.aloadN X0.here hx rfl (hb hby d5_2) rfl rfl k₀
  show Owes _ _ _ _ (s₁.setTop (mkF m 3 #[.val (.ref r0), .val (.int p1), .val (.int p1), .unset, .unset, .unset, .unset, .unset] [(.ref r0)]))
  obtain ⟨T16, X16, e16, st16⟩ := getF X0 hx hZ hown (host := "") (Or.inl (hw _ (List.mem_of_getElem? (i := 14) rfl))) Via.refl e0 F0.2.1 (g := (mkF m 3 #[.val (.ref r0), .val (.int p1), .val (.int p1), .unset, .unset, .unset, .unset, .unset] [(.ref r0)])) rfl rfl (hb hby d5_3)
  refine Owes.go ?_ st16
  show Owes _ _ _ _ (T16.setTop (mkF m 6 #[.val (.ref r0), .val (.int p1), .val (.int p1), .unset, .unset, .unset, .unset, .unset] [(.ref lv)]))
  refine Owes.go ?_ fun t₀ k₀ => XS.astoreN X16.here hx rfl (hb hby d5_6) rfl rfl (l' := #[.val (.ref r0), .val (.int p1), .val (.int p1), .val (.ref lv), .unset, .unset, .unset, .unset]) rfl k₀
  show Owes _ _ _ _ (T16.setTop (mkF m 7 #[.val (.ref r0), .val (.int p1), .val (.int p1), .val (.ref lv), .unset, .unset, .unset, .unset] []))
  refine Owes.go ?_ fun t₀ k₀ => XS.aloadN X16.here hx rfl (hb hby d5_7) rfl rfl k₀
  show Owes _ _ _ _ (T16.setTop (mkF m 8 #[.val (.ref r0), .val (.int p1), .val (.int p1), .val (.ref lv), .unset, .unset, .unset, .unset] [(.ref lv)]))
  refine Owes.glen X16 hx hZ e16 F0.2.2.1 (z := Int32.ofNat d) (own_ofNat (by omega)) (hb hby d5_8) ?_
  show Owes _ _ _ _ (T16.setTop (mkF m 9 #[.val (.ref r0), .val (.int p1), .val (.int p1), .val (.ref lv), .unset, .unset, .unset, .unset] [(.int (Int32.ofNat d))]))
  refine Owes.go ?_ fun t₀ k₀ => XS.istore X16.here hx rfl (hb hby d5_9) rfl (l' := #[.val (.ref r0), .val (.int p1), .val (.int p1), .val (.ref lv), .val (.int (Int32.ofNat d)), .unset, .unset, .unset]) rfl k₀
  show Owes _ _ _ _ (T16.setTop (mkF m 11 #[.val (.ref r0), .val (.int p1), .val (.int p1), .val (.ref lv), .val (.int (Int32.ofNat d)), .unset, .unset, .unset] []))
  refine Owes.go ?_ fun t₀ k₀ => XS.iconst X16.here hx rfl (hb hby d5_11) k₀
  show Owes _ _ _ _ (T16.setTop (mkF m 12 #[.val (.ref r0), .val (.int p1), .val (.int p1), .val (.ref lv), .val (.int (Int32.ofNat d)), .unset, .unset, .unset] [(.int (0 : Int32))]))
  refine Owes.go ?_ fun t₀ k₀ => XS.istore X16.here hx rfl (hb hby d5_12) rfl (l' := #[.val (.ref r0), .val (.int p1), .val (.int p1), .val (.ref lv), .val (.int (Int32.ofNat d)), .val (.int (0 : Int32)), .unset, .unset]) rfl k₀
  show Owes _ _ _ _ (T16.setTop (mkF m 14 #[.val (.ref r0), .val (.int p1), .val (.int p1), .val (.ref lv), .val (.int (Int32.ofNat d)), .val (.int (0 : Int32)), .unset, .unset] []))
  have loop : ∀ (r k : Nat), k + r = d → ∀ (at_ kI : Int32) (T : State) (locs : List Loc) (h : Heap) (W : Nat → Nat → Int64) (s6 s7 : Slot), One s6 → One s7 → Stand p l e ({ frames := 0, cells := 0, slots := 0, locals := 0 } : Room) s m #[(.ref r0), (.int p1)] below meth c T locs 0 0 → T.heap = h → Fr n0 locs → RS Z h n0 r0 lv d g len W → (∀ j, j < k → LV (fun x => M x ∨ x = n) j (len j) (W j)) → (∀ j, k ≤ j → j < d → LV M j (len j) (W j)) → at_.toInt = ((n / 64 ^ k : Nat) : Int) → kI.toInt = (k : Int) → Owes p e below (EndN s (fun v h L => v = none ∧ Fr n0 L ∧ ∃ W', RS Z h n0 r0 lv d g len W' ∧ ∀ k, k < d → LV (fun x => M x ∨ x = n) k (len k) (W' k)) ({ frames := 0, cells := 0, slots := 0, locals := 0 } : Room).cells ({ frames := 0, cells := 0, slots := 0, locals := 0 } : Room).slots) (T.setTop (mkF m 14 #[.val (.ref r0), .val (.int p1), .val (.int at_), .val (.ref lv), .val (.int (Int32.ofNat d)), .val (.int kI), s6, s7] [])) := by
    intro r
    induction r with
    | zero =>
      intro k hk0 at_ kI T locs h W s6 s7 o6 o7 X e0 N F H1 H2 ha hkI
      refine Owes.go ?_ fun t₀ k₀ => XS.iload X.here hx rfl (hb hby d5_14) rfl k₀
      show Owes _ _ _ _ (T.setTop (mkF m 16 #[.val (.ref r0), .val (.int p1), .val (.int at_), .val (.ref lv), .val (.int (Int32.ofNat d)), .val (.int kI), s6, s7] [(.int kI)]))
      refine Owes.go ?_ fun t₀ k₀ => XS.iload X.here hx rfl (hb hby d5_16) rfl k₀
      show Owes _ _ _ _ (T.setTop (mkF m 18 #[.val (.ref r0), .val (.int p1), .val (.int at_), .val (.ref lv), .val (.int (Int32.ofNat d)), .val (.int kI), s6, s7] [(.int (Int32.ofNat d)), (.int kI)]))
      refine Owes.go ?_ fun t₀ k₀ => XS.icmpYes X.here hx rfl (pc0 := 18) (pc' := 76) rfl (hb hby d5_18) rfl (flt (own_nlti hkI (own_ofNat (by omega)) (by omega))).2.1 (by decide) (by decide) k₀
      show Owes _ _ _ _ (T.setTop (mkF m 76 #[.val (.ref r0), .val (.int p1), .val (.int at_), .val (.ref lv), .val (.int (Int32.ofNat d)), .val (.int kI), s6, s7] []))
      exact Owes.retV X hx hlk hret (hb hby d5_76) (by decide) (by decide) (by rw [e0]; exact ⟨rfl, N, W, F, fun j hj => H1 j (by omega)⟩)
    | succ r ih =>
      intro k hk0 at_ kI T locs h W s6 s7 o6 o7 X e0 N F H1 H2 ha hkI
      have hk : k < d := by omega
      have hidx := FT.at hn k hk
      have F0 := F
      refine Owes.go ?_ fun t₀ k₀ => XS.iload X.here hx rfl (hb hby d5_14) rfl k₀
      show Owes _ _ _ _ (T.setTop (mkF m 16 #[.val (.ref r0), .val (.int p1), .val (.int at_), .val (.ref lv), .val (.int (Int32.ofNat d)), .val (.int kI), s6, s7] [(.int kI)]))
      refine Owes.go ?_ fun t₀ k₀ => XS.iload X.here hx rfl (hb hby d5_16) rfl k₀
      show Owes _ _ _ _ (T.setTop (mkF m 18 #[.val (.ref r0), .val (.int p1), .val (.int at_), .val (.ref lv), .val (.int (Int32.ofNat d)), .val (.int kI), s6, s7] [(.int (Int32.ofNat d)), (.int kI)]))
      refine Owes.go ?_ fun t₀ k₀ => XS.icmpNo X.here hx rfl (hb hby d5_18) rfl (tlt (own_lti hkI (own_ofNat (by omega)) hk)).2.1 k₀
      show Owes _ _ _ _ (T.setTop (mkF m 21 #[.val (.ref r0), .val (.int p1), .val (.int at_), .val (.ref lv), .val (.int (Int32.ofNat d)), .val (.int kI), s6, s7] []))
      refine Owes.go ?_ fun t₀ k₀ => XS.aloadN X.here hx rfl (hb hby d5_21) rfl rfl k₀
      show Owes _ _ _ _ (T.setTop (mkF m 22 #[.val (.ref r0), .val (.int p1), .val (.int at_), .val (.ref lv), .val (.int (Int32.ofNat d)), .val (.int kI), s6, s7] [(.ref lv)]))
      refine Owes.go ?_ fun t₀ k₀ => XS.iload X.here hx rfl (hb hby d5_22) rfl k₀
      show Owes _ _ _ _ (T.setTop (mkF m 24 #[.val (.ref r0), .val (.int p1), .val (.int at_), .val (.ref lv), .val (.int (Int32.ofNat d)), .val (.int kI), s6, s7] [(.int kI), (.ref lv)]))
      refine Owes.gR X hx hZ e0 F.2.2.1 rfl hkI hk (v := .ref (g k)) rfl (hb hby d5_24) ?_
      show Owes _ _ _ _ (T.setTop (mkF m 25 #[.val (.ref r0), .val (.int p1), .val (.int at_), .val (.ref lv), .val (.int (Int32.ofNat d)), .val (.int kI), s6, s7] [(.ref (g k))]))
      refine Owes.go ?_ fun t₀ k₀ => XS.astore X.here hx rfl (hb hby d5_25) rfl rfl (l' := #[.val (.ref r0), .val (.int p1), .val (.int at_), .val (.ref lv), .val (.int (Int32.ofNat d)), .val (.int kI), .val (.ref (g k)), s7]) (XS.store1 rfl o6 rfl) k₀
      show Owes _ _ _ _ (T.setTop (mkF m 27 #[.val (.ref r0), .val (.int p1), .val (.int at_), .val (.ref lv), .val (.int (Int32.ofNat d)), .val (.int kI), .val (.ref (g k)), s7] []))
      refine Owes.go ?_ fun t₀ k₀ => XS.aload X.here hx rfl (hb hby d5_27) rfl rfl k₀
      show Owes _ _ _ _ (T.setTop (mkF m 29 #[.val (.ref r0), .val (.int p1), .val (.int at_), .val (.ref lv), .val (.int (Int32.ofNat d)), .val (.int kI), .val (.ref (g k)), s7] [(.ref (g k))]))
      refine Owes.go ?_ fun t₀ k₀ => XS.iloadN X.here hx rfl (hb hby d5_29) rfl k₀
      show Owes _ _ _ _ (T.setTop (mkF m 30 #[.val (.ref r0), .val (.int p1), .val (.int at_), .val (.ref lv), .val (.int (Int32.ofNat d)), .val (.int kI), .val (.ref (g k)), s7] [(.int at_), (.ref (g k))]))
      refine Owes.go ?_ fun t₀ k₀ => XS.bipush X.here hx rfl (hb hby d5_30) k₀
      show Owes _ _ _ _ (T.setTop (mkF m 32 #[.val (.ref r0), .val (.int p1), .val (.int at_), .val (.ref lv), .val (.int (Int32.ofNat d)), .val (.int kI), .val (.ref (g k)), s7] [(.int (6 : Int32)), (.int at_), (.ref (g k))]))
      refine Owes.go ?_ fun t₀ k₀ => XS.iushr X.here hx rfl (hb hby d5_32) rfl k₀
      show Owes _ _ _ _ (T.setTop (mkF m 33 #[.val (.ref r0), .val (.int p1), .val (.int at_), .val (.ref lv), .val (.int (Int32.ofNat d)), .val (.int kI), .val (.ref (g k)), s7] [(.int ((at_.toUInt32 >>> ((6 : Int32) &&& 31).toUInt32).toInt32)), (.ref (g k))]))
      refine Owes.gJ X hx hZ e0 (F.2.2.2.1 k hk).1 (own_sh6 ha) hidx (v := .long (W k (n / 64 ^ k / 64))) rfl (hb hby d5_33) ?_
      show Owes _ _ _ _ (T.setTop (mkF m 34 #[.val (.ref r0), .val (.int p1), .val (.int at_), .val (.ref lv), .val (.int (Int32.ofNat d)), .val (.int kI), .val (.ref (g k)), s7] [(.long (W k (n / 64 ^ k / 64)))]))
      refine Owes.go ?_ fun t₀ k₀ => XS.lconst X.here hx rfl (hb hby d5_34) k₀
      show Owes _ _ _ _ (T.setTop (mkF m 35 #[.val (.ref r0), .val (.int p1), .val (.int at_), .val (.ref lv), .val (.int (Int32.ofNat d)), .val (.int kI), .val (.ref (g k)), s7] [(.long (0 : Int64)), (.long (W k (n / 64 ^ k / 64)))]))
      refine Owes.go ?_ fun t₀ k₀ => XS.lcmp X.here hx rfl (hb hby d5_35) rfl k₀
      show Owes _ _ _ _ (T.setTop (mkF m 36 #[.val (.ref r0), .val (.int p1), .val (.int at_), .val (.ref lv), .val (.int (Int32.ofNat d)), .val (.int kI), .val (.ref (g k)), s7] [(.int (lcmpW (W k (n / 64 ^ k / 64)) (0 : Int64)))]))
      by_cases hc1 : (W k (n / 64 ^ k / 64)) = (0 : Int64)
      · skip
        refine Owes.go ?_ fun t₀ k₀ => XS.ifNo X.here hx rfl (hb hby d5_36) rfl ((if0 _ _).trans (teq ((lw_eq _ _).mpr hc1)).2) k₀
        show Owes _ _ _ _ (T.setTop (mkF m 39 #[.val (.ref r0), .val (.int p1), .val (.int at_), .val (.ref lv), .val (.int (Int32.ofNat d)), .val (.int kI), .val (.ref (g k)), s7] []))
        refine Owes.go ?_ fun t₀ k₀ => XS.iconst X.here hx rfl (hb hby d5_39) k₀
        show Owes _ _ _ _ (T.setTop (mkF m 40 #[.val (.ref r0), .val (.int p1), .val (.int at_), .val (.ref lv), .val (.int (Int32.ofNat d)), .val (.int kI), .val (.ref (g k)), s7] [(.int (1 : Int32))]))
        refine Owes.go ?_ fun t₀ k₀ => XS.goto X.here hx rfl (pc0 := 40) (pc' := 44) rfl (hb hby d5_40) (by decide) (by decide) k₀
        show Owes _ _ _ _ (T.setTop (mkF m 44 #[.val (.ref r0), .val (.int p1), .val (.int at_), .val (.ref lv), .val (.int (Int32.ofNat d)), .val (.int kI), .val (.ref (g k)), s7] [(.int (1 : Int32))]))
        refine Owes.go ?_ fun t₀ k₀ => XS.istore X.here hx rfl (hb hby d5_44) rfl (l' := #[.val (.ref r0), .val (.int p1), .val (.int at_), .val (.ref lv), .val (.int (Int32.ofNat d)), .val (.int kI), .val (.ref (g k)), .val (.int (1 : Int32))]) (XS.store1 rfl o7 rfl) k₀
        show Owes _ _ _ _ (T.setTop (mkF m 46 #[.val (.ref r0), .val (.int p1), .val (.int at_), .val (.ref lv), .val (.int (Int32.ofNat d)), .val (.int kI), .val (.ref (g k)), .val (.int (1 : Int32))] []))
        refine Owes.go ?_ fun t₀ k₀ => XS.aload X.here hx rfl (hb hby d5_46) rfl rfl k₀
        show Owes _ _ _ _ (T.setTop (mkF m 48 #[.val (.ref r0), .val (.int p1), .val (.int at_), .val (.ref lv), .val (.int (Int32.ofNat d)), .val (.int kI), .val (.ref (g k)), .val (.int (1 : Int32))] [(.ref (g k))]))
        refine Owes.go ?_ fun t₀ k₀ => XS.iloadN X.here hx rfl (hb hby d5_48) rfl k₀
        show Owes _ _ _ _ (T.setTop (mkF m 49 #[.val (.ref r0), .val (.int p1), .val (.int at_), .val (.ref lv), .val (.int (Int32.ofNat d)), .val (.int kI), .val (.ref (g k)), .val (.int (1 : Int32))] [(.int at_), (.ref (g k))]))
        refine Owes.go ?_ fun t₀ k₀ => XS.bipush X.here hx rfl (hb hby d5_49) k₀
        show Owes _ _ _ _ (T.setTop (mkF m 51 #[.val (.ref r0), .val (.int p1), .val (.int at_), .val (.ref lv), .val (.int (Int32.ofNat d)), .val (.int kI), .val (.ref (g k)), .val (.int (1 : Int32))] [(.int (6 : Int32)), (.int at_), (.ref (g k))]))
        refine Owes.go ?_ fun t₀ k₀ => XS.iushr X.here hx rfl (hb hby d5_51) rfl k₀
        show Owes _ _ _ _ (T.setTop (mkF m 52 #[.val (.ref r0), .val (.int p1), .val (.int at_), .val (.ref lv), .val (.int (Int32.ofNat d)), .val (.int kI), .val (.ref (g k)), .val (.int (1 : Int32))] [(.int ((at_.toUInt32 >>> ((6 : Int32) &&& 31).toUInt32).toInt32)), (.ref (g k))]))
        refine Owes.go ?_ fun t₀ k₀ => Jvm.Free.XT.dup2 X.here hx rfl (hb hby d5_52) rfl rfl rfl k₀
        show Owes _ _ _ _ (T.setTop (mkF m 53 #[.val (.ref r0), .val (.int p1), .val (.int at_), .val (.ref lv), .val (.int (Int32.ofNat d)), .val (.int kI), .val (.ref (g k)), .val (.int (1 : Int32))] [(.int ((at_.toUInt32 >>> ((6 : Int32) &&& 31).toUInt32).toInt32)), (.ref (g k)), (.int ((at_.toUInt32 >>> ((6 : Int32) &&& 31).toUInt32).toInt32)), (.ref (g k))]))
        refine Owes.gJ X hx hZ e0 (F.2.2.2.1 k hk).1 (own_sh6 ha) hidx (v := .long (W k (n / 64 ^ k / 64))) rfl (hb hby d5_53) ?_
        show Owes _ _ _ _ (T.setTop (mkF m 54 #[.val (.ref r0), .val (.int p1), .val (.int at_), .val (.ref lv), .val (.int (Int32.ofNat d)), .val (.int kI), .val (.ref (g k)), .val (.int (1 : Int32))] [(.long (W k (n / 64 ^ k / 64))), (.int ((at_.toUInt32 >>> ((6 : Int32) &&& 31).toUInt32).toInt32)), (.ref (g k))]))
        refine Owes.go ?_ fun t₀ k₀ => XS.lconst X.here hx rfl (hb hby d5_54) k₀
        show Owes _ _ _ _ (T.setTop (mkF m 55 #[.val (.ref r0), .val (.int p1), .val (.int at_), .val (.ref lv), .val (.int (Int32.ofNat d)), .val (.int kI), .val (.ref (g k)), .val (.int (1 : Int32))] [(.long (1 : Int64)), (.long (W k (n / 64 ^ k / 64))), (.int ((at_.toUInt32 >>> ((6 : Int32) &&& 31).toUInt32).toInt32)), (.ref (g k))]))
        refine Owes.go ?_ fun t₀ k₀ => XS.iloadN X.here hx rfl (hb hby d5_55) rfl k₀
        show Owes _ _ _ _ (T.setTop (mkF m 56 #[.val (.ref r0), .val (.int p1), .val (.int at_), .val (.ref lv), .val (.int (Int32.ofNat d)), .val (.int kI), .val (.ref (g k)), .val (.int (1 : Int32))] [(.int at_), (.long (1 : Int64)), (.long (W k (n / 64 ^ k / 64))), (.int ((at_.toUInt32 >>> ((6 : Int32) &&& 31).toUInt32).toInt32)), (.ref (g k))]))
        refine Owes.go ?_ fun t₀ k₀ => XS.lshl X.here hx rfl (hb hby d5_56) rfl k₀
        show Owes _ _ _ _ (T.setTop (mkF m 57 #[.val (.ref r0), .val (.int p1), .val (.int at_), .val (.ref lv), .val (.int (Int32.ofNat d)), .val (.int kI), .val (.ref (g k)), .val (.int (1 : Int32))] [(.long ((1 : Int64) <<< (at_ &&& 0x3f).toInt64)), (.long (W k (n / 64 ^ k / 64))), (.int ((at_.toUInt32 >>> ((6 : Int32) &&& 31).toUInt32).toInt32)), (.ref (g k))]))
        refine Owes.go ?_ fun t₀ k₀ => XS.lor X.here hx rfl (hb hby d5_57) rfl k₀
        show Owes _ _ _ _ (T.setTop (mkF m 58 #[.val (.ref r0), .val (.int p1), .val (.int at_), .val (.ref lv), .val (.int (Int32.ofNat d)), .val (.int kI), .val (.ref (g k)), .val (.int (1 : Int32))] [(.long ((W k (n / 64 ^ k / 64)) ||| ((1 : Int64) <<< (at_ &&& 0x3f).toInt64))), (.int ((at_.toUInt32 >>> ((6 : Int32) &&& 31).toUInt32).toInt32)), (.ref (g k))]))
        refine Owes.sJ X hx hZ e0 (F.2.2.2.1 k hk).1 (own_sh6 ha) hidx (hb hby d5_58) ?_
        intro T17 h17 X17 e17 W17 G17
        have F17 := F.wr wi hk W17
        have N17 := Fr.snoc X17 N (F.2.2.2.1 k hk).2
        have HL17 : LV (fun x => M x ∨ x = n) k (len k) (upd (W k) (n / 64 ^ k / 64) ((W k (n / 64 ^ k / 64)) ||| ((1 : Int64) <<< (at_ &&& 0x3f).toInt64))) := (H2 k (Nat.le_refl _) hk).add n at_ ha
        show Owes _ _ _ _ (T17.setTop (mkF m 59 #[.val (.ref r0), .val (.int p1), .val (.int at_), .val (.ref lv), .val (.int (Int32.ofNat d)), .val (.int kI), .val (.ref (g k)), .val (.int (1 : Int32))] []))
        refine Owes.go ?_ fun t₀ k₀ => XS.iload X17.here hx rfl (hb hby d5_59) rfl k₀
        show Owes _ _ _ _ (T17.setTop (mkF m 61 #[.val (.ref r0), .val (.int p1), .val (.int at_), .val (.ref lv), .val (.int (Int32.ofNat d)), .val (.int kI), .val (.ref (g k)), .val (.int (1 : Int32))] [(.int (1 : Int32))]))
        refine Owes.go ?_ fun t₀ k₀ => XS.ifYes X17.here hx rfl (pc0 := 61) (pc' := 65) rfl (hb hby d5_61) rfl ((if0 _ _).trans (feq (by decide : ¬ ((1 : Int32) = (0 : Int32)))).2) (by decide) (by decide) k₀
        show Owes _ _ _ _ (T17.setTop (mkF m 65 #[.val (.ref r0), .val (.int p1), .val (.int at_), .val (.ref lv), .val (.int (Int32.ofNat d)), .val (.int kI), .val (.ref (g k)), .val (.int (1 : Int32))] []))
        refine Owes.go ?_ fun t₀ k₀ => XS.iloadN X17.here hx rfl (hb hby d5_65) rfl k₀
        show Owes _ _ _ _ (T17.setTop (mkF m 66 #[.val (.ref r0), .val (.int p1), .val (.int at_), .val (.ref lv), .val (.int (Int32.ofNat d)), .val (.int kI), .val (.ref (g k)), .val (.int (1 : Int32))] [(.int at_)]))
        refine Owes.go ?_ fun t₀ k₀ => XS.bipush X17.here hx rfl (hb hby d5_66) k₀
        show Owes _ _ _ _ (T17.setTop (mkF m 68 #[.val (.ref r0), .val (.int p1), .val (.int at_), .val (.ref lv), .val (.int (Int32.ofNat d)), .val (.int kI), .val (.ref (g k)), .val (.int (1 : Int32))] [(.int (6 : Int32)), (.int at_)]))
        refine Owes.go ?_ fun t₀ k₀ => XS.iushr X17.here hx rfl (hb hby d5_68) rfl k₀
        show Owes _ _ _ _ (T17.setTop (mkF m 69 #[.val (.ref r0), .val (.int p1), .val (.int at_), .val (.ref lv), .val (.int (Int32.ofNat d)), .val (.int kI), .val (.ref (g k)), .val (.int (1 : Int32))] [(.int ((at_.toUInt32 >>> ((6 : Int32) &&& 31).toUInt32).toInt32))]))
        refine Owes.go ?_ fun t₀ k₀ => XS.istoreN X17.here hx rfl (hb hby d5_69) rfl (l' := #[.val (.ref r0), .val (.int p1), .val (.int ((at_.toUInt32 >>> ((6 : Int32) &&& 31).toUInt32).toInt32)), .val (.ref lv), .val (.int (Int32.ofNat d)), .val (.int kI), .val (.ref (g k)), .val (.int (1 : Int32))]) rfl k₀
        show Owes _ _ _ _ (T17.setTop (mkF m 70 #[.val (.ref r0), .val (.int p1), .val (.int ((at_.toUInt32 >>> ((6 : Int32) &&& 31).toUInt32).toInt32)), .val (.ref lv), .val (.int (Int32.ofNat d)), .val (.int kI), .val (.ref (g k)), .val (.int (1 : Int32))] []))
        refine Owes.go ?_ fun t₀ k₀ => XS.iinc X17.here hx rfl (hb hby d5_70) rfl (l' := #[.val (.ref r0), .val (.int p1), .val (.int ((at_.toUInt32 >>> ((6 : Int32) &&& 31).toUInt32).toInt32)), .val (.ref lv), .val (.int (Int32.ofNat d)), .val (.int (kI + (1 : Int32))), .val (.ref (g k)), .val (.int (1 : Int32))]) rfl k₀
        show Owes _ _ _ _ (T17.setTop (mkF m 73 #[.val (.ref r0), .val (.int p1), .val (.int ((at_.toUInt32 >>> ((6 : Int32) &&& 31).toUInt32).toInt32)), .val (.ref lv), .val (.int (Int32.ofNat d)), .val (.int (kI + (1 : Int32))), .val (.ref (g k)), .val (.int (1 : Int32))] []))
        refine Owes.go ?_ fun t₀ k₀ => XS.goto X17.here hx rfl (pc0 := 73) (pc' := 14) rfl (hb hby d5_73) (by decide) (by decide) k₀
        show Owes _ _ _ _ (T17.setTop (mkF m 14 #[.val (.ref r0), .val (.int p1), .val (.int ((at_.toUInt32 >>> ((6 : Int32) &&& 31).toUInt32).toInt32)), .val (.ref lv), .val (.int (Int32.ofNat d)), .val (.int (kI + (1 : Int32))), .val (.ref (g k)), .val (.int (1 : Int32))] []))
        exact ih (k + 1) (by omega) _ _ T17 _ h17 _ _ _ (One.val rfl) (One.val rfl) X17 e17 N17 F17 (fun j hj => by
            by_cases q : j = k
            · subst q; rw [upd_same]; exact HL17
            · rw [upd_ne _ _ q]; exact H1 j (by omega)) (fun j hj hj' => by rw [upd_ne _ _ (by omega)]; exact H2 j (by omega) hj') (by rw [dk_succ]; exact own_sh6 ha) (own_inc hkI (by omega))
      · skip
        refine Owes.go ?_ fun t₀ k₀ => XS.ifYes X.here hx rfl (pc0 := 36) (pc' := 43) rfl (hb hby d5_36) rfl ((if0 _ _).trans (feq (fun q => hc1 ((lw_eq _ _).mp q))).2) (by decide) (by decide) k₀
        show Owes _ _ _ _ (T.setTop (mkF m 43 #[.val (.ref r0), .val (.int p1), .val (.int at_), .val (.ref lv), .val (.int (Int32.ofNat d)), .val (.int kI), .val (.ref (g k)), s7] []))
        refine Owes.go ?_ fun t₀ k₀ => XS.iconst X.here hx rfl (hb hby d5_43) k₀
        show Owes _ _ _ _ (T.setTop (mkF m 44 #[.val (.ref r0), .val (.int p1), .val (.int at_), .val (.ref lv), .val (.int (Int32.ofNat d)), .val (.int kI), .val (.ref (g k)), s7] [(.int (0 : Int32))]))
        refine Owes.go ?_ fun t₀ k₀ => XS.istore X.here hx rfl (hb hby d5_44) rfl (l' := #[.val (.ref r0), .val (.int p1), .val (.int at_), .val (.ref lv), .val (.int (Int32.ofNat d)), .val (.int kI), .val (.ref (g k)), .val (.int (0 : Int32))]) (XS.store1 rfl o7 rfl) k₀
        show Owes _ _ _ _ (T.setTop (mkF m 46 #[.val (.ref r0), .val (.int p1), .val (.int at_), .val (.ref lv), .val (.int (Int32.ofNat d)), .val (.int kI), .val (.ref (g k)), .val (.int (0 : Int32))] []))
        refine Owes.go ?_ fun t₀ k₀ => XS.aload X.here hx rfl (hb hby d5_46) rfl rfl k₀
        show Owes _ _ _ _ (T.setTop (mkF m 48 #[.val (.ref r0), .val (.int p1), .val (.int at_), .val (.ref lv), .val (.int (Int32.ofNat d)), .val (.int kI), .val (.ref (g k)), .val (.int (0 : Int32))] [(.ref (g k))]))
        refine Owes.go ?_ fun t₀ k₀ => XS.iloadN X.here hx rfl (hb hby d5_48) rfl k₀
        show Owes _ _ _ _ (T.setTop (mkF m 49 #[.val (.ref r0), .val (.int p1), .val (.int at_), .val (.ref lv), .val (.int (Int32.ofNat d)), .val (.int kI), .val (.ref (g k)), .val (.int (0 : Int32))] [(.int at_), (.ref (g k))]))
        refine Owes.go ?_ fun t₀ k₀ => XS.bipush X.here hx rfl (hb hby d5_49) k₀
        show Owes _ _ _ _ (T.setTop (mkF m 51 #[.val (.ref r0), .val (.int p1), .val (.int at_), .val (.ref lv), .val (.int (Int32.ofNat d)), .val (.int kI), .val (.ref (g k)), .val (.int (0 : Int32))] [(.int (6 : Int32)), (.int at_), (.ref (g k))]))
        refine Owes.go ?_ fun t₀ k₀ => XS.iushr X.here hx rfl (hb hby d5_51) rfl k₀
        show Owes _ _ _ _ (T.setTop (mkF m 52 #[.val (.ref r0), .val (.int p1), .val (.int at_), .val (.ref lv), .val (.int (Int32.ofNat d)), .val (.int kI), .val (.ref (g k)), .val (.int (0 : Int32))] [(.int ((at_.toUInt32 >>> ((6 : Int32) &&& 31).toUInt32).toInt32)), (.ref (g k))]))
        refine Owes.go ?_ fun t₀ k₀ => Jvm.Free.XT.dup2 X.here hx rfl (hb hby d5_52) rfl rfl rfl k₀
        show Owes _ _ _ _ (T.setTop (mkF m 53 #[.val (.ref r0), .val (.int p1), .val (.int at_), .val (.ref lv), .val (.int (Int32.ofNat d)), .val (.int kI), .val (.ref (g k)), .val (.int (0 : Int32))] [(.int ((at_.toUInt32 >>> ((6 : Int32) &&& 31).toUInt32).toInt32)), (.ref (g k)), (.int ((at_.toUInt32 >>> ((6 : Int32) &&& 31).toUInt32).toInt32)), (.ref (g k))]))
        refine Owes.gJ X hx hZ e0 (F.2.2.2.1 k hk).1 (own_sh6 ha) hidx (v := .long (W k (n / 64 ^ k / 64))) rfl (hb hby d5_53) ?_
        show Owes _ _ _ _ (T.setTop (mkF m 54 #[.val (.ref r0), .val (.int p1), .val (.int at_), .val (.ref lv), .val (.int (Int32.ofNat d)), .val (.int kI), .val (.ref (g k)), .val (.int (0 : Int32))] [(.long (W k (n / 64 ^ k / 64))), (.int ((at_.toUInt32 >>> ((6 : Int32) &&& 31).toUInt32).toInt32)), (.ref (g k))]))
        refine Owes.go ?_ fun t₀ k₀ => XS.lconst X.here hx rfl (hb hby d5_54) k₀
        show Owes _ _ _ _ (T.setTop (mkF m 55 #[.val (.ref r0), .val (.int p1), .val (.int at_), .val (.ref lv), .val (.int (Int32.ofNat d)), .val (.int kI), .val (.ref (g k)), .val (.int (0 : Int32))] [(.long (1 : Int64)), (.long (W k (n / 64 ^ k / 64))), (.int ((at_.toUInt32 >>> ((6 : Int32) &&& 31).toUInt32).toInt32)), (.ref (g k))]))
        refine Owes.go ?_ fun t₀ k₀ => XS.iloadN X.here hx rfl (hb hby d5_55) rfl k₀
        show Owes _ _ _ _ (T.setTop (mkF m 56 #[.val (.ref r0), .val (.int p1), .val (.int at_), .val (.ref lv), .val (.int (Int32.ofNat d)), .val (.int kI), .val (.ref (g k)), .val (.int (0 : Int32))] [(.int at_), (.long (1 : Int64)), (.long (W k (n / 64 ^ k / 64))), (.int ((at_.toUInt32 >>> ((6 : Int32) &&& 31).toUInt32).toInt32)), (.ref (g k))]))
        refine Owes.go ?_ fun t₀ k₀ => XS.lshl X.here hx rfl (hb hby d5_56) rfl k₀
        show Owes _ _ _ _ (T.setTop (mkF m 57 #[.val (.ref r0), .val (.int p1), .val (.int at_), .val (.ref lv), .val (.int (Int32.ofNat d)), .val (.int kI), .val (.ref (g k)), .val (.int (0 : Int32))] [(.long ((1 : Int64) <<< (at_ &&& 0x3f).toInt64)), (.long (W k (n / 64 ^ k / 64))), (.int ((at_.toUInt32 >>> ((6 : Int32) &&& 31).toUInt32).toInt32)), (.ref (g k))]))
        refine Owes.go ?_ fun t₀ k₀ => XS.lor X.here hx rfl (hb hby d5_57) rfl k₀
        show Owes _ _ _ _ (T.setTop (mkF m 58 #[.val (.ref r0), .val (.int p1), .val (.int at_), .val (.ref lv), .val (.int (Int32.ofNat d)), .val (.int kI), .val (.ref (g k)), .val (.int (0 : Int32))] [(.long ((W k (n / 64 ^ k / 64)) ||| ((1 : Int64) <<< (at_ &&& 0x3f).toInt64))), (.int ((at_.toUInt32 >>> ((6 : Int32) &&& 31).toUInt32).toInt32)), (.ref (g k))]))
        refine Owes.sJ X hx hZ e0 (F.2.2.2.1 k hk).1 (own_sh6 ha) hidx (hb hby d5_58) ?_
        intro T18 h18 X18 e18 W18 G18
        have F18 := F.wr wi hk W18
        have N18 := Fr.snoc X18 N (F.2.2.2.1 k hk).2
        have HL18 : LV (fun x => M x ∨ x = n) k (len k) (upd (W k) (n / 64 ^ k / 64) ((W k (n / 64 ^ k / 64)) ||| ((1 : Int64) <<< (at_ &&& 0x3f).toInt64))) := (H2 k (Nat.le_refl _) hk).add n at_ ha
        show Owes _ _ _ _ (T18.setTop (mkF m 59 #[.val (.ref r0), .val (.int p1), .val (.int at_), .val (.ref lv), .val (.int (Int32.ofNat d)), .val (.int kI), .val (.ref (g k)), .val (.int (0 : Int32))] []))
        refine Owes.go ?_ fun t₀ k₀ => XS.iload X18.here hx rfl (hb hby d5_59) rfl k₀
        show Owes _ _ _ _ (T18.setTop (mkF m 61 #[.val (.ref r0), .val (.int p1), .val (.int at_), .val (.ref lv), .val (.int (Int32.ofNat d)), .val (.int kI), .val (.ref (g k)), .val (.int (0 : Int32))] [(.int (0 : Int32))]))
        refine Owes.go ?_ fun t₀ k₀ => XS.ifNo X18.here hx rfl (hb hby d5_61) rfl ((if0 _ _).trans (teq (by decide : ((0 : Int32) = (0 : Int32)))).2) k₀
        show Owes _ _ _ _ (T18.setTop (mkF m 64 #[.val (.ref r0), .val (.int p1), .val (.int at_), .val (.ref lv), .val (.int (Int32.ofNat d)), .val (.int kI), .val (.ref (g k)), .val (.int (0 : Int32))] []))
        exact Owes.retV X18 hx hlk hret (hb hby d5_64) (by decide) (by decide) (by rw [e18]; exact ⟨rfl, N18, _, F18, fun j hj => by
            by_cases q : j = k
            · subst q; rw [upd_same]; exact HL18
            · rw [upd_ne _ _ q]
              by_cases q' : j < k
              · exact H1 j q'
              · exact (H2 j (by omega) hj).more (show k + 1 ≤ j by omega) ((H2 k (Nat.le_refl _) hk).up hidx hc1)⟩)
  exact loop d 0 (by omega) p1 _ T16 _ h0 W .unset .unset One.u One.u X16 e16 (Fr.nil n0) F0 (fun j hj => absurd hj (Nat.not_lt_zero _)) (fun j _ hj => H0 j hj) (by rw [Nat.pow_zero, Nat.div_one]; exact hp) rfl
theorem d6_0 : decode prog_118_method_3_code 0 = .ok (.iload_n 1, 1) := by decide +kernel
theorem d6_1 : decode prog_118_method_3_code 1 = .ok (.istore_n 2, 1) := by decide +kernel
theorem d6_2 : decode prog_118_method_3_code 2 = .ok (.aload_n 0, 1) := by decide +kernel
theorem d6_3 : decode prog_118_method_3_code 3 = .ok (.getfield 15, 3) := by decide +kernel
theorem d6_6 : decode prog_118_method_3_code 6 = .ok (.astore_n 3, 1) := by decide +kernel
theorem d6_7 : decode prog_118_method_3_code 7 = .ok (.aload_n 3, 1) := by decide +kernel
theorem d6_8 : decode prog_118_method_3_code 8 = .ok (.arraylength, 1) := by decide +kernel
theorem d6_9 : decode prog_118_method_3_code 9 = .ok (.istore 4, 2) := by decide +kernel
theorem d6_11 : decode prog_118_method_3_code 11 = .ok (.iconst 0, 1) := by decide +kernel
theorem d6_12 : decode prog_118_method_3_code 12 = .ok (.istore 5, 2) := by decide +kernel
theorem d6_14 : decode prog_118_method_3_code 14 = .ok (.iload 5, 2) := by decide +kernel
theorem d6_16 : decode prog_118_method_3_code 16 = .ok (.iload 4, 2) := by decide +kernel
theorem d6_18 : decode prog_118_method_3_code 18 = .ok (.if_icmp .ge 50, 3) := by decide +kernel
theorem d6_68 : decode prog_118_method_3_code 68 = .ok (.return_, 1) := by decide +kernel
theorem d6_21 : decode prog_118_method_3_code 21 = .ok (.aload_n 3, 1) := by decide +kernel
theorem d6_22 : decode prog_118_method_3_code 22 = .ok (.iload 5, 2) := by decide +kernel
theorem d6_24 : decode prog_118_method_3_code 24 = .ok (.aaload, 1) := by decide +kernel
theorem d6_25 : decode prog_118_method_3_code 25 = .ok (.astore 6, 2) := by decide +kernel
theorem d6_27 : decode prog_118_method_3_code 27 = .ok (.aload 6, 2) := by decide +kernel
theorem d6_29 : decode prog_118_method_3_code 29 = .ok (.iload_n 2, 1) := by decide +kernel
theorem d6_30 : decode prog_118_method_3_code 30 = .ok (.bipush 6, 2) := by decide +kernel
theorem d6_32 : decode prog_118_method_3_code 32 = .ok (.iushr, 1) := by decide +kernel
theorem d6_33 : decode prog_118_method_3_code 33 = .ok (.dup2, 1) := by decide +kernel
theorem d6_34 : decode prog_118_method_3_code 34 = .ok (.laload, 1) := by decide +kernel
theorem d6_35 : decode prog_118_method_3_code 35 = .ok (.lconst 1, 1) := by decide +kernel
theorem d6_36 : decode prog_118_method_3_code 36 = .ok (.iload_n 2, 1) := by decide +kernel
theorem d6_37 : decode prog_118_method_3_code 37 = .ok (.lshl, 1) := by decide +kernel
theorem d6_38 : decode prog_118_method_3_code 38 = .ok (.ldc2_w 25, 3) := by decide +kernel
theorem d6_41 : decode prog_118_method_3_code 41 = .ok (.lxor, 1) := by decide +kernel
theorem d6_42 : decode prog_118_method_3_code 42 = .ok (.land, 1) := by decide +kernel
theorem d6_43 : decode prog_118_method_3_code 43 = .ok (.lastore, 1) := by decide +kernel
theorem d6_44 : decode prog_118_method_3_code 44 = .ok (.aload 6, 2) := by decide +kernel
theorem d6_46 : decode prog_118_method_3_code 46 = .ok (.iload_n 2, 1) := by decide +kernel
theorem d6_47 : decode prog_118_method_3_code 47 = .ok (.bipush 6, 2) := by decide +kernel
theorem d6_49 : decode prog_118_method_3_code 49 = .ok (.iushr, 1) := by decide +kernel
theorem d6_50 : decode prog_118_method_3_code 50 = .ok (.laload, 1) := by decide +kernel
theorem d6_51 : decode prog_118_method_3_code 51 = .ok (.lconst 0, 1) := by decide +kernel
theorem d6_52 : decode prog_118_method_3_code 52 = .ok (.lcmp, 1) := by decide +kernel
theorem d6_53 : decode prog_118_method_3_code 53 = .ok (.ifCond .eq 4, 3) := by decide +kernel
theorem d6_57 : decode prog_118_method_3_code 57 = .ok (.iload_n 2, 1) := by decide +kernel
theorem d6_58 : decode prog_118_method_3_code 58 = .ok (.bipush 6, 2) := by decide +kernel
theorem d6_60 : decode prog_118_method_3_code 60 = .ok (.iushr, 1) := by decide +kernel
theorem d6_61 : decode prog_118_method_3_code 61 = .ok (.istore_n 2, 1) := by decide +kernel
theorem d6_62 : decode prog_118_method_3_code 62 = .ok (.iinc 5 1, 3) := by decide +kernel
theorem d6_65 : decode prog_118_method_3_code 65 = .ok (.goto (-51), 3) := by decide +kernel
theorem d6_56 : decode prog_118_method_3_code 56 = .ok (.return_, 1) := by decide +kernel
theorem ef_6 (m : MethodId) (r0 : Addr) (p1 : Int32) : entryFrame m #[(.ref r0), (.int p1)] 7 = mkF m 0 #[.val (.ref r0), .val (.int p1), .unset, .unset, .unset, .unset, .unset] [] := by first | (simp [entryFrame, mkF, argsToLocals, Value.category]; done) | rfl
theorem pn_6 : plainFor (⟨"com/example/slotwright/slotwright/core/RankSet", "remove", "(I)V"⟩ : MethodName) = true := plainFor_of_name (by first | (simp [plainName, overriddenIn]; done) | decide +kernel)
set_option maxRecDepth 65536 in
set_option maxHeartbeats 40000000 in
theorem rm_remove (l : Launch) (Z : State) (a0 : Array Value) (hw : ∀ d ∈ tables_1, d.before a0 Z = true) (ws : List Jvm.Cond) (r0 : Addr) (p1 : Int32) (h0 : Heap) (n0 : Nat) (lv : Addr) (d : Nat) (g : Nat → Addr) (len : Nat → Nat) (W : Nat → Nat → Int64) (M : Nat → Prop) (size : Nat) (F0 : RS Z h0 n0 r0 lv d g len W) (H0 : ∀ k, k < d → LV M k (len k) (W k)) (FT : Fits size d len) (n : Nat) (hn : n < size) (hp : p1.toInt = (n : Int)) :
    OMet l (⟨"com/example/slotwright/slotwright/core/RankSet", "remove", "(I)V"⟩ : MethodName) prog_118_method_3_code 7 none ws ({ frames := 0, cells := 0, slots := 0, locals := 0 } : Room) #[(.ref r0), (.int p1)] Z h0 (fun v h L => v = none ∧ Fr n0 L ∧ ∃ W', RS Z h n0 r0 lv d g len W' ∧ ∀ k, k < d → LV (fun x => M x ∧ x ≠ n) k (len k) (W' k)) := by
  refine OMet.of pn_6 (fun m => ef_6 m r0 p1) ?_
  intro p e s m below meth c s₁ hx hby hml hown hnm hret hlk hZ X0 e0
  have wi := (hw _ (List.mem_of_getElem? (i := 1) rfl))
  have hd20 := FT.2.1
  refine Owes.go ?_ fun t₀ k₀ => XS.iloadN X0.here hx rfl (hb hby d6_0) rfl k₀
  show Owes _ _ _ _ (s₁.setTop (mkF m 1 #[.val (.ref r0), .val (.int p1), .unset, .unset, .unset, .unset, .unset] [(.int p1)]))
  refine Owes.go ?_ fun t₀ k₀ => XS.istoreN X0.here hx rfl (hb hby d6_1) rfl (l' := #[.val (.ref r0), .val (.int p1), .val (.int p1), .unset, .unset, .unset, .unset]) rfl k₀
  show Owes _ _ _ _ (s₁.setTop (mkF m 2 #[.val (.ref r0), .val (.int p1), .val (.int p1), .unset, .unset, .unset, .unset] []))
  refine Owes.go ?_ fun t₀ k₀ => XS.aloadN X0.here hx rfl (hb hby d6_2) rfl rfl k₀
  show Owes _ _ _ _ (s₁.setTop (mkF m 3 #[.val (.ref r0), .val (.int p1), .val (.int p1), .unset, .unset, .unset, .unset] [(.ref r0)]))
  obtain ⟨T19, X19, e19, st19⟩ := getF X0 hx hZ hown (host := "") (Or.inl (hw _ (List.mem_of_getElem? (i := 14) rfl))) Via.refl e0 F0.2.1 (g := (mkF m 3 #[.val (.ref r0), .val (.int p1), .val (.int p1), .unset, .unset, .unset, .unset] [(.ref r0)])) rfl rfl (hb hby d6_3)
  refine Owes.go ?_ st19
  show Owes _ _ _ _ (T19.setTop (mkF m 6 #[.val (.ref r0), .val (.int p1), .val (.int p1), .unset, .unset, .unset, .unset] [(.ref lv)]))
  refine Owes.go ?_ fun t₀ k₀ => XS.astoreN X19.here hx rfl (hb hby d6_6) rfl rfl (l' := #[.val (.ref r0), .val (.int p1), .val (.int p1), .val (.ref lv), .unset, .unset, .unset]) rfl k₀
  show Owes _ _ _ _ (T19.setTop (mkF m 7 #[.val (.ref r0), .val (.int p1), .val (.int p1), .val (.ref lv), .unset, .unset, .unset] []))
  refine Owes.go ?_ fun t₀ k₀ => XS.aloadN X19.here hx rfl (hb hby d6_7) rfl rfl k₀
  show Owes _ _ _ _ (T19.setTop (mkF m 8 #[.val (.ref r0), .val (.int p1), .val (.int p1), .val (.ref lv), .unset, .unset, .unset] [(.ref lv)]))
  refine Owes.glen X19 hx hZ e19 F0.2.2.1 (z := Int32.ofNat d) (own_ofNat (by omega)) (hb hby d6_8) ?_
  show Owes _ _ _ _ (T19.setTop (mkF m 9 #[.val (.ref r0), .val (.int p1), .val (.int p1), .val (.ref lv), .unset, .unset, .unset] [(.int (Int32.ofNat d))]))
  refine Owes.go ?_ fun t₀ k₀ => XS.istore X19.here hx rfl (hb hby d6_9) rfl (l' := #[.val (.ref r0), .val (.int p1), .val (.int p1), .val (.ref lv), .val (.int (Int32.ofNat d)), .unset, .unset]) rfl k₀
  show Owes _ _ _ _ (T19.setTop (mkF m 11 #[.val (.ref r0), .val (.int p1), .val (.int p1), .val (.ref lv), .val (.int (Int32.ofNat d)), .unset, .unset] []))
  refine Owes.go ?_ fun t₀ k₀ => XS.iconst X19.here hx rfl (hb hby d6_11) k₀
  show Owes _ _ _ _ (T19.setTop (mkF m 12 #[.val (.ref r0), .val (.int p1), .val (.int p1), .val (.ref lv), .val (.int (Int32.ofNat d)), .unset, .unset] [(.int (0 : Int32))]))
  refine Owes.go ?_ fun t₀ k₀ => XS.istore X19.here hx rfl (hb hby d6_12) rfl (l' := #[.val (.ref r0), .val (.int p1), .val (.int p1), .val (.ref lv), .val (.int (Int32.ofNat d)), .val (.int (0 : Int32)), .unset]) rfl k₀
  show Owes _ _ _ _ (T19.setTop (mkF m 14 #[.val (.ref r0), .val (.int p1), .val (.int p1), .val (.ref lv), .val (.int (Int32.ofNat d)), .val (.int (0 : Int32)), .unset] []))
  have loop : ∀ (r k : Nat), k + r = d → ∀ (at_ kI : Int32) (T : State) (locs : List Loc) (h : Heap) (W : Nat → Nat → Int64) (s6 : Slot), One s6 → Stand p l e ({ frames := 0, cells := 0, slots := 0, locals := 0 } : Room) s m #[(.ref r0), (.int p1)] below meth c T locs 0 0 → T.heap = h → Fr n0 locs → RS Z h n0 r0 lv d g len W → (∀ j, j < k → LV (fun x => M x ∧ x ≠ n) j (len j) (W j)) → (∀ j, k ≤ j → j < d → LV M j (len j) (W j)) → at_.toInt = ((n / 64 ^ k : Nat) : Int) → kI.toInt = (k : Int) → (∀ x, M x → x ≠ n → x / 64 ^ k ≠ n / 64 ^ k) → Owes p e below (EndN s (fun v h L => v = none ∧ Fr n0 L ∧ ∃ W', RS Z h n0 r0 lv d g len W' ∧ ∀ k, k < d → LV (fun x => M x ∧ x ≠ n) k (len k) (W' k)) ({ frames := 0, cells := 0, slots := 0, locals := 0 } : Room).cells ({ frames := 0, cells := 0, slots := 0, locals := 0 } : Room).slots) (T.setTop (mkF m 14 #[.val (.ref r0), .val (.int p1), .val (.int at_), .val (.ref lv), .val (.int (Int32.ofNat d)), .val (.int kI), s6] [])) := by
    intro r
    induction r with
    | zero =>
      intro k hk0 at_ kI T locs h W s6 o6 X e0 N F H1 H2 ha hkI hno
      refine Owes.go ?_ fun t₀ k₀ => XS.iload X.here hx rfl (hb hby d6_14) rfl k₀
      show Owes _ _ _ _ (T.setTop (mkF m 16 #[.val (.ref r0), .val (.int p1), .val (.int at_), .val (.ref lv), .val (.int (Int32.ofNat d)), .val (.int kI), s6] [(.int kI)]))
      refine Owes.go ?_ fun t₀ k₀ => XS.iload X.here hx rfl (hb hby d6_16) rfl k₀
      show Owes _ _ _ _ (T.setTop (mkF m 18 #[.val (.ref r0), .val (.int p1), .val (.int at_), .val (.ref lv), .val (.int (Int32.ofNat d)), .val (.int kI), s6] [(.int (Int32.ofNat d)), (.int kI)]))
      refine Owes.go ?_ fun t₀ k₀ => XS.icmpYes X.here hx rfl (pc0 := 18) (pc' := 68) rfl (hb hby d6_18) rfl (flt (own_nlti hkI (own_ofNat (by omega)) (by omega))).2.1 (by decide) (by decide) k₀
      show Owes _ _ _ _ (T.setTop (mkF m 68 #[.val (.ref r0), .val (.int p1), .val (.int at_), .val (.ref lv), .val (.int (Int32.ofNat d)), .val (.int kI), s6] []))
      exact Owes.retV X hx hlk hret (hb hby d6_68) (by decide) (by decide) (by rw [e0]; exact ⟨rfl, N, W, F, fun j hj => H1 j (by omega)⟩)
    | succ r ih =>
      intro k hk0 at_ kI T locs h W s6 o6 X e0 N F H1 H2 ha hkI hno
      have hk : k < d := by omega
      have hidx := FT.at hn k hk
      have F0 := F
      refine Owes.go ?_ fun t₀ k₀ => XS.iload X.here hx rfl (hb hby d6_14) rfl k₀
      show Owes _ _ _ _ (T.setTop (mkF m 16 #[.val (.ref r0), .val (.int p1), .val (.int at_), .val (.ref lv), .val (.int (Int32.ofNat d)), .val (.int kI), s6] [(.int kI)]))
      refine Owes.go ?_ fun t₀ k₀ => XS.iload X.here hx rfl (hb hby d6_16) rfl k₀
      show Owes _ _ _ _ (T.setTop (mkF m 18 #[.val (.ref r0), .val (.int p1), .val (.int at_), .val (.ref lv), .val (.int (Int32.ofNat d)), .val (.int kI), s6] [(.int (Int32.ofNat d)), (.int kI)]))
      refine Owes.go ?_ fun t₀ k₀ => XS.icmpNo X.here hx rfl (hb hby d6_18) rfl (tlt (own_lti hkI (own_ofNat (by omega)) hk)).2.1 k₀
      show Owes _ _ _ _ (T.setTop (mkF m 21 #[.val (.ref r0), .val (.int p1), .val (.int at_), .val (.ref lv), .val (.int (Int32.ofNat d)), .val (.int kI), s6] []))
      refine Owes.go ?_ fun t₀ k₀ => XS.aloadN X.here hx rfl (hb hby d6_21) rfl rfl k₀
      show Owes _ _ _ _ (T.setTop (mkF m 22 #[.val (.ref r0), .val (.int p1), .val (.int at_), .val (.ref lv), .val (.int (Int32.ofNat d)), .val (.int kI), s6] [(.ref lv)]))
      refine Owes.go ?_ fun t₀ k₀ => XS.iload X.here hx rfl (hb hby d6_22) rfl k₀
      show Owes _ _ _ _ (T.setTop (mkF m 24 #[.val (.ref r0), .val (.int p1), .val (.int at_), .val (.ref lv), .val (.int (Int32.ofNat d)), .val (.int kI), s6] [(.int kI), (.ref lv)]))
      refine Owes.gR X hx hZ e0 F.2.2.1 rfl hkI hk (v := .ref (g k)) rfl (hb hby d6_24) ?_
      show Owes _ _ _ _ (T.setTop (mkF m 25 #[.val (.ref r0), .val (.int p1), .val (.int at_), .val (.ref lv), .val (.int (Int32.ofNat d)), .val (.int kI), s6] [(.ref (g k))]))
      refine Owes.go ?_ fun t₀ k₀ => XS.astore X.here hx rfl (hb hby d6_25) rfl rfl (l' := #[.val (.ref r0), .val (.int p1), .val (.int at_), .val (.ref lv), .val (.int (Int32.ofNat d)), .val (.int kI), .val (.ref (g k))]) (XS.store1 rfl o6 rfl) k₀
      show Owes _ _ _ _ (T.setTop (mkF m 27 #[.val (.ref r0), .val (.int p1), .val (.int at_), .val (.ref lv), .val (.int (Int32.ofNat d)), .val (.int kI), .val (.ref (g k))] []))
      refine Owes.go ?_ fun t₀ k₀ => XS.aload X.here hx rfl (hb hby d6_27) rfl rfl k₀
      show Owes _ _ _ _ (T.setTop (mkF m 29 #[.val (.ref r0), .val (.int p1), .val (.int at_), .val (.ref lv), .val (.int (Int32.ofNat d)), .val (.int kI), .val (.ref (g k))] [(.ref (g k))]))
      refine Owes.go ?_ fun t₀ k₀ => XS.iloadN X.here hx rfl (hb hby d6_29) rfl k₀
      show Owes _ _ _ _ (T.setTop (mkF m 30 #[.val (.ref r0), .val (.int p1), .val (.int at_), .val (.ref lv), .val (.int (Int32.ofNat d)), .val (.int kI), .val (.ref (g k))] [(.int at_), (.ref (g k))]))
      refine Owes.go ?_ fun t₀ k₀ => XS.bipush X.here hx rfl (hb hby d6_30) k₀
      show Owes _ _ _ _ (T.setTop (mkF m 32 #[.val (.ref r0), .val (.int p1), .val (.int at_), .val (.ref lv), .val (.int (Int32.ofNat d)), .val (.int kI), .val (.ref (g k))] [(.int (6 : Int32)), (.int at_), (.ref (g k))]))
      refine Owes.go ?_ fun t₀ k₀ => XS.iushr X.here hx rfl (hb hby d6_32) rfl k₀
      show Owes _ _ _ _ (T.setTop (mkF m 33 #[.val (.ref r0), .val (.int p1), .val (.int at_), .val (.ref lv), .val (.int (Int32.ofNat d)), .val (.int kI), .val (.ref (g k))] [(.int ((at_.toUInt32 >>> ((6 : Int32) &&& 31).toUInt32).toInt32)), (.ref (g k))]))
      refine Owes.go ?_ fun t₀ k₀ => Jvm.Free.XT.dup2 X.here hx rfl (hb hby d6_33) rfl rfl rfl k₀
      show Owes _ _ _ _ (T.setTop (mkF m 34 #[.val (.ref r0), .val (.int p1), .val (.int at_), .val (.ref lv), .val (.int (Int32.ofNat d)), .val (.int kI), .val (.ref (g k))] [(.int ((at_.toUInt32 >>> ((6 : Int32) &&& 31).toUInt32).toInt32)), (.ref (g k)), (.int ((at_.toUInt32 >>> ((6 : Int32) &&& 31).toUInt32).toInt32)), (.ref (g k))]))
      refine Owes.gJ X hx hZ e0 (F.2.2.2.1 k hk).1 (own_sh6 ha) hidx (v := .long (W k (n / 64 ^ k / 64))) rfl (hb hby d6_34) ?_
      show Owes _ _ _ _ (T.setTop (mkF m 35 #[.val (.ref r0), .val (.int p1), .val (.int at_), .val (.ref lv), .val (.int (Int32.ofNat d)), .val (.int kI), .val (.ref (g k))] [(.long (W k (n / 64 ^ k / 64))), (.int ((at_.toUInt32 >>> ((6 : Int32) &&& 31).toUInt32).toInt32)), (.ref (g k))]))
      refine Owes.go ?_ fun t₀ k₀ => XS.lconst X.here hx rfl (hb hby d6_35) k₀
      show Owes _ _ _ _ (T.setTop (mkF m 36 #[.val (.ref r0), .val (.int p1), .val (.int at_), .val (.ref lv), .val (.int (Int32.ofNat d)), .val (.int kI), .val (.ref (g k))] [(.long (1 : Int64)), (.long (W k (n / 64 ^ k / 64))), (.int ((at_.toUInt32 >>> ((6 : Int32) &&& 31).toUInt32).toInt32)), (.ref (g k))]))
      refine Owes.go ?_ fun t₀ k₀ => XS.iloadN X.here hx rfl (hb hby d6_36) rfl k₀
      show Owes _ _ _ _ (T.setTop (mkF m 37 #[.val (.ref r0), .val (.int p1), .val (.int at_), .val (.ref lv), .val (.int (Int32.ofNat d)), .val (.int kI), .val (.ref (g k))] [(.int at_), (.long (1 : Int64)), (.long (W k (n / 64 ^ k / 64))), (.int ((at_.toUInt32 >>> ((6 : Int32) &&& 31).toUInt32).toInt32)), (.ref (g k))]))
      refine Owes.go ?_ fun t₀ k₀ => XS.lshl X.here hx rfl (hb hby d6_37) rfl k₀
      show Owes _ _ _ _ (T.setTop (mkF m 38 #[.val (.ref r0), .val (.int p1), .val (.int at_), .val (.ref lv), .val (.int (Int32.ofNat d)), .val (.int kI), .val (.ref (g k))] [(.long ((1 : Int64) <<< (at_ &&& 0x3f).toInt64)), (.long (W k (n / 64 ^ k / 64))), (.int ((at_.toUInt32 >>> ((6 : Int32) &&& 31).toUInt32).toInt32)), (.ref (g k))]))
      refine Owes.go ?_ fun t₀ k₀ => X.ldc2Long hx hown (mvT hZ (hw _ (List.mem_of_getElem? (i := 32) rfl))) (g := (mkF m 38 #[.val (.ref r0), .val (.int p1), .val (.int at_), .val (.ref lv), .val (.int (Int32.ofNat d)), .val (.int kI), .val (.ref (g k))] [(.long ((1 : Int64) <<< (at_ &&& 0x3f).toInt64)), (.long (W k (n / 64 ^ k / 64))), (.int ((at_.toUInt32 >>> ((6 : Int32) &&& 31).toUInt32).toInt32)), (.ref (g k))])) rfl (hb hby d6_38) _ k₀
      show Owes _ _ _ _ (T.setTop (mkF m 41 #[.val (.ref r0), .val (.int p1), .val (.int at_), .val (.ref lv), .val (.int (Int32.ofNat d)), .val (.int kI), .val (.ref (g k))] [(.long (-1 : Int64)), (.long ((1 : Int64) <<< (at_ &&& 0x3f).toInt64)), (.long (W k (n / 64 ^ k / 64))), (.int ((at_.toUInt32 >>> ((6 : Int32) &&& 31).toUInt32).toInt32)), (.ref (g k))]))
      refine Owes.go ?_ fun t₀ k₀ => XS.lxor X.here hx rfl (hb hby d6_41) rfl k₀
      show Owes _ _ _ _ (T.setTop (mkF m 42 #[.val (.ref r0), .val (.int p1), .val (.int at_), .val (.ref lv), .val (.int (Int32.ofNat d)), .val (.int kI), .val (.ref (g k))] [(.long (((1 : Int64) <<< (at_ &&& 0x3f).toInt64) ^^^ (-1 : Int64))), (.long (W k (n / 64 ^ k / 64))), (.int ((at_.toUInt32 >>> ((6 : Int32) &&& 31).toUInt32).toInt32)), (.ref (g k))]))
      refine Owes.go ?_ fun t₀ k₀ => XS.land X.here hx rfl (hb hby d6_42) rfl k₀
      show Owes _ _ _ _ (T.setTop (mkF m 43 #[.val (.ref r0), .val (.int p1), .val (.int at_), .val (.ref lv), .val (.int (Int32.ofNat d)), .val (.int kI), .val (.ref (g k))] [(.long ((W k (n / 64 ^ k / 64)) &&& (((1 : Int64) <<< (at_ &&& 0x3f).toInt64) ^^^ (-1 : Int64)))), (.int ((at_.toUInt32 >>> ((6 : Int32) &&& 31).toUInt32).toInt32)), (.ref (g k))]))
      refine Owes.sJ X hx hZ e0 (F.2.2.2.1 k hk).1 (own_sh6 ha) hidx (hb hby d6_43) ?_
      intro T20 h20 X20 e20 W20 G20
      have F20 := F.wr wi hk W20
      have N20 := Fr.snoc X20 N (F.2.2.2.1 k hk).2
      have HL20 : LV (fun x => M x ∧ x ≠ n) k (len k) (upd (W k) (n / 64 ^ k / 64) ((W k (n / 64 ^ k / 64)) &&& (((1 : Int64) <<< (at_ &&& 0x3f).toInt64) ^^^ (-1 : Int64)))) := (H2 k (Nat.le_refl _) hk).del n at_ ha hno
      show Owes _ _ _ _ (T20.setTop (mkF m 44 #[.val (.ref r0), .val (.int p1), .val (.int at_), .val (.ref lv), .val (.int (Int32.ofNat d)), .val (.int kI), .val (.ref (g k))] []))
      refine Owes.go ?_ fun t₀ k₀ => XS.aload X20.here hx rfl (hb hby d6_44) rfl rfl k₀
      show Owes _ _ _ _ (T20.setTop (mkF m 46 #[.val (.ref r0), .val (.int p1), .val (.int at_), .val (.ref lv), .val (.int (Int32.ofNat d)), .val (.int kI), .val (.ref (g k))] [(.ref (g k))]))
      refine Owes.go ?_ fun t₀ k₀ => XS.iloadN X20.here hx rfl (hb hby d6_46) rfl k₀
      show Owes _ _ _ _ (T20.setTop (mkF m 47 #[.val (.ref r0), .val (.int p1), .val (.int at_), .val (.ref lv), .val (.int (Int32.ofNat d)), .val (.int kI), .val (.ref (g k))] [(.int at_), (.ref (g k))]))
      refine Owes.go ?_ fun t₀ k₀ => XS.bipush X20.here hx rfl (hb hby d6_47) k₀
      show Owes _ _ _ _ (T20.setTop (mkF m 49 #[.val (.ref r0), .val (.int p1), .val (.int at_), .val (.ref lv), .val (.int (Int32.ofNat d)), .val (.int kI), .val (.ref (g k))] [(.int (6 : Int32)), (.int at_), (.ref (g k))]))
      refine Owes.go ?_ fun t₀ k₀ => XS.iushr X20.here hx rfl (hb hby d6_49) rfl k₀
      show Owes _ _ _ _ (T20.setTop (mkF m 50 #[.val (.ref r0), .val (.int p1), .val (.int at_), .val (.ref lv), .val (.int (Int32.ofNat d)), .val (.int kI), .val (.ref (g k))] [(.int ((at_.toUInt32 >>> ((6 : Int32) &&& 31).toUInt32).toInt32)), (.ref (g k))]))
      refine Owes.gJ X20 hx hZ e20 (F20.2.2.2.1 k hk).1 (own_sh6 ha) hidx (v := .long ((W k (n / 64 ^ k / 64)) &&& (((1 : Int64) <<< (at_ &&& 0x3f).toInt64) ^^^ (-1 : Int64)))) (by show Value.long (upd W k (upd (W k) (n / 64 ^ k / 64) _) k (n / 64 ^ k / 64)) = _; rw [upd_same, upd_same]) (hb hby d6_50) ?_
      show Owes _ _ _ _ (T20.setTop (mkF m 51 #[.val (.ref r0), .val (.int p1), .val (.int at_), .val (.ref lv), .val (.int (Int32.ofNat d)), .val (.int kI), .val (.ref (g k))] [(.long ((W k (n / 64 ^ k / 64)) &&& (((1 : Int64) <<< (at_ &&& 0x3f).toInt64) ^^^ (-1 : Int64))))]))
      refine Owes.go ?_ fun t₀ k₀ => XS.lconst X20.here hx rfl (hb hby d6_51) k₀
      show Owes _ _ _ _ (T20.setTop (mkF m 52 #[.val (.ref r0), .val (.int p1), .val (.int at_), .val (.ref lv), .val (.int (Int32.ofNat d)), .val (.int kI), .val (.ref (g k))] [(.long (0 : Int64)), (.long ((W k (n / 64 ^ k / 64)) &&& (((1 : Int64) <<< (at_ &&& 0x3f).toInt64) ^^^ (-1 : Int64))))]))
      refine Owes.go ?_ fun t₀ k₀ => XS.lcmp X20.here hx rfl (hb hby d6_52) rfl k₀
      show Owes _ _ _ _ (T20.setTop (mkF m 53 #[.val (.ref r0), .val (.int p1), .val (.int at_), .val (.ref lv), .val (.int (Int32.ofNat d)), .val (.int kI), .val (.ref (g k))] [(.int (lcmpW ((W k (n / 64 ^ k / 64)) &&& (((1 : Int64) <<< (at_ &&& 0x3f).toInt64) ^^^ (-1 : Int64))) (0 : Int64)))]))
      by_cases hc1 : ((W k (n / 64 ^ k / 64)) &&& (((1 : Int64) <<< (at_ &&& 0x3f).toInt64) ^^^ (-1 : Int64))) = (0 : Int64)
      · skip
        refine Owes.go ?_ fun t₀ k₀ => XS.ifYes X20.here hx rfl (pc0 := 53) (pc' := 57) rfl (hb hby d6_53) rfl ((if0 _ _).trans (teq ((lw_eq _ _).mpr hc1)).1) (by decide) (by decide) k₀
        show Owes _ _ _ _ (T20.setTop (mkF m 57 #[.val (.ref r0), .val (.int p1), .val (.int at_), .val (.ref lv), .val (.int (Int32.ofNat d)), .val (.int kI), .val (.ref (g k))] []))
        refine Owes.go ?_ fun t₀ k₀ => XS.iloadN X20.here hx rfl (hb hby d6_57) rfl k₀
        show Owes _ _ _ _ (T20.setTop (mkF m 58 #[.val (.ref r0), .val (.int p1), .val (.int at_), .val (.ref lv), .val (.int (Int32.ofNat d)), .val (.int kI), .val (.ref (g k))] [(.int at_)]))
        refine Owes.go ?_ fun t₀ k₀ => XS.bipush X20.here hx rfl (hb hby d6_58) k₀
        show Owes _ _ _ _ (T20.setTop (mkF m 60 #[.val (.ref r0), .val (.int p1), .val (.int at_), .val (.ref lv), .val (.int (Int32.ofNat d)), .val (.int kI), .val (.ref (g k))] [(.int (6 : Int32)), (.int at_)]))
        refine Owes.go ?_ fun t₀ k₀ => XS.iushr X20.here hx rfl (hb hby d6_60) rfl k₀
        show Owes _ _ _ _ (T20.setTop (mkF m 61 #[.val (.ref r0), .val (.int p1), .val (.int at_), .val (.ref lv), .val (.int (Int32.ofNat d)), .val (.int kI), .val (.ref (g k))] [(.int ((at_.toUInt32 >>> ((6 : Int32) &&& 31).toUInt32).toInt32))]))
        refine Owes.go ?_ fun t₀ k₀ => XS.istoreN X20.here hx rfl (hb hby d6_61) rfl (l' := #[.val (.ref r0), .val (.int p1), .val (.int ((at_.toUInt32 >>> ((6 : Int32) &&& 31).toUInt32).toInt32)), .val (.ref lv), .val (.int (Int32.ofNat d)), .val (.int kI), .val (.ref (g k))]) rfl k₀
        show Owes _ _ _ _ (T20.setTop (mkF m 62 #[.val (.ref r0), .val (.int p1), .val (.int ((at_.toUInt32 >>> ((6 : Int32) &&& 31).toUInt32).toInt32)), .val (.ref lv), .val (.int (Int32.ofNat d)), .val (.int kI), .val (.ref (g k))] []))
        refine Owes.go ?_ fun t₀ k₀ => XS.iinc X20.here hx rfl (hb hby d6_62) rfl (l' := #[.val (.ref r0), .val (.int p1), .val (.int ((at_.toUInt32 >>> ((6 : Int32) &&& 31).toUInt32).toInt32)), .val (.ref lv), .val (.int (Int32.ofNat d)), .val (.int (kI + (1 : Int32))), .val (.ref (g k))]) rfl k₀
        show Owes _ _ _ _ (T20.setTop (mkF m 65 #[.val (.ref r0), .val (.int p1), .val (.int ((at_.toUInt32 >>> ((6 : Int32) &&& 31).toUInt32).toInt32)), .val (.ref lv), .val (.int (Int32.ofNat d)), .val (.int (kI + (1 : Int32))), .val (.ref (g k))] []))
        refine Owes.go ?_ fun t₀ k₀ => XS.goto X20.here hx rfl (pc0 := 65) (pc' := 14) rfl (hb hby d6_65) (by decide) (by decide) k₀
        show Owes _ _ _ _ (T20.setTop (mkF m 14 #[.val (.ref r0), .val (.int p1), .val (.int ((at_.toUInt32 >>> ((6 : Int32) &&& 31).toUInt32).toInt32)), .val (.ref lv), .val (.int (Int32.ofNat d)), .val (.int (kI + (1 : Int32))), .val (.ref (g k))] []))
        exact ih (k + 1) (by omega) _ _ T20 _ h20 _ _ (One.val rfl) X20 e20 N20 F20 (fun j hj => by
            by_cases q : j = k
            · subst q; rw [upd_same]; exact HL20
            · rw [upd_ne _ _ q]; exact H1 j (by omega)) (fun j hj hj' => by rw [upd_ne _ _ (by omega)]; exact H2 j (by omega) hj') (by rw [dk_succ]; exact own_sh6 ha) (own_inc hkI (by omega)) (fun x hx hne => LV.none HL20 hidx (by rw [upd_same]; exact hc1) x ⟨hx, hne⟩)
      · skip
        refine Owes.go ?_ fun t₀ k₀ => XS.ifNo X20.here hx rfl (hb hby d6_53) rfl ((if0 _ _).trans (feq (fun q => hc1 ((lw_eq _ _).mp q))).1) k₀
        show Owes _ _ _ _ (T20.setTop (mkF m 56 #[.val (.ref r0), .val (.int p1), .val (.int at_), .val (.ref lv), .val (.int (Int32.ofNat d)), .val (.int kI), .val (.ref (g k))] []))
        exact Owes.retV X20 hx hlk hret (hb hby d6_56) (by decide) (by decide) (by rw [e20]; exact ⟨rfl, N20, _, F20, fun j hj => by
            by_cases q : j = k
            · subst q; rw [upd_same]; exact HL20
            · rw [upd_ne _ _ q]
              by_cases q' : j < k
              · exact H1 j q'
              · exact (H2 j (by omega) hj).less (show k + 1 ≤ j by omega) (LV.up HL20 hidx (by rw [upd_same]; exact hc1))⟩)
  exact loop d 0 (by omega) p1 _ T19 _ h0 W .unset One.u X19 e19 (Fr.nil n0) F0 (fun j hj => absurd hj (Nat.not_lt_zero _)) (fun j _ hj => H0 j hj) (by rw [Nat.pow_zero, Nat.div_one]; exact hp) rfl (fun x _ hne => by rw [Nat.pow_zero, Nat.div_one, Nat.div_one]; exact hne)
theorem d7_89 : decode prog_118_method_5_code 89 = .ok (.iload_n 2, 1) := by decide +kernel
theorem d7_90 : decode prog_118_method_5_code 90 = .ok (.ifCond .le 26, 3) := by decide +kernel
theorem d7_116 : decode prog_118_method_5_code 116 = .ok (.iload_n 3, 1) := by decide +kernel
theorem d7_117 : decode prog_118_method_5_code 117 = .ok (.ireturn, 1) := by decide +kernel
theorem d7_93 : decode prog_118_method_5_code 93 = .ok (.iinc 2 (-1), 3) := by decide +kernel
theorem d7_96 : decode prog_118_method_5_code 96 = .ok (.iload_n 3, 1) := by decide +kernel
theorem d7_97 : decode prog_118_method_5_code 97 = .ok (.bipush 6, 2) := by decide +kernel
theorem d7_99 : decode prog_118_method_5_code 99 = .ok (.ishl, 1) := by decide +kernel
theorem d7_100 : decode prog_118_method_5_code 100 = .ok (.aload_n 0, 1) := by decide +kernel
theorem d7_101 : decode prog_118_method_5_code 101 = .ok (.getfield 15, 3) := by decide +kernel
theorem d7_104 : decode prog_118_method_5_code 104 = .ok (.iload_n 2, 1) := by decide +kernel
theorem d7_105 : decode prog_118_method_5_code 105 = .ok (.aaload, 1) := by decide +kernel
theorem d7_106 : decode prog_118_method_5_code 106 = .ok (.iload_n 3, 1) := by decide +kernel
theorem d7_107 : decode prog_118_method_5_code 107 = .ok (.laload, 1) := by decide +kernel
theorem d7_108 : decode prog_118_method_5_code 108 = .ok (.invokestatic 33, 3) := by decide +kernel
theorem pd_2 : parseMethodDescriptor "(J)I" = some ⟨[.long], some .int⟩ := by decide +kernel
theorem d7_111 : decode prog_118_method_5_code 111 = .ok (.iadd, 1) := by decide +kernel
theorem d7_112 : decode prog_118_method_5_code 112 = .ok (.istore_n 3, 1) := by decide +kernel
theorem d7_113 : decode prog_118_method_5_code 113 = .ok (.goto (-24), 3) := by decide +kernel
theorem d7_7 : decode prog_118_method_5_code 7 = .ok (.lload 4, 2) := by decide +kernel
theorem d7_9 : decode prog_118_method_5_code 9 = .ok (.lconst 0, 1) := by decide +kernel
theorem d7_10 : decode prog_118_method_5_code 10 = .ok (.lcmp, 1) := by decide +kernel
theorem d7_11 : decode prog_118_method_5_code 11 = .ok (.ifCond .ne 67, 3) := by decide +kernel
theorem d7_14 : decode prog_118_method_5_code 14 = .ok (.iload_n 2, 1) := by decide +kernel
theorem d7_15 : decode prog_118_method_5_code 15 = .ok (.aload_n 0, 1) := by decide +kernel
theorem d7_16 : decode prog_118_method_5_code 16 = .ok (.getfield 15, 3) := by decide +kernel
theorem d7_19 : decode prog_118_method_5_code 19 = .ok (.arraylength, 1) := by decide +kernel
theorem d7_20 : decode prog_118_method_5_code 20 = .ok (.if_icmp .eq 17, 3) := by decide +kernel
theorem d7_37 : decode prog_118_method_5_code 37 = .ok (.iconst (-1), 1) := by decide +kernel
theorem d7_38 : decode prog_118_method_5_code 38 = .ok (.ireturn, 1) := by decide +kernel
theorem d7_23 : decode prog_118_method_5_code 23 = .ok (.iload_n 3, 1) := by decide +kernel
theorem d7_24 : decode prog_118_method_5_code 24 = .ok (.bipush 6, 2) := by decide +kernel
theorem d7_26 : decode prog_118_method_5_code 26 = .ok (.iushr, 1) := by decide +kernel
theorem d7_27 : decode prog_118_method_5_code 27 = .ok (.aload_n 0, 1) := by decide +kernel
theorem d7_28 : decode prog_118_method_5_code 28 = .ok (.getfield 15, 3) := by decide +kernel
theorem d7_31 : decode prog_118_method_5_code 31 = .ok (.iload_n 2, 1) := by decide +kernel
theorem d7_32 : decode prog_118_method_5_code 32 = .ok (.aaload, 1) := by decide +kernel
theorem d7_33 : decode prog_118_method_5_code 33 = .ok (.arraylength, 1) := by decide +kernel
theorem d7_34 : decode prog_118_method_5_code 34 = .ok (.if_icmp .lt 5, 3) := by decide +kernel
theorem d7_39 : decode prog_118_method_5_code 39 = .ok (.aload_n 0, 1) := by decide +kernel
theorem d7_40 : decode prog_118_method_5_code 40 = .ok (.getfield 15, 3) := by decide +kernel
theorem d7_43 : decode prog_118_method_5_code 43 = .ok (.iload_n 2, 1) := by decide +kernel
theorem d7_44 : decode prog_118_method_5_code 44 = .ok (.aaload, 1) := by decide +kernel
theorem d7_45 : decode prog_118_method_5_code 45 = .ok (.iload_n 3, 1) := by decide +kernel
theorem d7_46 : decode prog_118_method_5_code 46 = .ok (.bipush 6, 2) := by decide +kernel
theorem d7_48 : decode prog_118_method_5_code 48 = .ok (.iushr, 1) := by decide +kernel
theorem d7_49 : decode prog_118_method_5_code 49 = .ok (.laload, 1) := by decide +kernel
theorem d7_50 : decode prog_118_method_5_code 50 = .ok (.ldc2_w 25, 3) := by decide +kernel
theorem d7_53 : decode prog_118_method_5_code 53 = .ok (.iload_n 3, 1) := by decide +kernel
theorem d7_54 : decode prog_118_method_5_code 54 = .ok (.lshl, 1) := by decide +kernel
theorem d7_55 : decode prog_118_method_5_code 55 = .ok (.land, 1) := by decide +kernel
theorem d7_56 : decode prog_118_method_5_code 56 = .ok (.lstore 4, 2) := by decide +kernel
theorem d7_58 : decode prog_118_method_5_code 58 = .ok (.lload 4, 2) := by decide +kernel
theorem d7_60 : decode prog_118_method_5_code 60 = .ok (.lconst 0, 1) := by decide +kernel
theorem d7_61 : decode prog_118_method_5_code 61 = .ok (.lcmp, 1) := by decide +kernel
theorem d7_62 : decode prog_118_method_5_code 62 = .ok (.ifCond .ne (-55), 3) := by decide +kernel
theorem d7_65 : decode prog_118_method_5_code 65 = .ok (.iload_n 3, 1) := by decide +kernel
theorem d7_66 : decode prog_118_method_5_code 66 = .ok (.bipush 6, 2) := by decide +kernel
theorem d7_68 : decode prog_118_method_5_code 68 = .ok (.iushr, 1) := by decide +kernel
theorem d7_69 : decode prog_118_method_5_code 69 = .ok (.iconst 1, 1) := by decide +kernel
theorem d7_70 : decode prog_118_method_5_code 70 = .ok (.iadd, 1) := by decide +kernel
theorem d7_71 : decode prog_118_method_5_code 71 = .ok (.istore_n 3, 1) := by decide +kernel
theorem d7_72 : decode prog_118_method_5_code 72 = .ok (.iinc 2 1, 3) := by decide +kernel
theorem d7_75 : decode prog_118_method_5_code 75 = .ok (.goto (-68), 3) := by decide +kernel
theorem d7_78 : decode prog_118_method_5_code 78 = .ok (.iload_n 3, 1) := by decide +kernel
theorem d7_79 : decode prog_118_method_5_code 79 = .ok (.bipush (-64), 2) := by decide +kernel
theorem d7_81 : decode prog_118_method_5_code 81 = .ok (.iand, 1) := by decide +kernel
theorem d7_82 : decode prog_118_method_5_code 82 = .ok (.lload 4, 2) := by decide +kernel
theorem d7_84 : decode prog_118_method_5_code 84 = .ok (.invokestatic 33, 3) := by decide +kernel
theorem d7_87 : decode prog_118_method_5_code 87 = .ok (.iadd, 1) := by decide +kernel
theorem d7_88 : decode prog_118_method_5_code 88 = .ok (.istore_n 3, 1) := by decide +kernel
theorem d7_0 : decode prog_118_method_5_code 0 = .ok (.iconst 0, 1) := by decide +kernel
theorem d7_1 : decode prog_118_method_5_code 1 = .ok (.istore_n 2, 1) := by decide +kernel
theorem d7_2 : decode prog_118_method_5_code 2 = .ok (.iload_n 1, 1) := by decide +kernel
theorem d7_3 : decode prog_118_method_5_code 3 = .ok (.istore_n 3, 1) := by decide +kernel
theorem d7_4 : decode prog_118_method_5_code 4 = .ok (.lconst 0, 1) := by decide +kernel
theorem d7_5 : decode prog_118_method_5_code 5 = .ok (.lstore 4, 2) := by decide +kernel
theorem ef_7 (m : MethodId) (r0 : Addr) (p1 : Int32) : entryFrame m #[(.ref r0), (.int p1)] 6 = mkF m 0 #[.val (.ref r0), .val (.int p1), .unset, .unset, .unset, .unset] [] := by first | (simp [entryFrame, mkF, argsToLocals, Value.category]; done) | rfl
theorem pn_7 : plainFor (⟨"com/example/slotwright/slotwright/core/RankSet", "next", "(I)I"⟩ : MethodName) = true := plainFor_of_name (by first | (simp [plainName, overriddenIn]; done) | decide +kernel)
set_option maxRecDepth 65536 in
set_option maxHeartbeats 40000000 in
theorem rm_next (l : Launch) (Z : State) (a0 : Array Value) (hw : ∀ d ∈ tables_1, d.before a0 Z = true) (ws : List Jvm.Cond) (r0 : Addr) (p1 : Int32) (h0 : Heap) (n0 : Nat) (lv : Addr) (d : Nat) (g : Nat → Addr) (len : Nat → Nat) (W : Nat → Nat → Int64) (M : Nat → Prop) (size : Nat) (F0 : RS Z h0 n0 r0 lv d g len W) (H0 : ∀ k, k < d → LV M k (len k) (W k)) (FT : Fits size d len) (HM : ∀ x, M x → x < size) (fr : Nat) (hp : p1.toInt = (fr : Int)) :
    OMet l (⟨"com/example/slotwright/slotwright/core/RankSet", "next", "(I)I"⟩ : MethodName) prog_118_method_5_code 6 (some .int) ws ({ frames := 2, cells := 0, slots := 0, locals := 31 } : Room) #[(.ref r0), (.int p1)] Z h0 (fun v h L => ∃ r : Int32, v = some (.int r) ∧ L = [] ∧ h = h0 ∧ NextIs M fr r.toInt) := by
  refine OMet.of pn_7 (fun m => ef_7 m r0 p1) ?_
  intro p e s m below meth c s₁ hx hby hml hown hnm hret hlk hZ X0 e0
  have hd20 := FT.2.1
  have hd0 := FT.1
  have dn : ∀ (k : Nat), k < d → ∀ (kI yI : Int32) (bz : Int64) (T : State), Stand p l e ({ frames := 2, cells := 0, slots := 0, locals := 31 } : Room) s m #[(.ref r0), (.int p1)] below meth c T [] 0 0 → T.heap = h0 → kI.toInt = (k : Int) → ∀ y : Nat, yI.toInt = (y : Int) → Dn M fr k y → Owes p e below (EndN s (fun v h L => ∃ r : Int32, v = some (.int r) ∧ L = [] ∧ h = h0 ∧ NextIs M fr r.toInt) ({ frames := 2, cells := 0, slots := 0, locals := 31 } : Room).cells ({ frames := 2, cells := 0, slots := 0, locals := 31 } : Room).slots) (T.setTop (mkF m 89 #[.val (.ref r0), .val (.int p1), .val (.int kI), .val (.int yI), .val (.long bz), .second] [])) := by
    intro k
    induction k with
    | zero =>
      intro _ kI yI bz T X eT hkI y hy D
      refine Owes.go ?_ fun t₀ k₀ => XS.iloadN X.here hx rfl (hb hby d7_89) rfl k₀
      show Owes _ _ _ _ (T.setTop (mkF m 90 #[.val (.ref r0), .val (.int p1), .val (.int kI), .val (.int yI), .val (.long bz), .second] [(.int kI)]))
      refine Owes.go ?_ fun t₀ k₀ => XS.ifYes X.here hx rfl (pc0 := 90) (pc' := 116) rfl (hb hby d7_90) rfl ((if0 _ _).trans (flt (own_zero hkI)).2.2.2) (by decide) (by decide) k₀
      show Owes _ _ _ _ (T.setTop (mkF m 116 #[.val (.ref r0), .val (.int p1), .val (.int kI), .val (.int yI), .val (.long bz), .second] []))
      refine Owes.go ?_ fun t₀ k₀ => XS.iloadN X.here hx rfl (hb hby d7_116) rfl k₀
      show Owes _ _ _ _ (T.setTop (mkF m 117 #[.val (.ref r0), .val (.int p1), .val (.int kI), .val (.int yI), .val (.long bz), .second] [(.int yI)]))
      exact Owes.retI X hx hlk hret (hb hby d7_117) (by decide) (by decide) ⟨yI, rfl, rfl, eT, by rw [hy]; exact D.last⟩
    | succ k ih =>
      intro hk1 kI yI bz T X eT hkI y hy D
      have hk : k < d := by omega
      have hidx : y < len k := by
        obtain ⟨x, q1, q2⟩ := D.1
        rw [← q2, dk_succ]
        exact FT.at (HM x q1) k hk
      have hlen := FT.2.2.2.2.2 k hk
      obtain ⟨t, ht⟩ := Low.ex (D.word (H0 k hk) hidx)
      have hz := own_ntzJ _ t ht
      refine Owes.go ?_ fun t₀ k₀ => XS.iloadN X.here hx rfl (hb hby d7_89) rfl k₀
      show Owes _ _ _ _ (T.setTop (mkF m 90 #[.val (.ref r0), .val (.int p1), .val (.int kI), .val (.int yI), .val (.long bz), .second] [(.int kI)]))
      refine Owes.go ?_ fun t₀ k₀ => XS.ifNo X.here hx rfl (hb hby d7_90) rfl ((if0 _ _).trans (tlt (own_pos hkI)).2.2.2) k₀
      show Owes _ _ _ _ (T.setTop (mkF m 93 #[.val (.ref r0), .val (.int p1), .val (.int kI), .val (.int yI), .val (.long bz), .second] []))
      refine Owes.go ?_ fun t₀ k₀ => XS.iinc X.here hx rfl (hb hby d7_93) rfl (l' := #[.val (.ref r0), .val (.int p1), .val (.int (kI + (-1 : Int32))), .val (.int yI), .val (.long bz), .second]) rfl k₀
      show Owes _ _ _ _ (T.setTop (mkF m 96 #[.val (.ref r0), .val (.int p1), .val (.int (kI + (-1 : Int32))), .val (.int yI), .val (.long bz), .second] []))
      refine Owes.go ?_ fun t₀ k₀ => XS.iloadN X.here hx rfl (hb hby d7_96) rfl k₀
      show Owes _ _ _ _ (T.setTop (mkF m 97 #[.val (.ref r0), .val (.int p1), .val (.int (kI + (-1 : Int32))), .val (.int yI), .val (.long bz), .second] [(.int yI)]))
      refine Owes.go ?_ fun t₀ k₀ => XS.bipush X.here hx rfl (hb hby d7_97) k₀
      show Owes _ _ _ _ (T.setTop (mkF m 99 #[.val (.ref r0), .val (.int p1), .val (.int (kI + (-1 : Int32))), .val (.int yI), .val (.long bz), .second] [(.int (6 : Int32)), (.int yI)]))
      refine Owes.go ?_ fun t₀ k₀ => XS.ishl X.here hx rfl (hb hby d7_99) rfl k₀
      show Owes _ _ _ _ (T.setTop (mkF m 100 #[.val (.ref r0), .val (.int p1), .val (.int (kI + (-1 : Int32))), .val (.int yI), .val (.long bz), .second] [(.int (yI <<< ((6 : Int32) &&& 31)))]))
      refine Owes.go ?_ fun t₀ k₀ => XS.aloadN X.here hx rfl (hb hby d7_100) rfl rfl k₀
      show Owes _ _ _ _ (T.setTop (mkF m 101 #[.val (.ref r0), .val (.int p1), .val (.int (kI + (-1 : Int32))), .val (.int yI), .val (.long bz), .second] [(.ref r0), (.int (yI <<< ((6 : Int32) &&& 31)))]))
      obtain ⟨T21, X21, e21, st21⟩ := getF X hx hZ hown (host := "") (Or.inl (hw _ (List.mem_of_getElem? (i := 14) rfl))) Via.refl eT F0.2.1 (g := (mkF m 101 #[.val (.ref r0), .val (.int p1), .val (.int (kI + (-1 : Int32))), .val (.int yI), .val (.long bz), .second] [(.ref r0), (.int (yI <<< ((6 : Int32) &&& 31)))])) rfl rfl (hb hby d7_101)
      refine Owes.go ?_ st21
      show Owes _ _ _ _ (T21.setTop (mkF m 104 #[.val (.ref r0), .val (.int p1), .val (.int (kI + (-1 : Int32))), .val (.int yI), .val (.long bz), .second] [(.ref lv), (.int (yI <<< ((6 : Int32) &&& 31)))]))
      refine Owes.go ?_ fun t₀ k₀ => XS.iloadN X21.here hx rfl (hb hby d7_104) rfl k₀
      show Owes _ _ _ _ (T21.setTop (mkF m 105 #[.val (.ref r0), .val (.int p1), .val (.int (kI + (-1 : Int32))), .val (.int yI), .val (.long bz), .second] [(.int (kI + (-1 : Int32))), (.ref lv), (.int (yI <<< ((6 : Int32) &&& 31)))]))
      refine Owes.gR X21 hx hZ e21 F0.2.2.1 rfl (own_dec hkI) hk (v := .ref (g k)) rfl (hb hby d7_105) ?_
      show Owes _ _ _ _ (T21.setTop (mkF m 106 #[.val (.ref r0), .val (.int p1), .val (.int (kI + (-1 : Int32))), .val (.int yI), .val (.long bz), .second] [(.ref (g k)), (.int (yI <<< ((6 : Int32) &&& 31)))]))
      refine Owes.go ?_ fun t₀ k₀ => XS.iloadN X21.here hx rfl (hb hby d7_106) rfl k₀
      show Owes _ _ _ _ (T21.setTop (mkF m 107 #[.val (.ref r0), .val (.int p1), .val (.int (kI + (-1 : Int32))), .val (.int yI), .val (.long bz), .second] [(.int yI), (.ref (g k)), (.int (yI <<< ((6 : Int32) &&& 31)))]))
      refine Owes.gJ X21 hx hZ e21 (F0.2.2.2.1 k hk).1 hy hidx (v := .long (W k y)) rfl (hb hby d7_107) ?_
      show Owes _ _ _ _ (T21.setTop (mkF m 108 #[.val (.ref r0), .val (.int p1), .val (.int (kI + (-1 : Int32))), .val (.int yI), .val (.long bz), .second] [(.long (W k y)), (.int (yI <<< ((6 : Int32) &&& 31)))]))
      refine Owes.callS X21 hx hZ hown (hw _ (List.mem_of_getElem? (i := 38) rfl)) (hw _ (List.mem_of_getElem? (i := 39) rfl)) (hw _ (List.mem_of_getElem? (i := 40) rfl)) (hw _ (List.mem_of_getElem? (i := 41) rfl)) (by decide) (argsL := [(.long (W k y))]) (rest := [(.int (yI <<< ((6 : Int32) &&& 31)))]) (rm_f_ntzJ l Z a0 hw [] (W k y) h0 ) e21 (by rw [hml]; rfl) pd_2 rfl rfl (hb hby d7_108) (by decide) (Nat.le_of_ble_eq_true rfl) (by decide) (by decide) ?_
      rintro T22 _ _ X22 ⟨rfl, rfl, e22⟩
      rw [List.append_nil] at X22
      show Owes _ _ _ _ (T22.setTop (mkF m 111 #[.val (.ref r0), .val (.int p1), .val (.int (kI + (-1 : Int32))), .val (.int yI), .val (.long bz), .second] [(.int (f_ntzJ (W k y))), (.int (yI <<< ((6 : Int32) &&& 31)))]))
      refine Owes.go ?_ fun t₀ k₀ => XS.iadd X22.here hx rfl (hb hby d7_111) rfl k₀
      show Owes _ _ _ _ (T22.setTop (mkF m 112 #[.val (.ref r0), .val (.int p1), .val (.int (kI + (-1 : Int32))), .val (.int yI), .val (.long bz), .second] [(.int ((yI <<< ((6 : Int32) &&& 31)) + (f_ntzJ (W k y))))]))
      refine Owes.go ?_ fun t₀ k₀ => XS.istoreN X22.here hx rfl (hb hby d7_112) rfl (l' := #[.val (.ref r0), .val (.int p1), .val (.int (kI + (-1 : Int32))), .val (.int ((yI <<< ((6 : Int32) &&& 31)) + (f_ntzJ (W k y)))), .val (.long bz), .second]) rfl k₀
      show Owes _ _ _ _ (T22.setTop (mkF m 113 #[.val (.ref r0), .val (.int p1), .val (.int (kI + (-1 : Int32))), .val (.int ((yI <<< ((6 : Int32) &&& 31)) + (f_ntzJ (W k y)))), .val (.long bz), .second] []))
      refine Owes.go ?_ fun t₀ k₀ => XS.goto X22.here hx rfl (pc0 := 113) (pc' := 89) rfl (hb hby d7_113) (by decide) (by decide) k₀
      show Owes _ _ _ _ (T22.setTop (mkF m 89 #[.val (.ref r0), .val (.int p1), .val (.int (kI + (-1 : Int32))), .val (.int ((yI <<< ((6 : Int32) &&& 31)) + (f_ntzJ (W k y)))), .val (.long bz), .second] []))
      exact ih hk _ _ _ _ X22 e22 (own_dec hkI) (64 * y + t) (own_addt (own_shl6 hy (by omega)) hz (by have := ht.1; omega)) (D.down (H0 k hk) hidx ht)
  have up : ∀ (r k : Nat), k + r = d → ∀ (kI aI : Int32) (bz : Int64) (T : State), Stand p l e ({ frames := 2, cells := 0, slots := 0, locals := 31 } : Room) s m #[(.ref r0), (.int p1)] below meth c T [] 0 0 → T.heap = h0 → kI.toInt = (k : Int) → ∀ A : Nat, aI.toInt = (A : Int) → Up M fr k A → (k = 0 ∨ 0 < A) → bz = 0 → Owes p e below (EndN s (fun v h L => ∃ r : Int32, v = some (.int r) ∧ L = [] ∧ h = h0 ∧ NextIs M fr r.toInt) ({ frames := 2, cells := 0, slots := 0, locals := 31 } : Room).cells ({ frames := 2, cells := 0, slots := 0, locals := 31 } : Room).slots) (T.setTop (mkF m 7 #[.val (.ref r0), .val (.int p1), .val (.int kI), .val (.int aI), .val (.long bz), .second] [])) := by
    intro r
    induction r with
    | zero =>
      intro k hk0 kI aI bz T X eT hkI A hA U hpos hbz
      have hkd : k = d := by omega
      refine Owes.go ?_ fun t₀ k₀ => XS.lload X.here hx rfl (hb hby d7_7) rfl k₀
      show Owes _ _ _ _ (T.setTop (mkF m 9 #[.val (.ref r0), .val (.int p1), .val (.int kI), .val (.int aI), .val (.long bz), .second] [(.long bz)]))
      refine Owes.go ?_ fun t₀ k₀ => XS.lconst X.here hx rfl (hb hby d7_9) k₀
      show Owes _ _ _ _ (T.setTop (mkF m 10 #[.val (.ref r0), .val (.int p1), .val (.int kI), .val (.int aI), .val (.long bz), .second] [(.long (0 : Int64)), (.long bz)]))
      refine Owes.go ?_ fun t₀ k₀ => XS.lcmp X.here hx rfl (hb hby d7_10) rfl k₀
      show Owes _ _ _ _ (T.setTop (mkF m 11 #[.val (.ref r0), .val (.int p1), .val (.int kI), .val (.int aI), .val (.long bz), .second] [(.int (lcmpW bz (0 : Int64)))]))
      refine Owes.go ?_ fun t₀ k₀ => XS.ifNo X.here hx rfl (hb hby d7_11) rfl ((if0 _ _).trans (teq ((lw_eq _ _).mpr hbz)).2) k₀
      show Owes _ _ _ _ (T.setTop (mkF m 14 #[.val (.ref r0), .val (.int p1), .val (.int kI), .val (.int aI), .val (.long bz), .second] []))
      refine Owes.go ?_ fun t₀ k₀ => XS.iloadN X.here hx rfl (hb hby d7_14) rfl k₀
      show Owes _ _ _ _ (T.setTop (mkF m 15 #[.val (.ref r0), .val (.int p1), .val (.int kI), .val (.int aI), .val (.long bz), .second] [(.int kI)]))
      refine Owes.go ?_ fun t₀ k₀ => XS.aloadN X.here hx rfl (hb hby d7_15) rfl rfl k₀
      show Owes _ _ _ _ (T.setTop (mkF m 16 #[.val (.ref r0), .val (.int p1), .val (.int kI), .val (.int aI), .val (.long bz), .second] [(.ref r0), (.int kI)]))
      obtain ⟨T23, X23, e23, st23⟩ := getF X hx hZ hown (host := "") (Or.inl (hw _ (List.mem_of_getElem? (i := 14) rfl))) Via.refl eT F0.2.1 (g := (mkF m 16 #[.val (.ref r0), .val (.int p1), .val (.int kI), .val (.int aI), .val (.long bz), .second] [(.ref r0), (.int kI)])) rfl rfl (hb hby d7_16)
      refine Owes.go ?_ st23
      show Owes _ _ _ _ (T23.setTop (mkF m 19 #[.val (.ref r0), .val (.int p1), .val (.int kI), .val (.int aI), .val (.long bz), .second] [(.ref lv), (.int kI)]))
      refine Owes.glen X23 hx hZ e23 F0.2.2.1 (z := Int32.ofNat d) (own_ofNat (by omega)) (hb hby d7_19) ?_
      show Owes _ _ _ _ (T23.setTop (mkF m 20 #[.val (.ref r0), .val (.int p1), .val (.int kI), .val (.int aI), .val (.long bz), .second] [(.int (Int32.ofNat d)), (.int kI)]))
      refine Owes.go ?_ fun t₀ k₀ => XS.icmpYes X23.here hx rfl (pc0 := 20) (pc' := 37) rfl (hb hby d7_20) rfl (teq (own_eqi hkI (own_ofNat (by omega)) hkd)).1 (by decide) (by decide) k₀
      show Owes _ _ _ _ (T23.setTop (mkF m 37 #[.val (.ref r0), .val (.int p1), .val (.int kI), .val (.int aI), .val (.long bz), .second] []))
      refine Owes.go ?_ fun t₀ k₀ => XS.iconst X23.here hx rfl (hb hby d7_37) k₀
      show Owes _ _ _ _ (T23.setTop (mkF m 38 #[.val (.ref r0), .val (.int p1), .val (.int kI), .val (.int aI), .val (.long bz), .second] [(.int (-1 : Int32))]))
      exact Owes.retI X23 hx hlk hret (hb hby d7_38) (by decide) (by decide) ⟨_, rfl, rfl, e23, Or.inl ⟨rfl, fun x hx hf => by have h1 := U.1 x hx hf; rw [hkd, FT.up (HM x hx)] at h1; omega⟩⟩
    | succ r ih =>
      intro k hk0 kI aI bz T X eT hkI A hA U hpos hbz
      have hk : k < d := by omega
      have hlen := FT.2.2.2.2.2 k hk
      refine Owes.go ?_ fun t₀ k₀ => XS.lload X.here hx rfl (hb hby d7_7) rfl k₀
      show Owes _ _ _ _ (T.setTop (mkF m 9 #[.val (.ref r0), .val (.int p1), .val (.int kI), .val (.int aI), .val (.long bz), .second] [(.long bz)]))
      refine Owes.go ?_ fun t₀ k₀ => XS.lconst X.here hx rfl (hb hby d7_9) k₀
      show Owes _ _ _ _ (T.setTop (mkF m 10 #[.val (.ref r0), .val (.int p1), .val (.int kI), .val (.int aI), .val (.long bz), .second] [(.long (0 : Int64)), (.long bz)]))
      refine Owes.go ?_ fun t₀ k₀ => XS.lcmp X.here hx rfl (hb hby d7_10) rfl k₀
      show Owes _ _ _ _ (T.setTop (mkF m 11 #[.val (.ref r0), .val (.int p1), .val (.int kI), .val (.int aI), .val (.long bz), .second] [(.int (lcmpW bz (0 : Int64)))]))
      refine Owes.go ?_ fun t₀ k₀ => XS.ifNo X.here hx rfl (hb hby d7_11) rfl ((if0 _ _).trans (teq ((lw_eq _ _).mpr hbz)).2) k₀
      show Owes _ _ _ _ (T.setTop (mkF m 14 #[.val (.ref r0), .val (.int p1), .val (.int kI), .val (.int aI), .val (.long bz), .second] []))
      refine Owes.go ?_ fun t₀ k₀ => XS.iloadN X.here hx rfl (hb hby d7_14) rfl k₀
      show Owes _ _ _ _ (T.setTop (mkF m 15 #[.val (.ref r0), .val (.int p1), .val (.int kI), .val (.int aI), .val (.long bz), .second] [(.int kI)]))
      refine Owes.go ?_ fun t₀ k₀ => XS.aloadN X.here hx rfl (hb hby d7_15) rfl rfl k₀
      show Owes _ _ _ _ (T.setTop (mkF m 16 #[.val (.ref r0), .val (.int p1), .val (.int kI), .val (.int aI), .val (.long bz), .second] [(.ref r0), (.int kI)]))
      obtain ⟨T24, X24, e24, st24⟩ := getF X hx hZ hown (host := "") (Or.inl (hw _ (List.mem_of_getElem? (i := 14) rfl))) Via.refl eT F0.2.1 (g := (mkF m 16 #[.val (.ref r0), .val (.int p1), .val (.int kI), .val (.int aI), .val (.long bz), .second] [(.ref r0), (.int kI)])) rfl rfl (hb hby d7_16)
      refine Owes.go ?_ st24
      show Owes _ _ _ _ (T24.setTop (mkF m 19 #[.val (.ref r0), .val (.int p1), .val (.int kI), .val (.int aI), .val (.long bz), .second] [(.ref lv), (.int kI)]))
      refine Owes.glen X24 hx hZ e24 F0.2.2.1 (z := Int32.ofNat d) (own_ofNat (by omega)) (hb hby d7_19) ?_
      show Owes _ _ _ _ (T24.setTop (mkF m 20 #[.val (.ref r0), .val (.int p1), .val (.int kI), .val (.int aI), .val (.long bz), .second] [(.int (Int32.ofNat d)), (.int kI)]))
      refine Owes.go ?_ fun t₀ k₀ => XS.icmpNo X24.here hx rfl (hb hby d7_20) rfl (feq (own_nei hkI (own_ofNat (by omega)) (by omega))).1 k₀
      show Owes _ _ _ _ (T24.setTop (mkF m 23 #[.val (.ref r0), .val (.int p1), .val (.int kI), .val (.int aI), .val (.long bz), .second] []))
      refine Owes.go ?_ fun t₀ k₀ => XS.iloadN X24.here hx rfl (hb hby d7_23) rfl k₀
      show Owes _ _ _ _ (T24.setTop (mkF m 24 #[.val (.ref r0), .val (.int p1), .val (.int kI), .val (.int aI), .val (.long bz), .second] [(.int aI)]))
      refine Owes.go ?_ fun t₀ k₀ => XS.bipush X24.here hx rfl (hb hby d7_24) k₀
      show Owes _ _ _ _ (T24.setTop (mkF m 26 #[.val (.ref r0), .val (.int p1), .val (.int kI), .val (.int aI), .val (.long bz), .second] [(.int (6 : Int32)), (.int aI)]))
      refine Owes.go ?_ fun t₀ k₀ => XS.iushr X24.here hx rfl (hb hby d7_26) rfl k₀
      show Owes _ _ _ _ (T24.setTop (mkF m 27 #[.val (.ref r0), .val (.int p1), .val (.int kI), .val (.int aI), .val (.long bz), .second] [(.int ((aI.toUInt32 >>> ((6 : Int32) &&& 31).toUInt32).toInt32))]))
      refine Owes.go ?_ fun t₀ k₀ => XS.aloadN X24.here hx rfl (hb hby d7_27) rfl rfl k₀
      show Owes _ _ _ _ (T24.setTop (mkF m 28 #[.val (.ref r0), .val (.int p1), .val (.int kI), .val (.int aI), .val (.long bz), .second] [(.ref r0), (.int ((aI.toUInt32 >>> ((6 : Int32) &&& 31).toUInt32).toInt32))]))
      obtain ⟨T25, X25, e25, st25⟩ := getF X24 hx hZ hown (host := "") (Or.inl (hw _ (List.mem_of_getElem? (i := 14) rfl))) Via.refl e24 F0.2.1 (g := (mkF m 28 #[.val (.ref r0), .val (.int p1), .val (.int kI), .val (.int aI), .val (.long bz), .second] [(.ref r0), (.int ((aI.toUInt32 >>> ((6 : Int32) &&& 31).toUInt32).toInt32))])) rfl rfl (hb hby d7_28)
      refine Owes.go ?_ st25
      show Owes _ _ _ _ (T25.setTop (mkF m 31 #[.val (.ref r0), .val (.int p1), .val (.int kI), .val (.int aI), .val (.long bz), .second] [(.ref lv), (.int ((aI.toUInt32 >>> ((6 : Int32) &&& 31).toUInt32).toInt32))]))
      refine Owes.go ?_ fun t₀ k₀ => XS.iloadN X25.here hx rfl (hb hby d7_31) rfl k₀
      show Owes _ _ _ _ (T25.setTop (mkF m 32 #[.val (.ref r0), .val (.int p1), .val (.int kI), .val (.int aI), .val (.long bz), .second] [(.int kI), (.ref lv), (.int ((aI.toUInt32 >>> ((6 : Int32) &&& 31).toUInt32).toInt32))]))
      refine Owes.gR X25 hx hZ e25 F0.2.2.1 rfl hkI hk (v := .ref (g k)) rfl (hb hby d7_32) ?_
      show Owes _ _ _ _ (T25.setTop (mkF m 33 #[.val (.ref r0), .val (.int p1), .val (.int kI), .val (.int aI), .val (.long bz), .second] [(.ref (g k)), (.int ((aI.toUInt32 >>> ((6 : Int32) &&& 31).toUInt32).toInt32))]))
      refine Owes.glen X25 hx hZ e25 (F0.2.2.2.1 k hk).1 (z := Int32.ofNat (len k)) (own_ofNat (by have := FT.2.2.2.2.2 k hk; omega)) (hb hby d7_33) ?_
      show Owes _ _ _ _ (T25.setTop (mkF m 34 #[.val (.ref r0), .val (.int p1), .val (.int kI), .val (.int aI), .val (.long bz), .second] [(.int (Int32.ofNat (len k))), (.int ((aI.toUInt32 >>> ((6 : Int32) &&& 31).toUInt32).toInt32))]))
      by_cases hc1 : ((aI.toUInt32 >>> ((6 : Int32) &&& 31).toUInt32).toInt32) < (Int32.ofNat (len k))
      · skip
        refine Owes.go ?_ fun t₀ k₀ => XS.icmpYes X25.here hx rfl (pc0 := 34) (pc' := 39) rfl (hb hby d7_34) rfl (tlt hc1).1 (by decide) (by decide) k₀
        show Owes _ _ _ _ (T25.setTop (mkF m 39 #[.val (.ref r0), .val (.int p1), .val (.int kI), .val (.int aI), .val (.long bz), .second] []))
        have hidx : A / 64 < len k := own_ltn (own_sh6 hA) (own_ofNat (show len k < 2147483648 by omega)) hc1
        refine Owes.go ?_ fun t₀ k₀ => XS.aloadN X25.here hx rfl (hb hby d7_39) rfl rfl k₀
        show Owes _ _ _ _ (T25.setTop (mkF m 40 #[.val (.ref r0), .val (.int p1), .val (.int kI), .val (.int aI), .val (.long bz), .second] [(.ref r0)]))
        obtain ⟨T26, X26, e26, st26⟩ := getF X25 hx hZ hown (host := "") (Or.inl (hw _ (List.mem_of_getElem? (i := 14) rfl))) Via.refl e25 F0.2.1 (g := (mkF m 40 #[.val (.ref r0), .val (.int p1), .val (.int kI), .val (.int aI), .val (.long bz), .second] [(.ref r0)])) rfl rfl (hb hby d7_40)
        refine Owes.go ?_ st26
        show Owes _ _ _ _ (T26.setTop (mkF m 43 #[.val (.ref r0), .val (.int p1), .val (.int kI), .val (.int aI), .val (.long bz), .second] [(.ref lv)]))
        refine Owes.go ?_ fun t₀ k₀ => XS.iloadN X26.here hx rfl (hb hby d7_43) rfl k₀
        show Owes _ _ _ _ (T26.setTop (mkF m 44 #[.val (.ref r0), .val (.int p1), .val (.int kI), .val (.int aI), .val (.long bz), .second] [(.int kI), (.ref lv)]))
        refine Owes.gR X26 hx hZ e26 F0.2.2.1 rfl hkI hk (v := .ref (g k)) rfl (hb hby d7_44) ?_
        show Owes _ _ _ _ (T26.setTop (mkF m 45 #[.val (.ref r0), .val (.int p1), .val (.int kI), .val (.int aI), .val (.long bz), .second] [(.ref (g k))]))
        refine Owes.go ?_ fun t₀ k₀ => XS.iloadN X26.here hx rfl (hb hby d7_45) rfl k₀
        show Owes _ _ _ _ (T26.setTop (mkF m 46 #[.val (.ref r0), .val (.int p1), .val (.int kI), .val (.int aI), .val (.long bz), .second] [(.int aI), (.ref (g k))]))
        refine Owes.go ?_ fun t₀ k₀ => XS.bipush X26.here hx rfl (hb hby d7_46) k₀
        show Owes _ _ _ _ (T26.setTop (mkF m 48 #[.val (.ref r0), .val (.int p1), .val (.int kI), .val (.int aI), .val (.long bz), .second] [(.int (6 : Int32)), (.int aI), (.ref (g k))]))
        refine Owes.go ?_ fun t₀ k₀ => XS.iushr X26.here hx rfl (hb hby d7_48) rfl k₀
        show Owes _ _ _ _ (T26.setTop (mkF m 49 #[.val (.ref r0), .val (.int p1), .val (.int kI), .val (.int aI), .val (.long bz), .second] [(.int ((aI.toUInt32 >>> ((6 : Int32) &&& 31).toUInt32).toInt32)), (.ref (g k))]))
        refine Owes.gJ X26 hx hZ e26 (F0.2.2.2.1 k hk).1 (own_sh6 hA) hidx (v := .long (W k (A / 64))) rfl (hb hby d7_49) ?_
        show Owes _ _ _ _ (T26.setTop (mkF m 50 #[.val (.ref r0), .val (.int p1), .val (.int kI), .val (.int aI), .val (.long bz), .second] [(.long (W k (A / 64)))]))
        refine Owes.go ?_ fun t₀ k₀ => X26.ldc2Long hx hown (mvT hZ (hw _ (List.mem_of_getElem? (i := 32) rfl))) (g := (mkF m 50 #[.val (.ref r0), .val (.int p1), .val (.int kI), .val (.int aI), .val (.long bz), .second] [(.long (W k (A / 64)))])) rfl (hb hby d7_50) _ k₀
        show Owes _ _ _ _ (T26.setTop (mkF m 53 #[.val (.ref r0), .val (.int p1), .val (.int kI), .val (.int aI), .val (.long bz), .second] [(.long (-1 : Int64)), (.long (W k (A / 64)))]))
        refine Owes.go ?_ fun t₀ k₀ => XS.iloadN X26.here hx rfl (hb hby d7_53) rfl k₀
        show Owes _ _ _ _ (T26.setTop (mkF m 54 #[.val (.ref r0), .val (.int p1), .val (.int kI), .val (.int aI), .val (.long bz), .second] [(.int aI), (.long (-1 : Int64)), (.long (W k (A / 64)))]))
        refine Owes.go ?_ fun t₀ k₀ => XS.lshl X26.here hx rfl (hb hby d7_54) rfl k₀
        show Owes _ _ _ _ (T26.setTop (mkF m 55 #[.val (.ref r0), .val (.int p1), .val (.int kI), .val (.int aI), .val (.long bz), .second] [(.long ((-1 : Int64) <<< (aI &&& 0x3f).toInt64)), (.long (W k (A / 64)))]))
        refine Owes.go ?_ fun t₀ k₀ => XS.land X26.here hx rfl (hb hby d7_55) rfl k₀
        show Owes _ _ _ _ (T26.setTop (mkF m 56 #[.val (.ref r0), .val (.int p1), .val (.int kI), .val (.int aI), .val (.long bz), .second] [(.long ((W k (A / 64)) &&& ((-1 : Int64) <<< (aI &&& 0x3f).toInt64)))]))
        refine Owes.go ?_ fun t₀ k₀ => XS.lstore X26.here hx rfl (hb hby d7_56) rfl (l' := #[.val (.ref r0), .val (.int p1), .val (.int kI), .val (.int aI), .val (.long ((W k (A / 64)) &&& ((-1 : Int64) <<< (aI &&& 0x3f).toInt64))), .second]) rfl k₀
        show Owes _ _ _ _ (T26.setTop (mkF m 58 #[.val (.ref r0), .val (.int p1), .val (.int kI), .val (.int aI), .val (.long ((W k (A / 64)) &&& ((-1 : Int64) <<< (aI &&& 0x3f).toInt64))), .second] []))
        refine Owes.go ?_ fun t₀ k₀ => XS.lload X26.here hx rfl (hb hby d7_58) rfl k₀
        show Owes _ _ _ _ (T26.setTop (mkF m 60 #[.val (.ref r0), .val (.int p1), .val (.int kI), .val (.int aI), .val (.long ((W k (A / 64)) &&& ((-1 : Int64) <<< (aI &&& 0x3f).toInt64))), .second] [(.long ((W k (A / 64)) &&& ((-1 : Int64) <<< (aI &&& 0x3f).toInt64)))]))
        refine Owes.go ?_ fun t₀ k₀ => XS.lconst X26.here hx rfl (hb hby d7_60) k₀
        show Owes _ _ _ _ (T26.setTop (mkF m 61 #[.val (.ref r0), .val (.int p1), .val (.int kI), .val (.int aI), .val (.long ((W k (A / 64)) &&& ((-1 : Int64) <<< (aI &&& 0x3f).toInt64))), .second] [(.long (0 : Int64)), (.long ((W k (A / 64)) &&& ((-1 : Int64) <<< (aI &&& 0x3f).toInt64)))]))
        refine Owes.go ?_ fun t₀ k₀ => XS.lcmp X26.here hx rfl (hb hby d7_61) rfl k₀
        show Owes _ _ _ _ (T26.setTop (mkF m 62 #[.val (.ref r0), .val (.int p1), .val (.int kI), .val (.int aI), .val (.long ((W k (A / 64)) &&& ((-1 : Int64) <<< (aI &&& 0x3f).toInt64))), .second] [(.int (lcmpW ((W k (A / 64)) &&& ((-1 : Int64) <<< (aI &&& 0x3f).toInt64)) (0 : Int64)))]))
        by_cases hc2 : ((W k (A / 64)) &&& ((-1 : Int64) <<< (aI &&& 0x3f).toInt64)) = (0 : Int64)
        · skip
          refine Owes.go ?_ fun t₀ k₀ => XS.ifNo X26.here hx rfl (hb hby d7_62) rfl ((if0 _ _).trans (teq ((lw_eq _ _).mpr hc2)).2) k₀
          show Owes _ _ _ _ (T26.setTop (mkF m 65 #[.val (.ref r0), .val (.int p1), .val (.int kI), .val (.int aI), .val (.long ((W k (A / 64)) &&& ((-1 : Int64) <<< (aI &&& 0x3f).toInt64))), .second] []))
          refine Owes.go ?_ fun t₀ k₀ => XS.iloadN X26.here hx rfl (hb hby d7_65) rfl k₀
          show Owes _ _ _ _ (T26.setTop (mkF m 66 #[.val (.ref r0), .val (.int p1), .val (.int kI), .val (.int aI), .val (.long ((W k (A / 64)) &&& ((-1 : Int64) <<< (aI &&& 0x3f).toInt64))), .second] [(.int aI)]))
          refine Owes.go ?_ fun t₀ k₀ => XS.bipush X26.here hx rfl (hb hby d7_66) k₀
          show Owes _ _ _ _ (T26.setTop (mkF m 68 #[.val (.ref r0), .val (.int p1), .val (.int kI), .val (.int aI), .val (.long ((W k (A / 64)) &&& ((-1 : Int64) <<< (aI &&& 0x3f).toInt64))), .second] [(.int (6 : Int32)), (.int aI)]))
          refine Owes.go ?_ fun t₀ k₀ => XS.iushr X26.here hx rfl (hb hby d7_68) rfl k₀
          show Owes _ _ _ _ (T26.setTop (mkF m 69 #[.val (.ref r0), .val (.int p1), .val (.int kI), .val (.int aI), .val (.long ((W k (A / 64)) &&& ((-1 : Int64) <<< (aI &&& 0x3f).toInt64))), .second] [(.int ((aI.toUInt32 >>> ((6 : Int32) &&& 31).toUInt32).toInt32))]))
          refine Owes.go ?_ fun t₀ k₀ => XS.iconst X26.here hx rfl (hb hby d7_69) k₀
          show Owes _ _ _ _ (T26.setTop (mkF m 70 #[.val (.ref r0), .val (.int p1), .val (.int kI), .val (.int aI), .val (.long ((W k (A / 64)) &&& ((-1 : Int64) <<< (aI &&& 0x3f).toInt64))), .second] [(.int (1 : Int32)), (.int ((aI.toUInt32 >>> ((6 : Int32) &&& 31).toUInt32).toInt32))]))
          refine Owes.go ?_ fun t₀ k₀ => XS.iadd X26.here hx rfl (hb hby d7_70) rfl k₀
          show Owes _ _ _ _ (T26.setTop (mkF m 71 #[.val (.ref r0), .val (.int p1), .val (.int kI), .val (.int aI), .val (.long ((W k (A / 64)) &&& ((-1 : Int64) <<< (aI &&& 0x3f).toInt64))), .second] [(.int (((aI.toUInt32 >>> ((6 : Int32) &&& 31).toUInt32).toInt32) + (1 : Int32)))]))
          refine Owes.go ?_ fun t₀ k₀ => XS.istoreN X26.here hx rfl (hb hby d7_71) rfl (l' := #[.val (.ref r0), .val (.int p1), .val (.int kI), .val (.int (((aI.toUInt32 >>> ((6 : Int32) &&& 31).toUInt32).toInt32) + (1 : Int32))), .val (.long ((W k (A / 64)) &&& ((-1 : Int64) <<< (aI &&& 0x3f).toInt64))), .second]) rfl k₀
          show Owes _ _ _ _ (T26.setTop (mkF m 72 #[.val (.ref r0), .val (.int p1), .val (.int kI), .val (.int (((aI.toUInt32 >>> ((6 : Int32) &&& 31).toUInt32).toInt32) + (1 : Int32))), .val (.long ((W k (A / 64)) &&& ((-1 : Int64) <<< (aI &&& 0x3f).toInt64))), .second] []))
          refine Owes.go ?_ fun t₀ k₀ => XS.iinc X26.here hx rfl (hb hby d7_72) rfl (l' := #[.val (.ref r0), .val (.int p1), .val (.int (kI + (1 : Int32))), .val (.int (((aI.toUInt32 >>> ((6 : Int32) &&& 31).toUInt32).toInt32) + (1 : Int32))), .val (.long ((W k (A / 64)) &&& ((-1 : Int64) <<< (aI &&& 0x3f).toInt64))), .second]) rfl k₀
          show Owes _ _ _ _ (T26.setTop (mkF m 75 #[.val (.ref r0), .val (.int p1), .val (.int (kI + (1 : Int32))), .val (.int (((aI.toUInt32 >>> ((6 : Int32) &&& 31).toUInt32).toInt32) + (1 : Int32))), .val (.long ((W k (A / 64)) &&& ((-1 : Int64) <<< (aI &&& 0x3f).toInt64))), .second] []))
          refine Owes.go ?_ fun t₀ k₀ => XS.goto X26.here hx rfl (pc0 := 75) (pc' := 7) rfl (hb hby d7_75) (by decide) (by decide) k₀
          show Owes _ _ _ _ (T26.setTop (mkF m 7 #[.val (.ref r0), .val (.int p1), .val (.int (kI + (1 : Int32))), .val (.int (((aI.toUInt32 >>> ((6 : Int32) &&& 31).toUInt32).toInt32) + (1 : Int32))), .val (.long ((W k (A / 64)) &&& ((-1 : Int64) <<< (aI &&& 0x3f).toInt64))), .second] []))
          exact ih (k + 1) (by omega) _ _ _ _ X26 e26 (own_inc hkI (by omega)) (A / 64 + 1) (own_inc (own_sh6 hA) (by omega)) (U.next (H0 k hk) hidx aI hA hc2) (Or.inr (by omega)) hc2
        · skip
          refine Owes.go ?_ fun t₀ k₀ => XS.ifYes X26.here hx rfl (pc0 := 62) (pc' := 7) rfl (hb hby d7_62) rfl ((if0 _ _).trans (feq (fun q => hc2 ((lw_eq _ _).mp q))).2) (by decide) (by decide) k₀
          show Owes _ _ _ _ (T26.setTop (mkF m 7 #[.val (.ref r0), .val (.int p1), .val (.int kI), .val (.int aI), .val (.long ((W k (A / 64)) &&& ((-1 : Int64) <<< (aI &&& 0x3f).toInt64))), .second] []))
          obtain ⟨t, ht⟩ := Low.ex hc2
          have hz := own_ntzJ _ t ht
          refine Owes.go ?_ fun t₀ k₀ => XS.lload X26.here hx rfl (hb hby d7_7) rfl k₀
          show Owes _ _ _ _ (T26.setTop (mkF m 9 #[.val (.ref r0), .val (.int p1), .val (.int kI), .val (.int aI), .val (.long ((W k (A / 64)) &&& ((-1 : Int64) <<< (aI &&& 0x3f).toInt64))), .second] [(.long ((W k (A / 64)) &&& ((-1 : Int64) <<< (aI &&& 0x3f).toInt64)))]))
          refine Owes.go ?_ fun t₀ k₀ => XS.lconst X26.here hx rfl (hb hby d7_9) k₀
          show Owes _ _ _ _ (T26.setTop (mkF m 10 #[.val (.ref r0), .val (.int p1), .val (.int kI), .val (.int aI), .val (.long ((W k (A / 64)) &&& ((-1 : Int64) <<< (aI &&& 0x3f).toInt64))), .second] [(.long (0 : Int64)), (.long ((W k (A / 64)) &&& ((-1 : Int64) <<< (aI &&& 0x3f).toInt64)))]))
          refine Owes.go ?_ fun t₀ k₀ => XS.lcmp X26.here hx rfl (hb hby d7_10) rfl k₀
          show Owes _ _ _ _ (T26.setTop (mkF m 11 #[.val (.ref r0), .val (.int p1), .val (.int kI), .val (.int aI), .val (.long ((W k (A / 64)) &&& ((-1 : Int64) <<< (aI &&& 0x3f).toInt64))), .second] [(.int (lcmpW ((W k (A / 64)) &&& ((-1 : Int64) <<< (aI &&& 0x3f).toInt64)) (0 : Int64)))]))
          refine Owes.go ?_ fun t₀ k₀ => XS.ifYes X26.here hx rfl (pc0 := 11) (pc' := 78) rfl (hb hby d7_11) rfl ((if0 _ _).trans (feq (fun q => hc2 ((lw_eq _ _).mp q))).2) (by decide) (by decide) k₀
          show Owes _ _ _ _ (T26.setTop (mkF m 78 #[.val (.ref r0), .val (.int p1), .val (.int kI), .val (.int aI), .val (.long ((W k (A / 64)) &&& ((-1 : Int64) <<< (aI &&& 0x3f).toInt64))), .second] []))
          refine Owes.go ?_ fun t₀ k₀ => XS.iloadN X26.here hx rfl (hb hby d7_78) rfl k₀
          show Owes _ _ _ _ (T26.setTop (mkF m 79 #[.val (.ref r0), .val (.int p1), .val (.int kI), .val (.int aI), .val (.long ((W k (A / 64)) &&& ((-1 : Int64) <<< (aI &&& 0x3f).toInt64))), .second] [(.int aI)]))
          refine Owes.go ?_ fun t₀ k₀ => XS.bipush X26.here hx rfl (hb hby d7_79) k₀
          show Owes _ _ _ _ (T26.setTop (mkF m 81 #[.val (.ref r0), .val (.int p1), .val (.int kI), .val (.int aI), .val (.long ((W k (A / 64)) &&& ((-1 : Int64) <<< (aI &&& 0x3f).toInt64))), .second] [(.int (-64 : Int32)), (.int aI)]))
          refine Owes.go ?_ fun t₀ k₀ => XS.iand X26.here hx rfl (hb hby d7_81) rfl k₀
          show Owes _ _ _ _ (T26.setTop (mkF m 82 #[.val (.ref r0), .val (.int p1), .val (.int kI), .val (.int aI), .val (.long ((W k (A / 64)) &&& ((-1 : Int64) <<< (aI &&& 0x3f).toInt64))), .second] [(.int (aI &&& (-64 : Int32)))]))
          refine Owes.go ?_ fun t₀ k₀ => XS.lload X26.here hx rfl (hb hby d7_82) rfl k₀
          show Owes _ _ _ _ (T26.setTop (mkF m 84 #[.val (.ref r0), .val (.int p1), .val (.int kI), .val (.int aI), .val (.long ((W k (A / 64)) &&& ((-1 : Int64) <<< (aI &&& 0x3f).toInt64))), .second] [(.long ((W k (A / 64)) &&& ((-1 : Int64) <<< (aI &&& 0x3f).toInt64))), (.int (aI &&& (-64 : Int32)))]))
          refine Owes.callS X26 hx hZ hown (hw _ (List.mem_of_getElem? (i := 38) rfl)) (hw _ (List.mem_of_getElem? (i := 39) rfl)) (hw _ (List.mem_of_getElem? (i := 40) rfl)) (hw _ (List.mem_of_getElem? (i := 41) rfl)) (by decide) (argsL := [(.long ((W k (A / 64)) &&& ((-1 : Int64) <<< (aI &&& 0x3f).toInt64)))]) (rest := [(.int (aI &&& (-64 : Int32)))]) (rm_f_ntzJ l Z a0 hw [] ((W k (A / 64)) &&& ((-1 : Int64) <<< (aI &&& 0x3f).toInt64)) h0 ) e26 (by rw [hml]; rfl) pd_2 rfl rfl (hb hby d7_84) (by decide) (Nat.le_of_ble_eq_true rfl) (by decide) (by decide) ?_
          rintro T27 _ _ X27 ⟨rfl, rfl, e27⟩
          rw [List.append_nil] at X27
          show Owes _ _ _ _ (T27.setTop (mkF m 87 #[.val (.ref r0), .val (.int p1), .val (.int kI), .val (.int aI), .val (.long ((W k (A / 64)) &&& ((-1 : Int64) <<< (aI &&& 0x3f).toInt64))), .second] [(.int (f_ntzJ ((W k (A / 64)) &&& ((-1 : Int64) <<< (aI &&& 0x3f).toInt64)))), (.int (aI &&& (-64 : Int32)))]))
          refine Owes.go ?_ fun t₀ k₀ => XS.iadd X27.here hx rfl (hb hby d7_87) rfl k₀
          show Owes _ _ _ _ (T27.setTop (mkF m 88 #[.val (.ref r0), .val (.int p1), .val (.int kI), .val (.int aI), .val (.long ((W k (A / 64)) &&& ((-1 : Int64) <<< (aI &&& 0x3f).toInt64))), .second] [(.int ((aI &&& (-64 : Int32)) + (f_ntzJ ((W k (A / 64)) &&& ((-1 : Int64) <<< (aI &&& 0x3f).toInt64)))))]))
          refine Owes.go ?_ fun t₀ k₀ => XS.istoreN X27.here hx rfl (hb hby d7_88) rfl (l' := #[.val (.ref r0), .val (.int p1), .val (.int kI), .val (.int ((aI &&& (-64 : Int32)) + (f_ntzJ ((W k (A / 64)) &&& ((-1 : Int64) <<< (aI &&& 0x3f).toInt64))))), .val (.long ((W k (A / 64)) &&& ((-1 : Int64) <<< (aI &&& 0x3f).toInt64))), .second]) rfl k₀
          show Owes _ _ _ _ (T27.setTop (mkF m 89 #[.val (.ref r0), .val (.int p1), .val (.int kI), .val (.int ((aI &&& (-64 : Int32)) + (f_ntzJ ((W k (A / 64)) &&& ((-1 : Int64) <<< (aI &&& 0x3f).toInt64))))), .val (.long ((W k (A / 64)) &&& ((-1 : Int64) <<< (aI &&& 0x3f).toInt64))), .second] []))
          exact dn k hk _ _ _ _ X27 e27 hkI (A - A % 64 + t) (own_addt (own_m64 hA) hz (by have := ht.1; have := rng32 aI; omega)) (U.found (H0 k hk) hidx aI hA ht)
      · skip
        refine Owes.go ?_ fun t₀ k₀ => XS.icmpNo X25.here hx rfl (hb hby d7_34) rfl (flt hc1).1 k₀
        show Owes _ _ _ _ (T25.setTop (mkF m 37 #[.val (.ref r0), .val (.int p1), .val (.int kI), .val (.int aI), .val (.long bz), .second] []))
        refine Owes.go ?_ fun t₀ k₀ => XS.iconst X25.here hx rfl (hb hby d7_37) k₀
        show Owes _ _ _ _ (T25.setTop (mkF m 38 #[.val (.ref r0), .val (.int p1), .val (.int kI), .val (.int aI), .val (.long bz), .second] [(.int (-1 : Int32))]))
        exact Owes.retI X25 hx hlk hret (hb hby d7_38) (by decide) (by decide) ⟨_, rfl, rfl, e25, Or.inl ⟨rfl, fun x hx hf => by have h1 := U.1 x hx hf; have h2 := FT.at (HM x hx) k hk; have h3 := own_ge (own_sh6 hA) (own_ofNat (show len k < 2147483648 by omega)) hc1; omega⟩⟩
  refine Owes.go ?_ fun t₀ k₀ => XS.iconst X0.here hx rfl (hb hby d7_0) k₀
  show Owes _ _ _ _ (s₁.setTop (mkF m 1 #[.val (.ref r0), .val (.int p1), .unset, .unset, .unset, .unset] [(.int (0 : Int32))]))
  refine Owes.go ?_ fun t₀ k₀ => XS.istoreN X0.here hx rfl (hb hby d7_1) rfl (l' := #[.val (.ref r0), .val (.int p1), .val (.int (0 : Int32)), .unset, .unset, .unset]) rfl k₀
  show Owes _ _ _ _ (s₁.setTop (mkF m 2 #[.val (.ref r0), .val (.int p1), .val (.int (0 : Int32)), .unset, .unset, .unset] []))
  refine Owes.go ?_ fun t₀ k₀ => XS.iloadN X0.here hx rfl (hb hby d7_2) rfl k₀
  show Owes _ _ _ _ (s₁.setTop (mkF m 3 #[.val (.ref r0), .val (.int p1), .val (.int (0 : Int32)), .unset, .unset, .unset] [(.int p1)]))
  refine Owes.go ?_ fun t₀ k₀ => XS.istoreN X0.here hx rfl (hb hby d7_3) rfl (l' := #[.val (.ref r0), .val (.int p1), .val (.int (0 : Int32)), .val (.int p1), .unset, .unset]) rfl k₀
  show Owes _ _ _ _ (s₁.setTop (mkF m 4 #[.val (.ref r0), .val (.int p1), .val (.int (0 : Int32)), .val (.int p1), .unset, .unset] []))
  refine Owes.go ?_ fun t₀ k₀ => XS.lconst X0.here hx rfl (hb hby d7_4) k₀
  show Owes _ _ _ _ (s₁.setTop (mkF m 5 #[.val (.ref r0), .val (.int p1), .val (.int (0 : Int32)), .val (.int p1), .unset, .unset] [(.long (0 : Int64))]))
  refine Owes.go ?_ fun t₀ k₀ => XS.lstore X0.here hx rfl (hb hby d7_5) rfl (l' := #[.val (.ref r0), .val (.int p1), .val (.int (0 : Int32)), .val (.int p1), .val (.long (0 : Int64)), .second]) rfl k₀
  show Owes _ _ _ _ (s₁.setTop (mkF m 7 #[.val (.ref r0), .val (.int p1), .val (.int (0 : Int32)), .val (.int p1), .val (.long (0 : Int64)), .second] []))
  exact up d 0 (by omega) _ _ _ _ X0 e0 rfl fr hp (Up.start M fr) (Or.inl rfl) rfl
theorem d10_79 : decode prog_118_method_6_code 79 = .ok (.iload_n 2, 1) := by decide +kernel
theorem d10_80 : decode prog_118_method_6_code 80 = .ok (.ifCond .le 29, 3) := by decide +kernel
theorem d10_109 : decode prog_118_method_6_code 109 = .ok (.iload_n 3, 1) := by decide +kernel
theorem d10_110 : decode prog_118_method_6_code 110 = .ok (.ireturn, 1) := by decide +kernel
theorem d10_83 : decode prog_118_method_6_code 83 = .ok (.iinc 2 (-1), 3) := by decide +kernel
theorem d10_86 : decode prog_118_method_6_code 86 = .ok (.iload_n 3, 1) := by decide +kernel
theorem d10_87 : decode prog_118_method_6_code 87 = .ok (.bipush 6, 2) := by decide +kernel
theorem d10_89 : decode prog_118_method_6_code 89 = .ok (.ishl, 1) := by decide +kernel
theorem d10_90 : decode prog_118_method_6_code 90 = .ok (.bipush 63, 2) := by decide +kernel
theorem d10_92 : decode prog_118_method_6_code 92 = .ok (.iadd, 1) := by decide +kernel
theorem d10_93 : decode prog_118_method_6_code 93 = .ok (.aload_n 0, 1) := by decide +kernel
theorem d10_94 : decode prog_118_method_6_code 94 = .ok (.getfield 15, 3) := by decide +kernel
theorem d10_97 : decode prog_118_method_6_code 97 = .ok (.iload_n 2, 1) := by decide +kernel
theorem d10_98 : decode prog_118_method_6_code 98 = .ok (.aaload, 1) := by decide +kernel
theorem d10_99 : decode prog_118_method_6_code 99 = .ok (.iload_n 3, 1) := by decide +kernel
theorem d10_100 : decode prog_118_method_6_code 100 = .ok (.laload, 1) := by decide +kernel
theorem d10_101 : decode prog_118_method_6_code 101 = .ok (.invokestatic 39, 3) := by decide +kernel
theorem d10_104 : decode prog_118_method_6_code 104 = .ok (.isub, 1) := by decide +kernel
theorem d10_105 : decode prog_118_method_6_code 105 = .ok (.istore_n 3, 1) := by decide +kernel
theorem d10_106 : decode prog_118_method_6_code 106 = .ok (.goto (-27), 3) := by decide +kernel
theorem d10_7 : decode prog_118_method_6_code 7 = .ok (.lload 4, 2) := by decide +kernel
theorem d10_9 : decode prog_118_method_6_code 9 = .ok (.lconst 0, 1) := by decide +kernel
theorem d10_10 : decode prog_118_method_6_code 10 = .ok (.lcmp, 1) := by decide +kernel
theorem d10_11 : decode prog_118_method_6_code 11 = .ok (.ifCond .ne 54, 3) := by decide +kernel
theorem d10_14 : decode prog_118_method_6_code 14 = .ok (.iload_n 3, 1) := by decide +kernel
theorem d10_15 : decode prog_118_method_6_code 15 = .ok (.ifCond .ge 5, 3) := by decide +kernel
theorem d10_18 : decode prog_118_method_6_code 18 = .ok (.iconst (-1), 1) := by decide +kernel
theorem d10_19 : decode prog_118_method_6_code 19 = .ok (.ireturn, 1) := by decide +kernel
theorem d10_20 : decode prog_118_method_6_code 20 = .ok (.aload_n 0, 1) := by decide +kernel
theorem d10_21 : decode prog_118_method_6_code 21 = .ok (.getfield 15, 3) := by decide +kernel
theorem d10_24 : decode prog_118_method_6_code 24 = .ok (.iload_n 2, 1) := by decide +kernel
theorem d10_25 : decode prog_118_method_6_code 25 = .ok (.aaload, 1) := by decide +kernel
theorem d10_26 : decode prog_118_method_6_code 26 = .ok (.iload_n 3, 1) := by decide +kernel
theorem d10_27 : decode prog_118_method_6_code 27 = .ok (.bipush 6, 2) := by decide +kernel
theorem d10_29 : decode prog_118_method_6_code 29 = .ok (.iushr, 1) := by decide +kernel
theorem d10_30 : decode prog_118_method_6_code 30 = .ok (.laload, 1) := by decide +kernel
theorem d10_31 : decode prog_118_method_6_code 31 = .ok (.ldc2_w 25, 3) := by decide +kernel
theorem d10_34 : decode prog_118_method_6_code 34 = .ok (.bipush 63, 2) := by decide +kernel
theorem d10_36 : decode prog_118_method_6_code 36 = .ok (.iload_n 3, 1) := by decide +kernel
theorem d10_37 : decode prog_118_method_6_code 37 = .ok (.bipush 63, 2) := by decide +kernel
theorem d10_39 : decode prog_118_method_6_code 39 = .ok (.iand, 1) := by decide +kernel
theorem d10_40 : decode prog_118_method_6_code 40 = .ok (.isub, 1) := by decide +kernel
theorem d10_41 : decode prog_118_method_6_code 41 = .ok (.lushr, 1) := by decide +kernel
theorem d10_42 : decode prog_118_method_6_code 42 = .ok (.land, 1) := by decide +kernel
theorem d10_43 : decode prog_118_method_6_code 43 = .ok (.lstore 4, 2) := by decide +kernel
theorem d10_45 : decode prog_118_method_6_code 45 = .ok (.lload 4, 2) := by decide +kernel
theorem d10_47 : decode prog_118_method_6_code 47 = .ok (.lconst 0, 1) := by decide +kernel
theorem d10_48 : decode prog_118_method_6_code 48 = .ok (.lcmp, 1) := by decide +kernel
theorem d10_49 : decode prog_118_method_6_code 49 = .ok (.ifCond .ne (-42), 3) := by decide +kernel
theorem d10_52 : decode prog_118_method_6_code 52 = .ok (.iload_n 3, 1) := by decide +kernel
theorem d10_53 : decode prog_118_method_6_code 53 = .ok (.bipush 6, 2) := by decide +kernel
theorem d10_55 : decode prog_118_method_6_code 55 = .ok (.iushr, 1) := by decide +kernel
theorem d10_56 : decode prog_118_method_6_code 56 = .ok (.iconst 1, 1) := by decide +kernel
theorem d10_57 : decode prog_118_method_6_code 57 = .ok (.isub, 1) := by decide +kernel
theorem d10_58 : decode prog_118_method_6_code 58 = .ok (.istore_n 3, 1) := by decide +kernel
theorem d10_59 : decode prog_118_method_6_code 59 = .ok (.iinc 2 1, 3) := by decide +kernel
theorem d10_62 : decode prog_118_method_6_code 62 = .ok (.goto (-55), 3) := by decide +kernel
theorem d10_65 : decode prog_118_method_6_code 65 = .ok (.iload_n 3, 1) := by decide +kernel
theorem d10_66 : decode prog_118_method_6_code 66 = .ok (.bipush (-64), 2) := by decide +kernel
theorem d10_68 : decode prog_118_method_6_code 68 = .ok (.iand, 1) := by decide +kernel
theorem d10_69 : decode prog_118_method_6_code 69 = .ok (.bipush 63, 2) := by decide +kernel
theorem d10_71 : decode prog_118_method_6_code 71 = .ok (.iadd, 1) := by decide +kernel
theorem d10_72 : decode prog_118_method_6_code 72 = .ok (.lload 4, 2) := by decide +kernel
theorem d10_74 : decode prog_118_method_6_code 74 = .ok (.invokestatic 39, 3) := by decide +kernel
theorem d10_77 : decode prog_118_method_6_code 77 = .ok (.isub, 1) := by decide +kernel
theorem d10_78 : decode prog_118_method_6_code 78 = .ok (.istore_n 3, 1) := by decide +kernel
theorem d10_0 : decode prog_118_method_6_code 0 = .ok (.iconst 0, 1) := by decide +kernel
theorem d10_1 : decode prog_118_method_6_code 1 = .ok (.istore_n 2, 1) := by decide +kernel
theorem d10_2 : decode prog_118_method_6_code 2 = .ok (.iload_n 1, 1) := by decide +kernel
theorem d10_3 : decode prog_118_method_6_code 3 = .ok (.istore_n 3, 1) := by decide +kernel
theorem d10_4 : decode prog_118_method_6_code 4 = .ok (.lconst 0, 1) := by decide +kernel
theorem d10_5 : decode prog_118_method_6_code 5 = .ok (.lstore 4, 2) := by decide +kernel
theorem ef_10 (m : MethodId) (r0 : Addr) (p1 : Int32) : entryFrame m #[(.ref r0), (.int p1)] 6 = mkF m 0 #[.val (.ref r0), .val (.int p1), .unset, .unset, .unset, .unset] [] := by first | (simp [entryFrame, mkF, argsToLocals, Value.category]; done) | rfl
theorem pn_10 : plainFor (⟨"com/example/slotwright/slotwright/core/RankSet", "previous", "(I)I"⟩ : MethodName) = true := plainFor_of_name (by first | (simp [plainName, overriddenIn]; done) | decide +kernel)
set_option maxRecDepth 65536 in
set_option maxHeartbeats 40000000 in
theorem rm_previous (l : Launch) (Z : State) (a0 : Array Value) (hw : ∀ d ∈ tables_1, d.before a0 Z = true) (ws : List Jvm.Cond) (r0 : Addr) (p1 : Int32) (h0 : Heap) (n0 : Nat) (lv : Addr) (d : Nat) (g : Nat → Addr) (len : Nat → Nat) (W : Nat → Nat → Int64) (M : Nat → Prop) (size : Nat) (F0 : RS Z h0 n0 r0 lv d g len W) (H0 : ∀ k, k < d → LV M k (len k) (W k)) (FT : Fits size d len) (HM : ∀ x, M x → x < size) (fr : Int) (hp : p1.toInt = fr) (hfr : -1 ≤ fr ∧ fr < size) :
    OMet l (⟨"com/example/slotwright/slotwright/core/RankSet", "previous", "(I)I"⟩ : MethodName) prog_118_method_6_code 6 (some .int) ws ({ frames := 2, cells := 0, slots := 0, locals := 31 } : Room) #[(.ref r0), (.int p1)] Z h0 (fun v h L => ∃ r : Int32, v = some (.int r) ∧ L = [] ∧ h = h0 ∧ PrevIs M fr r.toInt) := by
  refine OMet.of pn_10 (fun m => ef_10 m r0 p1) ?_
  intro p e s m below meth c s₁ hx hby hml hown hnm hret hlk hZ X0 e0
  have hd20 := FT.2.1
  have hd0 := FT.1
  have dn : ∀ (k : Nat), k < d → ∀ (kI yI : Int32) (bz : Int64) (T : State), Stand p l e ({ frames := 2, cells := 0, slots := 0, locals := 31 } : Room) s m #[(.ref r0), (.int p1)] below meth c T [] 0 0 → T.heap = h0 → kI.toInt = (k : Int) → ∀ y : Nat, yI.toInt = (y : Int) → DnP M fr k y → Owes p e below (EndN s (fun v h L => ∃ r : Int32, v = some (.int r) ∧ L = [] ∧ h = h0 ∧ PrevIs M fr r.toInt) ({ frames := 2, cells := 0, slots := 0, locals := 31 } : Room).cells ({ frames := 2, cells := 0, slots := 0, locals := 31 } : Room).slots) (T.setTop (mkF m 79 #[.val (.ref r0), .val (.int p1), .val (.int kI), .val (.int yI), .val (.long bz), .second] [])) := by
    intro k
    induction k with
    | zero =>
      intro _ kI yI bz T X eT hkI y hy D
      refine Owes.go ?_ fun t₀ k₀ => XS.iloadN X.here hx rfl (hb hby d10_79) rfl k₀
      show Owes _ _ _ _ (T.setTop (mkF m 80 #[.val (.ref r0), .val (.int p1), .val (.int kI), .val (.int yI), .val (.long bz), .second] [(.int kI)]))
      refine Owes.go ?_ fun t₀ k₀ => XS.ifYes X.here hx rfl (pc0 := 80) (pc' := 109) rfl (hb hby d10_80) rfl ((if0 _ _).trans (flt (own_zero hkI)).2.2.2) (by decide) (by decide) k₀
      show Owes _ _ _ _ (T.setTop (mkF m 109 #[.val (.ref r0), .val (.int p1), .val (.int kI), .val (.int yI), .val (.long bz), .second] []))
      refine Owes.go ?_ fun t₀ k₀ => XS.iloadN X.here hx rfl (hb hby d10_109) rfl k₀
      show Owes _ _ _ _ (T.setTop (mkF m 110 #[.val (.ref r0), .val (.int p1), .val (.int kI), .val (.int yI), .val (.long bz), .second] [(.int yI)]))
      exact Owes.retI X hx hlk hret (hb hby d10_110) (by decide) (by decide) ⟨yI, rfl, rfl, eT, by rw [hy]; exact D.last⟩
    | succ k ih =>
      intro hk1 kI yI bz T X eT hkI y hy D
      have hk : k < d := by omega
      have hidx : y < len k := by
        obtain ⟨x, q1, q2⟩ := D.1
        rw [← q2, dk_succ]
        exact FT.at (HM x q1) k hk
      have hlen := FT.2.2.2.2.2 k hk
      obtain ⟨t, ht⟩ := High.ex (D.word (H0 k hk) hidx)
      have hz := own_nlzJ _ t ht
      refine Owes.go ?_ fun t₀ k₀ => XS.iloadN X.here hx rfl (hb hby d10_79) rfl k₀
      show Owes _ _ _ _ (T.setTop (mkF m 80 #[.val (.ref r0), .val (.int p1), .val (.int kI), .val (.int yI), .val (.long bz), .second] [(.int kI)]))
      refine Owes.go ?_ fun t₀ k₀ => XS.ifNo X.here hx rfl (hb hby d10_80) rfl ((if0 _ _).trans (tlt (own_pos hkI)).2.2.2) k₀
      show Owes _ _ _ _ (T.setTop (mkF m 83 #[.val (.ref r0), .val (.int p1), .val (.int kI), .val (.int yI), .val (.long bz), .second] []))
      refine Owes.go ?_ fun t₀ k₀ => XS.iinc X.here hx rfl (hb hby d10_83) rfl (l' := #[.val (.ref r0), .val (.int p1), .val (.int (kI + (-1 : Int32))), .val (.int yI), .val (.long bz), .second]) rfl k₀
      show Owes _ _ _ _ (T.setTop (mkF m 86 #[.val (.ref r0), .val (.int p1), .val (.int (kI + (-1 : Int32))), .val (.int yI), .val (.long bz), .second] []))
      refine Owes.go ?_ fun t₀ k₀ => XS.iloadN X.here hx rfl (hb hby d10_86) rfl k₀
      show Owes _ _ _ _ (T.setTop (mkF m 87 #[.val (.ref r0), .val (.int p1), .val (.int (kI + (-1 : Int32))), .val (.int yI), .val (.long bz), .second] [(.int yI)]))
      refine Owes.go ?_ fun t₀ k₀ => XS.bipush X.here hx rfl (hb hby d10_87) k₀
      show Owes _ _ _ _ (T.setTop (mkF m 89 #[.val (.ref r0), .val (.int p1), .val (.int (kI + (-1 : Int32))), .val (.int yI), .val (.long bz), .second] [(.int (6 : Int32)), (.int yI)]))
      refine Owes.go ?_ fun t₀ k₀ => XS.ishl X.here hx rfl (hb hby d10_89) rfl k₀
      show Owes _ _ _ _ (T.setTop (mkF m 90 #[.val (.ref r0), .val (.int p1), .val (.int (kI + (-1 : Int32))), .val (.int yI), .val (.long bz), .second] [(.int (yI <<< ((6 : Int32) &&& 31)))]))
      refine Owes.go ?_ fun t₀ k₀ => XS.bipush X.here hx rfl (hb hby d10_90) k₀
      show Owes _ _ _ _ (T.setTop (mkF m 92 #[.val (.ref r0), .val (.int p1), .val (.int (kI + (-1 : Int32))), .val (.int yI), .val (.long bz), .second] [(.int (63 : Int32)), (.int (yI <<< ((6 : Int32) &&& 31)))]))
      refine Owes.go ?_ fun t₀ k₀ => XS.iadd X.here hx rfl (hb hby d10_92) rfl k₀
      show Owes _ _ _ _ (T.setTop (mkF m 93 #[.val (.ref r0), .val (.int p1), .val (.int (kI + (-1 : Int32))), .val (.int yI), .val (.long bz), .second] [(.int ((yI <<< ((6 : Int32) &&& 31)) + (63 : Int32)))]))
      refine Owes.go ?_ fun t₀ k₀ => XS.aloadN X.here hx rfl (hb hby d10_93) rfl rfl k₀
      show Owes _ _ _ _ (T.setTop (mkF m 94 #[.val (.ref r0), .val (.int p1), .val (.int (kI + (-1 : Int32))), .val (.int yI), .val (.long bz), .second] [(.ref r0), (.int ((yI <<< ((6 : Int32) &&& 31)) + (63 : Int32)))]))
      obtain ⟨T28, X28, e28, st28⟩ := getF X hx hZ hown (host := "") (Or.inl (hw _ (List.mem_of_getElem? (i := 14) rfl))) Via.refl eT F0.2.1 (g := (mkF m 94 #[.val (.ref r0), .val (.int p1), .val (.int (kI + (-1 : Int32))), .val (.int yI), .val (.long bz), .second] [(.ref r0), (.int ((yI <<< ((6 : Int32) &&& 31)) + (63 : Int32)))])) rfl rfl (hb hby d10_94)
      refine Owes.go ?_ st28
      show Owes _ _ _ _ (T28.setTop (mkF m 97 #[.val (.ref r0), .val (.int p1), .val (.int (kI + (-1 : Int32))), .val (.int yI), .val (.long bz), .second] [(.ref lv), (.int ((yI <<< ((6 : Int32) &&& 31)) + (63 : Int32)))]))
      refine Owes.go ?_ fun t₀ k₀ => XS.iloadN X28.here hx rfl (hb hby d10_97) rfl k₀
      show Owes _ _ _ _ (T28.setTop (mkF m 98 #[.val (.ref r0), .val (.int p1), .val (.int (kI + (-1 : Int32))), .val (.int yI), .val (.long bz), .second] [(.int (kI + (-1 : Int32))), (.ref lv), (.int ((yI <<< ((6 : Int32) &&& 31)) + (63 : Int32)))]))
      refine Owes.gR X28 hx hZ e28 F0.2.2.1 rfl (own_dec hkI) hk (v := .ref (g k)) rfl (hb hby d10_98) ?_
      show Owes _ _ _ _ (T28.setTop (mkF m 99 #[.val (.ref r0), .val (.int p1), .val (.int (kI + (-1 : Int32))), .val (.int yI), .val (.long bz), .second] [(.ref (g k)), (.int ((yI <<< ((6 : Int32) &&& 31)) + (63 : Int32)))]))
      refine Owes.go ?_ fun t₀ k₀ => XS.iloadN X28.here hx rfl (hb hby d10_99) rfl k₀
      show Owes _ _ _ _ (T28.setTop (mkF m 100 #[.val (.ref r0), .val (.int p1), .val (.int (kI + (-1 : Int32))), .val (.int yI), .val (.long bz), .second] [(.int yI), (.ref (g k)), (.int ((yI <<< ((6 : Int32) &&& 31)) + (63 : Int32)))]))
      refine Owes.gJ X28 hx hZ e28 (F0.2.2.2.1 k hk).1 hy hidx (v := .long (W k y)) rfl (hb hby d10_100) ?_
      show Owes _ _ _ _ (T28.setTop (mkF m 101 #[.val (.ref r0), .val (.int p1), .val (.int (kI + (-1 : Int32))), .val (.int yI), .val (.long bz), .second] [(.long (W k y)), (.int ((yI <<< ((6 : Int32) &&& 31)) + (63 : Int32)))]))
      refine Owes.callS X28 hx hZ hown (hw _ (List.mem_of_getElem? (i := 52) rfl)) (hw _ (List.mem_of_getElem? (i := 53) rfl)) (hw _ (List.mem_of_getElem? (i := 40) rfl)) (hw _ (List.mem_of_getElem? (i := 54) rfl)) (by decide) (argsL := [(.long (W k y))]) (rest := [(.int ((yI <<< ((6 : Int32) &&& 31)) + (63 : Int32)))]) (rm_f_nlzJ l Z a0 hw [] (W k y) h0 ) e28 (by rw [hml]; rfl) pd_2 rfl rfl (hb hby d10_101) (by decide) (Nat.le_of_ble_eq_true rfl) (by decide) (by decide) ?_
      rintro T29 _ _ X29 ⟨rfl, rfl, e29⟩
      rw [List.append_nil] at X29
      show Owes _ _ _ _ (T29.setTop (mkF m 104 #[.val (.ref r0), .val (.int p1), .val (.int (kI + (-1 : Int32))), .val (.int yI), .val (.long bz), .second] [(.int (f_nlzJ (W k y))), (.int ((yI <<< ((6 : Int32) &&& 31)) + (63 : Int32)))]))
      refine Owes.go ?_ fun t₀ k₀ => XS.isub X29.here hx rfl (hb hby d10_104) rfl k₀
      show Owes _ _ _ _ (T29.setTop (mkF m 105 #[.val (.ref r0), .val (.int p1), .val (.int (kI + (-1 : Int32))), .val (.int yI), .val (.long bz), .second] [(.int (((yI <<< ((6 : Int32) &&& 31)) + (63 : Int32)) - (f_nlzJ (W k y))))]))
      refine Owes.go ?_ fun t₀ k₀ => XS.istoreN X29.here hx rfl (hb hby d10_105) rfl (l' := #[.val (.ref r0), .val (.int p1), .val (.int (kI + (-1 : Int32))), .val (.int (((yI <<< ((6 : Int32) &&& 31)) + (63 : Int32)) - (f_nlzJ (W k y)))), .val (.long bz), .second]) rfl k₀
      show Owes _ _ _ _ (T29.setTop (mkF m 106 #[.val (.ref r0), .val (.int p1), .val (.int (kI + (-1 : Int32))), .val (.int (((yI <<< ((6 : Int32) &&& 31)) + (63 : Int32)) - (f_nlzJ (W k y)))), .val (.long bz), .second] []))
      refine Owes.go ?_ fun t₀ k₀ => XS.goto X29.here hx rfl (pc0 := 106) (pc' := 79) rfl (hb hby d10_106) (by decide) (by decide) k₀
      show Owes _ _ _ _ (T29.setTop (mkF m 79 #[.val (.ref r0), .val (.int p1), .val (.int (kI + (-1 : Int32))), .val (.int (((yI <<< ((6 : Int32) &&& 31)) + (63 : Int32)) - (f_nlzJ (W k y)))), .val (.long bz), .second] []))
      exact ih hk _ _ _ _ X29 e29 (own_dec hkI) (64 * y + t) (own_hi (own_shl6 hy (by omega)) hz ht.1 (by omega)) (D.down (H0 k hk) hidx ht)
  have up : ∀ (r k : Nat), k + r = d → ∀ (kI aI : Int32) (bz : Int64) (T : State), Stand p l e ({ frames := 2, cells := 0, slots := 0, locals := 31 } : Room) s m #[(.ref r0), (.int p1)] below meth c T [] 0 0 → T.heap = h0 → kI.toInt = (k : Int) → ∀ A : Int, aI.toInt = A → UpP M fr k A → (-1 ≤ A ∧ (k < d → A < 64 * (len k : Int)) ∧ (k = d → A = -1)) → bz = 0 → Owes p e below (EndN s (fun v h L => ∃ r : Int32, v = some (.int r) ∧ L = [] ∧ h = h0 ∧ PrevIs M fr r.toInt) ({ frames := 2, cells := 0, slots := 0, locals := 31 } : Room).cells ({ frames := 2, cells := 0, slots := 0, locals := 31 } : Room).slots) (T.setTop (mkF m 7 #[.val (.ref r0), .val (.int p1), .val (.int kI), .val (.int aI), .val (.long bz), .second] [])) := by
    intro r
    induction r with
    | zero =>
      intro k hk0 kI aI bz T X eT hkI A hA U hpos hbz
      have hkd : k = d := by omega
      refine Owes.go ?_ fun t₀ k₀ => XS.lload X.here hx rfl (hb hby d10_7) rfl k₀
      show Owes _ _ _ _ (T.setTop (mkF m 9 #[.val (.ref r0), .val (.int p1), .val (.int kI), .val (.int aI), .val (.long bz), .second] [(.long bz)]))
      refine Owes.go ?_ fun t₀ k₀ => XS.lconst X.here hx rfl (hb hby d10_9) k₀
      show Owes _ _ _ _ (T.setTop (mkF m 10 #[.val (.ref r0), .val (.int p1), .val (.int kI), .val (.int aI), .val (.long bz), .second] [(.long (0 : Int64)), (.long bz)]))
      refine Owes.go ?_ fun t₀ k₀ => XS.lcmp X.here hx rfl (hb hby d10_10) rfl k₀
      show Owes _ _ _ _ (T.setTop (mkF m 11 #[.val (.ref r0), .val (.int p1), .val (.int kI), .val (.int aI), .val (.long bz), .second] [(.int (lcmpW bz (0 : Int64)))]))
      refine Owes.go ?_ fun t₀ k₀ => XS.ifNo X.here hx rfl (hb hby d10_11) rfl ((if0 _ _).trans (teq ((lw_eq _ _).mpr hbz)).2) k₀
      show Owes _ _ _ _ (T.setTop (mkF m 14 #[.val (.ref r0), .val (.int p1), .val (.int kI), .val (.int aI), .val (.long bz), .second] []))
      refine Owes.go ?_ fun t₀ k₀ => XS.iloadN X.here hx rfl (hb hby d10_14) rfl k₀
      show Owes _ _ _ _ (T.setTop (mkF m 15 #[.val (.ref r0), .val (.int p1), .val (.int kI), .val (.int aI), .val (.long bz), .second] [(.int aI)]))
      refine Owes.go ?_ fun t₀ k₀ => XS.ifNo X.here hx rfl (hb hby d10_15) rfl ((if0 _ _).trans (tlt (own_neg1 hA (by have := hpos.2.2 hkd; omega))).2.1) k₀
      show Owes _ _ _ _ (T.setTop (mkF m 18 #[.val (.ref r0), .val (.int p1), .val (.int kI), .val (.int aI), .val (.long bz), .second] []))
      refine Owes.go ?_ fun t₀ k₀ => XS.iconst X.here hx rfl (hb hby d10_18) k₀
      show Owes _ _ _ _ (T.setTop (mkF m 19 #[.val (.ref r0), .val (.int p1), .val (.int kI), .val (.int aI), .val (.long bz), .second] [(.int (-1 : Int32))]))
      exact Owes.retI X hx hlk hret (hb hby d10_19) (by decide) (by decide) ⟨_, rfl, rfl, eT, Or.inl ⟨rfl, fun x hx hf => by have h1 := U.1 x hx hf; have h2 := Int.natCast_nonneg (x / 64 ^ k); have := hpos.2.2 hkd; omega⟩⟩
    | succ r ih =>
      intro k hk0 kI aI bz T X eT hkI A hA U hpos hbz
      have hk : k < d := by omega
      have hlen := FT.2.2.2.2.2 k hk
      by_cases hneg : A < 0
      · skip
        refine Owes.go ?_ fun t₀ k₀ => XS.lload X.here hx rfl (hb hby d10_7) rfl k₀
        show Owes _ _ _ _ (T.setTop (mkF m 9 #[.val (.ref r0), .val (.int p1), .val (.int kI), .val (.int aI), .val (.long bz), .second] [(.long bz)]))
        refine Owes.go ?_ fun t₀ k₀ => XS.lconst X.here hx rfl (hb hby d10_9) k₀
        show Owes _ _ _ _ (T.setTop (mkF m 10 #[.val (.ref r0), .val (.int p1), .val (.int kI), .val (.int aI), .val (.long bz), .second] [(.long (0 : Int64)), (.long bz)]))
        refine Owes.go ?_ fun t₀ k₀ => XS.lcmp X.here hx rfl (hb hby d10_10) rfl k₀
        show Owes _ _ _ _ (T.setTop (mkF m 11 #[.val (.ref r0), .val (.int p1), .val (.int kI), .val (.int aI), .val (.long bz), .second] [(.int (lcmpW bz (0 : Int64)))]))
        refine Owes.go ?_ fun t₀ k₀ => XS.ifNo X.here hx rfl (hb hby d10_11) rfl ((if0 _ _).trans (teq ((lw_eq _ _).mpr hbz)).2) k₀
        show Owes _ _ _ _ (T.setTop (mkF m 14 #[.val (.ref r0), .val (.int p1), .val (.int kI), .val (.int aI), .val (.long bz), .second] []))
        refine Owes.go ?_ fun t₀ k₀ => XS.iloadN X.here hx rfl (hb hby d10_14) rfl k₀
        show Owes _ _ _ _ (T.setTop (mkF m 15 #[.val (.ref r0), .val (.int p1), .val (.int kI), .val (.int aI), .val (.long bz), .second] [(.int aI)]))
        refine Owes.go ?_ fun t₀ k₀ => XS.ifNo X.here hx rfl (hb hby d10_15) rfl ((if0 _ _).trans (tlt (own_neg1 hA hneg)).2.1) k₀
        show Owes _ _ _ _ (T.setTop (mkF m 18 #[.val (.ref r0), .val (.int p1), .val (.int kI), .val (.int aI), .val (.long bz), .second] []))
        refine Owes.go ?_ fun t₀ k₀ => XS.iconst X.here hx rfl (hb hby d10_18) k₀
        show Owes _ _ _ _ (T.setTop (mkF m 19 #[.val (.ref r0), .val (.int p1), .val (.int kI), .val (.int aI), .val (.long bz), .second] [(.int (-1 : Int32))]))
        exact Owes.retI X hx hlk hret (hb hby d10_19) (by decide) (by decide) ⟨_, rfl, rfl, eT, Or.inl ⟨rfl, fun x hx hf => by have h1 := U.1 x hx hf; have h2 := Int.natCast_nonneg (x / 64 ^ k); omega⟩⟩
      · skip
        obtain ⟨A, rfl⟩ := Int.eq_ofNat_of_zero_le (Int.not_lt.mp hneg)
        have hAl := hpos.2.1 hk
        have hidx : A / 64 < len k := by omega
        refine Owes.go ?_ fun t₀ k₀ => XS.lload X.here hx rfl (hb hby d10_7) rfl k₀
        show Owes _ _ _ _ (T.setTop (mkF m 9 #[.val (.ref r0), .val (.int p1), .val (.int kI), .val (.int aI), .val (.long bz), .second] [(.long bz)]))
        refine Owes.go ?_ fun t₀ k₀ => XS.lconst X.here hx rfl (hb hby d10_9) k₀
        show Owes _ _ _ _ (T.setTop (mkF m 10 #[.val (.ref r0), .val (.int p1), .val (.int kI), .val (.int aI), .val (.long bz), .second] [(.long (0 : Int64)), (.long bz)]))
        refine Owes.go ?_ fun t₀ k₀ => XS.lcmp X.here hx rfl (hb hby d10_10) rfl k₀
        show Owes _ _ _ _ (T.setTop (mkF m 11 #[.val (.ref r0), .val (.int p1), .val (.int kI), .val (.int aI), .val (.long bz), .second] [(.int (lcmpW bz (0 : Int64)))]))
        refine Owes.go ?_ fun t₀ k₀ => XS.ifNo X.here hx rfl (hb hby d10_11) rfl ((if0 _ _).trans (teq ((lw_eq _ _).mpr hbz)).2) k₀
        show Owes _ _ _ _ (T.setTop (mkF m 14 #[.val (.ref r0), .val (.int p1), .val (.int kI), .val (.int aI), .val (.long bz), .second] []))
        refine Owes.go ?_ fun t₀ k₀ => XS.iloadN X.here hx rfl (hb hby d10_14) rfl k₀
        show Owes _ _ _ _ (T.setTop (mkF m 15 #[.val (.ref r0), .val (.int p1), .val (.int kI), .val (.int aI), .val (.long bz), .second] [(.int aI)]))
        refine Owes.go ?_ fun t₀ k₀ => XS.ifYes X.here hx rfl (pc0 := 15) (pc' := 20) rfl (hb hby d10_15) rfl ((if0 _ _).trans (flt (own_nn hA)).2.1) (by decide) (by decide) k₀
        show Owes _ _ _ _ (T.setTop (mkF m 20 #[.val (.ref r0), .val (.int p1), .val (.int kI), .val (.int aI), .val (.long bz), .second] []))
        refine Owes.go ?_ fun t₀ k₀ => XS.aloadN X.here hx rfl (hb hby d10_20) rfl rfl k₀
        show Owes _ _ _ _ (T.setTop (mkF m 21 #[.val (.ref r0), .val (.int p1), .val (.int kI), .val (.int aI), .val (.long bz), .second] [(.ref r0)]))
        obtain ⟨T30, X30, e30, st30⟩ := getF X hx hZ hown (host := "") (Or.inl (hw _ (List.mem_of_getElem? (i := 14) rfl))) Via.refl eT F0.2.1 (g := (mkF m 21 #[.val (.ref r0), .val (.int p1), .val (.int kI), .val (.int aI), .val (.long bz), .second] [(.ref r0)])) rfl rfl (hb hby d10_21)
        refine Owes.go ?_ st30
        show Owes _ _ _ _ (T30.setTop (mkF m 24 #[.val (.ref r0), .val (.int p1), .val (.int kI), .val (.int aI), .val (.long bz), .second] [(.ref lv)]))
        refine Owes.go ?_ fun t₀ k₀ => XS.iloadN X30.here hx rfl (hb hby d10_24) rfl k₀
        show Owes _ _ _ _ (T30.setTop (mkF m 25 #[.val (.ref r0), .val (.int p1), .val (.int kI), .val (.int aI), .val (.long bz), .second] [(.int kI), (.ref lv)]))
        refine Owes.gR X30 hx hZ e30 F0.2.2.1 rfl hkI hk (v := .ref (g k)) rfl (hb hby d10_25) ?_
        show Owes _ _ _ _ (T30.setTop (mkF m 26 #[.val (.ref r0), .val (.int p1), .val (.int kI), .val (.int aI), .val (.long bz), .second] [(.ref (g k))]))
        refine Owes.go ?_ fun t₀ k₀ => XS.iloadN X30.here hx rfl (hb hby d10_26) rfl k₀
        show Owes _ _ _ _ (T30.setTop (mkF m 27 #[.val (.ref r0), .val (.int p1), .val (.int kI), .val (.int aI), .val (.long bz), .second] [(.int aI), (.ref (g k))]))
        refine Owes.go ?_ fun t₀ k₀ => XS.bipush X30.here hx rfl (hb hby d10_27) k₀
        show Owes _ _ _ _ (T30.setTop (mkF m 29 #[.val (.ref r0), .val (.int p1), .val (.int kI), .val (.int aI), .val (.long bz), .second] [(.int (6 : Int32)), (.int aI), (.ref (g k))]))
        refine Owes.go ?_ fun t₀ k₀ => XS.iushr X30.here hx rfl (hb hby d10_29) rfl k₀
        show Owes _ _ _ _ (T30.setTop (mkF m 30 #[.val (.ref r0), .val (.int p1), .val (.int kI), .val (.int aI), .val (.long bz), .second] [(.int ((aI.toUInt32 >>> ((6 : Int32) &&& 31).toUInt32).toInt32)), (.ref (g k))]))
        refine Owes.gJ X30 hx hZ e30 (F0.2.2.2.1 k hk).1 (own_sh6 hA) hidx (v := .long (W k (A / 64))) rfl (hb hby d10_30) ?_
        show Owes _ _ _ _ (T30.setTop (mkF m 31 #[.val (.ref r0), .val (.int p1), .val (.int kI), .val (.int aI), .val (.long bz), .second] [(.long (W k (A / 64)))]))
        refine Owes.go ?_ fun t₀ k₀ => X30.ldc2Long hx hown (mvT hZ (hw _ (List.mem_of_getElem? (i := 32) rfl))) (g := (mkF m 31 #[.val (.ref r0), .val (.int p1), .val (.int kI), .val (.int aI), .val (.long bz), .second] [(.long (W k (A / 64)))])) rfl (hb hby d10_31) _ k₀
        show Owes _ _ _ _ (T30.setTop (mkF m 34 #[.val (.ref r0), .val (.int p1), .val (.int kI), .val (.int aI), .val (.long bz), .second] [(.long (-1 : Int64)), (.long (W k (A / 64)))]))
        refine Owes.go ?_ fun t₀ k₀ => XS.bipush X30.here hx rfl (hb hby d10_34) k₀
        show Owes _ _ _ _ (T30.setTop (mkF m 36 #[.val (.ref r0), .val (.int p1), .val (.int kI), .val (.int aI), .val (.long bz), .second] [(.int (63 : Int32)), (.long (-1 : Int64)), (.long (W k (A / 64)))]))
        refine Owes.go ?_ fun t₀ k₀ => XS.iloadN X30.here hx rfl (hb hby d10_36) rfl k₀
        show Owes _ _ _ _ (T30.setTop (mkF m 37 #[.val (.ref r0), .val (.int p1), .val (.int kI), .val (.int aI), .val (.long bz), .second] [(.int aI), (.int (63 : Int32)), (.long (-1 : Int64)), (.long (W k (A / 64)))]))
        refine Owes.go ?_ fun t₀ k₀ => XS.bipush X30.here hx rfl (hb hby d10_37) k₀
        show Owes _ _ _ _ (T30.setTop (mkF m 39 #[.val (.ref r0), .val (.int p1), .val (.int kI), .val (.int aI), .val (.long bz), .second] [(.int (63 : Int32)), (.int aI), (.int (63 : Int32)), (.long (-1 : Int64)), (.long (W k (A / 64)))]))
        refine Owes.go ?_ fun t₀ k₀ => XS.iand X30.here hx rfl (hb hby d10_39) rfl k₀
        show Owes _ _ _ _ (T30.setTop (mkF m 40 #[.val (.ref r0), .val (.int p1), .val (.int kI), .val (.int aI), .val (.long bz), .second] [(.int (aI &&& (63 : Int32))), (.int (63 : Int32)), (.long (-1 : Int64)), (.long (W k (A / 64)))]))
        refine Owes.go ?_ fun t₀ k₀ => XS.isub X30.here hx rfl (hb hby d10_40) rfl k₀
        show Owes _ _ _ _ (T30.setTop (mkF m 41 #[.val (.ref r0), .val (.int p1), .val (.int kI), .val (.int aI), .val (.long bz), .second] [(.int ((63 : Int32) - (aI &&& (63 : Int32)))), (.long (-1 : Int64)), (.long (W k (A / 64)))]))
        refine Owes.go ?_ fun t₀ k₀ => XS.lushr X30.here hx rfl (hb hby d10_41) rfl k₀
        show Owes _ _ _ _ (T30.setTop (mkF m 42 #[.val (.ref r0), .val (.int p1), .val (.int kI), .val (.int aI), .val (.long bz), .second] [(.long (((-1 : Int64).toUInt64 >>> (((63 : Int32) - (aI &&& (63 : Int32))) &&& 0x3f).toInt64.toUInt64).toInt64)), (.long (W k (A / 64)))]))
        refine Owes.go ?_ fun t₀ k₀ => XS.land X30.here hx rfl (hb hby d10_42) rfl k₀
        show Owes _ _ _ _ (T30.setTop (mkF m 43 #[.val (.ref r0), .val (.int p1), .val (.int kI), .val (.int aI), .val (.long bz), .second] [(.long ((W k (A / 64)) &&& (((-1 : Int64).toUInt64 >>> (((63 : Int32) - (aI &&& (63 : Int32))) &&& 0x3f).toInt64.toUInt64).toInt64)))]))
        refine Owes.go ?_ fun t₀ k₀ => XS.lstore X30.here hx rfl (hb hby d10_43) rfl (l' := #[.val (.ref r0), .val (.int p1), .val (.int kI), .val (.int aI), .val (.long ((W k (A / 64)) &&& (((-1 : Int64).toUInt64 >>> (((63 : Int32) - (aI &&& (63 : Int32))) &&& 0x3f).toInt64.toUInt64).toInt64))), .second]) rfl k₀
        show Owes _ _ _ _ (T30.setTop (mkF m 45 #[.val (.ref r0), .val (.int p1), .val (.int kI), .val (.int aI), .val (.long ((W k (A / 64)) &&& (((-1 : Int64).toUInt64 >>> (((63 : Int32) - (aI &&& (63 : Int32))) &&& 0x3f).toInt64.toUInt64).toInt64))), .second] []))
        refine Owes.go ?_ fun t₀ k₀ => XS.lload X30.here hx rfl (hb hby d10_45) rfl k₀
        show Owes _ _ _ _ (T30.setTop (mkF m 47 #[.val (.ref r0), .val (.int p1), .val (.int kI), .val (.int aI), .val (.long ((W k (A / 64)) &&& (((-1 : Int64).toUInt64 >>> (((63 : Int32) - (aI &&& (63 : Int32))) &&& 0x3f).toInt64.toUInt64).toInt64))), .second] [(.long ((W k (A / 64)) &&& (((-1 : Int64).toUInt64 >>> (((63 : Int32) - (aI &&& (63 : Int32))) &&& 0x3f).toInt64.toUInt64).toInt64)))]))
        refine Owes.go ?_ fun t₀ k₀ => XS.lconst X30.here hx rfl (hb hby d10_47) k₀
        show Owes _ _ _ _ (T30.setTop (mkF m 48 #[.val (.ref r0), .val (.int p1), .val (.int kI), .val (.int aI), .val (.long ((W k (A / 64)) &&& (((-1 : Int64).toUInt64 >>> (((63 : Int32) - (aI &&& (63 : Int32))) &&& 0x3f).toInt64.toUInt64).toInt64))), .second] [(.long (0 : Int64)), (.long ((W k (A / 64)) &&& (((-1 : Int64).toUInt64 >>> (((63 : Int32) - (aI &&& (63 : Int32))) &&& 0x3f).toInt64.toUInt64).toInt64)))]))
        refine Owes.go ?_ fun t₀ k₀ => XS.lcmp X30.here hx rfl (hb hby d10_48) rfl k₀
        show Owes _ _ _ _ (T30.setTop (mkF m 49 #[.val (.ref r0), .val (.int p1), .val (.int kI), .val (.int aI), .val (.long ((W k (A / 64)) &&& (((-1 : Int64).toUInt64 >>> (((63 : Int32) - (aI &&& (63 : Int32))) &&& 0x3f).toInt64.toUInt64).toInt64))), .second] [(.int (lcmpW ((W k (A / 64)) &&& (((-1 : Int64).toUInt64 >>> (((63 : Int32) - (aI &&& (63 : Int32))) &&& 0x3f).toInt64.toUInt64).toInt64)) (0 : Int64)))]))
        by_cases hc1 : ((W k (A / 64)) &&& (((-1 : Int64).toUInt64 >>> (((63 : Int32) - (aI &&& (63 : Int32))) &&& 0x3f).toInt64.toUInt64).toInt64)) = (0 : Int64)
        · skip
          refine Owes.go ?_ fun t₀ k₀ => XS.ifNo X30.here hx rfl (hb hby d10_49) rfl ((if0 _ _).trans (teq ((lw_eq _ _).mpr hc1)).2) k₀
          show Owes _ _ _ _ (T30.setTop (mkF m 52 #[.val (.ref r0), .val (.int p1), .val (.int kI), .val (.int aI), .val (.long ((W k (A / 64)) &&& (((-1 : Int64).toUInt64 >>> (((63 : Int32) - (aI &&& (63 : Int32))) &&& 0x3f).toInt64.toUInt64).toInt64))), .second] []))
          refine Owes.go ?_ fun t₀ k₀ => XS.iloadN X30.here hx rfl (hb hby d10_52) rfl k₀
          show Owes _ _ _ _ (T30.setTop (mkF m 53 #[.val (.ref r0), .val (.int p1), .val (.int kI), .val (.int aI), .val (.long ((W k (A / 64)) &&& (((-1 : Int64).toUInt64 >>> (((63 : Int32) - (aI &&& (63 : Int32))) &&& 0x3f).toInt64.toUInt64).toInt64))), .second] [(.int aI)]))
          refine Owes.go ?_ fun t₀ k₀ => XS.bipush X30.here hx rfl (hb hby d10_53) k₀
          show Owes _ _ _ _ (T30.setTop (mkF m 55 #[.val (.ref r0), .val (.int p1), .val (.int kI), .val (.int aI), .val (.long ((W k (A / 64)) &&& (((-1 : Int64).toUInt64 >>> (((63 : Int32) - (aI &&& (63 : Int32))) &&& 0x3f).toInt64.toUInt64).toInt64))), .second] [(.int (6 : Int32)), (.int aI)]))
          refine Owes.go ?_ fun t₀ k₀ => XS.iushr X30.here hx rfl (hb hby d10_55) rfl k₀
          show Owes _ _ _ _ (T30.setTop (mkF m 56 #[.val (.ref r0), .val (.int p1), .val (.int kI), .val (.int aI), .val (.long ((W k (A / 64)) &&& (((-1 : Int64).toUInt64 >>> (((63 : Int32) - (aI &&& (63 : Int32))) &&& 0x3f).toInt64.toUInt64).toInt64))), .second] [(.int ((aI.toUInt32 >>> ((6 : Int32) &&& 31).toUInt32).toInt32))]))
          refine Owes.go ?_ fun t₀ k₀ => XS.iconst X30.here hx rfl (hb hby d10_56) k₀
          show Owes _ _ _ _ (T30.setTop (mkF m 57 #[.val (.ref r0), .val (.int p1), .val (.int kI), .val (.int aI), .val (.long ((W k (A / 64)) &&& (((-1 : Int64).toUInt64 >>> (((63 : Int32) - (aI &&& (63 : Int32))) &&& 0x3f).toInt64.toUInt64).toInt64))), .second] [(.int (1 : Int32)), (.int ((aI.toUInt32 >>> ((6 : Int32) &&& 31).toUInt32).toInt32))]))
          refine Owes.go ?_ fun t₀ k₀ => XS.isub X30.here hx rfl (hb hby d10_57) rfl k₀
          show Owes _ _ _ _ (T30.setTop (mkF m 58 #[.val (.ref r0), .val (.int p1), .val (.int kI), .val (.int aI), .val (.long ((W k (A / 64)) &&& (((-1 : Int64).toUInt64 >>> (((63 : Int32) - (aI &&& (63 : Int32))) &&& 0x3f).toInt64.toUInt64).toInt64))), .second] [(.int (((aI.toUInt32 >>> ((6 : Int32) &&& 31).toUInt32).toInt32) - (1 : Int32)))]))
          refine Owes.go ?_ fun t₀ k₀ => XS.istoreN X30.here hx rfl (hb hby d10_58) rfl (l' := #[.val (.ref r0), .val (.int p1), .val (.int kI), .val (.int (((aI.toUInt32 >>> ((6 : Int32) &&& 31).toUInt32).toInt32) - (1 : Int32))), .val (.long ((W k (A / 64)) &&& (((-1 : Int64).toUInt64 >>> (((63 : Int32) - (aI &&& (63 : Int32))) &&& 0x3f).toInt64.toUInt64).toInt64))), .second]) rfl k₀
          show Owes _ _ _ _ (T30.setTop (mkF m 59 #[.val (.ref r0), .val (.int p1), .val (.int kI), .val (.int (((aI.toUInt32 >>> ((6 : Int32) &&& 31).toUInt32).toInt32) - (1 : Int32))), .val (.long ((W k (A / 64)) &&& (((-1 : Int64).toUInt64 >>> (((63 : Int32) - (aI &&& (63 : Int32))) &&& 0x3f).toInt64.toUInt64).toInt64))), .second] []))
          refine Owes.go ?_ fun t₀ k₀ => XS.iinc X30.here hx rfl (hb hby d10_59) rfl (l' := #[.val (.ref r0), .val (.int p1), .val (.int (kI + (1 : Int32))), .val (.int (((aI.toUInt32 >>> ((6 : Int32) &&& 31).toUInt32).toInt32) - (1 : Int32))), .val (.long ((W k (A / 64)) &&& (((-1 : Int64).toUInt64 >>> (((63 : Int32) - (aI &&& (63 : Int32))) &&& 0x3f).toInt64.toUInt64).toInt64))), .second]) rfl k₀
          show Owes _ _ _ _ (T30.setTop (mkF m 62 #[.val (.ref r0), .val (.int p1), .val (.int (kI + (1 : Int32))), .val (.int (((aI.toUInt32 >>> ((6 : Int32) &&& 31).toUInt32).toInt32) - (1 : Int32))), .val (.long ((W k (A / 64)) &&& (((-1 : Int64).toUInt64 >>> (((63 : Int32) - (aI &&& (63 : Int32))) &&& 0x3f).toInt64.toUInt64).toInt64))), .second] []))
          refine Owes.go ?_ fun t₀ k₀ => XS.goto X30.here hx rfl (pc0 := 62) (pc' := 7) rfl (hb hby d10_62) (by decide) (by decide) k₀
          show Owes _ _ _ _ (T30.setTop (mkF m 7 #[.val (.ref r0), .val (.int p1), .val (.int (kI + (1 : Int32))), .val (.int (((aI.toUInt32 >>> ((6 : Int32) &&& 31).toUInt32).toInt32) - (1 : Int32))), .val (.long ((W k (A / 64)) &&& (((-1 : Int64).toUInt64 >>> (((63 : Int32) - (aI &&& (63 : Int32))) &&& 0x3f).toInt64.toUInt64).toInt64))), .second] []))
          exact ih (k + 1) (by omega) _ _ _ _ X30 e30 (own_inc hkI (by omega)) _ (own_sub1 (own_sh6 hA)) (U.next (H0 k hk) hidx _ (own_63 hA) hc1) (own_lim FT hk hAl) hc1
        · skip
          refine Owes.go ?_ fun t₀ k₀ => XS.ifYes X30.here hx rfl (pc0 := 49) (pc' := 7) rfl (hb hby d10_49) rfl ((if0 _ _).trans (feq (fun q => hc1 ((lw_eq _ _).mp q))).2) (by decide) (by decide) k₀
          show Owes _ _ _ _ (T30.setTop (mkF m 7 #[.val (.ref r0), .val (.int p1), .val (.int kI), .val (.int aI), .val (.long ((W k (A / 64)) &&& (((-1 : Int64).toUInt64 >>> (((63 : Int32) - (aI &&& (63 : Int32))) &&& 0x3f).toInt64.toUInt64).toInt64))), .second] []))
          obtain ⟨t, ht⟩ := High.ex hc1
          have hz := own_nlzJ _ t ht
          refine Owes.go ?_ fun t₀ k₀ => XS.lload X30.here hx rfl (hb hby d10_7) rfl k₀
          show Owes _ _ _ _ (T30.setTop (mkF m 9 #[.val (.ref r0), .val (.int p1), .val (.int kI), .val (.int aI), .val (.long ((W k (A / 64)) &&& (((-1 : Int64).toUInt64 >>> (((63 : Int32) - (aI &&& (63 : Int32))) &&& 0x3f).toInt64.toUInt64).toInt64))), .second] [(.long ((W k (A / 64)) &&& (((-1 : Int64).toUInt64 >>> (((63 : Int32) - (aI &&& (63 : Int32))) &&& 0x3f).toInt64.toUInt64).toInt64)))]))
          refine Owes.go ?_ fun t₀ k₀ => XS.lconst X30.here hx rfl (hb hby d10_9) k₀
          show Owes _ _ _ _ (T30.setTop (mkF m 10 #[.val (.ref r0), .val (.int p1), .val (.int kI), .val (.int aI), .val (.long ((W k (A / 64)) &&& (((-1 : Int64).toUInt64 >>> (((63 : Int32) - (aI &&& (63 : Int32))) &&& 0x3f).toInt64.toUInt64).toInt64))), .second] [(.long (0 : Int64)), (.long ((W k (A / 64)) &&& (((-1 : Int64).toUInt64 >>> (((63 : Int32) - (aI &&& (63 : Int32))) &&& 0x3f).toInt64.toUInt64).toInt64)))]))
          refine Owes.go ?_ fun t₀ k₀ => XS.lcmp X30.here hx rfl (hb hby d10_10) rfl k₀
          show Owes _ _ _ _ (T30.setTop (mkF m 11 #[.val (.ref r0), .val (.int p1), .val (.int kI), .val (.int aI), .val (.long ((W k (A / 64)) &&& (((-1 : Int64).toUInt64 >>> (((63 : Int32) - (aI &&& (63 : Int32))) &&& 0x3f).toInt64.toUInt64).toInt64))), .second] [(.int (lcmpW ((W k (A / 64)) &&& (((-1 : Int64).toUInt64 >>> (((63 : Int32) - (aI &&& (63 : Int32))) &&& 0x3f).toInt64.toUInt64).toInt64)) (0 : Int64)))]))
          refine Owes.go ?_ fun t₀ k₀ => XS.ifYes X30.here hx rfl (pc0 := 11) (pc' := 65) rfl (hb hby d10_11) rfl ((if0 _ _).trans (feq (fun q => hc1 ((lw_eq _ _).mp q))).2) (by decide) (by decide) k₀
          show Owes _ _ _ _ (T30.setTop (mkF m 65 #[.val (.ref r0), .val (.int p1), .val (.int kI), .val (.int aI), .val (.long ((W k (A / 64)) &&& (((-1 : Int64).toUInt64 >>> (((63 : Int32) - (aI &&& (63 : Int32))) &&& 0x3f).toInt64.toUInt64).toInt64))), .second] []))
          refine Owes.go ?_ fun t₀ k₀ => XS.iloadN X30.here hx rfl (hb hby d10_65) rfl k₀
          show Owes _ _ _ _ (T30.setTop (mkF m 66 #[.val (.ref r0), .val (.int p1), .val (.int kI), .val (.int aI), .val (.long ((W k (A / 64)) &&& (((-1 : Int64).toUInt64 >>> (((63 : Int32) - (aI &&& (63 : Int32))) &&& 0x3f).toInt64.toUInt64).toInt64))), .second] [(.int aI)]))
          refine Owes.go ?_ fun t₀ k₀ => XS.bipush X30.here hx rfl (hb hby d10_66) k₀
          show Owes _ _ _ _ (T30.setTop (mkF m 68 #[.val (.ref r0), .val (.int p1), .val (.int kI), .val (.int aI), .val (.long ((W k (A / 64)) &&& (((-1 : Int64).toUInt64 >>> (((63 : Int32) - (aI &&& (63 : Int32))) &&& 0x3f).toInt64.toUInt64).toInt64))), .second] [(.int (-64 : Int32)), (.int aI)]))
          refine Owes.go ?_ fun t₀ k₀ => XS.iand X30.here hx rfl (hb hby d10_68) rfl k₀
          show Owes _ _ _ _ (T30.setTop (mkF m 69 #[.val (.ref r0), .val (.int p1), .val (.int kI), .val (.int aI), .val (.long ((W k (A / 64)) &&& (((-1 : Int64).toUInt64 >>> (((63 : Int32) - (aI &&& (63 : Int32))) &&& 0x3f).toInt64.toUInt64).toInt64))), .second] [(.int (aI &&& (-64 : Int32)))]))
          refine Owes.go ?_ fun t₀ k₀ => XS.bipush X30.here hx rfl (hb hby d10_69) k₀
          show Owes _ _ _ _ (T30.setTop (mkF m 71 #[.val (.ref r0), .val (.int p1), .val (.int kI), .val (.int aI), .val (.long ((W k (A / 64)) &&& (((-1 : Int64).toUInt64 >>> (((63 : Int32) - (aI &&& (63 : Int32))) &&& 0x3f).toInt64.toUInt64).toInt64))), .second] [(.int (63 : Int32)), (.int (aI &&& (-64 : Int32)))]))
          refine Owes.go ?_ fun t₀ k₀ => XS.iadd X30.here hx rfl (hb hby d10_71) rfl k₀
          show Owes _ _ _ _ (T30.setTop (mkF m 72 #[.val (.ref r0), .val (.int p1), .val (.int kI), .val (.int aI), .val (.long ((W k (A / 64)) &&& (((-1 : Int64).toUInt64 >>> (((63 : Int32) - (aI &&& (63 : Int32))) &&& 0x3f).toInt64.toUInt64).toInt64))), .second] [(.int ((aI &&& (-64 : Int32)) + (63 : Int32)))]))
          refine Owes.go ?_ fun t₀ k₀ => XS.lload X30.here hx rfl (hb hby d10_72) rfl k₀
          show Owes _ _ _ _ (T30.setTop (mkF m 74 #[.val (.ref r0), .val (.int p1), .val (.int kI), .val (.int aI), .val (.long ((W k (A / 64)) &&& (((-1 : Int64).toUInt64 >>> (((63 : Int32) - (aI &&& (63 : Int32))) &&& 0x3f).toInt64.toUInt64).toInt64))), .second] [(.long ((W k (A / 64)) &&& (((-1 : Int64).toUInt64 >>> (((63 : Int32) - (aI &&& (63 : Int32))) &&& 0x3f).toInt64.toUInt64).toInt64))), (.int ((aI &&& (-64 : Int32)) + (63 : Int32)))]))
          refine Owes.callS X30 hx hZ hown (hw _ (List.mem_of_getElem? (i := 52) rfl)) (hw _ (List.mem_of_getElem? (i := 53) rfl)) (hw _ (List.mem_of_getElem? (i := 40) rfl)) (hw _ (List.mem_of_getElem? (i := 54) rfl)) (by decide) (argsL := [(.long ((W k (A / 64)) &&& (((-1 : Int64).toUInt64 >>> (((63 : Int32) - (aI &&& (63 : Int32))) &&& 0x3f).toInt64.toUInt64).toInt64)))]) (rest := [(.int ((aI &&& (-64 : Int32)) + (63 : Int32)))]) (rm_f_nlzJ l Z a0 hw [] ((W k (A / 64)) &&& (((-1 : Int64).toUInt64 >>> (((63 : Int32) - (aI &&& (63 : Int32))) &&& 0x3f).toInt64.toUInt64).toInt64)) h0 ) e30 (by rw [hml]; rfl) pd_2 rfl rfl (hb hby d10_74) (by decide) (Nat.le_of_ble_eq_true rfl) (by decide) (by decide) ?_
          rintro T31 _ _ X31 ⟨rfl, rfl, e31⟩
          rw [List.append_nil] at X31
          show Owes _ _ _ _ (T31.setTop (mkF m 77 #[.val (.ref r0), .val (.int p1), .val (.int kI), .val (.int aI), .val (.long ((W k (A / 64)) &&& (((-1 : Int64).toUInt64 >>> (((63 : Int32) - (aI &&& (63 : Int32))) &&& 0x3f).toInt64.toUInt64).toInt64))), .second] [(.int (f_nlzJ ((W k (A / 64)) &&& (((-1 : Int64).toUInt64 >>> (((63 : Int32) - (aI &&& (63 : Int32))) &&& 0x3f).toInt64.toUInt64).toInt64)))), (.int ((aI &&& (-64 : Int32)) + (63 : Int32)))]))
          refine Owes.go ?_ fun t₀ k₀ => XS.isub X31.here hx rfl (hb hby d10_77) rfl k₀
          show Owes _ _ _ _ (T31.setTop (mkF m 78 #[.val (.ref r0), .val (.int p1), .val (.int kI), .val (.int aI), .val (.long ((W k (A / 64)) &&& (((-1 : Int64).toUInt64 >>> (((63 : Int32) - (aI &&& (63 : Int32))) &&& 0x3f).toInt64.toUInt64).toInt64))), .second] [(.int (((aI &&& (-64 : Int32)) + (63 : Int32)) - (f_nlzJ ((W k (A / 64)) &&& (((-1 : Int64).toUInt64 >>> (((63 : Int32) - (aI &&& (63 : Int32))) &&& 0x3f).toInt64.toUInt64).toInt64)))))]))
          refine Owes.go ?_ fun t₀ k₀ => XS.istoreN X31.here hx rfl (hb hby d10_78) rfl (l' := #[.val (.ref r0), .val (.int p1), .val (.int kI), .val (.int (((aI &&& (-64 : Int32)) + (63 : Int32)) - (f_nlzJ ((W k (A / 64)) &&& (((-1 : Int64).toUInt64 >>> (((63 : Int32) - (aI &&& (63 : Int32))) &&& 0x3f).toInt64.toUInt64).toInt64))))), .val (.long ((W k (A / 64)) &&& (((-1 : Int64).toUInt64 >>> (((63 : Int32) - (aI &&& (63 : Int32))) &&& 0x3f).toInt64.toUInt64).toInt64))), .second]) rfl k₀
          show Owes _ _ _ _ (T31.setTop (mkF m 79 #[.val (.ref r0), .val (.int p1), .val (.int kI), .val (.int (((aI &&& (-64 : Int32)) + (63 : Int32)) - (f_nlzJ ((W k (A / 64)) &&& (((-1 : Int64).toUInt64 >>> (((63 : Int32) - (aI &&& (63 : Int32))) &&& 0x3f).toInt64.toUInt64).toInt64))))), .val (.long ((W k (A / 64)) &&& (((-1 : Int64).toUInt64 >>> (((63 : Int32) - (aI &&& (63 : Int32))) &&& 0x3f).toInt64.toUInt64).toInt64))), .second] []))
          exact dn k hk _ _ _ _ X31 e31 hkI (A - A % 64 + t) (own_hi (own_m64 hA) hz ht.1 (by have := rng32 aI; omega)) (U.found (H0 k hk) hidx _ (own_63 hA) ht)
  refine Owes.go ?_ fun t₀ k₀ => XS.iconst X0.here hx rfl (hb hby d10_0) k₀
  show Owes _ _ _ _ (s₁.setTop (mkF m 1 #[.val (.ref r0), .val (.int p1), .unset, .unset, .unset, .unset] [(.int (0 : Int32))]))
  refine Owes.go ?_ fun t₀ k₀ => XS.istoreN X0.here hx rfl (hb hby d10_1) rfl (l' := #[.val (.ref r0), .val (.int p1), .val (.int (0 : Int32)), .unset, .unset, .unset]) rfl k₀
  show Owes _ _ _ _ (s₁.setTop (mkF m 2 #[.val (.ref r0), .val (.int p1), .val (.int (0 : Int32)), .unset, .unset, .unset] []))
  refine Owes.go ?_ fun t₀ k₀ => XS.iloadN X0.here hx rfl (hb hby d10_2) rfl k₀
  show Owes _ _ _ _ (s₁.setTop (mkF m 3 #[.val (.ref r0), .val (.int p1), .val (.int (0 : Int32)), .unset, .unset, .unset] [(.int p1)]))
  refine Owes.go ?_ fun t₀ k₀ => XS.istoreN X0.here hx rfl (hb hby d10_3) rfl (l' := #[.val (.ref r0), .val (.int p1), .val (.int (0 : Int32)), .val (.int p1), .unset, .unset]) rfl k₀
  show Owes _ _ _ _ (s₁.setTop (mkF m 4 #[.val (.ref r0), .val (.int p1), .val (.int (0 : Int32)), .val (.int p1), .unset, .unset] []))
  refine Owes.go ?_ fun t₀ k₀ => XS.lconst X0.here hx rfl (hb hby d10_4) k₀
  show Owes _ _ _ _ (s₁.setTop (mkF m 5 #[.val (.ref r0), .val (.int p1), .val (.int (0 : Int32)), .val (.int p1), .unset, .unset] [(.long (0 : Int64))]))
  refine Owes.go ?_ fun t₀ k₀ => XS.lstore X0.here hx rfl (hb hby d10_5) rfl (l' := #[.val (.ref r0), .val (.int p1), .val (.int (0 : Int32)), .val (.int p1), .val (.long (0 : Int64)), .second]) rfl k₀
  show Owes _ _ _ _ (s₁.setTop (mkF m 7 #[.val (.ref r0), .val (.int p1), .val (.int (0 : Int32)), .val (.int p1), .val (.long (0 : Int64)), .second] []))
  exact up d 0 (by omega) _ _ _ _ X0 e0 rfl fr hp (UpP.start M fr) ⟨hfr.1, fun _ => by have := FT.2.2.1; omega, fun q => absurd q (by omega)⟩ rfl
theorem d14_0 : decode method_5_code 0 = .ok (.iload_n 1, 1) := by decide +kernel
theorem d14_1 : decode method_5_code 1 = .ok (.iload_n 3, 1) := by decide +kernel
theorem d14_2 : decode method_5_code 2 = .ok (.if_icmp .eq 14, 3) := by decide +kernel
theorem d14_16 : decode method_5_code 16 = .ok (.iload_n 0, 1) := by decide +kernel
theorem d14_17 : decode method_5_code 17 = .ok (.ireturn, 1) := by decide +kernel
theorem d14_5 : decode method_5_code 5 = .ok (.iload_n 1, 1) := by decide +kernel
theorem d14_6 : decode method_5_code 6 = .ok (.iload 4, 2) := by decide +kernel
theorem d14_8 : decode method_5_code 8 = .ok (.if_icmp .eq 8, 3) := by decide +kernel
theorem d14_11 : decode method_5_code 11 = .ok (.iload_n 1, 1) := by decide +kernel
theorem d14_12 : decode method_5_code 12 = .ok (.iload_n 2, 1) := by decide +kernel
theorem d14_13 : decode method_5_code 13 = .ok (.if_icmp .ge 5, 3) := by decide +kernel
theorem d14_18 : decode method_5_code 18 = .ok (.iload_n 0, 1) := by decide +kernel
theorem d14_19 : decode method_5_code 19 = .ok (.ifCond .lt 8, 3) := by decide +kernel
theorem d14_27 : decode method_5_code 27 = .ok (.iload_n 1, 1) := by decide +kernel
theorem d14_28 : decode method_5_code 28 = .ok (.ireturn, 1) := by decide +kernel
theorem d14_22 : decode method_5_code 22 = .ok (.iload_n 1, 1) := by decide +kernel
theorem d14_23 : decode method_5_code 23 = .ok (.iload_n 0, 1) := by decide +kernel
theorem d14_24 : decode method_5_code 24 = .ok (.if_icmp .ge 5, 3) := by decide +kernel
theorem d14_29 : decode method_5_code 29 = .ok (.iload_n 0, 1) := by decide +kernel
theorem d14_30 : decode method_5_code 30 = .ok (.ireturn, 1) := by decide +kernel
def f_up (p0 : Int32) (p1 : Int32) (p2 : Int32) (p3 : Int32) (p4 : Int32)  : Int32 := (if p1 = p3 then p0 else (if p1 = p4 then p0 else (if p1 < p2 then p0 else (if p0 < (0 : Int32) then p1 else (if p1 < p0 then p1 else p0)))))
theorem ef_14_f_up (m : MethodId) (p0 : Int32) (p1 : Int32) (p2 : Int32) (p3 : Int32) (p4 : Int32) : entryFrame m #[(.int p0), (.int p1), (.int p2), (.int p3), (.int p4)] 5 = mkF m 0 #[.val (.int p0), .val (.int p1), .val (.int p2), .val (.int p3), .val (.int p4)] [] := by first | (simp [entryFrame, mkF, argsToLocals, Value.category]; done) | rfl
theorem pn_14 : plainFor (⟨"com/example/slotwright/slotwright/core/RankSetRemovePinLaw", "up", "(IIIII)I"⟩ : MethodName) = true := plainFor_of_name (by first | (simp [plainName, overriddenIn]; done) | decide +kernel)
set_option maxRecDepth 65536 in
set_option maxHeartbeats 40000000 in
theorem rm_f_up (l : Launch) (Z : State) (a0 : Array Value) (hw : ∀ d ∈ tables_1, d.before a0 Z = true) (ws : List Jvm.Cond) (p0 : Int32) (p1 : Int32) (p2 : Int32) (p3 : Int32) (p4 : Int32) (h0 : Heap)  :
    OMet l (⟨"com/example/slotwright/slotwright/core/RankSetRemovePinLaw", "up", "(IIIII)I"⟩ : MethodName) method_5_code 5 (some .int) ws ({ frames := 0, cells := 0, slots := 0, locals := 0 } : Room) #[(.int p0), (.int p1), (.int p2), (.int p3), (.int p4)] Z h0 (fun v h L => v = some (Value.int (f_up p0 p1 p2 p3 p4)) ∧ L = [] ∧ h = h0) := by
  refine OMet.of pn_14 (fun m => ef_14_f_up m p0 p1 p2 p3 p4) ?_
  intro p e s m below meth c s₁ hx hby hml hown hnm hret hlk hZ X0 e0
  refine Owes.go ?_ fun t₀ k₀ => XS.iloadN X0.here hx rfl (hb hby d14_0) rfl k₀
  show Owes _ _ _ _ (s₁.setTop (mkF m 1 #[.val (.int p0), .val (.int p1), .val (.int p2), .val (.int p3), .val (.int p4)] [(.int p1)]))
  refine Owes.go ?_ fun t₀ k₀ => XS.iloadN X0.here hx rfl (hb hby d14_1) rfl k₀
  show Owes _ _ _ _ (s₁.setTop (mkF m 2 #[.val (.int p0), .val (.int p1), .val (.int p2), .val (.int p3), .val (.int p4)] [(.int p3), (.int p1)]))
  by_cases hc1 : p1 = p3
  · skip
    refine Owes.go ?_ fun t₀ k₀ => XS.icmpYes X0.here hx rfl (pc0 := 2) (pc' := 16) rfl (hb hby d14_2) rfl (teq hc1).1 (by decide) (by decide) k₀
    show Owes _ _ _ _ (s₁.setTop (mkF m 16 #[.val (.int p0), .val (.int p1), .val (.int p2), .val (.int p3), .val (.int p4)] []))
    refine Owes.go ?_ fun t₀ k₀ => XS.iloadN X0.here hx rfl (hb hby d14_16) rfl k₀
    show Owes _ _ _ _ (s₁.setTop (mkF m 17 #[.val (.int p0), .val (.int p1), .val (.int p2), .val (.int p3), .val (.int p4)] [(.int p0)]))
    exact Owes.retI X0 hx hlk hret (hb hby d14_17) (by decide) (by decide) ⟨congrArg (fun z => some (Value.int z)) (by unfold f_up; rw [if_pos hc1]; first | done | rfl), rfl, e0⟩
  · skip
    refine Owes.go ?_ fun t₀ k₀ => XS.icmpNo X0.here hx rfl (hb hby d14_2) rfl (feq hc1).1 k₀
    show Owes _ _ _ _ (s₁.setTop (mkF m 5 #[.val (.int p0), .val (.int p1), .val (.int p2), .val (.int p3), .val (.int p4)] []))
    refine Owes.go ?_ fun t₀ k₀ => XS.iloadN X0.here hx rfl (hb hby d14_5) rfl k₀
    show Owes _ _ _ _ (s₁.setTop (mkF m 6 #[.val (.int p0), .val (.int p1), .val (.int p2), .val (.int p3), .val (.int p4)] [(.int p1)]))
    refine Owes.go ?_ fun t₀ k₀ => XS.iload X0.here hx rfl (hb hby d14_6) rfl k₀
    show Owes _ _ _ _ (s₁.setTop (mkF m 8 #[.val (.int p0), .val (.int p1), .val (.int p2), .val (.int p3), .val (.int p4)] [(.int p4), (.int p1)]))
    by_cases hc2 : p1 = p4
    · skip
      refine Owes.go ?_ fun t₀ k₀ => XS.icmpYes X0.here hx rfl (pc0 := 8) (pc' := 16) rfl (hb hby d14_8) rfl (teq hc2).1 (by decide) (by decide) k₀
      show Owes _ _ _ _ (s₁.setTop (mkF m 16 #[.val (.int p0), .val (.int p1), .val (.int p2), .val (.int p3), .val (.int p4)] []))
      refine Owes.go ?_ fun t₀ k₀ => XS.iloadN X0.here hx rfl (hb hby d14_16) rfl k₀
      show Owes _ _ _ _ (s₁.setTop (mkF m 17 #[.val (.int p0), .val (.int p1), .val (.int p2), .val (.int p3), .val (.int p4)] [(.int p0)]))
      exact Owes.retI X0 hx hlk hret (hb hby d14_17) (by decide) (by decide) ⟨congrArg (fun z => some (Value.int z)) (by unfold f_up; rw [if_neg hc1, if_pos hc2]; first | done | rfl), rfl, e0⟩
    · skip
      refine Owes.go ?_ fun t₀ k₀ => XS.icmpNo X0.here hx rfl (hb hby d14_8) rfl (feq hc2).1 k₀
      show Owes _ _ _ _ (s₁.setTop (mkF m 11 #[.val (.int p0), .val (.int p1), .val (.int p2), .val (.int p3), .val (.int p4)] []))
      refine Owes.go ?_ fun t₀ k₀ => XS.iloadN X0.here hx rfl (hb hby d14_11) rfl k₀
      show Owes _ _ _ _ (s₁.setTop (mkF m 12 #[.val (.int p0), .val (.int p1), .val (.int p2), .val (.int p3), .val (.int p4)] [(.int p1)]))
      refine Owes.go ?_ fun t₀ k₀ => XS.iloadN X0.here hx rfl (hb hby d14_12) rfl k₀
      show Owes _ _ _ _ (s₁.setTop (mkF m 13 #[.val (.int p0), .val (.int p1), .val (.int p2), .val (.int p3), .val (.int p4)] [(.int p2), (.int p1)]))
      by_cases hc3 : p1 < p2
      · skip
        refine Owes.go ?_ fun t₀ k₀ => XS.icmpNo X0.here hx rfl (hb hby d14_13) rfl (tlt hc3).2.1 k₀
        show Owes _ _ _ _ (s₁.setTop (mkF m 16 #[.val (.int p0), .val (.int p1), .val (.int p2), .val (.int p3), .val (.int p4)] []))
        refine Owes.go ?_ fun t₀ k₀ => XS.iloadN X0.here hx rfl (hb hby d14_16) rfl k₀
        show Owes _ _ _ _ (s₁.setTop (mkF m 17 #[.val (.int p0), .val (.int p1), .val (.int p2), .val (.int p3), .val (.int p4)] [(.int p0)]))
        exact Owes.retI X0 hx hlk hret (hb hby d14_17) (by decide) (by decide) ⟨congrArg (fun z => some (Value.int z)) (by unfold f_up; rw [if_neg hc1, if_neg hc2, if_pos hc3]; first | done | rfl), rfl, e0⟩
      · skip
        refine Owes.go ?_ fun t₀ k₀ => XS.icmpYes X0.here hx rfl (pc0 := 13) (pc' := 18) rfl (hb hby d14_13) rfl (flt hc3).2.1 (by decide) (by decide) k₀
        show Owes _ _ _ _ (s₁.setTop (mkF m 18 #[.val (.int p0), .val (.int p1), .val (.int p2), .val (.int p3), .val (.int p4)] []))
        refine Owes.go ?_ fun t₀ k₀ => XS.iloadN X0.here hx rfl (hb hby d14_18) rfl k₀
        show Owes _ _ _ _ (s₁.setTop (mkF m 19 #[.val (.int p0), .val (.int p1), .val (.int p2), .val (.int p3), .val (.int p4)] [(.int p0)]))
        by_cases hc4 : p0 < (0 : Int32)
        · skip
          refine Owes.go ?_ fun t₀ k₀ => XS.ifYes X0.here hx rfl (pc0 := 19) (pc' := 27) rfl (hb hby d14_19) rfl ((if0 _ _).trans (tlt hc4).1) (by decide) (by decide) k₀
          show Owes _ _ _ _ (s₁.setTop (mkF m 27 #[.val (.int p0), .val (.int p1), .val (.int p2), .val (.int p3), .val (.int p4)] []))
          refine Owes.go ?_ fun t₀ k₀ => XS.iloadN X0.here hx rfl (hb hby d14_27) rfl k₀
          show Owes _ _ _ _ (s₁.setTop (mkF m 28 #[.val (.int p0), .val (.int p1), .val (.int p2), .val (.int p3), .val (.int p4)] [(.int p1)]))
          exact Owes.retI X0 hx hlk hret (hb hby d14_28) (by decide) (by decide) ⟨congrArg (fun z => some (Value.int z)) (by unfold f_up; rw [if_neg hc1, if_neg hc2, if_neg hc3, if_pos hc4]; first | done | rfl), rfl, e0⟩
        · skip
          refine Owes.go ?_ fun t₀ k₀ => XS.ifNo X0.here hx rfl (hb hby d14_19) rfl ((if0 _ _).trans (flt hc4).1) k₀
          show Owes _ _ _ _ (s₁.setTop (mkF m 22 #[.val (.int p0), .val (.int p1), .val (.int p2), .val (.int p3), .val (.int p4)] []))
          refine Owes.go ?_ fun t₀ k₀ => XS.iloadN X0.here hx rfl (hb hby d14_22) rfl k₀
          show Owes _ _ _ _ (s₁.setTop (mkF m 23 #[.val (.int p0), .val (.int p1), .val (.int p2), .val (.int p3), .val (.int p4)] [(.int p1)]))
          refine Owes.go ?_ fun t₀ k₀ => XS.iloadN X0.here hx rfl (hb hby d14_23) rfl k₀
          show Owes _ _ _ _ (s₁.setTop (mkF m 24 #[.val (.int p0), .val (.int p1), .val (.int p2), .val (.int p3), .val (.int p4)] [(.int p0), (.int p1)]))
          by_cases hc5 : p1 < p0
          · skip
            refine Owes.go ?_ fun t₀ k₀ => XS.icmpNo X0.here hx rfl (hb hby d14_24) rfl (tlt hc5).2.1 k₀
            show Owes _ _ _ _ (s₁.setTop (mkF m 27 #[.val (.int p0), .val (.int p1), .val (.int p2), .val (.int p3), .val (.int p4)] []))
            refine Owes.go ?_ fun t₀ k₀ => XS.iloadN X0.here hx rfl (hb hby d14_27) rfl k₀
            show Owes _ _ _ _ (s₁.setTop (mkF m 28 #[.val (.int p0), .val (.int p1), .val (.int p2), .val (.int p3), .val (.int p4)] [(.int p1)]))
            exact Owes.retI X0 hx hlk hret (hb hby d14_28) (by decide) (by decide) ⟨congrArg (fun z => some (Value.int z)) (by unfold f_up; rw [if_neg hc1, if_neg hc2, if_neg hc3, if_neg hc4, if_pos hc5]; first | done | rfl), rfl, e0⟩
          · skip
            refine Owes.go ?_ fun t₀ k₀ => XS.icmpYes X0.here hx rfl (pc0 := 24) (pc' := 29) rfl (hb hby d14_24) rfl (flt hc5).2.1 (by decide) (by decide) k₀
            show Owes _ _ _ _ (s₁.setTop (mkF m 29 #[.val (.int p0), .val (.int p1), .val (.int p2), .val (.int p3), .val (.int p4)] []))
            refine Owes.go ?_ fun t₀ k₀ => XS.iloadN X0.here hx rfl (hb hby d14_29) rfl k₀
            show Owes _ _ _ _ (s₁.setTop (mkF m 30 #[.val (.int p0), .val (.int p1), .val (.int p2), .val (.int p3), .val (.int p4)] [(.int p0)]))
            exact Owes.retI X0 hx hlk hret (hb hby d14_30) (by decide) (by decide) ⟨congrArg (fun z => some (Value.int z)) (by unfold f_up; rw [if_neg hc1, if_neg hc2, if_neg hc3, if_neg hc4, if_neg hc5]; first | done | rfl), rfl, e0⟩
theorem d16_0 : decode method_6_code 0 = .ok (.iload_n 1, 1) := by decide +kernel
theorem d16_1 : decode method_6_code 1 = .ok (.iload_n 3, 1) := by decide +kernel
theorem d16_2 : decode method_6_code 2 = .ok (.if_icmp .eq 14, 3) := by decide +kernel
theorem d16_16 : decode method_6_code 16 = .ok (.iload_n 0, 1) := by decide +kernel
theorem d16_17 : decode method_6_code 17 = .ok (.ireturn, 1) := by decide +kernel
theorem d16_5 : decode method_6_code 5 = .ok (.iload_n 1, 1) := by decide +kernel
theorem d16_6 : decode method_6_code 6 = .ok (.iload 4, 2) := by decide +kernel
theorem d16_8 : decode method_6_code 8 = .ok (.if_icmp .eq 8, 3) := by decide +kernel
theorem d16_11 : decode method_6_code 11 = .ok (.iload_n 1, 1) := by decide +kernel
theorem d16_12 : decode method_6_code 12 = .ok (.iload_n 2, 1) := by decide +kernel
theorem d16_13 : decode method_6_code 13 = .ok (.if_icmp .le 5, 3) := by decide +kernel
theorem d16_18 : decode method_6_code 18 = .ok (.iload_n 1, 1) := by decide +kernel
theorem d16_19 : decode method_6_code 19 = .ok (.iload_n 0, 1) := by decide +kernel
theorem d16_20 : decode method_6_code 20 = .ok (.if_icmp .le 5, 3) := by decide +kernel
theorem d16_23 : decode method_6_code 23 = .ok (.iload_n 1, 1) := by decide +kernel
theorem d16_24 : decode method_6_code 24 = .ok (.ireturn, 1) := by decide +kernel
theorem d16_25 : decode method_6_code 25 = .ok (.iload_n 0, 1) := by decide +kernel
theorem d16_26 : decode method_6_code 26 = .ok (.ireturn, 1) := by decide +kernel
def f_dn (p0 : Int32) (p1 : Int32) (p2 : Int32) (p3 : Int32) (p4 : Int32)  : Int32 := (if p1 = p3 then p0 else (if p1 = p4 then p0 else (if p2 < p1 then p0 else (if p0 < p1 then p1 else p0))))
theorem ef_16_f_dn (m : MethodId) (p0 : Int32) (p1 : Int32) (p2 : Int32) (p3 : Int32) (p4 : Int32) : entryFrame m #[(.int p0), (.int p1), (.int p2), (.int p3), (.int p4)] 5 = mkF m 0 #[.val (.int p0), .val (.int p1), .val (.int p2), .val (.int p3), .val (.int p4)] [] := by first | (simp [entryFrame, mkF, argsToLocals, Value.category]; done) | rfl
theorem pn_16 : plainFor (⟨"com/example/slotwright/slotwright/core/RankSetRemovePinLaw", "down", "(IIIII)I"⟩ : MethodName) = true := plainFor_of_name (by first | (simp [plainName, overriddenIn]; done) | decide +kernel)
set_option maxRecDepth 65536 in
set_option maxHeartbeats 40000000 in
theorem rm_f_dn (l : Launch) (Z : State) (a0 : Array Value) (hw : ∀ d ∈ tables_1, d.before a0 Z = true) (ws : List Jvm.Cond) (p0 : Int32) (p1 : Int32) (p2 : Int32) (p3 : Int32) (p4 : Int32) (h0 : Heap)  :
    OMet l (⟨"com/example/slotwright/slotwright/core/RankSetRemovePinLaw", "down", "(IIIII)I"⟩ : MethodName) method_6_code 5 (some .int) ws ({ frames := 0, cells := 0, slots := 0, locals := 0 } : Room) #[(.int p0), (.int p1), (.int p2), (.int p3), (.int p4)] Z h0 (fun v h L => v = some (Value.int (f_dn p0 p1 p2 p3 p4)) ∧ L = [] ∧ h = h0) := by
  refine OMet.of pn_16 (fun m => ef_16_f_dn m p0 p1 p2 p3 p4) ?_
  intro p e s m below meth c s₁ hx hby hml hown hnm hret hlk hZ X0 e0
  refine Owes.go ?_ fun t₀ k₀ => XS.iloadN X0.here hx rfl (hb hby d16_0) rfl k₀
  show Owes _ _ _ _ (s₁.setTop (mkF m 1 #[.val (.int p0), .val (.int p1), .val (.int p2), .val (.int p3), .val (.int p4)] [(.int p1)]))
  refine Owes.go ?_ fun t₀ k₀ => XS.iloadN X0.here hx rfl (hb hby d16_1) rfl k₀
  show Owes _ _ _ _ (s₁.setTop (mkF m 2 #[.val (.int p0), .val (.int p1), .val (.int p2), .val (.int p3), .val (.int p4)] [(.int p3), (.int p1)]))
  by_cases hc1 : p1 = p3
  · skip
    refine Owes.go ?_ fun t₀ k₀ => XS.icmpYes X0.here hx rfl (pc0 := 2) (pc' := 16) rfl (hb hby d16_2) rfl (teq hc1).1 (by decide) (by decide) k₀
    show Owes _ _ _ _ (s₁.setTop (mkF m 16 #[.val (.int p0), .val (.int p1), .val (.int p2), .val (.int p3), .val (.int p4)] []))
    refine Owes.go ?_ fun t₀ k₀ => XS.iloadN X0.here hx rfl (hb hby d16_16) rfl k₀
    show Owes _ _ _ _ (s₁.setTop (mkF m 17 #[.val (.int p0), .val (.int p1), .val (.int p2), .val (.int p3), .val (.int p4)] [(.int p0)]))
    exact Owes.retI X0 hx hlk hret (hb hby d16_17) (by decide) (by decide) ⟨congrArg (fun z => some (Value.int z)) (by unfold f_dn; rw [if_pos hc1]; first | done | rfl), rfl, e0⟩
  · skip
    refine Owes.go ?_ fun t₀ k₀ => XS.icmpNo X0.here hx rfl (hb hby d16_2) rfl (feq hc1).1 k₀
    show Owes _ _ _ _ (s₁.setTop (mkF m 5 #[.val (.int p0), .val (.int p1), .val (.int p2), .val (.int p3), .val (.int p4)] []))
    refine Owes.go ?_ fun t₀ k₀ => XS.iloadN X0.here hx rfl (hb hby d16_5) rfl k₀
    show Owes _ _ _ _ (s₁.setTop (mkF m 6 #[.val (.int p0), .val (.int p1), .val (.int p2), .val (.int p3), .val (.int p4)] [(.int p1)]))
    refine Owes.go ?_ fun t₀ k₀ => XS.iload X0.here hx rfl (hb hby d16_6) rfl k₀
    show Owes _ _ _ _ (s₁.setTop (mkF m 8 #[.val (.int p0), .val (.int p1), .val (.int p2), .val (.int p3), .val (.int p4)] [(.int p4), (.int p1)]))
    by_cases hc2 : p1 = p4
    · skip
      refine Owes.go ?_ fun t₀ k₀ => XS.icmpYes X0.here hx rfl (pc0 := 8) (pc' := 16) rfl (hb hby d16_8) rfl (teq hc2).1 (by decide) (by decide) k₀
      show Owes _ _ _ _ (s₁.setTop (mkF m 16 #[.val (.int p0), .val (.int p1), .val (.int p2), .val (.int p3), .val (.int p4)] []))
      refine Owes.go ?_ fun t₀ k₀ => XS.iloadN X0.here hx rfl (hb hby d16_16) rfl k₀
      show Owes _ _ _ _ (s₁.setTop (mkF m 17 #[.val (.int p0), .val (.int p1), .val (.int p2), .val (.int p3), .val (.int p4)] [(.int p0)]))
      exact Owes.retI X0 hx hlk hret (hb hby d16_17) (by decide) (by decide) ⟨congrArg (fun z => some (Value.int z)) (by unfold f_dn; rw [if_neg hc1, if_pos hc2]; first | done | rfl), rfl, e0⟩
    · skip
      refine Owes.go ?_ fun t₀ k₀ => XS.icmpNo X0.here hx rfl (hb hby d16_8) rfl (feq hc2).1 k₀
      show Owes _ _ _ _ (s₁.setTop (mkF m 11 #[.val (.int p0), .val (.int p1), .val (.int p2), .val (.int p3), .val (.int p4)] []))
      refine Owes.go ?_ fun t₀ k₀ => XS.iloadN X0.here hx rfl (hb hby d16_11) rfl k₀
      show Owes _ _ _ _ (s₁.setTop (mkF m 12 #[.val (.int p0), .val (.int p1), .val (.int p2), .val (.int p3), .val (.int p4)] [(.int p1)]))
      refine Owes.go ?_ fun t₀ k₀ => XS.iloadN X0.here hx rfl (hb hby d16_12) rfl k₀
      show Owes _ _ _ _ (s₁.setTop (mkF m 13 #[.val (.int p0), .val (.int p1), .val (.int p2), .val (.int p3), .val (.int p4)] [(.int p2), (.int p1)]))
      by_cases hc3 : p2 < p1
      · skip
        refine Owes.go ?_ fun t₀ k₀ => XS.icmpNo X0.here hx rfl (hb hby d16_13) rfl (tlt hc3).2.2.2 k₀
        show Owes _ _ _ _ (s₁.setTop (mkF m 16 #[.val (.int p0), .val (.int p1), .val (.int p2), .val (.int p3), .val (.int p4)] []))
        refine Owes.go ?_ fun t₀ k₀ => XS.iloadN X0.here hx rfl (hb hby d16_16) rfl k₀
        show Owes _ _ _ _ (s₁.setTop (mkF m 17 #[.val (.int p0), .val (.int p1), .val (.int p2), .val (.int p3), .val (.int p4)] [(.int p0)]))
        exact Owes.retI X0 hx hlk hret (hb hby d16_17) (by decide) (by decide) ⟨congrArg (fun z => some (Value.int z)) (by unfold f_dn; rw [if_neg hc1, if_neg hc2, if_pos hc3]; first | done | rfl), rfl, e0⟩
      · skip
        refine Owes.go ?_ fun t₀ k₀ => XS.icmpYes X0.here hx rfl (pc0 := 13) (pc' := 18) rfl (hb hby d16_13) rfl (flt hc3).2.2.2 (by decide) (by decide) k₀
        show Owes _ _ _ _ (s₁.setTop (mkF m 18 #[.val (.int p0), .val (.int p1), .val (.int p2), .val (.int p3), .val (.int p4)] []))
        refine Owes.go ?_ fun t₀ k₀ => XS.iloadN X0.here hx rfl (hb hby d16_18) rfl k₀
        show Owes _ _ _ _ (s₁.setTop (mkF m 19 #[.val (.int p0), .val (.int p1), .val (.int p2), .val (.int p3), .val (.int p4)] [(.int p1)]))
        refine Owes.go ?_ fun t₀ k₀ => XS.iloadN X0.here hx rfl (hb hby d16_19) rfl k₀
        show Owes _ _ _ _ (s₁.setTop (mkF m 20 #[.val (.int p0), .val (.int p1), .val (.int p2), .val (.int p3), .val (.int p4)] [(.int p0), (.int p1)]))
        by_cases hc4 : p0 < p1
        · skip
          refine Owes.go ?_ fun t₀ k₀ => XS.icmpNo X0.here hx rfl (hb hby d16_20) rfl (tlt hc4).2.2.2 k₀
          show Owes _ _ _ _ (s₁.setTop (mkF m 23 #[.val (.int p0), .val (.int p1), .val (.int p2), .val (.int p3), .val (.int p4)] []))
          refine Owes.go ?_ fun t₀ k₀ => XS.iloadN X0.here hx rfl (hb hby d16_23) rfl k₀
          show Owes _ _ _ _ (s₁.setTop (mkF m 24 #[.val (.int p0), .val (.int p1), .val (.int p2), .val (.int p3), .val (.int p4)] [(.int p1)]))
          exact Owes.retI X0 hx hlk hret (hb hby d16_24) (by decide) (by decide) ⟨congrArg (fun z => some (Value.int z)) (by unfold f_dn; rw [if_neg hc1, if_neg hc2, if_neg hc3, if_pos hc4]; first | done | rfl), rfl, e0⟩
        · skip
          refine Owes.go ?_ fun t₀ k₀ => XS.icmpYes X0.here hx rfl (pc0 := 20) (pc' := 25) rfl (hb hby d16_20) rfl (flt hc4).2.2.2 (by decide) (by decide) k₀
          show Owes _ _ _ _ (s₁.setTop (mkF m 25 #[.val (.int p0), .val (.int p1), .val (.int p2), .val (.int p3), .val (.int p4)] []))
          refine Owes.go ?_ fun t₀ k₀ => XS.iloadN X0.here hx rfl (hb hby d16_25) rfl k₀
          show Owes _ _ _ _ (s₁.setTop (mkF m 26 #[.val (.int p0), .val (.int p1), .val (.int p2), .val (.int p3), .val (.int p4)] [(.int p0)]))
          exact Owes.retI X0 hx hlk hret (hb hby d16_26) (by decide) (by decide) ⟨congrArg (fun z => some (Value.int z)) (by unfold f_dn; rw [if_neg hc1, if_neg hc2, if_neg hc3, if_neg hc4]; first | done | rfl), rfl, e0⟩
theorem d13_0 : decode method_3_code 0 = .ok (.iconst (-1), 1) := by decide +kernel
theorem d13_1 : decode method_3_code 1 = .ok (.iload_n 1, 1) := by decide +kernel
theorem d13_2 : decode method_3_code 2 = .ok (.iload_n 0, 1) := by decide +kernel
theorem d13_3 : decode method_3_code 3 = .ok (.iload 4, 2) := by decide +kernel
theorem d13_5 : decode method_3_code 5 = .ok (.iload 5, 2) := by decide +kernel
theorem d13_7 : decode method_3_code 7 = .ok (.invokestatic 34, 3) := by decide +kernel
theorem pd_3 : parseMethodDescriptor "(IIIII)I" = some ⟨[.int, .int, .int, .int, .int], some .int⟩ := by decide +kernel
theorem d13_10 : decode method_3_code 10 = .ok (.iload_n 2, 1) := by decide +kernel
theorem d13_11 : decode method_3_code 11 = .ok (.iload_n 0, 1) := by decide +kernel
theorem d13_12 : decode method_3_code 12 = .ok (.iload 4, 2) := by decide +kernel
theorem d13_14 : decode method_3_code 14 = .ok (.iload 5, 2) := by decide +kernel
theorem d13_16 : decode method_3_code 16 = .ok (.invokestatic 34, 3) := by decide +kernel
theorem d13_19 : decode method_3_code 19 = .ok (.iload_n 3, 1) := by decide +kernel
theorem d13_20 : decode method_3_code 20 = .ok (.iload_n 0, 1) := by decide +kernel
theorem d13_21 : decode method_3_code 21 = .ok (.iload 4, 2) := by decide +kernel
theorem d13_23 : decode method_3_code 23 = .ok (.iload 5, 2) := by decide +kernel
theorem d13_25 : decode method_3_code 25 = .ok (.invokestatic 34, 3) := by decide +kernel
theorem d13_28 : decode method_3_code 28 = .ok (.ireturn, 1) := by decide +kernel
def f_nr (p0 : Int32) (p1 : Int32) (p2 : Int32) (p3 : Int32) (p4 : Int32) (p5 : Int32)  : Int32 := (f_up (f_up (f_up (-1 : Int32) p1 p0 p4 p5) p2 p0 p4 p5) p3 p0 p4 p5)
theorem ef_13_f_nr (m : MethodId) (p0 : Int32) (p1 : Int32) (p2 : Int32) (p3 : Int32) (p4 : Int32) (p5 : Int32) : entryFrame m #[(.int p0), (.int p1), (.int p2), (.int p3), (.int p4), (.int p5)] 6 = mkF m 0 #[.val (.int p0), .val (.int p1), .val (.int p2), .val (.int p3), .val (.int p4), .val (.int p5)] [] := by first | (simp [entryFrame, mkF, argsToLocals, Value.category]; done) | rfl
theorem pn_13 : plainFor (⟨"com/example/slotwright/slotwright/core/RankSetRemovePinLaw", "nextRef", "(IIIIII)I"⟩ : MethodName) = true := plainFor_of_name (by first | (simp [plainName, overriddenIn]; done) | decide +kernel)
set_option maxRecDepth 65536 in
set_option maxHeartbeats 40000000 in
theorem rm_f_nr (l : Launch) (Z : State) (a0 : Array Value) (hw : ∀ d ∈ tables_1, d.before a0 Z = true) (ws : List Jvm.Cond) (p0 : Int32) (p1 : Int32) (p2 : Int32) (p3 : Int32) (p4 : Int32) (p5 : Int32) (h0 : Heap)  :
    OMet l (⟨"com/example/slotwright/slotwright/core/RankSetRemovePinLaw", "nextRef", "(IIIIII)I"⟩ : MethodName) method_3_code 6 (some .int) ws ({ frames := 1, cells := 0, slots := 0, locals := 16 } : Room) #[(.int p0), (.int p1), (.int p2), (.int p3), (.int p4), (.int p5)] Z h0 (fun v h L => v = some (Value.int (f_nr p0 p1 p2 p3 p4 p5)) ∧ L = [] ∧ h = h0) := by
  refine OMet.of pn_13 (fun m => ef_13_f_nr m p0 p1 p2 p3 p4 p5) ?_
  intro p e s m below meth c s₁ hx hby hml hown hnm hret hlk hZ X0 e0
  refine Owes.go ?_ fun t₀ k₀ => XS.iconst X0.here hx rfl (hb hby d13_0) k₀
  show Owes _ _ _ _ (s₁.setTop (mkF m 1 #[.val (.int p0), .val (.int p1), .val (.int p2), .val (.int p3), .val (.int p4), .val (.int p5)] [(.int (-1 : Int32))]))
  refine Owes.go ?_ fun t₀ k₀ => XS.iloadN X0.here hx rfl (hb hby d13_1) rfl k₀
  show Owes _ _ _ _ (s₁.setTop (mkF m 2 #[.val (.int p0), .val (.int p1), .val (.int p2), .val (.int p3), .val (.int p4), .val (.int p5)] [(.int p1), (.int (-1 : Int32))]))
  refine Owes.go ?_ fun t₀ k₀ => XS.iloadN X0.here hx rfl (hb hby d13_2) rfl k₀
  show Owes _ _ _ _ (s₁.setTop (mkF m 3 #[.val (.int p0), .val (.int p1), .val (.int p2), .val (.int p3), .val (.int p4), .val (.int p5)] [(.int p0), (.int p1), (.int (-1 : Int32))]))
  refine Owes.go ?_ fun t₀ k₀ => XS.iload X0.here hx rfl (hb hby d13_3) rfl k₀
  show Owes _ _ _ _ (s₁.setTop (mkF m 5 #[.val (.int p0), .val (.int p1), .val (.int p2), .val (.int p3), .val (.int p4), .val (.int p5)] [(.int p4), (.int p0), (.int p1), (.int (-1 : Int32))]))
  refine Owes.go ?_ fun t₀ k₀ => XS.iload X0.here hx rfl (hb hby d13_5) rfl k₀
  show Owes _ _ _ _ (s₁.setTop (mkF m 7 #[.val (.int p0), .val (.int p1), .val (.int p2), .val (.int p3), .val (.int p4), .val (.int p5)] [(.int p5), (.int p4), (.int p0), (.int p1), (.int (-1 : Int32))]))
  refine Owes.callS X0 hx hZ hown (hw _ (List.mem_of_getElem? (i := 62) rfl)) (hw _ (List.mem_of_getElem? (i := 63) rfl)) (hw _ (List.mem_of_getElem? (i := 60) rfl)) (hw _ (List.mem_of_getElem? (i := 64) rfl)) (by decide) (argsL := [(.int (-1 : Int32)), (.int p1), (.int p0), (.int p4), (.int p5)]) (rest := []) (rm_f_up l Z a0 hw [] (-1 : Int32) p1 p0 p4 p5 h0 ) e0 (by rw [hml]; rfl) pd_3 rfl rfl (hb hby d13_7) (by decide) (Nat.le_of_ble_eq_true rfl) (by decide) (by decide) ?_
  rintro T32 _ _ X32 ⟨rfl, rfl, e32⟩
  rw [List.append_nil] at X32
  show Owes _ _ _ _ (T32.setTop (mkF m 10 #[.val (.int p0), .val (.int p1), .val (.int p2), .val (.int p3), .val (.int p4), .val (.int p5)] [(.int (f_up (-1 : Int32) p1 p0 p4 p5))]))
  refine Owes.go ?_ fun t₀ k₀ => XS.iloadN X32.here hx rfl (hb hby d13_10) rfl k₀
  show Owes _ _ _ _ (T32.setTop (mkF m 11 #[.val (.int p0), .val (.int p1), .val (.int p2), .val (.int p3), .val (.int p4), .val (.int p5)] [(.int p2), (.int (f_up (-1 : Int32) p1 p0 p4 p5))]))
  refine Owes.go ?_ fun t₀ k₀ => XS.iloadN X32.here hx rfl (hb hby d13_11) rfl k₀
  show Owes _ _ _ _ (T32.setTop (mkF m 12 #[.val (.int p0), .val (.int p1), .val (.int p2), .val (.int p3), .val (.int p4), .val (.int p5)] [(.int p0), (.int p2), (.int (f_up (-1 : Int32) p1 p0 p4 p5))]))
  refine Owes.go ?_ fun t₀ k₀ => XS.iload X32.here hx rfl (hb hby d13_12) rfl k₀
  show Owes _ _ _ _ (T32.setTop (mkF m 14 #[.val (.int p0), .val (.int p1), .val (.int p2), .val (.int p3), .val (.int p4), .val (.int p5)] [(.int p4), (.int p0), (.int p2), (.int (f_up (-1 : Int32) p1 p0 p4 p5))]))
  refine Owes.go ?_ fun t₀ k₀ => XS.iload X32.here hx rfl (hb hby d13_14) rfl k₀
  show Owes _ _ _ _ (T32.setTop (mkF m 16 #[.val (.int p0), .val (.int p1), .val (.int p2), .val (.int p3), .val (.int p4), .val (.int p5)] [(.int p5), (.int p4), (.int p0), (.int p2), (.int (f_up (-1 : Int32) p1 p0 p4 p5))]))
  refine Owes.callS X32 hx hZ hown (hw _ (List.mem_of_getElem? (i := 62) rfl)) (hw _ (List.mem_of_getElem? (i := 63) rfl)) (hw _ (List.mem_of_getElem? (i := 60) rfl)) (hw _ (List.mem_of_getElem? (i := 64) rfl)) (by decide) (argsL := [(.int (f_up (-1 : Int32) p1 p0 p4 p5)), (.int p2), (.int p0), (.int p4), (.int p5)]) (rest := []) (rm_f_up l Z a0 hw [] (f_up (-1 : Int32) p1 p0 p4 p5) p2 p0 p4 p5 h0 ) e32 (by rw [hml]; rfl) pd_3 rfl rfl (hb hby d13_16) (by decide) (Nat.le_of_ble_eq_true rfl) (by decide) (by decide) ?_
  rintro T33 _ _ X33 ⟨rfl, rfl, e33⟩
  rw [List.append_nil] at X33
  show Owes _ _ _ _ (T33.setTop (mkF m 19 #[.val (.int p0), .val (.int p1), .val (.int p2), .val (.int p3), .val (.int p4), .val (.int p5)] [(.int (f_up (f_up (-1 : Int32) p1 p0 p4 p5) p2 p0 p4 p5))]))
  refine Owes.go ?_ fun t₀ k₀ => XS.iloadN X33.here hx rfl (hb hby d13_19) rfl k₀
  show Owes _ _ _ _ (T33.setTop (mkF m 20 #[.val (.int p0), .val (.int p1), .val (.int p2), .val (.int p3), .val (.int p4), .val (.int p5)] [(.int p3), (.int (f_up (f_up (-1 : Int32) p1 p0 p4 p5) p2 p0 p4 p5))]))
  refine Owes.go ?_ fun t₀ k₀ => XS.iloadN X33.here hx rfl (hb hby d13_20) rfl k₀
  show Owes _ _ _ _ (T33.setTop (mkF m 21 #[.val (.int p0), .val (.int p1), .val (.int p2), .val (.int p3), .val (.int p4), .val (.int p5)] [(.int p0), (.int p3), (.int (f_up (f_up (-1 : Int32) p1 p0 p4 p5) p2 p0 p4 p5))]))
  refine Owes.go ?_ fun t₀ k₀ => XS.iload X33.here hx rfl (hb hby d13_21) rfl k₀
  show Owes _ _ _ _ (T33.setTop (mkF m 23 #[.val (.int p0), .val (.int p1), .val (.int p2), .val (.int p3), .val (.int p4), .val (.int p5)] [(.int p4), (.int p0), (.int p3), (.int (f_up (f_up (-1 : Int32) p1 p0 p4 p5) p2 p0 p4 p5))]))
  refine Owes.go ?_ fun t₀ k₀ => XS.iload X33.here hx rfl (hb hby d13_23) rfl k₀
  show Owes _ _ _ _ (T33.setTop (mkF m 25 #[.val (.int p0), .val (.int p1), .val (.int p2), .val (.int p3), .val (.int p4), .val (.int p5)] [(.int p5), (.int p4), (.int p0), (.int p3), (.int (f_up (f_up (-1 : Int32) p1 p0 p4 p5) p2 p0 p4 p5))]))
  refine Owes.callS X33 hx hZ hown (hw _ (List.mem_of_getElem? (i := 62) rfl)) (hw _ (List.mem_of_getElem? (i := 63) rfl)) (hw _ (List.mem_of_getElem? (i := 60) rfl)) (hw _ (List.mem_of_getElem? (i := 64) rfl)) (by decide) (argsL := [(.int (f_up (f_up (-1 : Int32) p1 p0 p4 p5) p2 p0 p4 p5)), (.int p3), (.int p0), (.int p4), (.int p5)]) (rest := []) (rm_f_up l Z a0 hw [] (f_up (f_up (-1 : Int32) p1 p0 p4 p5) p2 p0 p4 p5) p3 p0 p4 p5 h0 ) e33 (by rw [hml]; rfl) pd_3 rfl rfl (hb hby d13_25) (by decide) (Nat.le_of_ble_eq_true rfl) (by decide) (by decide) ?_
  rintro T34 _ _ X34 ⟨rfl, rfl, e34⟩
  rw [List.append_nil] at X34
  show Owes _ _ _ _ (T34.setTop (mkF m 28 #[.val (.int p0), .val (.int p1), .val (.int p2), .val (.int p3), .val (.int p4), .val (.int p5)] [(.int (f_up (f_up (f_up (-1 : Int32) p1 p0 p4 p5) p2 p0 p4 p5) p3 p0 p4 p5))]))
  exact Owes.retI X34 hx hlk hret (hb hby d13_28) (by decide) (by decide) ⟨congrArg (fun z => some (Value.int z)) (by unfold f_nr; first | done | rfl), rfl, e34⟩
theorem d15_0 : decode method_4_code 0 = .ok (.iconst (-1), 1) := by decide +kernel
theorem d15_1 : decode method_4_code 1 = .ok (.iload_n 1, 1) := by decide +kernel
theorem d15_2 : decode method_4_code 2 = .ok (.iload_n 0, 1) := by decide +kernel
theorem d15_3 : decode method_4_code 3 = .ok (.iload 4, 2) := by decide +kernel
theorem d15_5 : decode method_4_code 5 = .ok (.iload 5, 2) := by decide +kernel
theorem d15_7 : decode method_4_code 7 = .ok (.invokestatic 38, 3) := by decide +kernel
theorem d15_10 : decode method_4_code 10 = .ok (.iload_n 2, 1) := by decide +kernel
theorem d15_11 : decode method_4_code 11 = .ok (.iload_n 0, 1) := by decide +kernel
theorem d15_12 : decode method_4_code 12 = .ok (.iload 4, 2) := by decide +kernel
theorem d15_14 : decode method_4_code 14 = .ok (.iload 5, 2) := by decide +kernel
theorem d15_16 : decode method_4_code 16 = .ok (.invokestatic 38, 3) := by decide +kernel
theorem d15_19 : decode method_4_code 19 = .ok (.iload_n 3, 1) := by decide +kernel
theorem d15_20 : decode method_4_code 20 = .ok (.iload_n 0, 1) := by decide +kernel
theorem d15_21 : decode method_4_code 21 = .ok (.iload 4, 2) := by decide +kernel
theorem d15_23 : decode method_4_code 23 = .ok (.iload 5, 2) := by decide +kernel
theorem d15_25 : decode method_4_code 25 = .ok (.invokestatic 38, 3) := by decide +kernel
theorem d15_28 : decode method_4_code 28 = .ok (.ireturn, 1) := by decide +kernel
def f_pr (p0 : Int32) (p1 : Int32) (p2 : Int32) (p3 : Int32) (p4 : Int32) (p5 : Int32)  : Int32 := (f_dn (f_dn (f_dn (-1 : Int32) p1 p0 p4 p5) p2 p0 p4 p5) p3 p0 p4 p5)
theorem ef_15_f_pr (m : MethodId) (p0 : Int32) (p1 : Int32) (p2 : Int32) (p3 : Int32) (p4 : Int32) (p5 : Int32) : entryFrame m #[(.int p0), (.int p1), (.int p2), (.int p3), (.int p4), (.int p5)] 6 = mkF m 0 #[.val (.int p0), .val (.int p1), .val (.int p2), .val (.int p3), .val (.int p4), .val (.int p5)] [] := by first | (simp [entryFrame, mkF, argsToLocals, Value.category]; done) | rfl
theorem pn_15 : plainFor (⟨"com/example/slotwright/slotwright/core/RankSetRemovePinLaw", "prevRef", "(IIIIII)I"⟩ : MethodName) = true := plainFor_of_name (by first | (simp [plainName, overriddenIn]; done) | decide +kernel)
set_option maxRecDepth 65536 in
set_option maxHeartbeats 40000000 in
theorem rm_f_pr (l : Launch) (Z : State) (a0 : Array Value) (hw : ∀ d ∈ tables_1, d.before a0 Z = true) (ws : List Jvm.Cond) (p0 : Int32) (p1 : Int32) (p2 : Int32) (p3 : Int32) (p4 : Int32) (p5 : Int32) (h0 : Heap)  :
    OMet l (⟨"com/example/slotwright/slotwright/core/RankSetRemovePinLaw", "prevRef", "(IIIIII)I"⟩ : MethodName) method_4_code 6 (some .int) ws ({ frames := 1, cells := 0, slots := 0, locals := 16 } : Room) #[(.int p0), (.int p1), (.int p2), (.int p3), (.int p4), (.int p5)] Z h0 (fun v h L => v = some (Value.int (f_pr p0 p1 p2 p3 p4 p5)) ∧ L = [] ∧ h = h0) := by
  refine OMet.of pn_15 (fun m => ef_15_f_pr m p0 p1 p2 p3 p4 p5) ?_
  intro p e s m below meth c s₁ hx hby hml hown hnm hret hlk hZ X0 e0
  refine Owes.go ?_ fun t₀ k₀ => XS.iconst X0.here hx rfl (hb hby d15_0) k₀
  show Owes _ _ _ _ (s₁.setTop (mkF m 1 #[.val (.int p0), .val (.int p1), .val (.int p2), .val (.int p3), .val (.int p4), .val (.int p5)] [(.int (-1 : Int32))]))
  refine Owes.go ?_ fun t₀ k₀ => XS.iloadN X0.here hx rfl (hb hby d15_1) rfl k₀
  show Owes _ _ _ _ (s₁.setTop (mkF m 2 #[.val (.int p0), .val (.int p1), .val (.int p2), .val (.int p3), .val (.int p4), .val (.int p5)] [(.int p1), (.int (-1 : Int32))]))
  refine Owes.go ?_ fun t₀ k₀ => XS.iloadN X0.here hx rfl (hb hby d15_2) rfl k₀
  show Owes _ _ _ _ (s₁.setTop (mkF m 3 #[.val (.int p0), .val (.int p1), .val (.int p2), .val (.int p3), .val (.int p4), .val (.int p5)] [(.int p0), (.int p1), (.int (-1 : Int32))]))
  refine Owes.go ?_ fun t₀ k₀ => XS.iload X0.here hx rfl (hb hby d15_3) rfl k₀
  show Owes _ _ _ _ (s₁.setTop (mkF m 5 #[.val (.int p0), .val (.int p1), .val (.int p2), .val (.int p3), .val (.int p4), .val (.int p5)] [(.int p4), (.int p0), (.int p1), (.int (-1 : Int32))]))
  refine Owes.go ?_ fun t₀ k₀ => XS.iload X0.here hx rfl (hb hby d15_5) rfl k₀
  show Owes _ _ _ _ (s₁.setTop (mkF m 7 #[.val (.int p0), .val (.int p1), .val (.int p2), .val (.int p3), .val (.int p4), .val (.int p5)] [(.int p5), (.int p4), (.int p0), (.int p1), (.int (-1 : Int32))]))
  refine Owes.callS X0 hx hZ hown (hw _ (List.mem_of_getElem? (i := 68) rfl)) (hw _ (List.mem_of_getElem? (i := 69) rfl)) (hw _ (List.mem_of_getElem? (i := 60) rfl)) (hw _ (List.mem_of_getElem? (i := 70) rfl)) (by decide) (argsL := [(.int (-1 : Int32)), (.int p1), (.int p0), (.int p4), (.int p5)]) (rest := []) (rm_f_dn l Z a0 hw [] (-1 : Int32) p1 p0 p4 p5 h0 ) e0 (by rw [hml]; rfl) pd_3 rfl rfl (hb hby d15_7) (by decide) (Nat.le_of_ble_eq_true rfl) (by decide) (by decide) ?_
  rintro T35 _ _ X35 ⟨rfl, rfl, e35⟩
  rw [List.append_nil] at X35
  show Owes _ _ _ _ (T35.setTop (mkF m 10 #[.val (.int p0), .val (.int p1), .val (.int p2), .val (.int p3), .val (.int p4), .val (.int p5)] [(.int (f_dn (-1 : Int32) p1 p0 p4 p5))]))
  refine Owes.go ?_ fun t₀ k₀ => XS.iloadN X35.here hx rfl (hb hby d15_10) rfl k₀
  show Owes _ _ _ _ (T35.setTop (mkF m 11 #[.val (.int p0), .val (.int p1), .val (.int p2), .val (.int p3), .val (.int p4), .val (.int p5)] [(.int p2), (.int (f_dn (-1 : Int32) p1 p0 p4 p5))]))
  refine Owes.go ?_ fun t₀ k₀ => XS.iloadN X35.here hx rfl (hb hby d15_11) rfl k₀
  show Owes _ _ _ _ (T35.setTop (mkF m 12 #[.val (.int p0), .val (.int p1), .val (.int p2), .val (.int p3), .val (.int p4), .val (.int p5)] [(.int p0), (.int p2), (.int (f_dn (-1 : Int32) p1 p0 p4 p5))]))
  refine Owes.go ?_ fun t₀ k₀ => XS.iload X35.here hx rfl (hb hby d15_12) rfl k₀
  show Owes _ _ _ _ (T35.setTop (mkF m 14 #[.val (.int p0), .val (.int p1), .val (.int p2), .val (.int p3), .val (.int p4), .val (.int p5)] [(.int p4), (.int p0), (.int p2), (.int (f_dn (-1 : Int32) p1 p0 p4 p5))]))
  refine Owes.go ?_ fun t₀ k₀ => XS.iload X35.here hx rfl (hb hby d15_14) rfl k₀
  show Owes _ _ _ _ (T35.setTop (mkF m 16 #[.val (.int p0), .val (.int p1), .val (.int p2), .val (.int p3), .val (.int p4), .val (.int p5)] [(.int p5), (.int p4), (.int p0), (.int p2), (.int (f_dn (-1 : Int32) p1 p0 p4 p5))]))
  refine Owes.callS X35 hx hZ hown (hw _ (List.mem_of_getElem? (i := 68) rfl)) (hw _ (List.mem_of_getElem? (i := 69) rfl)) (hw _ (List.mem_of_getElem? (i := 60) rfl)) (hw _ (List.mem_of_getElem? (i := 70) rfl)) (by decide) (argsL := [(.int (f_dn (-1 : Int32) p1 p0 p4 p5)), (.int p2), (.int p0), (.int p4), (.int p5)]) (rest := []) (rm_f_dn l Z a0 hw [] (f_dn (-1 : Int32) p1 p0 p4 p5) p2 p0 p4 p5 h0 ) e35 (by rw [hml]; rfl) pd_3 rfl rfl (hb hby d15_16) (by decide) (Nat.le_of_ble_eq_true rfl) (by decide) (by decide) ?_
  rintro T36 _ _ X36 ⟨rfl, rfl, e36⟩
  rw [List.append_nil] at X36
  show Owes _ _ _ _ (T36.setTop (mkF m 19 #[.val (.int p0), .val (.int p1), .val (.int p2), .val (.int p3), .val (.int p4), .val (.int p5)] [(.int (f_dn (f_dn (-1 : Int32) p1 p0 p4 p5) p2 p0 p4 p5))]))
  refine Owes.go ?_ fun t₀ k₀ => XS.iloadN X36.here hx rfl (hb hby d15_19) rfl k₀
  show Owes _ _ _ _ (T36.setTop (mkF m 20 #[.val (.int p0), .val (.int p1), .val (.int p2), .val (.int p3), .val (.int p4), .val (.int p5)] [(.int p3), (.int (f_dn (f_dn (-1 : Int32) p1 p0 p4 p5) p2 p0 p4 p5))]))
  refine Owes.go ?_ fun t₀ k₀ => XS.iloadN X36.here hx rfl (hb hby d15_20) rfl k₀
  show Owes _ _ _ _ (T36.setTop (mkF m 21 #[.val (.int p0), .val (.int p1), .val (.int p2), .val (.int p3), .val (.int p4), .val (.int p5)] [(.int p0), (.int p3), (.int (f_dn (f_dn (-1 : Int32) p1 p0 p4 p5) p2 p0 p4 p5))]))
  refine Owes.go ?_ fun t₀ k₀ => XS.iload X36.here hx rfl (hb hby d15_21) rfl k₀
  show Owes _ _ _ _ (T36.setTop (mkF m 23 #[.val (.int p0), .val (.int p1), .val (.int p2), .val (.int p3), .val (.int p4), .val (.int p5)] [(.int p4), (.int p0), (.int p3), (.int (f_dn (f_dn (-1 : Int32) p1 p0 p4 p5) p2 p0 p4 p5))]))
  refine Owes.go ?_ fun t₀ k₀ => XS.iload X36.here hx rfl (hb hby d15_23) rfl k₀
  show Owes _ _ _ _ (T36.setTop (mkF m 25 #[.val (.int p0), .val (.int p1), .val (.int p2), .val (.int p3), .val (.int p4), .val (.int p5)] [(.int p5), (.int p4), (.int p0), (.int p3), (.int (f_dn (f_dn (-1 : Int32) p1 p0 p4 p5) p2 p0 p4 p5))]))
  refine Owes.callS X36 hx hZ hown (hw _ (List.mem_of_getElem? (i := 68) rfl)) (hw _ (List.mem_of_getElem? (i := 69) rfl)) (hw _ (List.mem_of_getElem? (i := 60) rfl)) (hw _ (List.mem_of_getElem? (i := 70) rfl)) (by decide) (argsL := [(.int (f_dn (f_dn (-1 : Int32) p1 p0 p4 p5) p2 p0 p4 p5)), (.int p3), (.int p0), (.int p4), (.int p5)]) (rest := []) (rm_f_dn l Z a0 hw [] (f_dn (f_dn (-1 : Int32) p1 p0 p4 p5) p2 p0 p4 p5) p3 p0 p4 p5 h0 ) e36 (by rw [hml]; rfl) pd_3 rfl rfl (hb hby d15_25) (by decide) (Nat.le_of_ble_eq_true rfl) (by decide) (by decide) ?_
  rintro T37 _ _ X37 ⟨rfl, rfl, e37⟩
  rw [List.append_nil] at X37
  show Owes _ _ _ _ (T37.setTop (mkF m 28 #[.val (.int p0), .val (.int p1), .val (.int p2), .val (.int p3), .val (.int p4), .val (.int p5)] [(.int (f_dn (f_dn (f_dn (-1 : Int32) p1 p0 p4 p5) p2 p0 p4 p5) p3 p0 p4 p5))]))
  exact Owes.retI X37 hx hlk hret (hb hby d15_28) (by decide) (by decide) ⟨congrArg (fun z => some (Value.int z)) (by unfold f_pr; first | done | rfl), rfl, e37⟩
theorem own_used {sz : Nat} (h : sz ≤ 8192) : 5 + used sz 5 ≤ 140 := by
  show 5 + (0 + (sz + 63) / 64 + ((sz + 63) / 64 + 63) / 64 + (((sz + 63) / 64 + 63) / 64 + 63) / 64 + ((((sz + 63) / 64 + 63) / 64 + 63) / 64 + 63) / 64 + (((((sz + 63) / 64 + 63) / 64 + 63) / 64 + 63) / 64 + 63) / 64) ≤ 140
  omega
theorem own_mk (p : Int32) : ∃ a : Nat, (p &&& (8191 : Int32)).toInt = (a : Int) ∧ a < 8192 := by
  have h := c_mask p 8191 13 (by decide) (by decide)
  generalize (p &&& 8191).toInt = v at *
  refine ⟨v.toNat, by omega, by omega⟩
def M5 (a b c r s : Nat) : Nat → Prop := fun x => ((((False ∨ x = a) ∨ x = b) ∨ x = c) ∧ x ≠ r) ∧ x ≠ s
theorem M5_i (a b c r s x : Nat) : (((False ∨ (x = a ∧ x ≠ r ∧ x ≠ s)) ∨ (x = b ∧ x ≠ r ∧ x ≠ s)) ∨ (x = c ∧ x ≠ r ∧ x ≠ s)) ↔ M5 a b c r s x := by
  show _ ↔ ((((False ∨ x = a) ∨ x = b) ∨ x = c) ∧ x ≠ r) ∧ x ≠ s
  constructor
  · rintro (((h | ⟨h, h1, h2⟩) | ⟨h, h1, h2⟩) | ⟨h, h1, h2⟩)
    · exact h.elim
    · exact ⟨⟨Or.inl (Or.inl (Or.inr h)), h1⟩, h2⟩
    · exact ⟨⟨Or.inl (Or.inr h), h1⟩, h2⟩
    · exact ⟨⟨Or.inr h, h1⟩, h2⟩
  · rintro ⟨⟨((h | h) | h) | h, h1⟩, h2⟩
    · exact h.elim
    · exact Or.inl (Or.inl (Or.inr ⟨h, h1, h2⟩))
    · exact Or.inl (Or.inr ⟨h, h1, h2⟩)
    · exact Or.inr ⟨h, h1, h2⟩
theorem M5_e {a b c r s x : Nat} (h : M5 a b c r s x) : x = a ∨ x = b ∨ x = c := by
  rcases (M5_i a b c r s x).mpr h with ((h | ⟨h, _⟩) | ⟨h, _⟩) | ⟨h, _⟩
  · exact h.elim
  · exact Or.inl h
  · exact Or.inr (Or.inl h)
  · exact Or.inr (Or.inr h)
theorem NextIs.congr {S S' : Nat → Prop} {fr : Nat} {r : Int} (h : NextIs S fr r) (q : ∀ x, S x ↔ S' x) : NextIs S' fr r := by
  rcases h with ⟨h1, h2⟩ | ⟨y, h1, h2, h3, h4⟩
  · exact Or.inl ⟨h1, fun x hx => h2 x ((q x).mpr hx)⟩
  · exact Or.inr ⟨y, h1, (q y).mp h2, h3, fun x hx => h4 x ((q x).mpr hx)⟩
theorem PrevIs.congr {S S' : Nat → Prop} {fr : Int} {r : Int} (h : PrevIs S fr r) (q : ∀ x, S x ↔ S' x) : PrevIs S' fr r := by
  rcases h with ⟨h1, h2⟩ | ⟨y, h1, h2, h3, h4⟩
  · exact Or.inl ⟨h1, fun x hx => h2 x ((q x).mpr hx)⟩
  · exact Or.inr ⟨y, h1, (q y).mp h2, h3, fun x hx => h4 x ((q x).mpr hx)⟩
theorem own_up (best m q r s : Int32) (mn qn rn sn : Nat) (hm : m.toInt = (mn : Int)) (hq : q.toInt = (qn : Int)) (hr : r.toInt = (rn : Int)) (hs : s.toInt = (sn : Int)) (S : Nat → Prop) (h : NextIs S (qn) best.toInt) : NextIs (fun x => S x ∨ (x = mn ∧ x ≠ rn ∧ x ≠ sn)) (qn) (f_up best m q r s).toInt := by
  unfold f_up
  simp only [Int32.lt_iff_toInt_lt, ← Int32.toInt_inj, hm, hq, hr, hs, show (0 : Int32).toInt = 0 from rfl]
  rcases h with ⟨hb, h1⟩ | ⟨y, hb, h1, h2, h3⟩
  · simp only [hb]
    repeat' split
    all_goals first
      | omega
      | (refine Or.inl ⟨hb, fun x hx hf => ?_⟩
         rcases hx with hx | ⟨rfl, hx⟩
         · exact h1 x hx hf
         · omega)
      | (refine Or.inr ⟨mn, hm, Or.inr ⟨rfl, by omega, by omega⟩, by omega, fun x hx hf => ?_⟩
         rcases hx with hx | ⟨rfl, hx⟩
         · exact absurd hf (h1 x hx)
         · omega)
  · simp only [hb]
    repeat' split
    all_goals first
      | omega
      | (refine Or.inr ⟨y, hb, Or.inl h1, h2, fun x hx hf => ?_⟩
         rcases hx with hx | ⟨rfl, hx⟩
         · exact h3 x hx hf
         · omega)
      | (refine Or.inr ⟨mn, hm, Or.inr ⟨rfl, by omega, by omega⟩, by omega, fun x hx hf => ?_⟩
         rcases hx with hx | ⟨rfl, hx⟩
         · have := h3 x hx hf
           omega
         · omega)
theorem own_dn (best m q r s : Int32) (mn qn rn sn : Nat) (hm : m.toInt = (mn : Int)) (hq : q.toInt = (qn : Int)) (hr : r.toInt = (rn : Int)) (hs : s.toInt = (sn : Int)) (S : Nat → Prop) (h : PrevIs S (qn : Int) best.toInt) : PrevIs (fun x => S x ∨ (x = mn ∧ x ≠ rn ∧ x ≠ sn)) (qn : Int) (f_dn best m q r s).toInt := by
  unfold f_dn
  simp only [Int32.lt_iff_toInt_lt, ← Int32.toInt_inj, hm, hq, hr, hs, show (0 : Int32).toInt = 0 from rfl]
  rcases h with ⟨hb, h1⟩ | ⟨y, hb, h1, h2, h3⟩
  · simp only [hb]
    repeat' split
    all_goals first
      | omega
      | (refine Or.inl ⟨hb, fun x hx hf => ?_⟩
         rcases hx with hx | ⟨rfl, hx⟩
         · exact h1 x hx hf
         · omega)
      | (refine Or.inr ⟨mn, hm, Or.inr ⟨rfl, by omega, by omega⟩, by omega, fun x hx hf => ?_⟩
         rcases hx with hx | ⟨rfl, hx⟩
         · exact absurd hf (h1 x hx)
         · omega)
  · simp only [hb]
    repeat' split
    all_goals first
      | omega
      | (refine Or.inr ⟨y, hb, Or.inl h1, h2, fun x hx hf => ?_⟩
         rcases hx with hx | ⟨rfl, hx⟩
         · exact h3 x hx hf
         · omega)
      | (refine Or.inr ⟨mn, hm, Or.inr ⟨rfl, by omega, by omega⟩, by omega, fun x hx hf => ?_⟩
         rcases hx with hx | ⟨rfl, hx⟩
         · have := h3 x hx hf
           omega
         · omega)
theorem own_nr (p0 p1 p2 p3 p4 p5 : Int32) (q a b c r s : Nat) (hq : p0.toInt = (q : Int)) (ha : p1.toInt = (a : Int)) (hb : p2.toInt = (b : Int)) (hc : p3.toInt = (c : Int)) (hr : p4.toInt = (r : Int)) (hs : p5.toInt = (s : Int)) : NextIs (M5 a b c r s) q (f_nr p0 p1 p2 p3 p4 p5).toInt :=
  (own_up _ _ _ _ _ c q r s hc hq hr hs _ (own_up _ _ _ _ _ b q r s hb hq hr hs _ (own_up _ _ _ _ _ a q r s ha hq hr hs (fun _ => False) (Or.inl ⟨rfl, fun x hx => hx.elim⟩)))).congr (M5_i a b c r s)
theorem own_pr (p0 p1 p2 p3 p4 p5 : Int32) (q a b c r s : Nat) (hq : p0.toInt = (q : Int)) (ha : p1.toInt = (a : Int)) (hb : p2.toInt = (b : Int)) (hc : p3.toInt = (c : Int)) (hr : p4.toInt = (r : Int)) (hs : p5.toInt = (s : Int)) : PrevIs (M5 a b c r s) (q : Int) (f_pr p0 p1 p2 p3 p4 p5).toInt :=
  (own_dn _ _ _ _ _ c q r s hc hq hr hs _ (own_dn _ _ _ _ _ b q r s hb hq hr hs _ (own_dn _ _ _ _ _ a q r s ha hq hr hs (fun _ => False) (Or.inl ⟨rfl, fun x hx => hx.elim⟩)))).congr (M5_i a b c r s)
theorem pd_4 : parseMethodDescriptor "(I)V" = some ⟨[.int], none⟩ := by decide +kernel
theorem pd_5 : parseMethodDescriptor "(IIIIII)I" = some ⟨[.int, .int, .int, .int, .int, .int], some .int⟩ := by decide +kernel
def QL (n0 : Nat) (v : Option Value) (h : Heap) (L : List Loc) : Prop := v = some (.int 1) ∧ Fr n0 L
theorem ef_0 (m : MethodId) (p0 : Int32) (p1 : Int32) (p2 : Int32) (p3 : Int32) (p4 : Int32) (p5 : Int32) : entryFrame m #[(.int p0), (.int p1), (.int p2), (.int p3), (.int p4), (.int p5)] maxLocals = mkF m 0 #[.val (.int p0), .val (.int p1), .val (.int p2), .val (.int p3), .val (.int p4), .val (.int p5), .unset, .unset, .unset, .unset, .unset, .unset, .unset, .unset, .unset, .unset, .unset] [] := by first | (simp [entryFrame, mkF, argsToLocals, Value.category, maxLocals]; done) | rfl
theorem pn_0 : plainFor (⟨"com/example/slotwright/slotwright/core/RankSetRemovePinLaw", "law", "(IIIIII)Z"⟩ : MethodName) = true := plainFor_of_name (by first | (simp [plainName, overriddenIn]; done) | decide +kernel)
set_option maxRecDepth 65536 in
set_option maxHeartbeats 40000000 in
theorem rm0 (l : Launch) (Z : State) (a0 : Array Value) (hw : ∀ d ∈ tables_1, d.before a0 Z = true) (ws : List Jvm.Cond) (p0 : Int32) (p1 : Int32) (p2 : Int32) (p3 : Int32) (p4 : Int32) (p5 : Int32) (h0 : Heap) (n0 : Nat) (Z0 : n0 ≤ h0.size)  :
    OMet l x code maxLocals ret ws room_1 #[(.int p0), (.int p1), (.int p2), (.int p3), (.int p4), (.int p5)] Z h0 (QL n0) := by
  have N0 := Fr.nil n0
  refine OMet.of pn_0 (fun m => ef_0 m p0 p1 p2 p3 p4 p5) ?_
  intro p e s m below meth c s₁ hx hby hml hown hnm hret hlk hZ X0 e0
  obtain ⟨sz, hszd⟩ : ∃ z : Nat, z = 8192 := ⟨_, rfl⟩
  have hsz : (8192 : Int32).toInt = (sz : Int) := by rw [hszd]; rfl
  have hsz1 : 0 < sz := by omega
  have hSL := own_used (show sz ≤ 8192 by omega)
  refine Owes.go ?_ fun t₀ k₀ => XS.iloadN X0.here hx rfl (hb hby at_0) rfl k₀
  show Owes _ _ _ _ (s₁.setTop (mkF m 1 #[.val (.int p0), .val (.int p1), .val (.int p2), .val (.int p3), .val (.int p4), .val (.int p5), .unset, .unset, .unset, .unset, .unset, .unset, .unset, .unset, .unset, .unset, .unset] [(.int p0)]))
  refine Owes.go ?_ fun t₀ k₀ => XS.sipush X0.here hx rfl (hb hby at_1) k₀
  show Owes _ _ _ _ (s₁.setTop (mkF m 4 #[.val (.int p0), .val (.int p1), .val (.int p2), .val (.int p3), .val (.int p4), .val (.int p5), .unset, .unset, .unset, .unset, .unset, .unset, .unset, .unset, .unset, .unset, .unset] [(.int (8191 : Int32)), (.int p0)]))
  refine Owes.go ?_ fun t₀ k₀ => XS.iand X0.here hx rfl (hb hby at_4) rfl k₀
  show Owes _ _ _ _ (s₁.setTop (mkF m 5 #[.val (.int p0), .val (.int p1), .val (.int p2), .val (.int p3), .val (.int p4), .val (.int p5), .unset, .unset, .unset, .unset, .unset, .unset, .unset, .unset, .unset, .unset, .unset] [(.int (p0 &&& (8191 : Int32)))]))
  refine Owes.go ?_ fun t₀ k₀ => XS.istore X0.here hx rfl (hb hby at_5) rfl (l' := #[.val (.int p0), .val (.int p1), .val (.int p2), .val (.int p3), .val (.int p4), .val (.int p5), .val (.int (p0 &&& (8191 : Int32))), .unset, .unset, .unset, .unset, .unset, .unset, .unset, .unset, .unset, .unset]) rfl k₀
  show Owes _ _ _ _ (s₁.setTop (mkF m 7 #[.val (.int p0), .val (.int p1), .val (.int p2), .val (.int p3), .val (.int p4), .val (.int p5), .val (.int (p0 &&& (8191 : Int32))), .unset, .unset, .unset, .unset, .unset, .unset, .unset, .unset, .unset, .unset] []))
  obtain ⟨a_, ha_, la_⟩ := own_mk p0
  generalize (p0 &&& (8191 : Int32)) = aI at *
  refine Owes.go ?_ fun t₀ k₀ => XS.iloadN X0.here hx rfl (hb hby at_7) rfl k₀
  show Owes _ _ _ _ (s₁.setTop (mkF m 8 #[.val (.int p0), .val (.int p1), .val (.int p2), .val (.int p3), .val (.int p4), .val (.int p5), .val (.int aI), .unset, .unset, .unset, .unset, .unset, .unset, .unset, .unset, .unset, .unset] [(.int p1)]))
  refine Owes.go ?_ fun t₀ k₀ => XS.sipush X0.here hx rfl (hb hby at_8) k₀
  show Owes _ _ _ _ (s₁.setTop (mkF m 11 #[.val (.int p0), .val (.int p1), .val (.int p2), .val (.int p3), .val (.int p4), .val (.int p5), .val (.int aI), .unset, .unset, .unset, .unset, .unset, .unset, .unset, .unset, .unset, .unset] [(.int (8191 : Int32)), (.int p1)]))
  refine Owes.go ?_ fun t₀ k₀ => XS.iand X0.here hx rfl (hb hby at_11) rfl k₀
  show Owes _ _ _ _ (s₁.setTop (mkF m 12 #[.val (.int p0), .val (.int p1), .val (.int p2), .val (.int p3), .val (.int p4), .val (.int p5), .val (.int aI), .unset, .unset, .unset, .unset, .unset, .unset, .unset, .unset, .unset, .unset] [(.int (p1 &&& (8191 : Int32)))]))
  refine Owes.go ?_ fun t₀ k₀ => XS.istore X0.here hx rfl (hb hby at_12) rfl (l' := #[.val (.int p0), .val (.int p1), .val (.int p2), .val (.int p3), .val (.int p4), .val (.int p5), .val (.int aI), .val (.int (p1 &&& (8191 : Int32))), .unset, .unset, .unset, .unset, .unset, .unset, .unset, .unset, .unset]) rfl k₀
  show Owes _ _ _ _ (s₁.setTop (mkF m 14 #[.val (.int p0), .val (.int p1), .val (.int p2), .val (.int p3), .val (.int p4), .val (.int p5), .val (.int aI), .val (.int (p1 &&& (8191 : Int32))), .unset, .unset, .unset, .unset, .unset, .unset, .unset, .unset, .unset] []))
  obtain ⟨b_, hb_, lb_⟩ := own_mk p1
  generalize (p1 &&& (8191 : Int32)) = bI at *
  refine Owes.go ?_ fun t₀ k₀ => XS.iloadN X0.here hx rfl (hb hby at_14) rfl k₀
  show Owes _ _ _ _ (s₁.setTop (mkF m 15 #[.val (.int p0), .val (.int p1), .val (.int p2), .val (.int p3), .val (.int p4), .val (.int p5), .val (.int aI), .val (.int bI), .unset, .unset, .unset, .unset, .unset, .unset, .unset, .unset, .unset] [(.int p2)]))
  refine Owes.go ?_ fun t₀ k₀ => XS.sipush X0.here hx rfl (hb hby at_15) k₀
  show Owes _ _ _ _ (s₁.setTop (mkF m 18 #[.val (.int p0), .val (.int p1), .val (.int p2), .val (.int p3), .val (.int p4), .val (.int p5), .val (.int aI), .val (.int bI), .unset, .unset, .unset, .unset, .unset, .unset, .unset, .unset, .unset] [(.int (8191 : Int32)), (.int p2)]))
  refine Owes.go ?_ fun t₀ k₀ => XS.iand X0.here hx rfl (hb hby at_18) rfl k₀
  show Owes _ _ _ _ (s₁.setTop (mkF m 19 #[.val (.int p0), .val (.int p1), .val (.int p2), .val (.int p3), .val (.int p4), .val (.int p5), .val (.int aI), .val (.int bI), .unset, .unset, .unset, .unset, .unset, .unset, .unset, .unset, .unset] [(.int (p2 &&& (8191 : Int32)))]))
  refine Owes.go ?_ fun t₀ k₀ => XS.istore X0.here hx rfl (hb hby at_19) rfl (l' := #[.val (.int p0), .val (.int p1), .val (.int p2), .val (.int p3), .val (.int p4), .val (.int p5), .val (.int aI), .val (.int bI), .val (.int (p2 &&& (8191 : Int32))), .unset, .unset, .unset, .unset, .unset, .unset, .unset, .unset]) rfl k₀
  show Owes _ _ _ _ (s₁.setTop (mkF m 21 #[.val (.int p0), .val (.int p1), .val (.int p2), .val (.int p3), .val (.int p4), .val (.int p5), .val (.int aI), .val (.int bI), .val (.int (p2 &&& (8191 : Int32))), .unset, .unset, .unset, .unset, .unset, .unset, .unset, .unset] []))
  obtain ⟨c_, hc_, lc_⟩ := own_mk p2
  generalize (p2 &&& (8191 : Int32)) = cI at *
  refine Owes.go ?_ fun t₀ k₀ => XS.iloadN X0.here hx rfl (hb hby at_21) rfl k₀
  show Owes _ _ _ _ (s₁.setTop (mkF m 22 #[.val (.int p0), .val (.int p1), .val (.int p2), .val (.int p3), .val (.int p4), .val (.int p5), .val (.int aI), .val (.int bI), .val (.int cI), .unset, .unset, .unset, .unset, .unset, .unset, .unset, .unset] [(.int p3)]))
  refine Owes.go ?_ fun t₀ k₀ => XS.iconst X0.here hx rfl (hb hby at_22) k₀
  show Owes _ _ _ _ (s₁.setTop (mkF m 23 #[.val (.int p0), .val (.int p1), .val (.int p2), .val (.int p3), .val (.int p4), .val (.int p5), .val (.int aI), .val (.int bI), .val (.int cI), .unset, .unset, .unset, .unset, .unset, .unset, .unset, .unset] [(.int (1 : Int32)), (.int p3)]))
  refine Owes.go ?_ fun t₀ k₀ => XS.iand X0.here hx rfl (hb hby at_23) rfl k₀
  show Owes _ _ _ _ (s₁.setTop (mkF m 24 #[.val (.int p0), .val (.int p1), .val (.int p2), .val (.int p3), .val (.int p4), .val (.int p5), .val (.int aI), .val (.int bI), .val (.int cI), .unset, .unset, .unset, .unset, .unset, .unset, .unset, .unset] [(.int (p3 &&& (1 : Int32)))]))
  have J39_38 : ∀ (rI : Int32), (∃ r : Nat, rI.toInt = (r : Int) ∧ r < 8192) → Owes p e below (EndN s (QL n0) room_1.cells room_1.slots) (s₁.setTop (mkF m 39 #[.val (.int p0), .val (.int p1), .val (.int p2), .val (.int p3), .val (.int p4), .val (.int p5), .val (.int aI), .val (.int bI), .val (.int cI), .unset, .unset, .unset, .unset, .unset, .unset, .unset, .unset] [(.int rI)])) := by
    intro rI hrI
    obtain ⟨r_, hr_, lr_⟩ := hrI
    refine Owes.go ?_ fun t₀ k₀ => XS.istore X0.here hx rfl (hb hby at_39) rfl (l' := #[.val (.int p0), .val (.int p1), .val (.int p2), .val (.int p3), .val (.int p4), .val (.int p5), .val (.int aI), .val (.int bI), .val (.int cI), .val (.int rI), .unset, .unset, .unset, .unset, .unset, .unset, .unset]) rfl k₀
    show Owes _ _ _ _ (s₁.setTop (mkF m 41 #[.val (.int p0), .val (.int p1), .val (.int p2), .val (.int p3), .val (.int p4), .val (.int p5), .val (.int aI), .val (.int bI), .val (.int cI), .val (.int rI), .unset, .unset, .unset, .unset, .unset, .unset, .unset] []))
    refine Owes.go ?_ fun t₀ k₀ => XS.iload X0.here hx rfl (hb hby at_41) rfl k₀
    show Owes _ _ _ _ (s₁.setTop (mkF m 43 #[.val (.int p0), .val (.int p1), .val (.int p2), .val (.int p3), .val (.int p4), .val (.int p5), .val (.int aI), .val (.int bI), .val (.int cI), .val (.int rI), .unset, .unset, .unset, .unset, .unset, .unset, .unset] [(.int p5)]))
    refine Owes.go ?_ fun t₀ k₀ => XS.iconst X0.here hx rfl (hb hby at_43) k₀
    show Owes _ _ _ _ (s₁.setTop (mkF m 44 #[.val (.int p0), .val (.int p1), .val (.int p2), .val (.int p3), .val (.int p4), .val (.int p5), .val (.int aI), .val (.int bI), .val (.int cI), .val (.int rI), .unset, .unset, .unset, .unset, .unset, .unset, .unset] [(.int (1 : Int32)), (.int p5)]))
    refine Owes.go ?_ fun t₀ k₀ => XS.iand X0.here hx rfl (hb hby at_44) rfl k₀
    show Owes _ _ _ _ (s₁.setTop (mkF m 45 #[.val (.int p0), .val (.int p1), .val (.int p2), .val (.int p3), .val (.int p4), .val (.int p5), .val (.int aI), .val (.int bI), .val (.int cI), .val (.int rI), .unset, .unset, .unset, .unset, .unset, .unset, .unset] [(.int (p5 &&& (1 : Int32)))]))
    have J61_39 : ∀ (sI : Int32), (∃ s : Nat, sI.toInt = (s : Int) ∧ s < 8192) → Owes p e below (EndN s (QL n0) room_1.cells room_1.slots) (s₁.setTop (mkF m 61 #[.val (.int p0), .val (.int p1), .val (.int p2), .val (.int p3), .val (.int p4), .val (.int p5), .val (.int aI), .val (.int bI), .val (.int cI), .val (.int rI), .unset, .unset, .unset, .unset, .unset, .unset, .unset] [(.int sI)])) := by
      intro sI hsI
      obtain ⟨s_, hs_, ls_⟩ := hsI
      refine Owes.go ?_ fun t₀ k₀ => XS.istore X0.here hx rfl (hb hby at_61) rfl (l' := #[.val (.int p0), .val (.int p1), .val (.int p2), .val (.int p3), .val (.int p4), .val (.int p5), .val (.int aI), .val (.int bI), .val (.int cI), .val (.int rI), .val (.int sI), .unset, .unset, .unset, .unset, .unset, .unset]) rfl k₀
      show Owes _ _ _ _ (s₁.setTop (mkF m 63 #[.val (.int p0), .val (.int p1), .val (.int p2), .val (.int p3), .val (.int p4), .val (.int p5), .val (.int aI), .val (.int bI), .val (.int cI), .val (.int rI), .val (.int sI), .unset, .unset, .unset, .unset, .unset, .unset] []))
      refine Owes.go ?_ fun t₀ k₀ => XS.iload X0.here hx rfl (hb hby at_63) rfl k₀
      show Owes _ _ _ _ (s₁.setTop (mkF m 65 #[.val (.int p0), .val (.int p1), .val (.int p2), .val (.int p3), .val (.int p4), .val (.int p5), .val (.int aI), .val (.int bI), .val (.int cI), .val (.int rI), .val (.int sI), .unset, .unset, .unset, .unset, .unset, .unset] [(.int p4)]))
      refine Owes.go ?_ fun t₀ k₀ => XS.sipush X0.here hx rfl (hb hby at_65) k₀
      show Owes _ _ _ _ (s₁.setTop (mkF m 68 #[.val (.int p0), .val (.int p1), .val (.int p2), .val (.int p3), .val (.int p4), .val (.int p5), .val (.int aI), .val (.int bI), .val (.int cI), .val (.int rI), .val (.int sI), .unset, .unset, .unset, .unset, .unset, .unset] [(.int (8191 : Int32)), (.int p4)]))
      refine Owes.go ?_ fun t₀ k₀ => XS.iand X0.here hx rfl (hb hby at_68) rfl k₀
      show Owes _ _ _ _ (s₁.setTop (mkF m 69 #[.val (.int p0), .val (.int p1), .val (.int p2), .val (.int p3), .val (.int p4), .val (.int p5), .val (.int aI), .val (.int bI), .val (.int cI), .val (.int rI), .val (.int sI), .unset, .unset, .unset, .unset, .unset, .unset] [(.int (p4 &&& (8191 : Int32)))]))
      refine Owes.go ?_ fun t₀ k₀ => XS.istore X0.here hx rfl (hb hby at_69) rfl (l' := #[.val (.int p0), .val (.int p1), .val (.int p2), .val (.int p3), .val (.int p4), .val (.int p5), .val (.int aI), .val (.int bI), .val (.int cI), .val (.int rI), .val (.int sI), .val (.int (p4 &&& (8191 : Int32))), .unset, .unset, .unset, .unset, .unset]) rfl k₀
      show Owes _ _ _ _ (s₁.setTop (mkF m 71 #[.val (.int p0), .val (.int p1), .val (.int p2), .val (.int p3), .val (.int p4), .val (.int p5), .val (.int aI), .val (.int bI), .val (.int cI), .val (.int rI), .val (.int sI), .val (.int (p4 &&& (8191 : Int32))), .unset, .unset, .unset, .unset, .unset] []))
      obtain ⟨q_, hq_, lq_⟩ := own_mk p4
      generalize (p4 &&& (8191 : Int32)) = qI at *
      refine Owes.newO X0 hx hZ hown (hw _ (List.mem_of_getElem? (i := 0) rfl)) (hw _ (List.mem_of_getElem? (i := 1) rfl)) (hw _ (List.mem_of_getElem? (i := 2) rfl)) e0 (hb hby at_71) (by decide) (by decide) ?_
      intro T40 h40 X40 e40 E40 A40 D40
      obtain ⟨rs, grs⟩ : ∃ z, z = h0.size := ⟨_, rfl⟩
      rw [← grs] at A40 ⊢
      have FL0 : Fld Z h40 rs "com/example/slotwright/slotwright/core/RankSet" "levels" "[[J" .null := by rw [grs]; exact D40 (Or.inr (hw _ (List.mem_of_getElem? (i := 15) rfl))) (ty := .array (.array .long)) (by decide)
      have Z1 : n0 ≤ h40.size := Nat.le_trans Z0 E40.1
      have grn : n0 ≤ rs := by rw [grs]; exact Z0
      show Owes _ _ _ _ (T40.setTop (mkF m 74 #[.val (.int p0), .val (.int p1), .val (.int p2), .val (.int p3), .val (.int p4), .val (.int p5), .val (.int aI), .val (.int bI), .val (.int cI), .val (.int rI), .val (.int sI), .val (.int qI), .unset, .unset, .unset, .unset, .unset] [(.ref rs)]))
      refine Owes.go ?_ fun t₀ k₀ => XS.dup X40.here hx rfl (hb hby at_74) rfl rfl k₀
      show Owes _ _ _ _ (T40.setTop (mkF m 75 #[.val (.int p0), .val (.int p1), .val (.int p2), .val (.int p3), .val (.int p4), .val (.int p5), .val (.int aI), .val (.int bI), .val (.int cI), .val (.int rI), .val (.int sI), .val (.int qI), .unset, .unset, .unset, .unset, .unset] [(.ref rs), (.ref rs)]))
      refine Owes.go ?_ fun t₀ k₀ => XS.sipush X40.here hx rfl (hb hby at_75) k₀
      show Owes _ _ _ _ (T40.setTop (mkF m 78 #[.val (.int p0), .val (.int p1), .val (.int p2), .val (.int p3), .val (.int p4), .val (.int p5), .val (.int aI), .val (.int bI), .val (.int cI), .val (.int rI), .val (.int sI), .val (.int qI), .unset, .unset, .unset, .unset, .unset] [(.int (8192 : Int32)), (.ref rs), (.ref rs)]))
      refine Owes.callC X40 hx hZ rfl hown (hw _ (List.mem_of_getElem? (i := 3) rfl)) (hw _ (List.mem_of_getElem? (i := 4) rfl)) (hw _ (List.mem_of_getElem? (i := 2) rfl)) (hw _ (List.mem_of_getElem? (i := 5) rfl)) (by decide) (a := rs) (argsL := [(.int (8192 : Int32))]) (rest := [(.ref rs)]) (rm_init l Z a0 hw [] rs (8192 : Int32) h40 n0 Z1 grn A40 FL0 sz hsz hsz1 (by omega) hSL) e40 (by rw [hml]; rfl) pd_4 rfl rfl (hb hby at_78) (by decide) (Nat.le_of_ble_eq_true rfl) (by decide) (by decide) ?_
      rintro T41 v41 L41 X41 ⟨rfl, N41, lv, d, g, F41, FT⟩
      have NF41 := Fr.app N0 N41
      have H41 : ∀ k, k < d → LV (fun _ => False) k (wsz sz (k + 1)) (fun _ => (0 : Int64)) := fun k _ => LV.empty k _
      show Owes _ _ _ _ (T41.setTop (mkF m 81 #[.val (.int p0), .val (.int p1), .val (.int p2), .val (.int p3), .val (.int p4), .val (.int p5), .val (.int aI), .val (.int bI), .val (.int cI), .val (.int rI), .val (.int sI), .val (.int qI), .unset, .unset, .unset, .unset, .unset] [(.ref rs)]))
      refine Owes.go ?_ fun t₀ k₀ => XS.astore X41.here hx rfl (hb hby at_81) rfl rfl (l' := #[.val (.int p0), .val (.int p1), .val (.int p2), .val (.int p3), .val (.int p4), .val (.int p5), .val (.int aI), .val (.int bI), .val (.int cI), .val (.int rI), .val (.int sI), .val (.int qI), .val (.ref rs), .unset, .unset, .unset, .unset]) rfl k₀
      show Owes _ _ _ _ (T41.setTop (mkF m 83 #[.val (.int p0), .val (.int p1), .val (.int p2), .val (.int p3), .val (.int p4), .val (.int p5), .val (.int aI), .val (.int bI), .val (.int cI), .val (.int rI), .val (.int sI), .val (.int qI), .val (.ref rs), .unset, .unset, .unset, .unset] []))
      refine Owes.go ?_ fun t₀ k₀ => XS.aload X41.here hx rfl (hb hby at_83) rfl rfl k₀
      show Owes _ _ _ _ (T41.setTop (mkF m 85 #[.val (.int p0), .val (.int p1), .val (.int p2), .val (.int p3), .val (.int p4), .val (.int p5), .val (.int aI), .val (.int bI), .val (.int cI), .val (.int rI), .val (.int sI), .val (.int qI), .val (.ref rs), .unset, .unset, .unset, .unset] [(.ref rs)]))
      refine Owes.go ?_ fun t₀ k₀ => XS.iload X41.here hx rfl (hb hby at_85) rfl k₀
      show Owes _ _ _ _ (T41.setTop (mkF m 87 #[.val (.int p0), .val (.int p1), .val (.int p2), .val (.int p3), .val (.int p4), .val (.int p5), .val (.int aI), .val (.int bI), .val (.int cI), .val (.int rI), .val (.int sI), .val (.int qI), .val (.ref rs), .unset, .unset, .unset, .unset] [(.int aI), (.ref rs)]))
      refine Owes.callV X41 hx hZ hown (hw _ (List.mem_of_getElem? (i := 22) rfl)) (hw _ (List.mem_of_getElem? (i := 23) rfl)) (notFace_of_selects (args := #[]) (mvT hZ (hw _ (List.mem_of_getElem? (i := 25) rfl)))) (hw _ (List.mem_of_getElem? (i := 25) rfl)) (hw _ (List.mem_of_getElem? (i := 24) rfl)) (hw _ (List.mem_of_getElem? (i := 2) rfl)) (hw _ (List.mem_of_getElem? (i := 26) rfl)) (by decide) (a := rs) (argsL := [(.int aI)]) (rest := []) (rm_add l Z a0 hw [] rs aI T41.heap n0 lv d g (fun k => wsz sz (k + 1)) (fun _ _ => (0 : Int64)) (fun _ => False) sz F41 H41 FT a_ (by omega) ha_) rfl F41.1 (by rw [hml]; rfl) pd_4 rfl rfl (hb hby at_87) (by decide) (Nat.le_of_ble_eq_true rfl) (by decide) (by decide) ?_
      rintro T42 v42 L42 X42 ⟨rfl, N42, W42, F42, H42⟩
      have NF42 := Fr.app NF41 N42
      show Owes _ _ _ _ (T42.setTop (mkF m 90 #[.val (.int p0), .val (.int p1), .val (.int p2), .val (.int p3), .val (.int p4), .val (.int p5), .val (.int aI), .val (.int bI), .val (.int cI), .val (.int rI), .val (.int sI), .val (.int qI), .val (.ref rs), .unset, .unset, .unset, .unset] []))
      refine Owes.go ?_ fun t₀ k₀ => XS.aload X42.here hx rfl (hb hby at_90) rfl rfl k₀
      show Owes _ _ _ _ (T42.setTop (mkF m 92 #[.val (.int p0), .val (.int p1), .val (.int p2), .val (.int p3), .val (.int p4), .val (.int p5), .val (.int aI), .val (.int bI), .val (.int cI), .val (.int rI), .val (.int sI), .val (.int qI), .val (.ref rs), .unset, .unset, .unset, .unset] [(.ref rs)]))
      refine Owes.go ?_ fun t₀ k₀ => XS.iload X42.here hx rfl (hb hby at_92) rfl k₀
      show Owes _ _ _ _ (T42.setTop (mkF m 94 #[.val (.int p0), .val (.int p1), .val (.int p2), .val (.int p3), .val (.int p4), .val (.int p5), .val (.int aI), .val (.int bI), .val (.int cI), .val (.int rI), .val (.int sI), .val (.int qI), .val (.ref rs), .unset, .unset, .unset, .unset] [(.int bI), (.ref rs)]))
      refine Owes.callV X42 hx hZ hown (hw _ (List.mem_of_getElem? (i := 22) rfl)) (hw _ (List.mem_of_getElem? (i := 23) rfl)) (notFace_of_selects (args := #[]) (mvT hZ (hw _ (List.mem_of_getElem? (i := 25) rfl)))) (hw _ (List.mem_of_getElem? (i := 25) rfl)) (hw _ (List.mem_of_getElem? (i := 24) rfl)) (hw _ (List.mem_of_getElem? (i := 2) rfl)) (hw _ (List.mem_of_getElem? (i := 26) rfl)) (by decide) (a := rs) (argsL := [(.int bI)]) (rest := []) (rm_add l Z a0 hw [] rs bI T42.heap n0 lv d g (fun k => wsz sz (k + 1)) W42 (fun x => (fun _ => False) x ∨ x = a_) sz F42 H42 FT b_ (by omega) hb_) rfl F42.1 (by rw [hml]; rfl) pd_4 rfl rfl (hb hby at_94) (by decide) (Nat.le_of_ble_eq_true rfl) (by decide) (by decide) ?_
      rintro T43 v43 L43 X43 ⟨rfl, N43, W43, F43, H43⟩
      have NF43 := Fr.app NF42 N43
      show Owes _ _ _ _ (T43.setTop (mkF m 97 #[.val (.int p0), .val (.int p1), .val (.int p2), .val (.int p3), .val (.int p4), .val (.int p5), .val (.int aI), .val (.int bI), .val (.int cI), .val (.int rI), .val (.int sI), .val (.int qI), .val (.ref rs), .unset, .unset, .unset, .unset] []))
      refine Owes.go ?_ fun t₀ k₀ => XS.aload X43.here hx rfl (hb hby at_97) rfl rfl k₀
      show Owes _ _ _ _ (T43.setTop (mkF m 99 #[.val (.int p0), .val (.int p1), .val (.int p2), .val (.int p3), .val (.int p4), .val (.int p5), .val (.int aI), .val (.int bI), .val (.int cI), .val (.int rI), .val (.int sI), .val (.int qI), .val (.ref rs), .unset, .unset, .unset, .unset] [(.ref rs)]))
      refine Owes.go ?_ fun t₀ k₀ => XS.iload X43.here hx rfl (hb hby at_99) rfl k₀
      show Owes _ _ _ _ (T43.setTop (mkF m 101 #[.val (.int p0), .val (.int p1), .val (.int p2), .val (.int p3), .val (.int p4), .val (.int p5), .val (.int aI), .val (.int bI), .val (.int cI), .val (.int rI), .val (.int sI), .val (.int qI), .val (.ref rs), .unset, .unset, .unset, .unset] [(.int cI), (.ref rs)]))
      refine Owes.callV X43 hx hZ hown (hw _ (List.mem_of_getElem? (i := 22) rfl)) (hw _ (List.mem_of_getElem? (i := 23) rfl)) (notFace_of_selects (args := #[]) (mvT hZ (hw _ (List.mem_of_getElem? (i := 25) rfl)))) (hw _ (List.mem_of_getElem? (i := 25) rfl)) (hw _ (List.mem_of_getElem? (i := 24) rfl)) (hw _ (List.mem_of_getElem? (i := 2) rfl)) (hw _ (List.mem_of_getElem? (i := 26) rfl)) (by decide) (a := rs) (argsL := [(.int cI)]) (rest := []) (rm_add l Z a0 hw [] rs cI T43.heap n0 lv d g (fun k => wsz sz (k + 1)) W43 (fun x => (fun x => (fun _ => False) x ∨ x = a_) x ∨ x = b_) sz F43 H43 FT c_ (by omega) hc_) rfl F43.1 (by rw [hml]; rfl) pd_4 rfl rfl (hb hby at_101) (by decide) (Nat.le_of_ble_eq_true rfl) (by decide) (by decide) ?_
      rintro T44 v44 L44 X44 ⟨rfl, N44, W44, F44, H44⟩
      have NF44 := Fr.app NF43 N44
      show Owes _ _ _ _ (T44.setTop (mkF m 104 #[.val (.int p0), .val (.int p1), .val (.int p2), .val (.int p3), .val (.int p4), .val (.int p5), .val (.int aI), .val (.int bI), .val (.int cI), .val (.int rI), .val (.int sI), .val (.int qI), .val (.ref rs), .unset, .unset, .unset, .unset] []))
      refine Owes.go ?_ fun t₀ k₀ => XS.aload X44.here hx rfl (hb hby at_104) rfl rfl k₀
      show Owes _ _ _ _ (T44.setTop (mkF m 106 #[.val (.int p0), .val (.int p1), .val (.int p2), .val (.int p3), .val (.int p4), .val (.int p5), .val (.int aI), .val (.int bI), .val (.int cI), .val (.int rI), .val (.int sI), .val (.int qI), .val (.ref rs), .unset, .unset, .unset, .unset] [(.ref rs)]))
      refine Owes.go ?_ fun t₀ k₀ => XS.iload X44.here hx rfl (hb hby at_106) rfl k₀
      show Owes _ _ _ _ (T44.setTop (mkF m 108 #[.val (.int p0), .val (.int p1), .val (.int p2), .val (.int p3), .val (.int p4), .val (.int p5), .val (.int aI), .val (.int bI), .val (.int cI), .val (.int rI), .val (.int sI), .val (.int qI), .val (.ref rs), .unset, .unset, .unset, .unset] [(.int rI), (.ref rs)]))
      refine Owes.callV X44 hx hZ hown (hw _ (List.mem_of_getElem? (i := 27) rfl)) (hw _ (List.mem_of_getElem? (i := 28) rfl)) (notFace_of_selects (args := #[]) (mvT hZ (hw _ (List.mem_of_getElem? (i := 30) rfl)))) (hw _ (List.mem_of_getElem? (i := 30) rfl)) (hw _ (List.mem_of_getElem? (i := 29) rfl)) (hw _ (List.mem_of_getElem? (i := 2) rfl)) (hw _ (List.mem_of_getElem? (i := 31) rfl)) (by decide) (a := rs) (argsL := [(.int rI)]) (rest := []) (rm_remove l Z a0 hw [] rs rI T44.heap n0 lv d g (fun k => wsz sz (k + 1)) W44 (fun x => (fun x => (fun x => (fun _ => False) x ∨ x = a_) x ∨ x = b_) x ∨ x = c_) sz F44 H44 FT r_ (by omega) hr_) rfl F44.1 (by rw [hml]; rfl) pd_4 rfl rfl (hb hby at_108) (by decide) (Nat.le_of_ble_eq_true rfl) (by decide) (by decide) ?_
      rintro T45 v45 L45 X45 ⟨rfl, N45, W45, F45, H45⟩
      have NF45 := Fr.app NF44 N45
      show Owes _ _ _ _ (T45.setTop (mkF m 111 #[.val (.int p0), .val (.int p1), .val (.int p2), .val (.int p3), .val (.int p4), .val (.int p5), .val (.int aI), .val (.int bI), .val (.int cI), .val (.int rI), .val (.int sI), .val (.int qI), .val (.ref rs), .unset, .unset, .unset, .unset] []))
      refine Owes.go ?_ fun t₀ k₀ => XS.aload X45.here hx rfl (hb hby at_111) rfl rfl k₀
      show Owes _ _ _ _ (T45.setTop (mkF m 113 #[.val (.int p0), .val (.int p1), .val (.int p2), .val (.int p3), .val (.int p4), .val (.int p5), .val (.int aI), .val (.int bI), .val (.int cI), .val (.int rI), .val (.int sI), .val (.int qI), .val (.ref rs), .unset, .unset, .unset, .unset] [(.ref rs)]))
      refine Owes.go ?_ fun t₀ k₀ => XS.iload X45.here hx rfl (hb hby at_113) rfl k₀
      show Owes _ _ _ _ (T45.setTop (mkF m 115 #[.val (.int p0), .val (.int p1), .val (.int p2), .val (.int p3), .val (.int p4), .val (.int p5), .val (.int aI), .val (.int bI), .val (.int cI), .val (.int rI), .val (.int sI), .val (.int qI), .val (.ref rs), .unset, .unset, .unset, .unset] [(.int sI), (.ref rs)]))
      refine Owes.callV X45 hx hZ hown (hw _ (List.mem_of_getElem? (i := 27) rfl)) (hw _ (List.mem_of_getElem? (i := 28) rfl)) (notFace_of_selects (args := #[]) (mvT hZ (hw _ (List.mem_of_getElem? (i := 30) rfl)))) (hw _ (List.mem_of_getElem? (i := 30) rfl)) (hw _ (List.mem_of_getElem? (i := 29) rfl)) (hw _ (List.mem_of_getElem? (i := 2) rfl)) (hw _ (List.mem_of_getElem? (i := 31) rfl)) (by decide) (a := rs) (argsL := [(.int sI)]) (rest := []) (rm_remove l Z a0 hw [] rs sI T45.heap n0 lv d g (fun k => wsz sz (k + 1)) W45 (fun x => (fun x => (fun x => (fun x => (fun _ => False) x ∨ x = a_) x ∨ x = b_) x ∨ x = c_) x ∧ x ≠ r_) sz F45 H45 FT s_ (by omega) hs_) rfl F45.1 (by rw [hml]; rfl) pd_4 rfl rfl (hb hby at_115) (by decide) (Nat.le_of_ble_eq_true rfl) (by decide) (by decide) ?_
      rintro T46 v46 L46 X46 ⟨rfl, N46, W46, F46, H46⟩
      have NF46 := Fr.app NF45 N46
      show Owes _ _ _ _ (T46.setTop (mkF m 118 #[.val (.int p0), .val (.int p1), .val (.int p2), .val (.int p3), .val (.int p4), .val (.int p5), .val (.int aI), .val (.int bI), .val (.int cI), .val (.int rI), .val (.int sI), .val (.int qI), .val (.ref rs), .unset, .unset, .unset, .unset] []))
      have HM : ∀ x, M5 a_ b_ c_ r_ s_ x → x < sz := by intro x h; have := M5_e h; omega
      refine Owes.go ?_ fun t₀ k₀ => XS.aload X46.here hx rfl (hb hby at_118) rfl rfl k₀
      show Owes _ _ _ _ (T46.setTop (mkF m 120 #[.val (.int p0), .val (.int p1), .val (.int p2), .val (.int p3), .val (.int p4), .val (.int p5), .val (.int aI), .val (.int bI), .val (.int cI), .val (.int rI), .val (.int sI), .val (.int qI), .val (.ref rs), .unset, .unset, .unset, .unset] [(.ref rs)]))
      refine Owes.go ?_ fun t₀ k₀ => XS.iload X46.here hx rfl (hb hby at_120) rfl k₀
      show Owes _ _ _ _ (T46.setTop (mkF m 122 #[.val (.int p0), .val (.int p1), .val (.int p2), .val (.int p3), .val (.int p4), .val (.int p5), .val (.int aI), .val (.int bI), .val (.int cI), .val (.int rI), .val (.int sI), .val (.int qI), .val (.ref rs), .unset, .unset, .unset, .unset] [(.int qI), (.ref rs)]))
      refine Owes.callV X46 hx hZ hown (hw _ (List.mem_of_getElem? (i := 33) rfl)) (hw _ (List.mem_of_getElem? (i := 34) rfl)) (notFace_of_selects (args := #[]) (mvT hZ (hw _ (List.mem_of_getElem? (i := 36) rfl)))) (hw _ (List.mem_of_getElem? (i := 36) rfl)) (hw _ (List.mem_of_getElem? (i := 35) rfl)) (hw _ (List.mem_of_getElem? (i := 2) rfl)) (hw _ (List.mem_of_getElem? (i := 37) rfl)) (by decide) (a := rs) (argsL := [(.int qI)]) (rest := []) (rm_next l Z a0 hw [] rs qI T46.heap n0 lv d g (fun k => wsz sz (k + 1)) W46 (M5 a_ b_ c_ r_ s_) sz F46 H46 FT HM q_ hq_) rfl F46.1 (by rw [hml]; rfl) pd_0 rfl rfl (hb hby at_122) (by decide) (Nat.le_of_ble_eq_true rfl) (by decide) (by decide) ?_
      rintro T47 v47 L47 X47 ⟨r47, rfl, rfl, e47, I47⟩
      rw [List.append_nil] at X47
      show Owes _ _ _ _ (T47.setTop (mkF m 125 #[.val (.int p0), .val (.int p1), .val (.int p2), .val (.int p3), .val (.int p4), .val (.int p5), .val (.int aI), .val (.int bI), .val (.int cI), .val (.int rI), .val (.int sI), .val (.int qI), .val (.ref rs), .unset, .unset, .unset, .unset] [(.int r47)]))
      refine Owes.go ?_ fun t₀ k₀ => XS.istore X47.here hx rfl (hb hby at_125) rfl (l' := #[.val (.int p0), .val (.int p1), .val (.int p2), .val (.int p3), .val (.int p4), .val (.int p5), .val (.int aI), .val (.int bI), .val (.int cI), .val (.int rI), .val (.int sI), .val (.int qI), .val (.ref rs), .val (.int r47), .unset, .unset, .unset]) rfl k₀
      show Owes _ _ _ _ (T47.setTop (mkF m 127 #[.val (.int p0), .val (.int p1), .val (.int p2), .val (.int p3), .val (.int p4), .val (.int p5), .val (.int aI), .val (.int bI), .val (.int cI), .val (.int rI), .val (.int sI), .val (.int qI), .val (.ref rs), .val (.int r47), .unset, .unset, .unset] []))
      refine Owes.go ?_ fun t₀ k₀ => XS.aload X47.here hx rfl (hb hby at_127) rfl rfl k₀
      show Owes _ _ _ _ (T47.setTop (mkF m 129 #[.val (.int p0), .val (.int p1), .val (.int p2), .val (.int p3), .val (.int p4), .val (.int p5), .val (.int aI), .val (.int bI), .val (.int cI), .val (.int rI), .val (.int sI), .val (.int qI), .val (.ref rs), .val (.int r47), .unset, .unset, .unset] [(.ref rs)]))
      refine Owes.go ?_ fun t₀ k₀ => XS.iload X47.here hx rfl (hb hby at_129) rfl k₀
      show Owes _ _ _ _ (T47.setTop (mkF m 131 #[.val (.int p0), .val (.int p1), .val (.int p2), .val (.int p3), .val (.int p4), .val (.int p5), .val (.int aI), .val (.int bI), .val (.int cI), .val (.int rI), .val (.int sI), .val (.int qI), .val (.ref rs), .val (.int r47), .unset, .unset, .unset] [(.int qI), (.ref rs)]))
      refine Owes.callV X47 hx hZ hown (hw _ (List.mem_of_getElem? (i := 47) rfl)) (hw _ (List.mem_of_getElem? (i := 48) rfl)) (notFace_of_selects (args := #[]) (mvT hZ (hw _ (List.mem_of_getElem? (i := 50) rfl)))) (hw _ (List.mem_of_getElem? (i := 50) rfl)) (hw _ (List.mem_of_getElem? (i := 49) rfl)) (hw _ (List.mem_of_getElem? (i := 2) rfl)) (hw _ (List.mem_of_getElem? (i := 51) rfl)) (by decide) (a := rs) (argsL := [(.int qI)]) (rest := []) (rm_previous l Z a0 hw [] rs qI T46.heap n0 lv d g (fun k => wsz sz (k + 1)) W46 (M5 a_ b_ c_ r_ s_) sz F46 H46 FT HM (q_ : Int) hq_ (by omega)) e47 F46.1 (by rw [hml]; rfl) pd_0 rfl rfl (hb hby at_131) (by decide) (Nat.le_of_ble_eq_true rfl) (by decide) (by decide) ?_
      rintro T48 v48 L48 X48 ⟨r48, rfl, rfl, e48, I48⟩
      rw [List.append_nil] at X48
      show Owes _ _ _ _ (T48.setTop (mkF m 134 #[.val (.int p0), .val (.int p1), .val (.int p2), .val (.int p3), .val (.int p4), .val (.int p5), .val (.int aI), .val (.int bI), .val (.int cI), .val (.int rI), .val (.int sI), .val (.int qI), .val (.ref rs), .val (.int r47), .unset, .unset, .unset] [(.int r48)]))
      refine Owes.go ?_ fun t₀ k₀ => XS.istore X48.here hx rfl (hb hby at_134) rfl (l' := #[.val (.int p0), .val (.int p1), .val (.int p2), .val (.int p3), .val (.int p4), .val (.int p5), .val (.int aI), .val (.int bI), .val (.int cI), .val (.int rI), .val (.int sI), .val (.int qI), .val (.ref rs), .val (.int r47), .val (.int r48), .unset, .unset]) rfl k₀
      show Owes _ _ _ _ (T48.setTop (mkF m 136 #[.val (.int p0), .val (.int p1), .val (.int p2), .val (.int p3), .val (.int p4), .val (.int p5), .val (.int aI), .val (.int bI), .val (.int cI), .val (.int rI), .val (.int sI), .val (.int qI), .val (.ref rs), .val (.int r47), .val (.int r48), .unset, .unset] []))
      refine Owes.go ?_ fun t₀ k₀ => XS.aload X48.here hx rfl (hb hby at_136) rfl rfl k₀
      show Owes _ _ _ _ (T48.setTop (mkF m 138 #[.val (.int p0), .val (.int p1), .val (.int p2), .val (.int p3), .val (.int p4), .val (.int p5), .val (.int aI), .val (.int bI), .val (.int cI), .val (.int rI), .val (.int sI), .val (.int qI), .val (.ref rs), .val (.int r47), .val (.int r48), .unset, .unset] [(.ref rs)]))
      refine Owes.go ?_ fun t₀ k₀ => XS.iconst X48.here hx rfl (hb hby at_138) k₀
      show Owes _ _ _ _ (T48.setTop (mkF m 139 #[.val (.int p0), .val (.int p1), .val (.int p2), .val (.int p3), .val (.int p4), .val (.int p5), .val (.int aI), .val (.int bI), .val (.int cI), .val (.int rI), .val (.int sI), .val (.int qI), .val (.ref rs), .val (.int r47), .val (.int r48), .unset, .unset] [(.int (0 : Int32)), (.ref rs)]))
      refine Owes.callV X48 hx hZ hown (hw _ (List.mem_of_getElem? (i := 33) rfl)) (hw _ (List.mem_of_getElem? (i := 34) rfl)) (notFace_of_selects (args := #[]) (mvT hZ (hw _ (List.mem_of_getElem? (i := 36) rfl)))) (hw _ (List.mem_of_getElem? (i := 36) rfl)) (hw _ (List.mem_of_getElem? (i := 35) rfl)) (hw _ (List.mem_of_getElem? (i := 2) rfl)) (hw _ (List.mem_of_getElem? (i := 37) rfl)) (by decide) (a := rs) (argsL := [(.int (0 : Int32))]) (rest := []) (rm_next l Z a0 hw [] rs (0 : Int32) T46.heap n0 lv d g (fun k => wsz sz (k + 1)) W46 (M5 a_ b_ c_ r_ s_) sz F46 H46 FT HM 0 rfl) e48 F46.1 (by rw [hml]; rfl) pd_0 rfl rfl (hb hby at_139) (by decide) (Nat.le_of_ble_eq_true rfl) (by decide) (by decide) ?_
      rintro T49 v49 L49 X49 ⟨r49, rfl, rfl, e49, I49⟩
      rw [List.append_nil] at X49
      show Owes _ _ _ _ (T49.setTop (mkF m 142 #[.val (.int p0), .val (.int p1), .val (.int p2), .val (.int p3), .val (.int p4), .val (.int p5), .val (.int aI), .val (.int bI), .val (.int cI), .val (.int rI), .val (.int sI), .val (.int qI), .val (.ref rs), .val (.int r47), .val (.int r48), .unset, .unset] [(.int r49)]))
      refine Owes.go ?_ fun t₀ k₀ => XS.istore X49.here hx rfl (hb hby at_142) rfl (l' := #[.val (.int p0), .val (.int p1), .val (.int p2), .val (.int p3), .val (.int p4), .val (.int p5), .val (.int aI), .val (.int bI), .val (.int cI), .val (.int rI), .val (.int sI), .val (.int qI), .val (.ref rs), .val (.int r47), .val (.int r48), .val (.int r49), .unset]) rfl k₀
      show Owes _ _ _ _ (T49.setTop (mkF m 144 #[.val (.int p0), .val (.int p1), .val (.int p2), .val (.int p3), .val (.int p4), .val (.int p5), .val (.int aI), .val (.int bI), .val (.int cI), .val (.int rI), .val (.int sI), .val (.int qI), .val (.ref rs), .val (.int r47), .val (.int r48), .val (.int r49), .unset] []))
      refine Owes.go ?_ fun t₀ k₀ => XS.aload X49.here hx rfl (hb hby at_144) rfl rfl k₀
      show Owes _ _ _ _ (T49.setTop (mkF m 146 #[.val (.int p0), .val (.int p1), .val (.int p2), .val (.int p3), .val (.int p4), .val (.int p5), .val (.int aI), .val (.int bI), .val (.int cI), .val (.int rI), .val (.int sI), .val (.int qI), .val (.ref rs), .val (.int r47), .val (.int r48), .val (.int r49), .unset] [(.ref rs)]))
      refine Owes.go ?_ fun t₀ k₀ => XS.sipush X49.here hx rfl (hb hby at_146) k₀
      show Owes _ _ _ _ (T49.setTop (mkF m 149 #[.val (.int p0), .val (.int p1), .val (.int p2), .val (.int p3), .val (.int p4), .val (.int p5), .val (.int aI), .val (.int bI), .val (.int cI), .val (.int rI), .val (.int sI), .val (.int qI), .val (.ref rs), .val (.int r47), .val (.int r48), .val (.int r49), .unset] [(.int (8191 : Int32)), (.ref rs)]))
      refine Owes.callV X49 hx hZ hown (hw _ (List.mem_of_getElem? (i := 47) rfl)) (hw _ (List.mem_of_getElem? (i := 48) rfl)) (notFace_of_selects (args := #[]) (mvT hZ (hw _ (List.mem_of_getElem? (i := 50) rfl)))) (hw _ (List.mem_of_getElem? (i := 50) rfl)) (hw _ (List.mem_of_getElem? (i := 49) rfl)) (hw _ (List.mem_of_getElem? (i := 2) rfl)) (hw _ (List.mem_of_getElem? (i := 51) rfl)) (by decide) (a := rs) (argsL := [(.int (8191 : Int32))]) (rest := []) (rm_previous l Z a0 hw [] rs (8191 : Int32) T46.heap n0 lv d g (fun k => wsz sz (k + 1)) W46 (M5 a_ b_ c_ r_ s_) sz F46 H46 FT HM 8191 rfl (by omega)) e49 F46.1 (by rw [hml]; rfl) pd_0 rfl rfl (hb hby at_149) (by decide) (Nat.le_of_ble_eq_true rfl) (by decide) (by decide) ?_
      rintro T50 v50 L50 X50 ⟨r50, rfl, rfl, e50, I50⟩
      rw [List.append_nil] at X50
      show Owes _ _ _ _ (T50.setTop (mkF m 152 #[.val (.int p0), .val (.int p1), .val (.int p2), .val (.int p3), .val (.int p4), .val (.int p5), .val (.int aI), .val (.int bI), .val (.int cI), .val (.int rI), .val (.int sI), .val (.int qI), .val (.ref rs), .val (.int r47), .val (.int r48), .val (.int r49), .unset] [(.int r50)]))
      refine Owes.go ?_ fun t₀ k₀ => XS.istore X50.here hx rfl (hb hby at_152) rfl (l' := #[.val (.int p0), .val (.int p1), .val (.int p2), .val (.int p3), .val (.int p4), .val (.int p5), .val (.int aI), .val (.int bI), .val (.int cI), .val (.int rI), .val (.int sI), .val (.int qI), .val (.ref rs), .val (.int r47), .val (.int r48), .val (.int r49), .val (.int r50)]) rfl k₀
      show Owes _ _ _ _ (T50.setTop (mkF m 154 #[.val (.int p0), .val (.int p1), .val (.int p2), .val (.int p3), .val (.int p4), .val (.int p5), .val (.int aI), .val (.int bI), .val (.int cI), .val (.int rI), .val (.int sI), .val (.int qI), .val (.ref rs), .val (.int r47), .val (.int r48), .val (.int r49), .val (.int r50)] []))
      refine Owes.go ?_ fun t₀ k₀ => XS.iload X50.here hx rfl (hb hby at_154) rfl k₀
      show Owes _ _ _ _ (T50.setTop (mkF m 156 #[.val (.int p0), .val (.int p1), .val (.int p2), .val (.int p3), .val (.int p4), .val (.int p5), .val (.int aI), .val (.int bI), .val (.int cI), .val (.int rI), .val (.int sI), .val (.int qI), .val (.ref rs), .val (.int r47), .val (.int r48), .val (.int r49), .val (.int r50)] [(.int r47)]))
      refine Owes.go ?_ fun t₀ k₀ => XS.iload X50.here hx rfl (hb hby at_156) rfl k₀
      show Owes _ _ _ _ (T50.setTop (mkF m 158 #[.val (.int p0), .val (.int p1), .val (.int p2), .val (.int p3), .val (.int p4), .val (.int p5), .val (.int aI), .val (.int bI), .val (.int cI), .val (.int rI), .val (.int sI), .val (.int qI), .val (.ref rs), .val (.int r47), .val (.int r48), .val (.int r49), .val (.int r50)] [(.int qI), (.int r47)]))
      refine Owes.go ?_ fun t₀ k₀ => XS.iload X50.here hx rfl (hb hby at_158) rfl k₀
      show Owes _ _ _ _ (T50.setTop (mkF m 160 #[.val (.int p0), .val (.int p1), .val (.int p2), .val (.int p3), .val (.int p4), .val (.int p5), .val (.int aI), .val (.int bI), .val (.int cI), .val (.int rI), .val (.int sI), .val (.int qI), .val (.ref rs), .val (.int r47), .val (.int r48), .val (.int r49), .val (.int r50)] [(.int aI), (.int qI), (.int r47)]))
      refine Owes.go ?_ fun t₀ k₀ => XS.iload X50.here hx rfl (hb hby at_160) rfl k₀
      show Owes _ _ _ _ (T50.setTop (mkF m 162 #[.val (.int p0), .val (.int p1), .val (.int p2), .val (.int p3), .val (.int p4), .val (.int p5), .val (.int aI), .val (.int bI), .val (.int cI), .val (.int rI), .val (.int sI), .val (.int qI), .val (.ref rs), .val (.int r47), .val (.int r48), .val (.int r49), .val (.int r50)] [(.int bI), (.int aI), (.int qI), (.int r47)]))
      refine Owes.go ?_ fun t₀ k₀ => XS.iload X50.here hx rfl (hb hby at_162) rfl k₀
      show Owes _ _ _ _ (T50.setTop (mkF m 164 #[.val (.int p0), .val (.int p1), .val (.int p2), .val (.int p3), .val (.int p4), .val (.int p5), .val (.int aI), .val (.int bI), .val (.int cI), .val (.int rI), .val (.int sI), .val (.int qI), .val (.ref rs), .val (.int r47), .val (.int r48), .val (.int r49), .val (.int r50)] [(.int cI), (.int bI), (.int aI), (.int qI), (.int r47)]))
      refine Owes.go ?_ fun t₀ k₀ => XS.iload X50.here hx rfl (hb hby at_164) rfl k₀
      show Owes _ _ _ _ (T50.setTop (mkF m 166 #[.val (.int p0), .val (.int p1), .val (.int p2), .val (.int p3), .val (.int p4), .val (.int p5), .val (.int aI), .val (.int bI), .val (.int cI), .val (.int rI), .val (.int sI), .val (.int qI), .val (.ref rs), .val (.int r47), .val (.int r48), .val (.int r49), .val (.int r50)] [(.int rI), (.int cI), (.int bI), (.int aI), (.int qI), (.int r47)]))
      refine Owes.go ?_ fun t₀ k₀ => XS.iload X50.here hx rfl (hb hby at_166) rfl k₀
      show Owes _ _ _ _ (T50.setTop (mkF m 168 #[.val (.int p0), .val (.int p1), .val (.int p2), .val (.int p3), .val (.int p4), .val (.int p5), .val (.int aI), .val (.int bI), .val (.int cI), .val (.int rI), .val (.int sI), .val (.int qI), .val (.ref rs), .val (.int r47), .val (.int r48), .val (.int r49), .val (.int r50)] [(.int sI), (.int rI), (.int cI), (.int bI), (.int aI), (.int qI), (.int r47)]))
      refine Owes.callS X50 hx hZ hown (hw _ (List.mem_of_getElem? (i := 58) rfl)) (hw _ (List.mem_of_getElem? (i := 59) rfl)) (hw _ (List.mem_of_getElem? (i := 60) rfl)) (hw _ (List.mem_of_getElem? (i := 61) rfl)) (by decide) (argsL := [(.int qI), (.int aI), (.int bI), (.int cI), (.int rI), (.int sI)]) (rest := [(.int r47)]) (rm_f_nr l Z a0 hw [] qI aI bI cI rI sI T46.heap ) e50 (by rw [hml]; rfl) pd_5 rfl rfl (hb hby at_168) (by decide) (Nat.le_of_ble_eq_true rfl) (by decide) (by decide) ?_
      rintro T51 _ _ X51 ⟨rfl, rfl, e51⟩
      rw [List.append_nil] at X51
      show Owes _ _ _ _ (T51.setTop (mkF m 171 #[.val (.int p0), .val (.int p1), .val (.int p2), .val (.int p3), .val (.int p4), .val (.int p5), .val (.int aI), .val (.int bI), .val (.int cI), .val (.int rI), .val (.int sI), .val (.int qI), .val (.ref rs), .val (.int r47), .val (.int r48), .val (.int r49), .val (.int r50)] [(.int (f_nr qI aI bI cI rI sI)), (.int r47)]))
      refine Owes.go ?_ fun t₀ k₀ => XS.icmpNo X51.here hx rfl (hb hby at_171) rfl (teq (Int32.toInt_inj.mp (NextIs.one I47 (own_nr _ _ _ _ _ _ _ _ _ _ _ _ hq_ ha_ hb_ hc_ hr_ hs_)))).2 k₀
      show Owes _ _ _ _ (T51.setTop (mkF m 174 #[.val (.int p0), .val (.int p1), .val (.int p2), .val (.int p3), .val (.int p4), .val (.int p5), .val (.int aI), .val (.int bI), .val (.int cI), .val (.int rI), .val (.int sI), .val (.int qI), .val (.ref rs), .val (.int r47), .val (.int r48), .val (.int r49), .val (.int r50)] []))
      refine Owes.go ?_ fun t₀ k₀ => XS.iload X51.here hx rfl (hb hby at_174) rfl k₀
      show Owes _ _ _ _ (T51.setTop (mkF m 176 #[.val (.int p0), .val (.int p1), .val (.int p2), .val (.int p3), .val (.int p4), .val (.int p5), .val (.int aI), .val (.int bI), .val (.int cI), .val (.int rI), .val (.int sI), .val (.int qI), .val (.ref rs), .val (.int r47), .val (.int r48), .val (.int r49), .val (.int r50)] [(.int r48)]))
      refine Owes.go ?_ fun t₀ k₀ => XS.iload X51.here hx rfl (hb hby at_176) rfl k₀
      show Owes _ _ _ _ (T51.setTop (mkF m 178 #[.val (.int p0), .val (.int p1), .val (.int p2), .val (.int p3), .val (.int p4), .val (.int p5), .val (.int aI), .val (.int bI), .val (.int cI), .val (.int rI), .val (.int sI), .val (.int qI), .val (.ref rs), .val (.int r47), .val (.int r48), .val (.int r49), .val (.int r50)] [(.int qI), (.int r48)]))
      refine Owes.go ?_ fun t₀ k₀ => XS.iload X51.here hx rfl (hb hby at_178) rfl k₀
      show Owes _ _ _ _ (T51.setTop (mkF m 180 #[.val (.int p0), .val (.int p1), .val (.int p2), .val (.int p3), .val (.int p4), .val (.int p5), .val (.int aI), .val (.int bI), .val (.int cI), .val (.int rI), .val (.int sI), .val (.int qI), .val (.ref rs), .val (.int r47), .val (.int r48), .val (.int r49), .val (.int r50)] [(.int aI), (.int qI), (.int r48)]))
      refine Owes.go ?_ fun t₀ k₀ => XS.iload X51.here hx rfl (hb hby at_180) rfl k₀
      show Owes _ _ _ _ (T51.setTop (mkF m 182 #[.val (.int p0), .val (.int p1), .val (.int p2), .val (.int p3), .val (.int p4), .val (.int p5), .val (.int aI), .val (.int bI), .val (.int cI), .val (.int rI), .val (.int sI), .val (.int qI), .val (.ref rs), .val (.int r47), .val (.int r48), .val (.int r49), .val (.int r50)] [(.int bI), (.int aI), (.int qI), (.int r48)]))
      refine Owes.go ?_ fun t₀ k₀ => XS.iload X51.here hx rfl (hb hby at_182) rfl k₀
      show Owes _ _ _ _ (T51.setTop (mkF m 184 #[.val (.int p0), .val (.int p1), .val (.int p2), .val (.int p3), .val (.int p4), .val (.int p5), .val (.int aI), .val (.int bI), .val (.int cI), .val (.int rI), .val (.int sI), .val (.int qI), .val (.ref rs), .val (.int r47), .val (.int r48), .val (.int r49), .val (.int r50)] [(.int cI), (.int bI), (.int aI), (.int qI), (.int r48)]))
      refine Owes.go ?_ fun t₀ k₀ => XS.iload X51.here hx rfl (hb hby at_184) rfl k₀
      show Owes _ _ _ _ (T51.setTop (mkF m 186 #[.val (.int p0), .val (.int p1), .val (.int p2), .val (.int p3), .val (.int p4), .val (.int p5), .val (.int aI), .val (.int bI), .val (.int cI), .val (.int rI), .val (.int sI), .val (.int qI), .val (.ref rs), .val (.int r47), .val (.int r48), .val (.int r49), .val (.int r50)] [(.int rI), (.int cI), (.int bI), (.int aI), (.int qI), (.int r48)]))
      refine Owes.go ?_ fun t₀ k₀ => XS.iload X51.here hx rfl (hb hby at_186) rfl k₀
      show Owes _ _ _ _ (T51.setTop (mkF m 188 #[.val (.int p0), .val (.int p1), .val (.int p2), .val (.int p3), .val (.int p4), .val (.int p5), .val (.int aI), .val (.int bI), .val (.int cI), .val (.int rI), .val (.int sI), .val (.int qI), .val (.ref rs), .val (.int r47), .val (.int r48), .val (.int r49), .val (.int r50)] [(.int sI), (.int rI), (.int cI), (.int bI), (.int aI), (.int qI), (.int r48)]))
      refine Owes.callS X51 hx hZ hown (hw _ (List.mem_of_getElem? (i := 65) rfl)) (hw _ (List.mem_of_getElem? (i := 66) rfl)) (hw _ (List.mem_of_getElem? (i := 60) rfl)) (hw _ (List.mem_of_getElem? (i := 67) rfl)) (by decide) (argsL := [(.int qI), (.int aI), (.int bI), (.int cI), (.int rI), (.int sI)]) (rest := [(.int r48)]) (rm_f_pr l Z a0 hw [] qI aI bI cI rI sI T46.heap ) e51 (by rw [hml]; rfl) pd_5 rfl rfl (hb hby at_188) (by decide) (Nat.le_of_ble_eq_true rfl) (by decide) (by decide) ?_
      rintro T52 _ _ X52 ⟨rfl, rfl, e52⟩
      rw [List.append_nil] at X52
      show Owes _ _ _ _ (T52.setTop (mkF m 191 #[.val (.int p0), .val (.int p1), .val (.int p2), .val (.int p3), .val (.int p4), .val (.int p5), .val (.int aI), .val (.int bI), .val (.int cI), .val (.int rI), .val (.int sI), .val (.int qI), .val (.ref rs), .val (.int r47), .val (.int r48), .val (.int r49), .val (.int r50)] [(.int (f_pr qI aI bI cI rI sI)), (.int r48)]))
      refine Owes.go ?_ fun t₀ k₀ => XS.icmpNo X52.here hx rfl (hb hby at_191) rfl (teq (Int32.toInt_inj.mp (PrevIs.one I48 (own_pr _ _ _ _ _ _ _ _ _ _ _ _ hq_ ha_ hb_ hc_ hr_ hs_)))).2 k₀
      show Owes _ _ _ _ (T52.setTop (mkF m 194 #[.val (.int p0), .val (.int p1), .val (.int p2), .val (.int p3), .val (.int p4), .val (.int p5), .val (.int aI), .val (.int bI), .val (.int cI), .val (.int rI), .val (.int sI), .val (.int qI), .val (.ref rs), .val (.int r47), .val (.int r48), .val (.int r49), .val (.int r50)] []))
      refine Owes.go ?_ fun t₀ k₀ => XS.iload X52.here hx rfl (hb hby at_194) rfl k₀
      show Owes _ _ _ _ (T52.setTop (mkF m 196 #[.val (.int p0), .val (.int p1), .val (.int p2), .val (.int p3), .val (.int p4), .val (.int p5), .val (.int aI), .val (.int bI), .val (.int cI), .val (.int rI), .val (.int sI), .val (.int qI), .val (.ref rs), .val (.int r47), .val (.int r48), .val (.int r49), .val (.int r50)] [(.int r49)]))
      refine Owes.go ?_ fun t₀ k₀ => XS.iconst X52.here hx rfl (hb hby at_196) k₀
      show Owes _ _ _ _ (T52.setTop (mkF m 197 #[.val (.int p0), .val (.int p1), .val (.int p2), .val (.int p3), .val (.int p4), .val (.int p5), .val (.int aI), .val (.int bI), .val (.int cI), .val (.int rI), .val (.int sI), .val (.int qI), .val (.ref rs), .val (.int r47), .val (.int r48), .val (.int r49), .val (.int r50)] [(.int (0 : Int32)), (.int r49)]))
      refine Owes.go ?_ fun t₀ k₀ => XS.iload X52.here hx rfl (hb hby at_197) rfl k₀
      show Owes _ _ _ _ (T52.setTop (mkF m 199 #[.val (.int p0), .val (.int p1), .val (.int p2), .val (.int p3), .val (.int p4), .val (.int p5), .val (.int aI), .val (.int bI), .val (.int cI), .val (.int rI), .val (.int sI), .val (.int qI), .val (.ref rs), .val (.int r47), .val (.int r48), .val (.int r49), .val (.int r50)] [(.int aI), (.int (0 : Int32)), (.int r49)]))
      refine Owes.go ?_ fun t₀ k₀ => XS.iload X52.here hx rfl (hb hby at_199) rfl k₀
      show Owes _ _ _ _ (T52.setTop (mkF m 201 #[.val (.int p0), .val (.int p1), .val (.int p2), .val (.int p3), .val (.int p4), .val (.int p5), .val (.int aI), .val (.int bI), .val (.int cI), .val (.int rI), .val (.int sI), .val (.int qI), .val (.ref rs), .val (.int r47), .val (.int r48), .val (.int r49), .val (.int r50)] [(.int bI), (.int aI), (.int (0 : Int32)), (.int r49)]))
      refine Owes.go ?_ fun t₀ k₀ => XS.iload X52.here hx rfl (hb hby at_201) rfl k₀
      show Owes _ _ _ _ (T52.setTop (mkF m 203 #[.val (.int p0), .val (.int p1), .val (.int p2), .val (.int p3), .val (.int p4), .val (.int p5), .val (.int aI), .val (.int bI), .val (.int cI), .val (.int rI), .val (.int sI), .val (.int qI), .val (.ref rs), .val (.int r47), .val (.int r48), .val (.int r49), .val (.int r50)] [(.int cI), (.int bI), (.int aI), (.int (0 : Int32)), (.int r49)]))
      refine Owes.go ?_ fun t₀ k₀ => XS.iload X52.here hx rfl (hb hby at_203) rfl k₀
      show Owes _ _ _ _ (T52.setTop (mkF m 205 #[.val (.int p0), .val (.int p1), .val (.int p2), .val (.int p3), .val (.int p4), .val (.int p5), .val (.int aI), .val (.int bI), .val (.int cI), .val (.int rI), .val (.int sI), .val (.int qI), .val (.ref rs), .val (.int r47), .val (.int r48), .val (.int r49), .val (.int r50)] [(.int rI), (.int cI), (.int bI), (.int aI), (.int (0 : Int32)), (.int r49)]))
      refine Owes.go ?_ fun t₀ k₀ => XS.iload X52.here hx rfl (hb hby at_205) rfl k₀
      show Owes _ _ _ _ (T52.setTop (mkF m 207 #[.val (.int p0), .val (.int p1), .val (.int p2), .val (.int p3), .val (.int p4), .val (.int p5), .val (.int aI), .val (.int bI), .val (.int cI), .val (.int rI), .val (.int sI), .val (.int qI), .val (.ref rs), .val (.int r47), .val (.int r48), .val (.int r49), .val (.int r50)] [(.int sI), (.int rI), (.int cI), (.int bI), (.int aI), (.int (0 : Int32)), (.int r49)]))
      refine Owes.callS X52 hx hZ hown (hw _ (List.mem_of_getElem? (i := 58) rfl)) (hw _ (List.mem_of_getElem? (i := 59) rfl)) (hw _ (List.mem_of_getElem? (i := 60) rfl)) (hw _ (List.mem_of_getElem? (i := 61) rfl)) (by decide) (argsL := [(.int (0 : Int32)), (.int aI), (.int bI), (.int cI), (.int rI), (.int sI)]) (rest := [(.int r49)]) (rm_f_nr l Z a0 hw [] (0 : Int32) aI bI cI rI sI T46.heap ) e52 (by rw [hml]; rfl) pd_5 rfl rfl (hb hby at_207) (by decide) (Nat.le_of_ble_eq_true rfl) (by decide) (by decide) ?_
      rintro T53 _ _ X53 ⟨rfl, rfl, e53⟩
      rw [List.append_nil] at X53
      show Owes _ _ _ _ (T53.setTop (mkF m 210 #[.val (.int p0), .val (.int p1), .val (.int p2), .val (.int p3), .val (.int p4), .val (.int p5), .val (.int aI), .val (.int bI), .val (.int cI), .val (.int rI), .val (.int sI), .val (.int qI), .val (.ref rs), .val (.int r47), .val (.int r48), .val (.int r49), .val (.int r50)] [(.int (f_nr (0 : Int32) aI bI cI rI sI)), (.int r49)]))
      refine Owes.go ?_ fun t₀ k₀ => XS.icmpNo X53.here hx rfl (hb hby at_210) rfl (teq (Int32.toInt_inj.mp (NextIs.one I49 (own_nr _ _ _ _ _ _ 0 _ _ _ _ _ rfl ha_ hb_ hc_ hr_ hs_)))).2 k₀
      show Owes _ _ _ _ (T53.setTop (mkF m 213 #[.val (.int p0), .val (.int p1), .val (.int p2), .val (.int p3), .val (.int p4), .val (.int p5), .val (.int aI), .val (.int bI), .val (.int cI), .val (.int rI), .val (.int sI), .val (.int qI), .val (.ref rs), .val (.int r47), .val (.int r48), .val (.int r49), .val (.int r50)] []))
      refine Owes.go ?_ fun t₀ k₀ => XS.iload X53.here hx rfl (hb hby at_213) rfl k₀
      show Owes _ _ _ _ (T53.setTop (mkF m 215 #[.val (.int p0), .val (.int p1), .val (.int p2), .val (.int p3), .val (.int p4), .val (.int p5), .val (.int aI), .val (.int bI), .val (.int cI), .val (.int rI), .val (.int sI), .val (.int qI), .val (.ref rs), .val (.int r47), .val (.int r48), .val (.int r49), .val (.int r50)] [(.int r50)]))
      refine Owes.go ?_ fun t₀ k₀ => XS.sipush X53.here hx rfl (hb hby at_215) k₀
      show Owes _ _ _ _ (T53.setTop (mkF m 218 #[.val (.int p0), .val (.int p1), .val (.int p2), .val (.int p3), .val (.int p4), .val (.int p5), .val (.int aI), .val (.int bI), .val (.int cI), .val (.int rI), .val (.int sI), .val (.int qI), .val (.ref rs), .val (.int r47), .val (.int r48), .val (.int r49), .val (.int r50)] [(.int (8191 : Int32)), (.int r50)]))
      refine Owes.go ?_ fun t₀ k₀ => XS.iload X53.here hx rfl (hb hby at_218) rfl k₀
      show Owes _ _ _ _ (T53.setTop (mkF m 220 #[.val (.int p0), .val (.int p1), .val (.int p2), .val (.int p3), .val (.int p4), .val (.int p5), .val (.int aI), .val (.int bI), .val (.int cI), .val (.int rI), .val (.int sI), .val (.int qI), .val (.ref rs), .val (.int r47), .val (.int r48), .val (.int r49), .val (.int r50)] [(.int aI), (.int (8191 : Int32)), (.int r50)]))
      refine Owes.go ?_ fun t₀ k₀ => XS.iload X53.here hx rfl (hb hby at_220) rfl k₀
      show Owes _ _ _ _ (T53.setTop (mkF m 222 #[.val (.int p0), .val (.int p1), .val (.int p2), .val (.int p3), .val (.int p4), .val (.int p5), .val (.int aI), .val (.int bI), .val (.int cI), .val (.int rI), .val (.int sI), .val (.int qI), .val (.ref rs), .val (.int r47), .val (.int r48), .val (.int r49), .val (.int r50)] [(.int bI), (.int aI), (.int (8191 : Int32)), (.int r50)]))
      refine Owes.go ?_ fun t₀ k₀ => XS.iload X53.here hx rfl (hb hby at_222) rfl k₀
      show Owes _ _ _ _ (T53.setTop (mkF m 224 #[.val (.int p0), .val (.int p1), .val (.int p2), .val (.int p3), .val (.int p4), .val (.int p5), .val (.int aI), .val (.int bI), .val (.int cI), .val (.int rI), .val (.int sI), .val (.int qI), .val (.ref rs), .val (.int r47), .val (.int r48), .val (.int r49), .val (.int r50)] [(.int cI), (.int bI), (.int aI), (.int (8191 : Int32)), (.int r50)]))
      refine Owes.go ?_ fun t₀ k₀ => XS.iload X53.here hx rfl (hb hby at_224) rfl k₀
      show Owes _ _ _ _ (T53.setTop (mkF m 226 #[.val (.int p0), .val (.int p1), .val (.int p2), .val (.int p3), .val (.int p4), .val (.int p5), .val (.int aI), .val (.int bI), .val (.int cI), .val (.int rI), .val (.int sI), .val (.int qI), .val (.ref rs), .val (.int r47), .val (.int r48), .val (.int r49), .val (.int r50)] [(.int rI), (.int cI), (.int bI), (.int aI), (.int (8191 : Int32)), (.int r50)]))
      refine Owes.go ?_ fun t₀ k₀ => XS.iload X53.here hx rfl (hb hby at_226) rfl k₀
      show Owes _ _ _ _ (T53.setTop (mkF m 228 #[.val (.int p0), .val (.int p1), .val (.int p2), .val (.int p3), .val (.int p4), .val (.int p5), .val (.int aI), .val (.int bI), .val (.int cI), .val (.int rI), .val (.int sI), .val (.int qI), .val (.ref rs), .val (.int r47), .val (.int r48), .val (.int r49), .val (.int r50)] [(.int sI), (.int rI), (.int cI), (.int bI), (.int aI), (.int (8191 : Int32)), (.int r50)]))
      refine Owes.callS X53 hx hZ hown (hw _ (List.mem_of_getElem? (i := 65) rfl)) (hw _ (List.mem_of_getElem? (i := 66) rfl)) (hw _ (List.mem_of_getElem? (i := 60) rfl)) (hw _ (List.mem_of_getElem? (i := 67) rfl)) (by decide) (argsL := [(.int (8191 : Int32)), (.int aI), (.int bI), (.int cI), (.int rI), (.int sI)]) (rest := [(.int r50)]) (rm_f_pr l Z a0 hw [] (8191 : Int32) aI bI cI rI sI T46.heap ) e53 (by rw [hml]; rfl) pd_5 rfl rfl (hb hby at_228) (by decide) (Nat.le_of_ble_eq_true rfl) (by decide) (by decide) ?_
      rintro T54 _ _ X54 ⟨rfl, rfl, e54⟩
      rw [List.append_nil] at X54
      show Owes _ _ _ _ (T54.setTop (mkF m 231 #[.val (.int p0), .val (.int p1), .val (.int p2), .val (.int p3), .val (.int p4), .val (.int p5), .val (.int aI), .val (.int bI), .val (.int cI), .val (.int rI), .val (.int sI), .val (.int qI), .val (.ref rs), .val (.int r47), .val (.int r48), .val (.int r49), .val (.int r50)] [(.int (f_pr (8191 : Int32) aI bI cI rI sI)), (.int r50)]))
      refine Owes.go ?_ fun t₀ k₀ => XS.icmpNo X54.here hx rfl (hb hby at_231) rfl (teq (Int32.toInt_inj.mp (PrevIs.one I50 (own_pr _ _ _ _ _ _ 8191 _ _ _ _ _ rfl ha_ hb_ hc_ hr_ hs_)))).2 k₀
      show Owes _ _ _ _ (T54.setTop (mkF m 234 #[.val (.int p0), .val (.int p1), .val (.int p2), .val (.int p3), .val (.int p4), .val (.int p5), .val (.int aI), .val (.int bI), .val (.int cI), .val (.int rI), .val (.int sI), .val (.int qI), .val (.ref rs), .val (.int r47), .val (.int r48), .val (.int r49), .val (.int r50)] []))
      refine Owes.go ?_ fun t₀ k₀ => XS.iconst X54.here hx rfl (hb hby at_234) k₀
      show Owes _ _ _ _ (T54.setTop (mkF m 235 #[.val (.int p0), .val (.int p1), .val (.int p2), .val (.int p3), .val (.int p4), .val (.int p5), .val (.int aI), .val (.int bI), .val (.int cI), .val (.int rI), .val (.int sI), .val (.int qI), .val (.ref rs), .val (.int r47), .val (.int r48), .val (.int r49), .val (.int r50)] [(.int (1 : Int32))]))
      refine Owes.go ?_ fun t₀ k₀ => XS.goto X54.here hx rfl (pc0 := 235) (pc' := 239) rfl (hb hby at_235) (by decide) (by decide) k₀
      show Owes _ _ _ _ (T54.setTop (mkF m 239 #[.val (.int p0), .val (.int p1), .val (.int p2), .val (.int p3), .val (.int p4), .val (.int p5), .val (.int aI), .val (.int bI), .val (.int cI), .val (.int rI), .val (.int sI), .val (.int qI), .val (.ref rs), .val (.int r47), .val (.int r48), .val (.int r49), .val (.int r50)] [(.int (1 : Int32))]))
      exact Owes.retN X54 hx hlk hret (by simp) (hb hby at_239) (by decide) (by decide) ⟨rfl, NF46⟩
    by_cases hc1 : (p5 &&& (1 : Int32)) = (0 : Int32)
    · skip
      refine Owes.go ?_ fun t₀ k₀ => XS.ifYes X0.here hx rfl (pc0 := 45) (pc' := 53) rfl (hb hby at_45) rfl ((if0 _ _).trans (teq hc1).1) (by decide) (by decide) k₀
      show Owes _ _ _ _ (s₁.setTop (mkF m 53 #[.val (.int p0), .val (.int p1), .val (.int p2), .val (.int p3), .val (.int p4), .val (.int p5), .val (.int aI), .val (.int bI), .val (.int cI), .val (.int rI), .unset, .unset, .unset, .unset, .unset, .unset, .unset] []))
      refine Owes.go ?_ fun t₀ k₀ => XS.iload X0.here hx rfl (hb hby at_53) rfl k₀
      show Owes _ _ _ _ (s₁.setTop (mkF m 55 #[.val (.int p0), .val (.int p1), .val (.int p2), .val (.int p3), .val (.int p4), .val (.int p5), .val (.int aI), .val (.int bI), .val (.int cI), .val (.int rI), .unset, .unset, .unset, .unset, .unset, .unset, .unset] [(.int p5)]))
      refine Owes.go ?_ fun t₀ k₀ => XS.iconst X0.here hx rfl (hb hby at_55) k₀
      show Owes _ _ _ _ (s₁.setTop (mkF m 56 #[.val (.int p0), .val (.int p1), .val (.int p2), .val (.int p3), .val (.int p4), .val (.int p5), .val (.int aI), .val (.int bI), .val (.int cI), .val (.int rI), .unset, .unset, .unset, .unset, .unset, .unset, .unset] [(.int (1 : Int32)), (.int p5)]))
      refine Owes.go ?_ fun t₀ k₀ => XS.iushr X0.here hx rfl (hb hby at_56) rfl k₀
      show Owes _ _ _ _ (s₁.setTop (mkF m 57 #[.val (.int p0), .val (.int p1), .val (.int p2), .val (.int p3), .val (.int p4), .val (.int p5), .val (.int aI), .val (.int bI), .val (.int cI), .val (.int rI), .unset, .unset, .unset, .unset, .unset, .unset, .unset] [(.int ((p5.toUInt32 >>> ((1 : Int32) &&& 31).toUInt32).toInt32))]))
      refine Owes.go ?_ fun t₀ k₀ => XS.sipush X0.here hx rfl (hb hby at_57) k₀
      show Owes _ _ _ _ (s₁.setTop (mkF m 60 #[.val (.int p0), .val (.int p1), .val (.int p2), .val (.int p3), .val (.int p4), .val (.int p5), .val (.int aI), .val (.int bI), .val (.int cI), .val (.int rI), .unset, .unset, .unset, .unset, .unset, .unset, .unset] [(.int (8191 : Int32)), (.int ((p5.toUInt32 >>> ((1 : Int32) &&& 31).toUInt32).toInt32))]))
      refine Owes.go ?_ fun t₀ k₀ => XS.iand X0.here hx rfl (hb hby at_60) rfl k₀
      show Owes _ _ _ _ (s₁.setTop (mkF m 61 #[.val (.int p0), .val (.int p1), .val (.int p2), .val (.int p3), .val (.int p4), .val (.int p5), .val (.int aI), .val (.int bI), .val (.int cI), .val (.int rI), .unset, .unset, .unset, .unset, .unset, .unset, .unset] [(.int (((p5.toUInt32 >>> ((1 : Int32) &&& 31).toUInt32).toInt32) &&& (8191 : Int32)))]))
      exact J61_39 (((p5.toUInt32 >>> ((1 : Int32) &&& 31).toUInt32).toInt32) &&& (8191 : Int32)) (own_mk _)
    · skip
      refine Owes.go ?_ fun t₀ k₀ => XS.ifNo X0.here hx rfl (hb hby at_45) rfl ((if0 _ _).trans (feq hc1).1) k₀
      show Owes _ _ _ _ (s₁.setTop (mkF m 48 #[.val (.int p0), .val (.int p1), .val (.int p2), .val (.int p3), .val (.int p4), .val (.int p5), .val (.int aI), .val (.int bI), .val (.int cI), .val (.int rI), .unset, .unset, .unset, .unset, .unset, .unset, .unset] []))
      refine Owes.go ?_ fun t₀ k₀ => XS.iload X0.here hx rfl (hb hby at_48) rfl k₀
      show Owes _ _ _ _ (s₁.setTop (mkF m 50 #[.val (.int p0), .val (.int p1), .val (.int p2), .val (.int p3), .val (.int p4), .val (.int p5), .val (.int aI), .val (.int bI), .val (.int cI), .val (.int rI), .unset, .unset, .unset, .unset, .unset, .unset, .unset] [(.int bI)]))
      refine Owes.go ?_ fun t₀ k₀ => XS.goto X0.here hx rfl (pc0 := 50) (pc' := 61) rfl (hb hby at_50) (by decide) (by decide) k₀
      show Owes _ _ _ _ (s₁.setTop (mkF m 61 #[.val (.int p0), .val (.int p1), .val (.int p2), .val (.int p3), .val (.int p4), .val (.int p5), .val (.int aI), .val (.int bI), .val (.int cI), .val (.int rI), .unset, .unset, .unset, .unset, .unset, .unset, .unset] [(.int bI)]))
      exact J61_39 bI ⟨b_, hb_, lb_⟩
  by_cases hc2 : (p3 &&& (1 : Int32)) = (0 : Int32)
  · skip
    refine Owes.go ?_ fun t₀ k₀ => XS.ifYes X0.here hx rfl (pc0 := 24) (pc' := 32) rfl (hb hby at_24) rfl ((if0 _ _).trans (teq hc2).1) (by decide) (by decide) k₀
    show Owes _ _ _ _ (s₁.setTop (mkF m 32 #[.val (.int p0), .val (.int p1), .val (.int p2), .val (.int p3), .val (.int p4), .val (.int p5), .val (.int aI), .val (.int bI), .val (.int cI), .unset, .unset, .unset, .unset, .unset, .unset, .unset, .unset] []))
    refine Owes.go ?_ fun t₀ k₀ => XS.iloadN X0.here hx rfl (hb hby at_32) rfl k₀
    show Owes _ _ _ _ (s₁.setTop (mkF m 33 #[.val (.int p0), .val (.int p1), .val (.int p2), .val (.int p3), .val (.int p4), .val (.int p5), .val (.int aI), .val (.int bI), .val (.int cI), .unset, .unset, .unset, .unset, .unset, .unset, .unset, .unset] [(.int p3)]))
    refine Owes.go ?_ fun t₀ k₀ => XS.iconst X0.here hx rfl (hb hby at_33) k₀
    show Owes _ _ _ _ (s₁.setTop (mkF m 34 #[.val (.int p0), .val (.int p1), .val (.int p2), .val (.int p3), .val (.int p4), .val (.int p5), .val (.int aI), .val (.int bI), .val (.int cI), .unset, .unset, .unset, .unset, .unset, .unset, .unset, .unset] [(.int (1 : Int32)), (.int p3)]))
    refine Owes.go ?_ fun t₀ k₀ => XS.iushr X0.here hx rfl (hb hby at_34) rfl k₀
    show Owes _ _ _ _ (s₁.setTop (mkF m 35 #[.val (.int p0), .val (.int p1), .val (.int p2), .val (.int p3), .val (.int p4), .val (.int p5), .val (.int aI), .val (.int bI), .val (.int cI), .unset, .unset, .unset, .unset, .unset, .unset, .unset, .unset] [(.int ((p3.toUInt32 >>> ((1 : Int32) &&& 31).toUInt32).toInt32))]))
    refine Owes.go ?_ fun t₀ k₀ => XS.sipush X0.here hx rfl (hb hby at_35) k₀
    show Owes _ _ _ _ (s₁.setTop (mkF m 38 #[.val (.int p0), .val (.int p1), .val (.int p2), .val (.int p3), .val (.int p4), .val (.int p5), .val (.int aI), .val (.int bI), .val (.int cI), .unset, .unset, .unset, .unset, .unset, .unset, .unset, .unset] [(.int (8191 : Int32)), (.int ((p3.toUInt32 >>> ((1 : Int32) &&& 31).toUInt32).toInt32))]))
    refine Owes.go ?_ fun t₀ k₀ => XS.iand X0.here hx rfl (hb hby at_38) rfl k₀
    show Owes _ _ _ _ (s₁.setTop (mkF m 39 #[.val (.int p0), .val (.int p1), .val (.int p2), .val (.int p3), .val (.int p4), .val (.int p5), .val (.int aI), .val (.int bI), .val (.int cI), .unset, .unset, .unset, .unset, .unset, .unset, .unset, .unset] [(.int (((p3.toUInt32 >>> ((1 : Int32) &&& 31).toUInt32).toInt32) &&& (8191 : Int32)))]))
    exact J39_38 (((p3.toUInt32 >>> ((1 : Int32) &&& 31).toUInt32).toInt32) &&& (8191 : Int32)) (own_mk _)
  · skip
    refine Owes.go ?_ fun t₀ k₀ => XS.ifNo X0.here hx rfl (hb hby at_24) rfl ((if0 _ _).trans (feq hc2).1) k₀
    show Owes _ _ _ _ (s₁.setTop (mkF m 27 #[.val (.int p0), .val (.int p1), .val (.int p2), .val (.int p3), .val (.int p4), .val (.int p5), .val (.int aI), .val (.int bI), .val (.int cI), .unset, .unset, .unset, .unset, .unset, .unset, .unset, .unset] []))
    refine Owes.go ?_ fun t₀ k₀ => XS.iload X0.here hx rfl (hb hby at_27) rfl k₀
    show Owes _ _ _ _ (s₁.setTop (mkF m 29 #[.val (.int p0), .val (.int p1), .val (.int p2), .val (.int p3), .val (.int p4), .val (.int p5), .val (.int aI), .val (.int bI), .val (.int cI), .unset, .unset, .unset, .unset, .unset, .unset, .unset, .unset] [(.int aI)]))
    refine Owes.go ?_ fun t₀ k₀ => XS.goto X0.here hx rfl (pc0 := 29) (pc' := 39) rfl (hb hby at_29) (by decide) (by decide) k₀
    show Owes _ _ _ _ (s₁.setTop (mkF m 39 #[.val (.int p0), .val (.int p1), .val (.int p2), .val (.int p3), .val (.int p4), .val (.int p5), .val (.int aI), .val (.int bI), .val (.int cI), .unset, .unset, .unset, .unset, .unset, .unset, .unset, .unset] [(.int aI)]))
    exact J39_38 aI ⟨a_, ha_, la_⟩
set_option maxRecDepth 65536 in
set_option maxHeartbeats 40000000 in
theorem comes_1 {Post : Tables → Env → Array Value → State → Outcome → State → Prop} (hpost : ∀ tb e args s v u, (limb_1_1.after args s (.returned v) u = true ∧ limb_1_2.after args s (.returned v) u = true ∧ True) → FrameEnd s (.returned v) u (Jvm.fieldLocs frame_1_writes args s ++ Jvm.arrayLocs frame_1_arrays args s ++ Jvm.staticLocs frame_1_statics s) 24 384 → Post tb e args s (.returned v) u) :
    ArmFor flags0 classFile x code maxLocals ret World_1 tables_1 room_1 Calls_1 rest_1 Pre_1 Post := by
  intro l hfl _ _ p e ha hc hk s m args below hf hA hF happ hP
  obtain ⟨hcalls, hrest, hpre⟩ := hP
  obtain ⟨-, -, -, hnamed, -, -, -, hat⟩ := (Spec.applies_iff hf).mp happ
  obtain ⟨hg, hn⟩ := and_e (Cond.before_iff.mp (show (Jvm.Cond.and given_1 narrow_1).before args s = true from hpre))
  obtain ⟨g1, g2⟩ := and_e hg
  obtain ⟨g3, g4⟩ := and_e g2
  obtain ⟨g5, g6⟩ := and_e g4
  obtain ⟨g7, g8⟩ := and_e g6
  obtain ⟨g9, g10⟩ := and_e g8
  obtain ⟨g11, g12⟩ := and_e g10
  obtain ⟨w0, w1, w2, w3, w4, w5, rfl⟩ : ∃ w0 w1 w2 w3 w4 w5 : Value, args = #[w0, w1, w2, w3, w4, w5] := by
    have hs : args.size = 6 := by simpa [Cond.value, given_1] using g1
    obtain ⟨L⟩ := args
    match L, hs with
    | [w0, w1, w2, w3, w4, w5], _ => exact ⟨w0, w1, w2, w3, w4, w5, rfl⟩
  have hw := fun d (hd : d ∈ tables_1) => atoms_spec (ws := Jvm.Cond.code x code maxLocals ret :: tables_1) hat d (List.mem_cons_of_mem _ hd)
  have hfit : Fit s := fun {y c} hc i hi => by
    obtain ⟨ha, rfl⟩ := Array.getElem?_eq_some_iff.mp hc
    have q := List.all_eq_true.mp ((Array.all_eq_true_iff_forall_mem.mp hF) _ (Array.getElem_mem ha)) i (List.mem_range.mpr hi)
    simpa [Array.getElem?_eq_getElem hi] using q
  obtain ⟨i0, ei0⟩ := is_v g3
  obtain rfl : w0 = (.int i0) := Option.some.inj ei0
  obtain ⟨i1, ei1⟩ := is_v g5
  obtain rfl : w1 = (.int i1) := Option.some.inj ei1
  obtain ⟨i2, ei2⟩ := is_v g7
  obtain rfl : w2 = (.int i2) := Option.some.inj ei2
  obtain ⟨i3, ei3⟩ := is_v g9
  obtain rfl : w3 = (.int i3) := Option.some.inj ei3
  obtain ⟨i4, ei4⟩ := is_v g11
  obtain rfl : w4 = (.int i4) := Option.some.inj ei4
  obtain ⟨i5, ei5⟩ := is_v g12
  obtain rfl : w5 = (.int i5) := Option.some.inj ei5
  obtain ⟨n, o, h1, h2, h3, _, L, rfl, ⟨rfl, N⟩, hq⟩ := rm0 l s _ hw tables_1 i0 i1 i2 i3 i4 i5 s.heap s.heap.size (Nat.le_refl _)  p e ha hc hk s m _ below hf ((Spec.applies_iff_loose hf).mp happ).1 ⟨rfl, State.Warmed39.refl s, rfl⟩ trivial
  refine ⟨n, _, h1, h2, h3, hpost _ _ _ _ _ _ ⟨Cond.after_iff.mpr rfl, Cond.after_iff.mpr (eq_i res_at (Term.int_eval (1)) rfl), trivial⟩ ⟨hq.1, hq.2.1, (hq.2.2.sift fun y hy => Or.inr (N y hy)).mono (by decide) (by decide)⟩⟩
theorem main_1_1 : Claimed_1_1 := comes_1 fun _ _ _ _ _ _ h hF => ⟨h.1, hF⟩
theorem main_1_2 : Claimed_1_2 := comes_1 fun _ _ _ _ _ _ h hF => ⟨h.2.1, hF⟩
end Jvm.Pilot.@@N@@
namespace Jvm.Pilot.@@N@@
open Jvm Jvm.ClassFile Sem Op Lib Jvm.Free Jvm.Stand Jvm.Pilot.@@N@@.Jvm.D
/-! MADE BY PROGRAM (witnessworld.py) out of the Statement's table words and the real class files: 19 classes; the members and pool entries that the words name. The judged class is class 1, her method 1. -/
namespace start1
open Jvm.ClassFile
def u (s : String) : CpInfo := .utf8 (stringToUtf16 s)
/-- a pool by its gaps: so many unusable entries, then the entry; so many at the end -/
def gap : Nat → List CpInfo → List CpInfo
  | 0, r => r
  | n + 1, r => .unusable :: gap n r
def poolList (es : List (Nat × CpInfo)) (last : Nat) : List CpInfo := es.foldr (fun e r => gap e.1 (e.2 :: r)) (gap last [])
def pool (es : List (Nat × CpInfo)) (last : Nat) : Array CpInfo := ⟨poolList es last⟩
def fileOf (pool : Array CpInfo) (this : Nat) (attrs : Array Attribute := #[]) (ms : Array MethodInfo := #[]) (fl : Nat := 33) (sup : Nat := 0) (ifs : Array Nat := #[]) (fds : Array FieldInfo := #[]) : ClassFile where
  minorVersion := 0
  majorVersion := 65
  constantPool := pool
  accessFlags := fl
  thisClass := this
  superClass := sup
  interfaces := ifs
  fields := fds
  methods := ms
  attributes := attrs
def plain (name : String) (sup : Option ClassId) : Class where
  name := name
  kind := .ordinary
  loader := none
  accessFlags := 33
  super := sup
  interfaces := #[]
  cf := none
  fields := #[]
  methods := #[]
  instanceTypes := #[]
  staticTypes := #[]
  resolved := #[]
  callSites := []
  init := .initialized
  statics := none
  mirror := none

def pool0 : Array CpInfo := pool [(5, u "<init>"), (0, u "()V"), (1, .class_ 10), (1, u "java/lang/Object")] 113

def k0c0 : Code := { maxStack := 0, maxLocals := 1, code := object_method_1_code, exceptionTable := #[], attributes := #[] }
def k0m0 : Method := { name := "<init>", desc := "()V", sig := { parameters := [], returnType := none }, accessFlags := 1, code := some k0c0 }
/-- java/lang/Object -/
def k0 : Class := { plain "java/lang/Object" none with
  accessFlags := 33
  interfaces := #[]
  cf := some (fileOf pool0 8 #[] #[{ accessFlags := 1, nameIndex := 5, descriptorIndex := 6, attributes := #[] }] 33 0 #[] #[])
  fields := #[]
  methods := #[k0m0]
  instanceTypes := #[]
  staticTypes := #[]
  resolved := Array.replicate 124 none
  statics := none }

def pool1 : Array CpInfo := pool [(2, .class_ 4), (1, u "java/lang/Object"), (0, u "<init>"), (0, u "()V"), (0, .class_ 8), (0, u "com/example/slotwright/slotwright/core/RankSet"), (0, .methodref 7 10), (0, .nameAndType 5 11), (0, u "(I)V"), (0, .methodref 7 13), (0, .nameAndType 14 11), (0, u "add"), (0, .methodref 7 16), (0, .nameAndType 17 11), (0, u "remove"), (0, .methodref 7 19), (0, .nameAndType 20 21), (0, u "next"), (0, u "(I)I"), (0, .methodref 7 23), (0, .nameAndType 24 21), (0, u "previous"), (0, .methodref 26 27), (0, .class_ 28), (0, .nameAndType 29 30), (0, u "com/example/slotwright/slotwright/core/RankSetRemovePinLaw"), (0, u "nextRef"), (0, u "(IIIIII)I"), (0, .methodref 26 32), (0, .nameAndType 33 30), (0, u "prevRef"), (0, .methodref 26 35), (0, .nameAndType 36 37), (0, u "up"), (0, u "(IIIII)I"), (0, .methodref 26 39), (0, .nameAndType 40 37), (0, u "down"), (2, u "law"), (0, u "(IIIIII)Z")] 3

def k1m0 : Method := { name := "<init>", desc := "()V", sig := { parameters := [], returnType := none }, accessFlags := 1, code := none }
def k1c1 : Code := { maxStack := 7, maxLocals := 17, code := code, exceptionTable := #[], attributes := #[] }
def k1m1 : Method := { name := "law", desc := "(IIIIII)Z", sig := { parameters := [.int, .int, .int, .int, .int, .int], returnType := some .boolean }, accessFlags := 9, code := some k1c1 }
def k1c2 : Code := { maxStack := 5, maxLocals := 6, code := method_3_code, exceptionTable := #[], attributes := #[] }
def k1m2 : Method := { name := "nextRef", desc := "(IIIIII)I", sig := { parameters := [.int, .int, .int, .int, .int, .int], returnType := some .int }, accessFlags := 10, code := some k1c2 }
def k1c3 : Code := { maxStack := 5, maxLocals := 6, code := method_4_code, exceptionTable := #[], attributes := #[] }
def k1m3 : Method := { name := "prevRef", desc := "(IIIIII)I", sig := { parameters := [.int, .int, .int, .int, .int, .int], returnType := some .int }, accessFlags := 10, code := some k1c3 }
def k1c4 : Code := { maxStack := 2, maxLocals := 5, code := method_5_code, exceptionTable := #[], attributes := #[] }
def k1m4 : Method := { name := "up", desc := "(IIIII)I", sig := { parameters := [.int, .int, .int, .int, .int], returnType := some .int }, accessFlags := 10, code := some k1c4 }
def k1c5 : Code := { maxStack := 2, maxLocals := 5, code := method_6_code, exceptionTable := #[], attributes := #[] }
def k1m5 : Method := { name := "down", desc := "(IIIII)I", sig := { parameters := [.int, .int, .int, .int, .int], returnType := some .int }, accessFlags := 10, code := some k1c5 }
/-- com/example/slotwright/slotwright/core/RankSetRemovePinLaw -/
def k1 : Class := { plain "com/example/slotwright/slotwright/core/RankSetRemovePinLaw" (some 0) with
  accessFlags := 49
  interfaces := #[]
  cf := some (fileOf pool1 26 #[] #[{ accessFlags := 1, nameIndex := 5, descriptorIndex := 6, attributes := #[] }, { accessFlags := 9, nameIndex := 43, descriptorIndex := 44, attributes := #[] }, { accessFlags := 10, nameIndex := 29, descriptorIndex := 30, attributes := #[] }, { accessFlags := 10, nameIndex := 33, descriptorIndex := 30, attributes := #[] }, { accessFlags := 10, nameIndex := 36, descriptorIndex := 37, attributes := #[] }, { accessFlags := 10, nameIndex := 40, descriptorIndex := 37, attributes := #[] }] 49 2 #[] #[])
  fields := #[]
  methods := #[k1m0, k1m1, k1m2, k1m3, k1m4, k1m5]
  instanceTypes := #[]
  staticTypes := #[]
  resolved := Array.replicate 48 none
  statics := none }

def pool2 : Array CpInfo := pool [(1, .methodref 2 3), (0, .class_ 4), (0, .nameAndType 5 6), (0, u "java/lang/Object"), (0, u "<init>"), (0, u "()V"), (0, .methodref 8 9), (0, .class_ 10), (0, .nameAndType 11 12), (0, u "com/example/slotwright/slotwright/core/RankSet"), (0, u "wordsFor"), (0, u "(I)I"), (0, .class_ 14), (0, u "[J"), (0, .fieldref 8 16), (0, .nameAndType 17 18), (0, u "levels"), (0, u "[[J"), (0, .methodref 20 21), (0, .class_ 22), (0, .nameAndType 23 24), (0, u "java/lang/Math"), (0, u "max"), (0, u "(II)I"), (0, .long 18446744073709551615), (7, .methodref 34 35), (0, .class_ 36), (0, .nameAndType 37 38), (0, u "java/lang/Long"), (0, u "numberOfTrailingZeros"), (0, u "(J)I"), (0, .methodref 34 40), (0, .nameAndType 41 38), (0, u "numberOfLeadingZeros"), (0, u "(I)V"), (3, u "add"), (1, u "remove"), (1, u "next"), (0, u "previous")] 2

def k2c0 : Code := { maxStack := 4, maxLocals := 5, code := prog_118_method_1_code, exceptionTable := #[], attributes := #[] }
def k2m0 : Method := { name := "<init>", desc := "(I)V", sig := { parameters := [.int], returnType := none }, accessFlags := 0, code := some k2c0 }
def k2c1 : Code := { maxStack := 7, maxLocals := 8, code := prog_118_method_2_code, exceptionTable := #[], attributes := #[] }
def k2m1 : Method := { name := "add", desc := "(I)V", sig := { parameters := [.int], returnType := none }, accessFlags := 0, code := some k2c1 }
def k2c2 : Code := { maxStack := 8, maxLocals := 7, code := prog_118_method_3_code, exceptionTable := #[], attributes := #[] }
def k2m2 : Method := { name := "remove", desc := "(I)V", sig := { parameters := [.int], returnType := none }, accessFlags := 0, code := some k2c2 }
def k2c3 : Code := { maxStack := 5, maxLocals := 6, code := prog_118_method_5_code, exceptionTable := #[], attributes := #[] }
def k2m3 : Method := { name := "next", desc := "(I)I", sig := { parameters := [.int], returnType := some .int }, accessFlags := 0, code := some k2c3 }
def k2c4 : Code := { maxStack := 7, maxLocals := 6, code := prog_118_method_6_code, exceptionTable := #[], attributes := #[] }
def k2m4 : Method := { name := "previous", desc := "(I)I", sig := { parameters := [.int], returnType := some .int }, accessFlags := 0, code := some k2c4 }
def k2c5 : Code := { maxStack := 2, maxLocals := 1, code := prog_118_method_7_code, exceptionTable := #[], attributes := #[] }
def k2m5 : Method := { name := "wordsFor", desc := "(I)I", sig := { parameters := [.int], returnType := some .int }, accessFlags := 10, code := some k2c5 }
/-- com/example/slotwright/slotwright/core/RankSet -/
def k2 : Class := { plain "com/example/slotwright/slotwright/core/RankSet" (some 0) with
  accessFlags := 48
  interfaces := #[]
  cf := some (fileOf pool2 8 #[] #[{ accessFlags := 0, nameIndex := 5, descriptorIndex := 42, attributes := #[] }, { accessFlags := 0, nameIndex := 46, descriptorIndex := 42, attributes := #[] }, { accessFlags := 0, nameIndex := 48, descriptorIndex := 42, attributes := #[] }, { accessFlags := 0, nameIndex := 50, descriptorIndex := 12, attributes := #[] }, { accessFlags := 0, nameIndex := 51, descriptorIndex := 12, attributes := #[] }, { accessFlags := 10, nameIndex := 11, descriptorIndex := 12, attributes := #[] }] 48 2 #[] #[{ accessFlags := 18, nameIndex := 17, descriptorIndex := 18, attributes := #[] }])
  fields := #[{ name := "levels", type := (.array (.array .long)), accessFlags := 18, slot := 0, constantValue := 0 }]
  methods := #[k2m0, k2m1, k2m2, k2m3, k2m4, k2m5]
  instanceTypes := #[(.array (.array .long))]
  staticTypes := #[]
  resolved := Array.replicate 54 none
  statics := none }

def pool3 : Array CpInfo := pool [(1, .class_ 2), (0, u "java/lang/Math"), (1, .class_ 6), (1, u "java/lang/Object"), (0, u "<init>"), (0, u "()V"), (89, .class_ 100), (1, u "java/lang/Math$RandomNumberGeneratorHolder"), (71, u "negativeZeroFloatBits"), (0, u "J"), (2, u "negativeZeroDoubleBits"), (21, u "max"), (46, u "$assertionsDisabled"), (0, u "Z"), (88, u "(II)I"), (2, u "twoToTheDoubleScaleDown"), (0, u "D"), (4, u "twoToTheDoubleScaleUp"), (9, u "E"), (3, u "PI"), (2, u "TAU"), (2, u "DEGREES_TO_RADIANS"), (0, u "RADIANS_TO_DEGREES")] 94

def k3m0 : Method := { name := "<init>", desc := "()V", sig := { parameters := [], returnType := none }, accessFlags := 2, code := none }
def k3c1 : Code := { maxStack := 2, maxLocals := 2, code := jdk_29_method_65_code, exceptionTable := #[], attributes := #[] }
def k3m1 : Method := { name := "max", desc := "(II)I", sig := { parameters := [.int, .int], returnType := some .int }, accessFlags := 9, code := some k3c1 }
/-- java/lang/Math -/
def k3 : Class := { plain "java/lang/Math" (some 0) with
  accessFlags := 49
  interfaces := #[]
  cf := some (fileOf pool3 1 #[.nestMembers #[98]] #[{ accessFlags := 2, nameIndex := 7, descriptorIndex := 8, attributes := #[] }, { accessFlags := 9, nameIndex := 198, descriptorIndex := 335, attributes := #[] }] 49 4 #[] #[{ accessFlags := 25, nameIndex := 354, descriptorIndex := 339, attributes := #[] }, { accessFlags := 25, nameIndex := 358, descriptorIndex := 339, attributes := #[] }, { accessFlags := 25, nameIndex := 361, descriptorIndex := 339, attributes := #[] }, { accessFlags := 26, nameIndex := 364, descriptorIndex := 339, attributes := #[] }, { accessFlags := 26, nameIndex := 365, descriptorIndex := 339, attributes := #[] }, { accessFlags := 26, nameIndex := 172, descriptorIndex := 173, attributes := #[] }, { accessFlags := 26, nameIndex := 176, descriptorIndex := 173, attributes := #[] }, { accessFlags := 8, nameIndex := 344, descriptorIndex := 339, attributes := #[] }, { accessFlags := 8, nameIndex := 338, descriptorIndex := 339, attributes := #[] }, { accessFlags := 4120, nameIndex := 245, descriptorIndex := 246, attributes := #[] }])
  fields := #[{ name := "E", type := .double, accessFlags := 25, slot := 0, constantValue := 0 }, { name := "PI", type := .double, accessFlags := 25, slot := 1, constantValue := 0 }, { name := "TAU", type := .double, accessFlags := 25, slot := 2, constantValue := 0 }, { name := "DEGREES_TO_RADIANS", type := .double, accessFlags := 26, slot := 3, constantValue := 0 }, { name := "RADIANS_TO_DEGREES", type := .double, accessFlags := 26, slot := 4, constantValue := 0 }, { name := "negativeZeroFloatBits", type := .long, accessFlags := 26, slot := 5, constantValue := 0 }, { name := "negativeZeroDoubleBits", type := .long, accessFlags := 26, slot := 6, constantValue := 0 }, { name := "twoToTheDoubleScaleUp", type := .double, accessFlags := 8, slot := 7, constantValue := 0 }, { name := "twoToTheDoubleScaleDown", type := .double, accessFlags := 8, slot := 8, constantValue := 0 }, { name := "$assertionsDisabled", type := .boolean, accessFlags := 4120, slot := 9, constantValue := 0 }]
  methods := #[k3m0, k3m1]
  instanceTypes := #[]
  staticTypes := #[.double, .double, .double, .double, .double, .long, .long, .double, .double, .boolean]
  resolved := Array.replicate 460 none
  statics := none }

def pool4 : Array CpInfo := pool [(1, .class_ 2), (0, u "java/io/Serializable"), (0, .class_ 4), (0, u "java/lang/Object")] 2

/-- java/io/Serializable -/
def k4 : Class := { plain "java/io/Serializable" (some 0) with
  accessFlags := 1537
  interfaces := #[]
  cf := some (fileOf pool4 1 #[] #[] 1537 3 #[] #[])
  fields := #[]
  methods := #[]
  instanceTypes := #[]
  staticTypes := #[]
  resolved := Array.replicate 7 none
  statics := none }

def pool5 : Array CpInfo := pool [(2, .class_ 4), (1, u "java/lang/Object"), (0, u "<init>"), (0, u "()V"), (1, .class_ 10), (1, u "java/lang/Number"), (2, .class_ 14), (0, u "java/io/Serializable"), (0, u "serialVersionUID"), (0, u "J")] 20

def k5m0 : Method := { name := "<init>", desc := "()V", sig := { parameters := [], returnType := none }, accessFlags := 1, code := none }
/-- java/lang/Number -/
def k5 : Class := { plain "java/lang/Number" (some 0) with
  accessFlags := 1057
  interfaces := #[4]
  cf := some (fileOf pool5 8 #[] #[{ accessFlags := 1, nameIndex := 5, descriptorIndex := 6, attributes := #[] }] 1057 2 #[13] #[{ accessFlags := 26, nameIndex := 15, descriptorIndex := 16, attributes := #[] }])
  fields := #[{ name := "serialVersionUID", type := .long, accessFlags := 26, slot := 0, constantValue := 0 }]
  methods := #[k5m0]
  instanceTypes := #[]
  staticTypes := #[.long]
  resolved := Array.replicate 37 none
  statics := none }

def pool6 : Array CpInfo := pool [(1, .class_ 2), (0, u "java/lang/Comparable"), (0, .class_ 4), (0, u "java/lang/Object")] 7

/-- java/lang/Comparable -/
def k6 : Class := { plain "java/lang/Comparable" (some 0) with
  accessFlags := 1537
  interfaces := #[]
  cf := some (fileOf pool6 1 #[] #[] 1537 3 #[] #[])
  fields := #[]
  methods := #[]
  instanceTypes := #[]
  staticTypes := #[]
  resolved := Array.replicate 12 none
  statics := none }

def pool7 : Array CpInfo := pool [(1, .class_ 2), (0, u "java/lang/constant/Constable"), (0, .class_ 4), (0, u "java/lang/Object")] 6

/-- java/lang/constant/Constable -/
def k7 : Class := { plain "java/lang/constant/Constable" (some 0) with
  accessFlags := 1537
  interfaces := #[]
  cf := some (fileOf pool7 1 #[] #[] 1537 3 #[] #[])
  fields := #[]
  methods := #[]
  instanceTypes := #[]
  staticTypes := #[]
  resolved := Array.replicate 11 none
  statics := none }

def pool8 : Array CpInfo := pool [(1, .class_ 2), (0, u "java/lang/constant/ConstantDesc"), (0, .class_ 4), (0, u "java/lang/Object")] 32

/-- java/lang/constant/ConstantDesc -/
def k8 : Class := { plain "java/lang/constant/ConstantDesc" (some 0) with
  accessFlags := 1537
  interfaces := #[]
  cf := some (fileOf pool8 1 #[] #[] 1537 3 #[] #[])
  fields := #[]
  methods := #[]
  instanceTypes := #[]
  staticTypes := #[]
  resolved := Array.replicate 37 none
  statics := none }

def pool9 : Array CpInfo := pool [(1, .class_ 2), (0, u "java/lang/Long"), (15, .class_ 20), (1, u "java/lang/Integer"), (79, u "numberOfLeadingZeros"), (0, u "(J)I"), (133, .class_ 237), (1, u "java/lang/Long$LongCache"), (33, .class_ 272), (0, u "java/lang/Number"), (2, u "value"), (0, u "J"), (31, .methodref 18 309), (0, .nameAndType 100 310), (0, u "(I)I"), (0, .methodref 18 312), (0, .nameAndType 313 310), (0, u "numberOfTrailingZeros"), (47, u "TYPE"), (0, u "Ljava/lang/Class;"), (0, .class_ 364), (0, u "java/lang/Comparable"), (0, .class_ 366), (0, u "java/lang/constant/Constable"), (0, .class_ 368), (0, u "java/lang/constant/ConstantDesc"), (0, u "MIN_VALUE"), (1, u "MAX_VALUE"), (4, u "SIZE"), (0, u "I"), (1, u "BYTES"), (1, u "serialVersionUID")] 142

def k9c0 : Code := { maxStack := 3, maxLocals := 3, code := jdk_35_method_48_code, exceptionTable := #[], attributes := #[] }
def k9m0 : Method := { name := "numberOfLeadingZeros", desc := "(J)I", sig := { parameters := [.long], returnType := some .int }, accessFlags := 9, code := some k9c0 }
def k9c1 : Code := { maxStack := 4, maxLocals := 3, code := jdk_35_method_49_code, exceptionTable := #[], attributes := #[] }
def k9m1 : Method := { name := "numberOfTrailingZeros", desc := "(J)I", sig := { parameters := [.long], returnType := some .int }, accessFlags := 9, code := some k9c1 }
/-- java/lang/Long -/
def k9 : Class := { plain "java/lang/Long" (some 5) with
  accessFlags := 49
  interfaces := #[6, 7, 8]
  cf := some (fileOf pool9 1 #[.nestMembers #[235]] #[{ accessFlags := 9, nameIndex := 100, descriptorIndex := 101, attributes := #[] }, { accessFlags := 9, nameIndex := 313, descriptorIndex := 101, attributes := #[] }] 49 271 #[363, 365, 367] #[{ accessFlags := 25, nameIndex := 369, descriptorIndex := 276, attributes := #[] }, { accessFlags := 25, nameIndex := 371, descriptorIndex := 276, attributes := #[] }, { accessFlags := 25, nameIndex := 361, descriptorIndex := 362, attributes := #[] }, { accessFlags := 18, nameIndex := 275, descriptorIndex := 276, attributes := #[] }, { accessFlags := 25, nameIndex := 376, descriptorIndex := 377, attributes := #[] }, { accessFlags := 25, nameIndex := 379, descriptorIndex := 377, attributes := #[] }, { accessFlags := 26, nameIndex := 381, descriptorIndex := 276, attributes := #[] }])
  fields := #[{ name := "MIN_VALUE", type := .long, accessFlags := 25, slot := 0, constantValue := 0 }, { name := "MAX_VALUE", type := .long, accessFlags := 25, slot := 1, constantValue := 0 }, { name := "TYPE", type := (.object "java/lang/Class"), accessFlags := 25, slot := 2, constantValue := 0 }, { name := "value", type := .long, accessFlags := 18, slot := 0, constantValue := 0 }, { name := "SIZE", type := .int, accessFlags := 25, slot := 3, constantValue := 0 }, { name := "BYTES", type := .int, accessFlags := 25, slot := 4, constantValue := 0 }, { name := "serialVersionUID", type := .long, accessFlags := 26, slot := 5, constantValue := 0 }]
  methods := #[k9m0, k9m1]
  instanceTypes := #[.long]
  staticTypes := #[.long, .long, (.object "java/lang/Class"), .int, .int, .long]
  resolved := Array.replicate 524 none
  statics := none }

def pool10 : Array CpInfo := pool [(1, .class_ 2), (0, u "java/lang/Integer"), (16, u "digits"), (0, u "[C"), (32, u "numberOfLeadingZeros"), (0, u "(I)I"), (30, u "DigitOnes"), (0, u "[B"), (2, u "DigitTens"), (99, .class_ 190), (0, u "java/lang/Integer$IntegerCache"), (3, u "I"), (8, .class_ 204), (0, u "java/lang/Number"), (2, u "value"), (56, .integer 65536), (37, u "TYPE"), (0, u "Ljava/lang/Class;"), (0, .class_ 305), (0, u "java/lang/Comparable"), (0, .class_ 307), (0, u "java/lang/constant/Constable"), (0, .class_ 309), (0, u "java/lang/constant/ConstantDesc"), (0, u "MIN_VALUE"), (1, u "MAX_VALUE"), (3, u "SIZE"), (1, u "BYTES"), (1, u "serialVersionUID"), (0, u "J"), (84, u "numberOfTrailingZeros")] 46

def k10c0 : Code := { maxStack := 3, maxLocals := 2, code := jdk_33_method_47_code, exceptionTable := #[], attributes := #[] }
def k10m0 : Method := { name := "numberOfLeadingZeros", desc := "(I)I", sig := { parameters := [.int], returnType := some .int }, accessFlags := 9, code := some k10c0 }
def k10c1 : Code := { maxStack := 3, maxLocals := 2, code := jdk_33_method_48_code, exceptionTable := #[], attributes := #[] }
def k10m1 : Method := { name := "numberOfTrailingZeros", desc := "(I)I", sig := { parameters := [.int], returnType := some .int }, accessFlags := 9, code := some k10c1 }
/-- java/lang/Integer -/
def k10 : Class := { plain "java/lang/Integer" (some 5) with
  accessFlags := 49
  interfaces := #[6, 7, 8]
  cf := some (fileOf pool10 1 #[.nestMembers #[189]] #[{ accessFlags := 9, nameIndex := 53, descriptorIndex := 54, attributes := #[] }, { accessFlags := 9, nameIndex := 406, descriptorIndex := 54, attributes := #[] }] 49 203 #[304, 306, 308] #[{ accessFlags := 25, nameIndex := 310, descriptorIndex := 194, attributes := #[] }, { accessFlags := 25, nameIndex := 312, descriptorIndex := 194, attributes := #[] }, { accessFlags := 25, nameIndex := 302, descriptorIndex := 303, attributes := #[] }, { accessFlags := 24, nameIndex := 19, descriptorIndex := 20, attributes := #[] }, { accessFlags := 24, nameIndex := 89, descriptorIndex := 86, attributes := #[] }, { accessFlags := 24, nameIndex := 85, descriptorIndex := 86, attributes := #[] }, { accessFlags := 18, nameIndex := 207, descriptorIndex := 194, attributes := #[] }, { accessFlags := 25, nameIndex := 316, descriptorIndex := 194, attributes := #[] }, { accessFlags := 25, nameIndex := 318, descriptorIndex := 194, attributes := #[] }, { accessFlags := 26, nameIndex := 320, descriptorIndex := 321, attributes := #[] }])
  fields := #[{ name := "MIN_VALUE", type := .int, accessFlags := 25, slot := 0, constantValue := 0 }, { name := "MAX_VALUE", type := .int, accessFlags := 25, slot := 1, constantValue := 0 }, { name := "TYPE", type := (.object "java/lang/Class"), accessFlags := 25, slot := 2, constantValue := 0 }, { name := "digits", type := (.array .char), accessFlags := 24, slot := 3, constantValue := 0 }, { name := "DigitTens", type := (.array .byte), accessFlags := 24, slot := 4, constantValue := 0 }, { name := "DigitOnes", type := (.array .byte), accessFlags := 24, slot := 5, constantValue := 0 }, { name := "value", type := .int, accessFlags := 18, slot := 0, constantValue := 0 }, { name := "SIZE", type := .int, accessFlags := 25, slot := 6, constantValue := 0 }, { name := "BYTES", type := .int, accessFlags := 25, slot := 7, constantValue := 0 }, { name := "serialVersionUID", type := .long, accessFlags := 26, slot := 8, constantValue := 0 }]
  methods := #[k10m0, k10m1]
  instanceTypes := #[.int]
  staticTypes := #[.int, .int, (.object "java/lang/Class"), (.array .char), (.array .byte), (.array .byte), .int, .int, .long]
  resolved := Array.replicate 453 none
  statics := none }

def pool11 : Array CpInfo := pool [(1, u "java/lang/Cloneable"), (0, .class_ 1), (0, u "java/lang/Object"), (0, .class_ 3)] 3

/-- java/lang/Cloneable -/
def k11 : Class := { plain "java/lang/Cloneable" (some 0) with
  accessFlags := 1537
  interfaces := #[]
  cf := some (fileOf pool11 2 #[] #[] 1537 4 #[] #[])
  fields := #[]
  methods := #[]
  instanceTypes := #[]
  staticTypes := #[]
  resolved := Array.replicate 8 none
  statics := none }

/-- the primitive byte -/
def k12 : Class := { plain "byte" none with kind := .primitive 'B', accessFlags := 0x411 }
/-- [B -/
def k13 : Class := { plain "[B" (some 0) with kind := .array 12 .byte, interfaces := #[11, 4], accessFlags := 1041 }

/-- the primitive int -/
def k14 : Class := { plain "int" none with kind := .primitive 'I', accessFlags := 0x411 }
/-- [I -/
def k15 : Class := { plain "[I" (some 0) with kind := .array 14 .int, interfaces := #[11, 4], accessFlags := 1041 }

/-- the primitive long -/
def k16 : Class := { plain "long" none with kind := .primitive 'J', accessFlags := 0x411 }
/-- [J -/
def k17 : Class := { plain "[J" (some 0) with kind := .array 16 .long, interfaces := #[11, 4], accessFlags := 1041 }

/-- [[J -/
def k18 : Class := { plain "[[J" (some 0) with kind := .array 17 (.array .long), interfaces := #[11, 4], accessFlags := 1041 }

def heap : Heap := #[{ cls := 18, slots := #[.null], vm := .none }]
def classes : Array Class := #[k0, k1, k2, k3, k4, k5, k6, k7, k8, k9, k10, k11, k12, k13, k14, k15, k16, k17, k18]
def interned : List (Array UInt16 × Addr) := []
def slotsUsed : Nat := 1
def theMethod : MethodId := ⟨1, 1⟩
def args0 : Array Value := #[.int 5, .int 1, .int 2, .int 3, .int 4, .int 6]
def aboutOver (below : List Frame) : State where
  vm := { classes := classes, interned := interned.toArray }
  heap := heap
  slotsUsed := slotsUsed
  threads := #[{ frames := .invoking theMethod args0 :: below }]
def below0 : List Frame := [.native { method := ⟨0, 0⟩, args := #[] }]
def about1 : State := aboutOver below0
def p0 : Program := .bare "" "" ""
def e0 : Env := launch0.env 0 0 0
theorem w_frames : about1.frames = Frame.invoking theMethod args0 :: below0 := rfl
set_option maxRecDepth 65536 in
theorem w_args : argsFit about1.vm theMethod args0 = true := by decide +kernel
set_option maxRecDepth 65536 in
theorem w_heap : heapFits about1 = true := by decide +kernel
set_option maxRecDepth 65536 in
theorem w_runnable : about1.curStatus? = some .runnable := by decide +kernel
set_option maxRecDepth 65536 in
theorem w_alone : about1.alone = true := by decide +kernel
set_option maxRecDepth 65536 in
theorem w_named : about1.methodNamed? x = some theMethod := by decide +kernel
set_option maxRecDepth 65536 in
theorem w_hears : about1.hears theMethod below0 = true := by decide +kernel
set_option maxRecDepth 65536 in
theorem w_ripe : about1.ripe theMethod args0 below0 = true := by decide +kernel
theorem w_running : about1.status = .running := rfl
set_option maxRecDepth 65536 in
theorem w_room : about1.hasRoom e0.platform room_1 = true :=
  launch0.hasRoom_least _ room_1 (by decide +kernel) (by decide +kernel) (by decide +kernel) (by decide +kernel) (by decide +kernel) (by decide +kernel)
theorem allAtoms_all (ts : List Jvm.Cond) (a : Array Jvm.Value) (st : Jvm.State) : (allAtoms ts).before a st = ts.all (fun c => c.before a st) := by
  induction ts with
  | nil => rfl
  | cons c t ih =>
    show (Jvm.Cond.and c (allAtoms t)).before a st = _
    rw [Jvm.Cond.before_and, ih, List.all_cons]
def words1 : List Jvm.Cond := Jvm.Cond.code x code maxLocals ret :: tables_1
/-- a 'code' word, met by the world's own term for the bytes: nothing is compared byte by byte -/
theorem code_word {y : MethodName} {bytes : ByteArray} {mx : Nat} {rt : Option FieldType} {a : Array Value} {s : State} {m : MethodId} {meth : Method} {c : Code} (h1 : s.methodNamed? y = some m) (h2 : s.vm.method? m = some meth) (h3 : meth.code = some c) (h4 : c.code = bytes)
    (h5 : (c.maxLocals == mx && c.exceptionTable.isEmpty && decide (c.maxStack ≤ mostOperands) && decide (meth.sig.returnType = rt) && !meth.locks && decide (parseMethodDescriptor y.desc = some meth.sig)) = true) : (Jvm.Cond.code y bytes mx rt).before a s = true := by
  simp only [Bool.and_eq_true, beq_iff_eq, Bool.not_eq_true', decide_eq_true_eq] at h5
  obtain ⟨⟨⟨⟨⟨g1, g2⟩, g3⟩, g4⟩, g5⟩, g6⟩ := h5
  simp [Cond.before, Cond.holds, Cond.value, h1, h2, h3, h4, g1, g2, g3, g4, g5, g6]
def isCode : Jvm.Cond → Bool
  | .code _ _ _ _ => true
  | _ => false
theorem all_split {L : List Jvm.Cond} {P : Jvm.Cond → Bool} (h1 : L.all (fun c => isCode c || P c) = true) (h2 : ∀ c ∈ L.filter isCode, P c = true) : L.all P = true := by
  refine List.all_eq_true.mpr fun c hc => ?_
  have h := List.all_eq_true.mp h1 c hc
  rcases Bool.eq_false_or_eq_true (isCode c) with hi | hi
  · exact h2 c (List.mem_filter.mpr ⟨hc, hi⟩)
  · simpa [hi] using h
set_option maxRecDepth 65536 in
theorem w_c0 : (Jvm.Cond.code x code maxLocals ret).before args0 about1 = true := code_word (m := ⟨1, 1⟩) (meth := k1m1) (c := k1c1) (by decide +kernel) rfl rfl rfl (by decide +kernel)
set_option maxRecDepth 65536 in
theorem w_c1 : (Jvm.Cond.code ({ cls := "com/example/slotwright/slotwright/core/RankSet", name := "<init>", desc := "(I)V" } : Jvm.MethodName) prog_118_method_1_code (5 : Nat) (Option.none : Option Jvm.ClassFile.FieldType)).before args0 about1 = true := code_word (m := ⟨2, 0⟩) (meth := k2m0) (c := k2c0) (by decide +kernel) rfl rfl rfl (by decide +kernel)
set_option maxRecDepth 65536 in
theorem w_c2 : (Jvm.Cond.code ({ cls := "java/lang/Object", name := "<init>", desc := "()V" } : Jvm.MethodName) object_method_1_code (1 : Nat) (Option.none : Option Jvm.ClassFile.FieldType)).before args0 about1 = true := code_word (m := ⟨0, 0⟩) (meth := k0m0) (c := k0c0) (by decide +kernel) rfl rfl rfl (by decide +kernel)
set_option maxRecDepth 65536 in
theorem w_c3 : (Jvm.Cond.code ({ cls := "com/example/slotwright/slotwright/core/RankSet", name := "wordsFor", desc := "(I)I" } : Jvm.MethodName) prog_118_method_7_code (1 : Nat) (Option.some Jvm.ClassFile.FieldType.int)).before args0 about1 = true := code_word (m := ⟨2, 5⟩) (meth := k2m5) (c := k2c5) (by decide +kernel) rfl rfl rfl (by decide +kernel)
set_option maxRecDepth 65536 in
theorem w_c4 : (Jvm.Cond.code ({ cls := "java/lang/Math", name := "max", desc := "(II)I" } : Jvm.MethodName) jdk_29_method_65_code (2 : Nat) (Option.some Jvm.ClassFile.FieldType.int)).before args0 about1 = true := code_word (m := ⟨3, 1⟩) (meth := k3m1) (c := k3c1) (by decide +kernel) rfl rfl rfl (by decide +kernel)
set_option maxRecDepth 65536 in
theorem w_c5 : (Jvm.Cond.code ({ cls := "com/example/slotwright/slotwright/core/RankSet", name := "add", desc := "(I)V" } : Jvm.MethodName) prog_118_method_2_code (8 : Nat) (Option.none : Option Jvm.ClassFile.FieldType)).before args0 about1 = true := code_word (m := ⟨2, 1⟩) (meth := k2m1) (c := k2c1) (by decide +kernel) rfl rfl rfl (by decide +kernel)
set_option maxRecDepth 65536 in
theorem w_c6 : (Jvm.Cond.code ({ cls := "com/example/slotwright/slotwright/core/RankSet", name := "remove", desc := "(I)V" } : Jvm.MethodName) prog_118_method_3_code (7 : Nat) (Option.none : Option Jvm.ClassFile.FieldType)).before args0 about1 = true := code_word (m := ⟨2, 2⟩) (meth := k2m2) (c := k2c2) (by decide +kernel) rfl rfl rfl (by decide +kernel)
set_option maxRecDepth 65536 in
theorem w_c7 : (Jvm.Cond.code ({ cls := "com/example/slotwright/slotwright/core/RankSet", name := "next", desc := "(I)I" } : Jvm.MethodName) prog_118_method_5_code (6 : Nat) (Option.some Jvm.ClassFile.FieldType.int)).before args0 about1 = true := code_word (m := ⟨2, 3⟩) (meth := k2m3) (c := k2c3) (by decide +kernel) rfl rfl rfl (by decide +kernel)
set_option maxRecDepth 65536 in
theorem w_c8 : (Jvm.Cond.code ({ cls := "java/lang/Long", name := "numberOfTrailingZeros", desc := "(J)I" } : Jvm.MethodName) jdk_35_method_49_code (3 : Nat) (Option.some Jvm.ClassFile.FieldType.int)).before args0 about1 = true := code_word (m := ⟨9, 1⟩) (meth := k9m1) (c := k9c1) (by decide +kernel) rfl rfl rfl (by decide +kernel)
set_option maxRecDepth 65536 in
theorem w_c9 : (Jvm.Cond.code ({ cls := "java/lang/Integer", name := "numberOfTrailingZeros", desc := "(I)I" } : Jvm.MethodName) jdk_33_method_48_code (2 : Nat) (Option.some Jvm.ClassFile.FieldType.int)).before args0 about1 = true := code_word (m := ⟨10, 1⟩) (meth := k10m1) (c := k10c1) (by decide +kernel) rfl rfl rfl (by decide +kernel)
set_option maxRecDepth 65536 in
theorem w_c10 : (Jvm.Cond.code ({ cls := "com/example/slotwright/slotwright/core/RankSet", name := "previous", desc := "(I)I" } : Jvm.MethodName) prog_118_method_6_code (6 : Nat) (Option.some Jvm.ClassFile.FieldType.int)).before args0 about1 = true := code_word (m := ⟨2, 4⟩) (meth := k2m4) (c := k2c4) (by decide +kernel) rfl rfl rfl (by decide +kernel)
set_option maxRecDepth 65536 in
theorem w_c11 : (Jvm.Cond.code ({ cls := "java/lang/Long", name := "numberOfLeadingZeros", desc := "(J)I" } : Jvm.MethodName) jdk_35_method_48_code (3 : Nat) (Option.some Jvm.ClassFile.FieldType.int)).before args0 about1 = true := code_word (m := ⟨9, 0⟩) (meth := k9m0) (c := k9c0) (by decide +kernel) rfl rfl rfl (by decide +kernel)
set_option maxRecDepth 65536 in
theorem w_c12 : (Jvm.Cond.code ({ cls := "java/lang/Integer", name := "numberOfLeadingZeros", desc := "(I)I" } : Jvm.MethodName) jdk_33_method_47_code (2 : Nat) (Option.some Jvm.ClassFile.FieldType.int)).before args0 about1 = true := code_word (m := ⟨10, 0⟩) (meth := k10m0) (c := k10c0) (by decide +kernel) rfl rfl rfl (by decide +kernel)
set_option maxRecDepth 65536 in
theorem w_c13 : (Jvm.Cond.code ({ cls := "com/example/slotwright/slotwright/core/RankSetRemovePinLaw", name := "nextRef", desc := "(IIIIII)I" } : Jvm.MethodName) method_3_code (6 : Nat) (Option.some Jvm.ClassFile.FieldType.int)).before args0 about1 = true := code_word (m := ⟨1, 2⟩) (meth := k1m2) (c := k1c2) (by decide +kernel) rfl rfl rfl (by decide +kernel)
set_option maxRecDepth 65536 in
theorem w_c14 : (Jvm.Cond.code ({ cls := "com/example/slotwright/slotwright/core/RankSetRemovePinLaw", name := "up", desc := "(IIIII)I" } : Jvm.MethodName) method_5_code (5 : Nat) (Option.some Jvm.ClassFile.FieldType.int)).before args0 about1 = true := code_word (m := ⟨1, 4⟩) (meth := k1m4) (c := k1c4) (by decide +kernel) rfl rfl rfl (by decide +kernel)
set_option maxRecDepth 65536 in
theorem w_c15 : (Jvm.Cond.code ({ cls := "com/example/slotwright/slotwright/core/RankSetRemovePinLaw", name := "prevRef", desc := "(IIIIII)I" } : Jvm.MethodName) method_4_code (6 : Nat) (Option.some Jvm.ClassFile.FieldType.int)).before args0 about1 = true := code_word (m := ⟨1, 3⟩) (meth := k1m3) (c := k1c3) (by decide +kernel) rfl rfl rfl (by decide +kernel)
set_option maxRecDepth 65536 in
theorem w_c16 : (Jvm.Cond.code ({ cls := "com/example/slotwright/slotwright/core/RankSetRemovePinLaw", name := "down", desc := "(IIIII)I" } : Jvm.MethodName) method_6_code (5 : Nat) (Option.some Jvm.ClassFile.FieldType.int)).before args0 about1 = true := code_word (m := ⟨1, 5⟩) (meth := k1m5) (c := k1c5) (by decide +kernel) rfl rfl rfl (by decide +kernel)
def codes1 : List Jvm.Cond := [Jvm.Cond.code x code maxLocals ret, Jvm.Cond.code ({ cls := "com/example/slotwright/slotwright/core/RankSet", name := "<init>", desc := "(I)V" } : Jvm.MethodName) prog_118_method_1_code (5 : Nat) (Option.none : Option Jvm.ClassFile.FieldType), Jvm.Cond.code ({ cls := "java/lang/Object", name := "<init>", desc := "()V" } : Jvm.MethodName) object_method_1_code (1 : Nat) (Option.none : Option Jvm.ClassFile.FieldType), Jvm.Cond.code ({ cls := "com/example/slotwright/slotwright/core/RankSet", name := "wordsFor", desc := "(I)I" } : Jvm.MethodName) prog_118_method_7_code (1 : Nat) (Option.some Jvm.ClassFile.FieldType.int), Jvm.Cond.code ({ cls := "java/lang/Math", name := "max", desc := "(II)I" } : Jvm.MethodName) jdk_29_method_65_code (2 : Nat) (Option.some Jvm.ClassFile.FieldType.int), Jvm.Cond.code ({ cls := "com/example/slotwright/slotwright/core/RankSet", name := "add", desc := "(I)V" } : Jvm.MethodName) prog_118_method_2_code (8 : Nat) (Option.none : Option Jvm.ClassFile.FieldType), Jvm.Cond.code ({ cls := "com/example/slotwright/slotwright/core/RankSet", name := "remove", desc := "(I)V" } : Jvm.MethodName) prog_118_method_3_code (7 : Nat) (Option.none : Option Jvm.ClassFile.FieldType), Jvm.Cond.code ({ cls := "com/example/slotwright/slotwright/core/RankSet", name := "next", desc := "(I)I" } : Jvm.MethodName) prog_118_method_5_code (6 : Nat) (Option.some Jvm.ClassFile.FieldType.int), Jvm.Cond.code ({ cls := "java/lang/Long", name := "numberOfTrailingZeros", desc := "(J)I" } : Jvm.MethodName) jdk_35_method_49_code (3 : Nat) (Option.some Jvm.ClassFile.FieldType.int), Jvm.Cond.code ({ cls := "java/lang/Integer", name := "numberOfTrailingZeros", desc := "(I)I" } : Jvm.MethodName) jdk_33_method_48_code (2 : Nat) (Option.some Jvm.ClassFile.FieldType.int), Jvm.Cond.code ({ cls := "com/example/slotwright/slotwright/core/RankSet", name := "previous", desc := "(I)I" } : Jvm.MethodName) prog_118_method_6_code (6 : Nat) (Option.some Jvm.ClassFile.FieldType.int), Jvm.Cond.code ({ cls := "java/lang/Long", name := "numberOfLeadingZeros", desc := "(J)I" } : Jvm.MethodName) jdk_35_method_48_code (3 : Nat) (Option.some Jvm.ClassFile.FieldType.int), Jvm.Cond.code ({ cls := "java/lang/Integer", name := "numberOfLeadingZeros", desc := "(I)I" } : Jvm.MethodName) jdk_33_method_47_code (2 : Nat) (Option.some Jvm.ClassFile.FieldType.int), Jvm.Cond.code ({ cls := "com/example/slotwright/slotwright/core/RankSetRemovePinLaw", name := "nextRef", desc := "(IIIIII)I" } : Jvm.MethodName) method_3_code (6 : Nat) (Option.some Jvm.ClassFile.FieldType.int), Jvm.Cond.code ({ cls := "com/example/slotwright/slotwright/core/RankSetRemovePinLaw", name := "up", desc := "(IIIII)I" } : Jvm.MethodName) method_5_code (5 : Nat) (Option.some Jvm.ClassFile.FieldType.int), Jvm.Cond.code ({ cls := "com/example/slotwright/slotwright/core/RankSetRemovePinLaw", name := "prevRef", desc := "(IIIIII)I" } : Jvm.MethodName) method_4_code (6 : Nat) (Option.some Jvm.ClassFile.FieldType.int), Jvm.Cond.code ({ cls := "com/example/slotwright/slotwright/core/RankSetRemovePinLaw", name := "down", desc := "(IIIII)I" } : Jvm.MethodName) method_6_code (5 : Nat) (Option.some Jvm.ClassFile.FieldType.int)]
set_option maxRecDepth 65536 in
theorem codes_eq : words1.filter isCode = codes1 := rfl
theorem w_codes : ∀ c ∈ words1.filter isCode, c.before args0 about1 = true := by
  rw [codes_eq]
  intro c hc
  simp only [codes1, List.mem_cons, List.not_mem_nil, or_false] at hc
  rcases hc with rfl | rfl | rfl | rfl | rfl | rfl | rfl | rfl | rfl | rfl | rfl | rfl | rfl | rfl | rfl | rfl | rfl
  · exact w_c0
  · exact w_c1
  · exact w_c2
  · exact w_c3
  · exact w_c4
  · exact w_c5
  · exact w_c6
  · exact w_c7
  · exact w_c8
  · exact w_c9
  · exact w_c10
  · exact w_c11
  · exact w_c12
  · exact w_c13
  · exact w_c14
  · exact w_c15
  · exact w_c16
set_option maxRecDepth 65536 in
theorem w_t1 : (words1.take 24).all (fun c => isCode c || c.before args0 about1) = true := by decide +kernel
set_option maxRecDepth 65536 in
theorem w_t2 : ((words1.drop 24).take 24).all (fun c => isCode c || c.before args0 about1) = true := by decide +kernel
set_option maxRecDepth 65536 in
theorem w_t3 : ((words1.drop 24).drop 24).all (fun c => isCode c || c.before args0 about1) = true := by decide +kernel
theorem w_tables : (allAtoms (Jvm.Cond.code x code maxLocals ret :: tables_1)).before args0 about1 = true := by
  rw [allAtoms_all]
  show words1.all (fun c => c.before args0 about1) = true
  refine all_split ?_ w_codes
  rw [← List.take_append_drop 24 words1, List.all_append, w_t1, ← List.take_append_drop 24 (words1.drop 24), List.all_append, w_t2, w_t3]
  rfl
set_option maxRecDepth 65536 in
theorem w_case : (Jvm.Cond.and given_1 narrow_1).before args0 about1 = true := by decide +kernel
theorem w_applies : (headSpec (Jvm.Cond.code x code maxLocals ret :: tables_1) room_1).applies x e0.platform about1 = true :=
  (Spec.applies_iff w_frames).mpr ⟨w_running, w_runnable, w_alone, w_named, w_hears, w_ripe, w_room, w_tables⟩
theorem atStart : AtStart classFile x code maxLocals ret World_1 tables_1 room_1 Calls_1 rest_1 Pre_1 launch0 p0 e0 about1 theMethod args0 below0 :=
  ⟨lists_1, trivial, launch0.admits_env _ _ _, launch0.least_env, fairChoices_fair.cas, fairChoices_fair.clock, w_frames, w_args, w_heap, w_applies, trivial, trivial, w_case⟩
end start1
theorem witness_1 : WitnessClaimed_1 := ⟨start1.p0, start1.e0, start1.about1, start1.theMethod, start1.args0, start1.below0, start1.atStart⟩
end Jvm.Pilot.@@N@@
