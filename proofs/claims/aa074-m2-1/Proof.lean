import JvmDerived
import JvmDerived.Pilot.@@N@@Statement
import JvmDerived.Pilot.@@N@@Code
set_option linter.unusedVariables false
set_option linter.unusedSimpArgs false
set_option maxRecDepth 65536
namespace Jvm.Pilot.@@N@@
open Jvm Jvm.ClassFile Sem Op Lib Jvm.Free Jvm.Stand Jvm.LawKit Jvm.RoadKit Bundle Jvm.Pilot.@@N@@.Jvm.D
section Own
variable {p : Program} {l : Launch} {e : Env} {R : Room} {s : State} {m : MethodId} {args : Array Value} {below : List Frame} {meth : Method} {c : Code} {T : State} {locs : List Loc} {cells slots : Nat} {Z : State} {a0 : Array Value} {h : Heap}
variable {Q : Option Value → Heap → List Loc → Prop} {F : Outcome → State → Prop} {C N : Nat} {A B : State}
/-- how a body ends: it returns v, Q holds of what it returned, of the heap and of the places written; nothing else is written (EndW: String constants may have been interned) -/
def EndN (s : State) (Q : Option Value → Heap → List Loc → Prop) (C N : Nat) (o : Outcome) (t : State) : Prop := ∃ v L, o = .returned v ∧ Q v t.heap L ∧ FrameEnd s o t L C N
/-- what a body owes from a point of its walk: it comes to its end, and F holds there -/
def Owes (p : Program) (e : Env) (below : List Frame) (F : Outcome → State → Prop) (A : State) : Prop :=
  ∃ s₂ o, Steps p.tables e below A s₂ ∧ s₂.status = .running ∧ Ended s₂ below o ∧ F o s₂
theorem Owes.go (k : Owes p e below F B) (f : ∀ t, Steps p.tables e below B t → Steps p.tables e below A t) : Owes p e below F A := by
  obtain ⟨s₂, o, h1, r⟩ := k
  exact ⟨s₂, o, f _ h1, r⟩
theorem Owes.tr (k : Owes p e below F B) (st : Steps p.tables e below A B) : Owes p e below F A := by
  obtain ⟨s₂, o, h1, r⟩ := k
  exact ⟨s₂, o, st.trans h1, r⟩
theorem Owes.mono {Q' : Option Value → Heap → List Loc → Prop} (k : Owes p e below (EndN s Q C N) A) (f : ∀ v h L, Q v h L → Q' v h L) : Owes p e below (EndN s Q' C N) A := by
  obtain ⟨s₂, o, h1, h2, h3, v, L, h4, h5, h6⟩ := k
  exact ⟨s₂, o, h1, h2, h3, v, L, h4, f _ _ _ h5, h6⟩
/-- a body's contract at given arguments and a given heap -/
def OMet (l : Launch) (y : MethodName) (bytes : ByteArray) (maxL : Nat) (ret : Option FieldType) (ws : List Jvm.Cond) (rm : Room) (as' : Array Value) (Z : State) (h0 : Heap) (Q : Option Value → Heap → List Loc → Prop) : Prop :=
  MetFree l y (head1 (Jvm.Cond.code y bytes maxL ret :: ws) rm) (fun a U => a = as' ∧ Z.Warmed39 U.vm ∧ U.heap = h0) (fun _ _ _ _ _ => True) (fun _ U o U' => ∃ v L, o = .returned v ∧ Q v U'.heap L ∧ FrameEnd U o U' L rm.cells rm.slots)
theorem OMet.of {y : MethodName} {bytes : ByteArray} {maxL : Nat} {ret : Option FieldType} {ws : List Jvm.Cond} {rm : Room} {as' : Array Value} {h0 : Heap} (hpl : plainFor y = true) {Ls : Array Slot} (ef : ∀ m, entryFrame m as' maxL = mkF m 0 Ls [])
    (body : ∀ (p : Program) (e : Env) (s : State) (m : MethodId) (below : List Frame) (meth : Method) (c : Code) (s₁ : State), p.tables.exec = Jvm.exec → c.code = bytes → c.maxLocals = maxL → s.vm.findClass y.cls = some m.cls → meth.name = y.name → meth.sig.returnType = ret → meth.locks = false → Z.Warmed39 s.vm →
      Stand p l e rm s m as' below meth c s₁ [] 0 0 → s₁.heap = h0 → Owes p e below (EndN s Q rm.cells rm.slots) (s₁.setTop (mkF m 0 Ls []))) : OMet l y bytes maxL ret ws rm as' Z h0 Q := by
  refine MetFree.of_bodySF hpl hisR ?_
  intro p e s m args below meth c s₁ Bd hml0 hP hK
  obtain ⟨rfl, hZ, hh⟩ := hP
  have hlk : meth.locks = false := BodyLoose.notSynchronized Bd
  have X0 : Stand p l e rm s m args below meth c s₁ [] 0 0 := Stand.of_body Bd
  have e0 : s₁.heap = h0 := by rw [← hh, Bd.state]; rfl
  obtain ⟨s₂, o, h1, h2, h3, h4⟩ := body p e s m below meth c s₁ Bd.exec Bd.bytes hml0 (findClass_of_methodNamed Bd.named) (name_of_methodNamed Bd.named Bd.method).1 Bd.returns hlk hZ X0 e0
  exact ⟨s₂, o, castTop (ef m) h1, h2, h3, h4⟩
theorem OMet.mono {y : MethodName} {bytes : ByteArray} {maxL : Nat} {ret : Option FieldType} {ws : List Jvm.Cond} {rm : Room} {as' : Array Value} {h0 : Heap} {Q' : Option Value → Heap → List Loc → Prop} (M : OMet l y bytes maxL ret ws rm as' Z h0 Q) (f : ∀ v h L, Q v h L → Q' v h L) : OMet l y bytes maxL ret ws rm as' Z h0 Q' := by
  intro p e ha hc hk s m args below hf happ hP hK
  obtain ⟨n, o, h1, h2, h3, v, L, h4, h5, h6⟩ := M p e ha hc hk s m args below hf happ hP hK
  exact ⟨n, o, h1, h2, h3, v, L, h4, f _ _ _ h5, h6⟩
theorem own_end (X : Stand p l e R s m args below meth c T locs cells slots) (hlk : meth.locks = false) {v : Option Value} (hv : meth.sig.returnType = none → v = none) (hc : cells ≤ C) (hs : slots ≤ N) (hq : Q v T.heap locs) {A : State}
    (hst : ∀ fs : List Frame, (∀ (f : JFrame) (acts : List Action), f.method = m → f.locked = none → f.entered = [] → (doReturn e (T.setTop f) acts v).1 = T.setFrames fs) → Steps p.tables e below A (T.setFrames fs)) : Owes p e below (EndN s Q C N) A := by
  obtain ⟨fs, hr, hrun, hended, hW, hsame⟩ := X.leave hv hlk
  exact ⟨_, _, hst fs hr, hrun, hended, v, locs, rfl, hq, ⟨_, rfl⟩, hW, hsame.mono hc hs⟩
theorem Owes.retN (X : Stand p l e R s m args below meth c T locs cells slots) (hx : p.tables.exec = Jvm.exec) (hlk : meth.locks = false) {pc : Nat} {Ls : Array Slot} {z : Int32} {t : FieldType} {rest : List Value} (hret : meth.sig.returnType = some t) (ht : t = .boolean ∨ t = .byte ∨ t = .char ∨ t = .short)
    (hd : decode c.code pc = .ok (.ireturn, 1)) (hc : cells ≤ C) (hs : slots ≤ N) (hq : Q (some (.int (nar t z))) T.heap locs) : Owes p e below (EndN s Q C N) (T.setTop (mkF m pc Ls (.int z :: rest))) :=
  own_end X hlk (fun h => by rw [hret] at h; cases h) hc hs hq fun fs hr => Jvm.RoadKit.retN X hx hret ht hd hr
theorem Owes.retI (X : Stand p l e R s m args below meth c T locs cells slots) (hx : p.tables.exec = Jvm.exec) (hlk : meth.locks = false) {pc : Nat} {Ls : Array Slot} {z : Int32} {rest : List Value} (hret : meth.sig.returnType = some .int)
    (hd : decode c.code pc = .ok (.ireturn, 1)) (hc : cells ≤ C) (hs : slots ≤ N) (hq : Q (some (.int z)) T.heap locs) : Owes p e below (EndN s Q C N) (T.setTop (mkF m pc Ls (.int z :: rest))) :=
  own_end X hlk (fun h => by rw [hret] at h; cases h) hc hs hq fun fs hr => Jvm.RoadKit.retOut X hx hret rfl (Or.inl ⟨rfl, Or.inl rfl, _, rfl⟩) hd hr
theorem Owes.retJ (X : Stand p l e R s m args below meth c T locs cells slots) (hx : p.tables.exec = Jvm.exec) (hlk : meth.locks = false) {pc : Nat} {Ls : Array Slot} {z : Int64} {rest : List Value} (hret : meth.sig.returnType = some .long)
    (hd : decode c.code pc = .ok (.lreturn, 1)) (hc : cells ≤ C) (hs : slots ≤ N) (hq : Q (some (.long z)) T.heap locs) : Owes p e below (EndN s Q C N) (T.setTop (mkF m pc Ls (.long z :: rest))) :=
  own_end X hlk (fun h => by rw [hret] at h; cases h) hc hs hq fun fs hr => Jvm.RoadKit.retOut X hx hret rfl (Or.inr (Or.inl ⟨rfl, rfl, _, rfl⟩)) hd hr
theorem Owes.retA (X : Stand p l e R s m args below meth c T locs cells slots) (hx : p.tables.exec = Jvm.exec) (hlk : meth.locks = false) {pc : Nat} {Ls : Array Slot} {w : Value} {t : FieldType} {rest : List Value} (hret : meth.sig.returnType = some t) (ht : t.isReference = true) (hn : narrow t w = w) (hw : w.isRef = true)
    (hd : decode c.code pc = .ok (.areturn, 1)) (hc : cells ≤ C) (hs : slots ≤ N) (hq : Q (some w) T.heap locs) : Owes p e below (EndN s Q C N) (T.setTop (mkF m pc Ls (w :: rest))) :=
  own_end X hlk (fun h => by rw [hret] at h; cases h) hc hs hq fun fs hr => Jvm.RoadKit.retOut X hx hret hn (Or.inr (Or.inr (Or.inr (Or.inr ⟨rfl, ht, hw⟩)))) hd hr
theorem Owes.retV (X : Stand p l e R s m args below meth c T locs cells slots) (hx : p.tables.exec = Jvm.exec) (hlk : meth.locks = false) {pc : Nat} {Ls : Array Slot} (hret : meth.sig.returnType = none)
    (hd : decode c.code pc = .ok (.return_, 1)) (hc : cells ≤ C) (hs : slots ≤ N) (hq : Q none T.heap locs) : Owes p e below (EndN s Q C N) (T.setTop (mkF m pc Ls [])) :=
  own_end X hlk (fun _ => rfl) hc hs hq fun fs hr => X.returnOut hx hret hd hr
/-- a static method by its contract -/
theorem Owes.callS (X : Stand p l e R s m args below meth c T locs cells slots) (hx : p.tables.exec = Jvm.exec) (hZ : Z.Warmed39 s.vm) {own : String} {index : Nat} {y : MethodName} {bytes : ByteArray} {maxL : Nat} {ret : Option FieldType} {rm : Room}
    (hown : s.vm.findClass own = some m.cls) (w1 : (Cond.methodLink own index y).before a0 Z = true) (w2 : (Cond.static y).before a0 Z = true) (w3 : (Cond.initialized y.cls).before a0 Z = true) (w4 : (Cond.code y bytes maxL ret).before a0 Z = true)
    (hy : y.cls ≠ "java/lang/invoke/MethodHandle" ∧ y.cls ≠ "java/lang/invoke/VarHandle") {pc : Nat} {Ls : Array Slot} {argsL rest : List Value} {Q' : Option Value → Heap → List Loc → Prop} (M : OMet l y bytes maxL ret [] rm argsL.toArray Z h Q') (eT : T.heap = h) (hsize : Ls.size = c.maxLocals)
    {ps : List FieldType} {rt : Option FieldType} (hpd : parseMethodDescriptor y.desc = some ⟨ps, rt⟩) (hln : argsL.length = ps.length) {st : List Value} (hst : st = argsL.reverse ++ rest) (hd : decode c.code pc = .ok (.invokestatic index, 3))
    (hf : rm.frames + 1 ≤ R.frames) (hl : (rest.map fun v => v.category).sum + (maxL + 11) + rm.locals ≤ R.locals) (hcl : cells + rm.cells ≤ R.cells) (hsl : slots + rm.slots ≤ R.slots)
    (k : ∀ (T' : State) (v : Option Value) (L : List Loc), Stand p l e R s m args below meth c T' (locs ++ L) (cells + rm.cells) (slots + rm.slots) → Q' v T'.heap L → Owes p e below F (T'.setTop (mkF m (pc + 3) Ls (v.toList ++ rest)))) :
    Owes p e below F (T.setTop (mkF m pc Ls st)) := by
  subst hst
  obtain ⟨v, _, ⟨T3, L3, k3, n3⟩, -, X3, ⟨Lc3, hQ3, l3, y3, z3⟩, st3⟩ := Jvm.LawKit.callS X hx (y := y) hown (mvT hZ w1) (mvT hZ w2) (mvT hZ w3) (mvT hZ w4) hy (backOf (W := (rest.map fun v => v.category).sum) M hZ w4 w3 hf hl) (g := mkF m pc Ls (argsL.reverse ++ rest)) rfl hsize (argsL := argsL) (rest := rest) (lenOf hpd hln) rfl (by show 2 * 0 + _ ≤ _; omega) hd (fun _ _ => ⟨rfl, eT, hcl, hsl⟩)
  dsimp only [Pt.U, Pt.locs, Pt.cells, Pt.slots] at X3 l3 y3 z3 st3 hQ3
  subst l3 y3 z3
  exact (k T3 v Lc3 X3 hQ3).go st3
/-- a constructor by its contract -/
theorem Owes.callC (X : Stand p l e R s m args below meth c T locs cells slots) (hx : p.tables.exec = Jvm.exec) (hZ : Z.Warmed39 s.vm) {own : String} {index : Nat} {y : MethodName} {bytes : ByteArray} {maxL : Nat} {rm : Room} (hy1 : y.name = "<init>")
    (hown : s.vm.findClass own = some m.cls) (w1 : (Cond.methodLink own index y).before a0 Z = true) (w2 : (Cond.instanceMethod y).before a0 Z = true) (w3 : (Cond.initialized y.cls).before a0 Z = true) (w4 : (Cond.code y bytes maxL none).before a0 Z = true)
    (hy : y.cls ≠ "java/lang/invoke/MethodHandle" ∧ y.cls ≠ "java/lang/invoke/VarHandle") {pc : Nat} {Ls : Array Slot} {a : Addr} {argsL rest : List Value} {Q' : Option Value → Heap → List Loc → Prop} (M : OMet l y bytes maxL none [] rm (.ref a :: argsL).toArray Z h Q') (eT : T.heap = h) (hsize : Ls.size = c.maxLocals)
    {ps : List FieldType} {rt : Option FieldType} (hpd : parseMethodDescriptor y.desc = some ⟨ps, rt⟩) (hln : argsL.length = ps.length) {st : List Value} (hst : st = argsL.reverse ++ .ref a :: rest) (hd : decode c.code pc = .ok (.invokespecial index, 3))
    (hf : rm.frames + 1 ≤ R.frames) (hl : (rest.map fun v => v.category).sum + (maxL + 11) + rm.locals ≤ R.locals) (hcl : cells + rm.cells ≤ R.cells) (hsl : slots + rm.slots ≤ R.slots)
    (k : ∀ (T' : State) (v : Option Value) (L : List Loc), Stand p l e R s m args below meth c T' (locs ++ L) (cells + rm.cells) (slots + rm.slots) → Q' v T'.heap L → Owes p e below F (T'.setTop (mkF m (pc + 3) Ls (v.toList ++ rest)))) :
    Owes p e below F (T.setTop (mkF m pc Ls st)) := by
  subst hst
  obtain ⟨v, _, ⟨T3, L3, k3, n3⟩, -, X3, ⟨Lc3, hQ3, l3, y3, z3⟩, st3⟩ := X.specialBack hx (y := y) hy1 hown (mvT hZ w1) (mvT hZ w2) (mvT hZ w4) hy (backOf (W := (rest.map fun v => v.category).sum) M hZ w4 w3 hf hl) (g := mkF m pc Ls (argsL.reverse ++ .ref a :: rest)) rfl hsize (Steps.refl _) (a := a) (argsL := argsL) (rest := rest) (lenOf hpd hln) rfl (by show 2 * 0 + _ ≤ _; omega) hd (fun _ _ => ⟨rfl, eT, hcl, hsl⟩)
  dsimp only [Pt.U, Pt.locs, Pt.cells, Pt.slots] at X3 l3 y3 z3 st3 hQ3
  subst l3 y3 z3
  exact (k T3 v Lc3 X3 hQ3).tr st3
/-- an instance method by the contract of the body that the receiver's class selects -/
theorem Owes.callV (X : Stand p l e R s m args below meth c T locs cells slots) (hx : p.tables.exec = Jvm.exec) (hZ : Z.Warmed39 s.vm) {own CR : String} {index : Nat} {y z : MethodName} {bytes : ByteArray} {maxL : Nat} {ret : Option FieldType} {rm : Room}
    (hown : s.vm.findClass own = some m.cls) (w1 : (Cond.methodLink own index y).before a0 Z = true) (w2 : (Cond.declares y).before a0 Z = true) (hnf : NotFace s y) (w5 : (Cond.selects CR y z).before a0 Z = true) (w6 : (Cond.instanceMethod z).before a0 Z = true) (w3 : (Cond.initialized z.cls).before a0 Z = true) (w4 : (Cond.code z bytes maxL ret).before a0 Z = true)
    (hy : y.cls ≠ "java/lang/invoke/MethodHandle" ∧ y.cls ≠ "java/lang/invoke/VarHandle") {pc : Nat} {Ls : Array Slot} {a : Addr} {argsL rest : List Value} {Q' : Option Value → Heap → List Loc → Prop} (M : OMet l z bytes maxL ret [] rm (.ref a :: argsL).toArray Z h Q') (eT : T.heap = h) (E : Exa Z h a CR) (hsize : Ls.size = c.maxLocals)
    {ps : List FieldType} {rt : Option FieldType} (hpd : parseMethodDescriptor y.desc = some ⟨ps, rt⟩) (hln : argsL.length = ps.length) {st : List Value} (hst : st = argsL.reverse ++ .ref a :: rest) (hd : decode c.code pc = .ok (.invokevirtual index, 3))
    (hf : rm.frames + 1 ≤ R.frames) (hl : (rest.map fun v => v.category).sum + (maxL + 11) + rm.locals ≤ R.locals) (hcl : cells + rm.cells ≤ R.cells) (hsl : slots + rm.slots ≤ R.slots)
    (k : ∀ (T' : State) (v : Option Value) (L : List Loc), Stand p l e R s m args below meth c T' (locs ++ L) (cells + rm.cells) (slots + rm.slots) → Q' v T'.heap L → Owes p e below F (T'.setTop (mkF m (pc + 3) Ls (v.toList ++ rest)))) :
    Owes p e below F (T.setTop (mkF m pc Ls st)) := by
  subst hst
  obtain ⟨cq, kq, qa, qb, qc⟩ := isOf hZ eT E
  obtain ⟨v, _, ⟨T3, L3, k3, n3⟩, -, X3, ⟨Lc3, hQ3, l3, y3, z3⟩, st3⟩ := X.virtualBack hx (y := y) (z := z) hown (mvT hZ w1) (mvT hZ w2) hnf (mvT hZ w5) (mvT hZ w6) hy (backOf (W := (rest.map fun v => v.category).sum) M hZ w4 w3 hf hl) qa qc (g := mkF m pc Ls (argsL.reverse ++ .ref a :: rest)) rfl hsize (Steps.refl _) (argsL := argsL) (rest := rest) (lenOf hpd hln) rfl (by show 2 * 0 + _ ≤ _; omega) hd (fun _ _ => ⟨rfl, eT, hcl, hsl⟩)
  dsimp only [Pt.U, Pt.locs, Pt.cells, Pt.slots] at X3 l3 y3 z3 st3 hQ3
  subst l3 y3 z3
  exact (k T3 v Lc3 X3 hQ3).tr st3
/-- a private method by its contract -/
theorem Owes.callP (X : Stand p l e R s m args below meth c T locs cells slots) (hx : p.tables.exec = Jvm.exec) (hZ : Z.Warmed39 s.vm) {own CR : String} {index : Nat} {y : MethodName} {bytes : ByteArray} {maxL : Nat} {ret : Option FieldType} {rm : Room}
    (hown : s.vm.findClass own = some m.cls) (w1 : (Cond.methodLink own index y).before a0 Z = true) (w2 : (Cond.instanceMethod y).before a0 Z = true) (w5 : (Cond.selects y.cls y y).before a0 Z = true) (w6 : (Cond.privateMethod y).before a0 Z = true) (w3 : (Cond.initialized y.cls).before a0 Z = true) (w4 : (Cond.code y bytes maxL ret).before a0 Z = true)
    (hy : y.cls ≠ "java/lang/invoke/MethodHandle" ∧ y.cls ≠ "java/lang/invoke/VarHandle") {pc : Nat} {Ls : Array Slot} {a : Addr} {argsL rest : List Value} {Q' : Option Value → Heap → List Loc → Prop} (M : OMet l y bytes maxL ret [] rm (.ref a :: argsL).toArray Z h Q') (eT : T.heap = h) (E : Exa Z h a CR) (hsize : Ls.size = c.maxLocals)
    {ps : List FieldType} {rt : Option FieldType} (hpd : parseMethodDescriptor y.desc = some ⟨ps, rt⟩) (hln : argsL.length = ps.length) {st : List Value} (hst : st = argsL.reverse ++ .ref a :: rest) (hd : decode c.code pc = .ok (.invokevirtual index, 3))
    (hf : rm.frames + 1 ≤ R.frames) (hl : (rest.map fun v => v.category).sum + (maxL + 11) + rm.locals ≤ R.locals) (hcl : cells + rm.cells ≤ R.cells) (hsl : slots + rm.slots ≤ R.slots)
    (k : ∀ (T' : State) (v : Option Value) (L : List Loc), Stand p l e R s m args below meth c T' (locs ++ L) (cells + rm.cells) (slots + rm.slots) → Q' v T'.heap L → Owes p e below F (T'.setTop (mkF m (pc + 3) Ls (v.toList ++ rest)))) :
    Owes p e below F (T.setTop (mkF m pc Ls st)) := by
  subst hst
  obtain ⟨cq, q1, q2⟩ := E.cell
  obtain ⟨v, _, ⟨T3, L3, k3, n3⟩, -, X3, ⟨Lc3, hQ3, l3, y3, z3⟩, st3⟩ := X.privateBack hx (y := y) hown (mvT hZ w1) (mvT hZ w2) (mvT hZ w5) (Cond.privateMethod_at (mvP hZ w6 (args := #[]))) (mvT hZ w4) hy (backOf (W := (rest.map fun v => v.category).sum) M hZ w4 w3 hf hl) (g := mkF m pc Ls (argsL.reverse ++ .ref a :: rest)) rfl hsize (Steps.refl _) (a := a) (by rw [eT]; exact q1) q2 (argsL := argsL) (rest := rest) (lenOf hpd hln) rfl (by show 2 * 0 + _ ≤ _; omega) hd (fun _ _ => ⟨rfl, eT, hcl, hsl⟩)
  dsimp only [Pt.U, Pt.locs, Pt.cells, Pt.slots] at X3 l3 y3 z3 st3 hQ3
  subst l3 y3 z3
  exact (k T3 v Lc3 X3 hQ3).tr st3
theorem own_st {c2 s2 : Nat} (X : Stand p l e R s m args below meth c T locs cells slots) (hc : cells = c2) (hs : slots = s2) : Stand p l e R s m args below meth c T locs c2 s2 := by subst hc hs; exact X
theorem Owes.initO (X : Stand p l e R s m args below meth c T locs cells slots) (hx : p.tables.exec = Jvm.exec) (hZ : Z.Warmed39 s.vm) {own : String} {index : Nat} (hown : s.vm.findClass own = some m.cls) (w1 : (Cond.methodLink own index Lib.objectInit).before a0 Z = true) (w2 : (Cond.instanceMethod Lib.objectInit).before a0 Z = true) (w3 : (Cond.code Lib.objectInit ⟨#[0xb1]⟩ 1 none).before a0 Z = true) (eT : T.heap = h)
    {pc : Nat} {Ls : Array Slot} {a : Addr} {rest : List Value} (hsize : Ls.size = c.maxLocals) (hd : decode c.code pc = .ok (.invokespecial index, 3)) (hf : 1 ≤ R.frames) (hl : (rest.map fun v => v.category).sum + 12 ≤ R.locals)
    (k : ∀ T' : State, Stand p l e R s m args below meth c T' locs cells slots → T'.heap = h → Owes p e below F (T'.setTop (mkF m (pc + 3) Ls rest))) : Owes p e below F (T.setTop (mkF m pc Ls (.ref a :: rest))) := by
  obtain ⟨T', X', e', st⟩ := Jvm.RoadKit.initO X hx hZ hown w1 w2 w3 eT (g := mkF m pc Ls (.ref a :: rest)) rfl hsize rfl hd hf (W := (rest.map fun v => v.category).sum) (by show 2 * 0 + _ ≤ _; omega) hl
  exact (k T' X' e').go st
theorem Owes.newO (X : Stand p l e R s m args below meth c T locs cells slots) (hx : p.tables.exec = Jvm.exec) (hZ : Z.Warmed39 s.vm) {own CC : String} {index n : Nat} (hown : s.vm.findClass own = some m.cls) (w : (Cond.classLink own index CC).before a0 Z = true) (wi : (Cond.instantiable CC n).before a0 Z = true) (wz : (Cond.initialized CC).before a0 Z = true) (eT : T.heap = h)
    {pc : Nat} {Ls : Array Slot} {rest : List Value} (hd : decode c.code pc = .ok (.new index, 3)) (hcl : cells + 1 ≤ R.cells) (hsl : slots + n ≤ R.slots)
    (k : ∀ (T' : State) (h' : Heap), Stand p l e R s m args below meth c T' locs (cells + 1) (slots + n) → T'.heap = h' → Ext h h' → Exa Z h' h.size CC → (∀ {O nm d : String} {ty : FieldType}, Laid Z a0 CC O nm d → parseFieldDescriptor d = some ty → Fld Z h' h.size O nm d (defaultValue ty)) → Owes p e below F (T'.setTop (mkF m (pc + 3) Ls (.ref h.size :: rest)))) : Owes p e below F (T.setTop (mkF m pc Ls rest)) := by
  obtain ⟨T', h', X', e', E, A, D, -, st⟩ := Jvm.RoadKit.newO X hx hZ hown w wi wz eT (g := mkF m pc Ls rest) rfl hd hcl hsl
  exact (k T' h' X' e' E A D).go st
theorem Owes.putF (X : Stand p l e R s m args below meth c T locs cells slots) (hx : p.tables.exec = Jvm.exec) (hZ : Z.Warmed39 s.vm) {own R0 O n d host CC : String} {index kk : Nat} {ty : FieldType} (hown : s.vm.findClass own = some m.cls) (w : (Cond.fieldLink own index R0 n d).before a0 Z = true ∨ (Cond.fieldLinkNest own index R0 n d host).before a0 Z = true) (via : Via Z R0 O n d) (eT : T.heap = h)
    {a : Addr} {v old : Value} (Fd : Fld Z h a O n d old) (E : Exa Z h a CC) (L : (Cond.lays CC O n d).before a0 Z = true ∨ ((Cond.laysFinal CC O n d).before a0 Z = true ∧ own = O ∧ meth.name = "<init>")) (wi : (Cond.instantiable CC kk).before a0 Z = true) (hty : parseFieldDescriptor d = some ty) (hn : narrow ty v = v) (hf : fits ty v = true)
    {pc : Nat} {Ls : Array Slot} {rest : List Value} (hd : decode c.code pc = .ok (.putfield index, 3))
    (k : ∀ (T' : State) (h' : Heap), Stand p l e R s m args below meth c T' (locs ++ [⟨a, Jvm.RoadKit.slotOf Z O n d⟩]) cells slots → T'.heap = h' → Wr h h' a (Jvm.RoadKit.slotOf Z O n d) v → Owes p e below F (T'.setTop (mkF m (pc + 3) Ls rest))) : Owes p e below F (T.setTop (mkF m pc Ls (v :: .ref a :: rest))) := by
  obtain ⟨T', h', X', e', W, st⟩ := Jvm.RoadKit.putF X hx hZ hown w via eT Fd E L wi hty hn hf (g := mkF m pc Ls (v :: .ref a :: rest)) rfl rfl hd
  exact (k T' h' X' e' W).go st
theorem Owes.alen (X : Stand p l e R s m args below meth c T locs cells slots) (hx : p.tables.exec = Jvm.exec) (hZ : Z.Warmed39 s.vm) (eT : T.heap = h) {a : Addr} {cl : Cell} {ty : FieldType} (A : Arr Z h a cl ty) {z : Int32} (hn : cl.slots.size.toInt32 = z) {pc : Nat} {Ls : Array Slot} {rest : List Value}
    (hd : decode c.code pc = .ok (.arraylength, 1)) (k : Owes p e below F (T.setTop (mkF m (pc + 1) Ls (.int z :: rest)))) : Owes p e below F (T.setTop (mkF m pc Ls (.ref a :: rest))) := by
  subst hn
  exact k.go fun t q => X.arraylength hx (by rw [eT]; exact A.1) (State.isArrayOf_alike hZ.alike A.2.1) (g := mkF m pc Ls (.ref a :: rest)) rfl rfl hd _ q
theorem Owes.aldI (X : Stand p l e R s m args below meth c T locs cells slots) (hx : p.tables.exec = Jvm.exec) (hZ : Z.Warmed39 s.vm) (eT : T.heap = h) {a : Addr} {cl : Cell} (A : Arr Z h a cl .int) {j : Int32} {v : Value} (hin : ¬ (j < 0 ∨ cl.slots.size ≤ j.toNatClampNeg)) (hat : cl.slots[j.toNatClampNeg]? = some v) {pc : Nat} {Ls : Array Slot} {rest : List Value}
    (hd : decode c.code pc = .ok (.iaload, 1)) (k : Owes p e below F (T.setTop (mkF m (pc + 1) Ls (v :: rest)))) : Owes p e below F (T.setTop (mkF m pc Ls (.int j :: .ref a :: rest))) :=
  k.go fun t q => X.iaload hx (by rw [eT]; exact A.1) (State.isArrayOf_alike hZ.alike A.2.1) A.2.2 hin hat (g := mkF m pc Ls (.int j :: .ref a :: rest)) rfl rfl hd _ q
theorem Owes.aldJ (X : Stand p l e R s m args below meth c T locs cells slots) (hx : p.tables.exec = Jvm.exec) (hZ : Z.Warmed39 s.vm) (eT : T.heap = h) {a : Addr} {cl : Cell} (A : Arr Z h a cl .long) {j : Int32} {v : Value} (hin : ¬ (j < 0 ∨ cl.slots.size ≤ j.toNatClampNeg)) (hat : cl.slots[j.toNatClampNeg]? = some v) {pc : Nat} {Ls : Array Slot} {rest : List Value}
    (hd : decode c.code pc = .ok (.laload, 1)) (k : Owes p e below F (T.setTop (mkF m (pc + 1) Ls (v :: rest)))) : Owes p e below F (T.setTop (mkF m pc Ls (.int j :: .ref a :: rest))) :=
  k.go fun t q => X.laload hx (by rw [eT]; exact A.1) (State.isArrayOf_alike hZ.alike A.2.1) A.2.2 hin hat (g := mkF m pc Ls (.int j :: .ref a :: rest)) rfl rfl hd _ q
theorem Owes.aldC (X : Stand p l e R s m args below meth c T locs cells slots) (hx : p.tables.exec = Jvm.exec) (hZ : Z.Warmed39 s.vm) (eT : T.heap = h) {a : Addr} {cl : Cell} (A : Arr Z h a cl .char) {j : Int32} {v : Value} (hin : ¬ (j < 0 ∨ cl.slots.size ≤ j.toNatClampNeg)) (hat : cl.slots[j.toNatClampNeg]? = some v) {pc : Nat} {Ls : Array Slot} {rest : List Value}
    (hd : decode c.code pc = .ok (.caload, 1)) (k : Owes p e below F (T.setTop (mkF m (pc + 1) Ls (v :: rest)))) : Owes p e below F (T.setTop (mkF m pc Ls (.int j :: .ref a :: rest))) :=
  k.go fun t q => X.caload hx (by rw [eT]; exact A.1) (State.isArrayOf_alike hZ.alike A.2.1) A.2.2 hin hat (g := mkF m pc Ls (.int j :: .ref a :: rest)) rfl rfl hd _ q
theorem Owes.aldZ (X : Stand p l e R s m args below meth c T locs cells slots) (hx : p.tables.exec = Jvm.exec) (hZ : Z.Warmed39 s.vm) (eT : T.heap = h) {a : Addr} {cl : Cell} (A : Arr Z h a cl .boolean) {j : Int32} {v : Value} (hin : ¬ (j < 0 ∨ cl.slots.size ≤ j.toNatClampNeg)) (hat : cl.slots[j.toNatClampNeg]? = some v) {pc : Nat} {Ls : Array Slot} {rest : List Value}
    (hd : decode c.code pc = .ok (.baload, 1)) (k : Owes p e below F (T.setTop (mkF m (pc + 1) Ls (v :: rest)))) : Owes p e below F (T.setTop (mkF m pc Ls (.int j :: .ref a :: rest))) :=
  k.go fun t q => X.baloadBooleans hx (by rw [eT]; exact A.1) (State.isArrayOf_alike hZ.alike A.2.1) A.2.2 hin hat (g := mkF m pc Ls (.int j :: .ref a :: rest)) rfl rfl hd _ q
theorem Owes.aldB (X : Stand p l e R s m args below meth c T locs cells slots) (hx : p.tables.exec = Jvm.exec) (hZ : Z.Warmed39 s.vm) (eT : T.heap = h) {a : Addr} {cl : Cell} (A : Arr Z h a cl .byte) {j : Int32} {v : Value} (hin : ¬ (j < 0 ∨ cl.slots.size ≤ j.toNatClampNeg)) (hat : cl.slots[j.toNatClampNeg]? = some v) {pc : Nat} {Ls : Array Slot} {rest : List Value}
    (hd : decode c.code pc = .ok (.baload, 1)) (k : Owes p e below F (T.setTop (mkF m (pc + 1) Ls (v :: rest)))) : Owes p e below F (T.setTop (mkF m pc Ls (.int j :: .ref a :: rest))) :=
  k.go fun t q => X.baloadBytes hx (by rw [eT]; exact A.1) (State.isArrayOf_alike hZ.alike A.2.1) A.2.2 hin hat (g := mkF m pc Ls (.int j :: .ref a :: rest)) rfl rfl hd _ q
theorem Owes.aldR (X : Stand p l e R s m args below meth c T locs cells slots) (hx : p.tables.exec = Jvm.exec) (hZ : Z.Warmed39 s.vm) (eT : T.heap = h) {a : Addr} {cl : Cell} {ty : FieldType} (A : Arr Z h a cl ty) (hty : ty.isReference = true) {j : Int32} {v : Value} (hin : ¬ (j < 0 ∨ cl.slots.size ≤ j.toNatClampNeg)) (hat : cl.slots[j.toNatClampNeg]? = some v) {pc : Nat} {Ls : Array Slot} {rest : List Value}
    (hd : decode c.code pc = .ok (.aaload, 1)) (k : Owes p e below F (T.setTop (mkF m (pc + 1) Ls (v :: rest)))) : Owes p e below F (T.setTop (mkF m pc Ls (.int j :: .ref a :: rest))) :=
  k.go fun t q => X.aaload hx (by rw [eT]; exact A.1) (State.isArrayOf_alike hZ.alike A.2.1) hty A.2.2 hin hat (g := mkF m pc Ls (.int j :: .ref a :: rest)) rfl rfl hd _ q
theorem own_eqI {first : State} {o : Option Outcome} {idx : List Nat} {t : Term} {k : Int32} (q : (Cond.eq t (.int k)).value args first o s idx = some true) : t.eval args first o idx s = some (.int k) := by
  simp only [Cond.value, Term.eval] at q
  cases hv : t.eval args first o idx s with
  | none => simp [hv] at q
  | some v => cases v <;> simp_all
end Own
section OwnArr
variable {p : Program} {l : Launch} {e : Env} {R : Room} {s : State} {m : MethodId} {args : Array Value} {below : List Frame} {meth : Method} {c : Code} {T : State} {locs : List Loc} {cells slots : Nat} {Z : State} {a0 : Array Value} {h h' : Heap}
variable {Q : Option Value → Heap → List Loc → Prop} {F : Outcome → State → Prop} {C N : Nat} {A B : State}
theorem own_nat {j : Int32} {i : Nat} (q : j.toInt = (i : Int)) : ¬ j < 0 ∧ j.toNatClampNeg = i := by
  constructor
  · rw [Int32.lt_iff_toInt_lt, q, show (0 : Int32).toInt = 0 from by decide]; omega
  · rw [Int32.toNatClampNeg, q]; omega
theorem own_nth {j : Int32} {i n : Nat} {cl : Cell} (q : j.toInt = (i : Int)) (hi : i < n) (S : cl.slots.size = n) : ¬ (j < 0 ∨ cl.slots.size ≤ j.toNatClampNeg) := by
  obtain ⟨q1, q2⟩ := own_nat q
  rintro (z | z)
  · exact q1 z
  · rw [q2, S] at z; omega
/-- an array with components of type ty: n places, the place i holds w i -/
def GA (Z : State) (h : Heap) (a : Addr) (ty : FieldType) (n : Nat) (w : Nat → Value) : Prop := ∃ c : Cell, Arr Z h a c ty ∧ c.slots.size = n ∧ ∀ i, i < n → c.slots[i]? = some (w i)
def upd {α : Type} (w : Nat → α) (i : Nat) (v : α) : Nat → α := fun k => if k = i then v else w k
theorem upd_same {α : Type} (w : Nat → α) (i : Nat) (v : α) : upd w i v i = v := if_pos rfl
theorem upd_ne {α : Type} (w : Nat → α) {i k : Nat} (v : α) (q : k ≠ i) : upd w i v k = w k := if_neg q
theorem GA.lt {a : Addr} {ty : FieldType} {n : Nat} {w : Nat → Value} (G0 : GA Z h a ty n w) : a < h.size := by obtain ⟨c, A, -⟩ := G0; exact A.lt
theorem GA.ext {a : Addr} {ty : FieldType} {n : Nat} {w : Nat → Value} (G0 : GA Z h a ty n w) (E : Ext h h') : GA Z h' a ty n w := by obtain ⟨c, A, r⟩ := G0; exact ⟨c, A.ext E, r⟩
theorem GA.other {a b : Addr} {ty : FieldType} {n sl : Nat} {w : Nat → Value} {v : Value} (G0 : GA Z h b ty n w) (W : Wr h h' a sl v) (q : b ≠ a) : GA Z h' b ty n w := by obtain ⟨c, A, r⟩ := G0; exact ⟨c, A.other W q, r⟩
theorem GA.keep {a : Addr} {ty : FieldType} {n : Nat} {w : Nat → Value} {ws : List Addr} (G0 : GA Z h a ty n w) (K : Keep h h' ws) (q : a ∉ ws) : GA Z h' a ty n w := by obtain ⟨c, A, r⟩ := G0; exact ⟨c, ⟨K.2.1 a c A.1 q, A.2⟩, r⟩
theorem GA.congr {a : Addr} {ty : FieldType} {n : Nat} {w w' : Nat → Value} (G0 : GA Z h a ty n w) (q : ∀ i, i < n → w i = w' i) : GA Z h a ty n w' := by obtain ⟨c, A, S, r⟩ := G0; exact ⟨c, A, S, fun i hi => by rw [← q i hi]; exact r i hi⟩
theorem GA.set {a : Addr} {ty : FieldType} {n i : Nat} {w : Nat → Value} {v : Value} (G0 : GA Z h a ty n w) (W : Wr h h' a i v) : GA Z h' a ty n (upd w i v) := by
  obtain ⟨c, A, S, r⟩ := G0
  refine ⟨_, A.same W, by rw [sz_set]; exact S, fun k hk => ?_⟩
  by_cases q : k = i
  · subst q
    rw [upd_same]
    simp [Cell.setSlot, S, hk]
  · rw [upd_ne _ _ q, ← r k hk]
    exact Array.getElem?_setIfInBounds_ne (Ne.symm q)
theorem GA.new {a : Addr} {ty : FieldType} {k : ClassId} {z : Int32} {n : Nat} (A : Arr Z h a (newA k ty z) ty) (q : z.toInt = (n : Int)) : GA Z h a ty n (fun _ => defaultValue ty) := by
  have e := (own_nat q).2
  refine ⟨_, A, by rw [sz_new]; exact e, fun i hi => ?_⟩
  simp [newA, e, hi]
theorem GA.ne {a b : Addr} {ty : FieldType} {n n' : Nat} {w w' : Nat → Value} {ty' : FieldType} (G0 : GA Z h a ty n w) (G : GA Z h b ty' n' w') (q : ty ≠ ty') : a ≠ b := fun z => by
  subst z
  obtain ⟨c, A, -⟩ := G0
  obtain ⟨c', A', -⟩ := G
  cases A.1.symm.trans A'.1
  obtain ⟨-, k, h1, comp, h2⟩ := A.2.1
  obtain ⟨-, k', h1', comp', h2'⟩ := A'.2.1
  cases h1.symm.trans h1'
  rw [h2] at h2'
  cases h2'
  exact q rfl
theorem GA.ne_obj {a b : Addr} {ty : FieldType} {n k : Nat} {w : Nat → Value} {CC : String} (E : Exa Z h a CC) (wi : (Cond.instantiable CC k).before a0 Z = true) (G0 : GA Z h b ty n w) : a ≠ b := by
  obtain ⟨c, A, -⟩ := G0
  exact ne_arr E wi A
theorem Owes.gI (X : Stand p l e R s m args below meth c T locs cells slots) (hx : p.tables.exec = Jvm.exec) (hZ : Z.Warmed39 s.vm) (eT : T.heap = h) {a : Addr} {n : Nat} {w : Nat → Value} (A : GA Z h a .int n w) {j : Int32} {i : Nat} {v : Value} (hj : j.toInt = (i : Int)) (hi : i < n) (hv : w i = v) {pc : Nat} {Ls : Array Slot} {rest : List Value}
    (hd : decode c.code pc = .ok (.iaload, 1)) (k : Owes p e below F (T.setTop (mkF m (pc + 1) Ls (v :: rest)))) : Owes p e below F (T.setTop (mkF m pc Ls (.int j :: .ref a :: rest))) := by
  obtain ⟨cl, A1, S, V⟩ := A
  exact Owes.aldI X hx hZ eT A1 (own_nth hj hi S) (by rw [(own_nat hj).2, ← hv]; exact V i hi) hd k
theorem Owes.gJ (X : Stand p l e R s m args below meth c T locs cells slots) (hx : p.tables.exec = Jvm.exec) (hZ : Z.Warmed39 s.vm) (eT : T.heap = h) {a : Addr} {n : Nat} {w : Nat → Value} (A : GA Z h a .long n w) {j : Int32} {i : Nat} {v : Value} (hj : j.toInt = (i : Int)) (hi : i < n) (hv : w i = v) {pc : Nat} {Ls : Array Slot} {rest : List Value}
    (hd : decode c.code pc = .ok (.laload, 1)) (k : Owes p e below F (T.setTop (mkF m (pc + 1) Ls (v :: rest)))) : Owes p e below F (T.setTop (mkF m pc Ls (.int j :: .ref a :: rest))) := by
  obtain ⟨cl, A1, S, V⟩ := A
  exact Owes.aldJ X hx hZ eT A1 (own_nth hj hi S) (by rw [(own_nat hj).2, ← hv]; exact V i hi) hd k
theorem Owes.gC (X : Stand p l e R s m args below meth c T locs cells slots) (hx : p.tables.exec = Jvm.exec) (hZ : Z.Warmed39 s.vm) (eT : T.heap = h) {a : Addr} {n : Nat} {w : Nat → Value} (A : GA Z h a .char n w) {j : Int32} {i : Nat} {v : Value} (hj : j.toInt = (i : Int)) (hi : i < n) (hv : w i = v) {pc : Nat} {Ls : Array Slot} {rest : List Value}
    (hd : decode c.code pc = .ok (.caload, 1)) (k : Owes p e below F (T.setTop (mkF m (pc + 1) Ls (v :: rest)))) : Owes p e below F (T.setTop (mkF m pc Ls (.int j :: .ref a :: rest))) := by
  obtain ⟨cl, A1, S, V⟩ := A
  exact Owes.aldC X hx hZ eT A1 (own_nth hj hi S) (by rw [(own_nat hj).2, ← hv]; exact V i hi) hd k
theorem Owes.gZ (X : Stand p l e R s m args below meth c T locs cells slots) (hx : p.tables.exec = Jvm.exec) (hZ : Z.Warmed39 s.vm) (eT : T.heap = h) {a : Addr} {n : Nat} {w : Nat → Value} (A : GA Z h a .boolean n w) {j : Int32} {i : Nat} {v : Value} (hj : j.toInt = (i : Int)) (hi : i < n) (hv : w i = v) {pc : Nat} {Ls : Array Slot} {rest : List Value}
    (hd : decode c.code pc = .ok (.baload, 1)) (k : Owes p e below F (T.setTop (mkF m (pc + 1) Ls (v :: rest)))) : Owes p e below F (T.setTop (mkF m pc Ls (.int j :: .ref a :: rest))) := by
  obtain ⟨cl, A1, S, V⟩ := A
  exact Owes.aldZ X hx hZ eT A1 (own_nth hj hi S) (by rw [(own_nat hj).2, ← hv]; exact V i hi) hd k
theorem Owes.gB (X : Stand p l e R s m args below meth c T locs cells slots) (hx : p.tables.exec = Jvm.exec) (hZ : Z.Warmed39 s.vm) (eT : T.heap = h) {a : Addr} {n : Nat} {w : Nat → Value} (A : GA Z h a .byte n w) {j : Int32} {i : Nat} {v : Value} (hj : j.toInt = (i : Int)) (hi : i < n) (hv : w i = v) {pc : Nat} {Ls : Array Slot} {rest : List Value}
    (hd : decode c.code pc = .ok (.baload, 1)) (k : Owes p e below F (T.setTop (mkF m (pc + 1) Ls (v :: rest)))) : Owes p e below F (T.setTop (mkF m pc Ls (.int j :: .ref a :: rest))) := by
  obtain ⟨cl, A1, S, V⟩ := A
  exact Owes.aldB X hx hZ eT A1 (own_nth hj hi S) (by rw [(own_nat hj).2, ← hv]; exact V i hi) hd k
theorem Owes.gR (X : Stand p l e R s m args below meth c T locs cells slots) (hx : p.tables.exec = Jvm.exec) (hZ : Z.Warmed39 s.vm) (eT : T.heap = h) {a : Addr} {n : Nat} {ty : FieldType} {w : Nat → Value} (A : GA Z h a ty n w) (hty : ty.isReference = true) {j : Int32} {i : Nat} {v : Value} (hj : j.toInt = (i : Int)) (hi : i < n) (hv : w i = v) {pc : Nat} {Ls : Array Slot} {rest : List Value}
    (hd : decode c.code pc = .ok (.aaload, 1)) (k : Owes p e below F (T.setTop (mkF m (pc + 1) Ls (v :: rest)))) : Owes p e below F (T.setTop (mkF m pc Ls (.int j :: .ref a :: rest))) := by
  obtain ⟨cl, A1, S, V⟩ := A
  exact Owes.aldR X hx hZ eT A1 hty (own_nth hj hi S) (by rw [(own_nat hj).2, ← hv]; exact V i hi) hd k
theorem Owes.glen (X : Stand p l e R s m args below meth c T locs cells slots) (hx : p.tables.exec = Jvm.exec) (hZ : Z.Warmed39 s.vm) (eT : T.heap = h) {a : Addr} {n : Nat} {ty : FieldType} {w : Nat → Value} (A : GA Z h a ty n w) {z : Int32} (hz : z.toInt = (n : Int)) {pc : Nat} {Ls : Array Slot} {rest : List Value}
    (hd : decode c.code pc = .ok (.arraylength, 1)) (k : Owes p e below F (T.setTop (mkF m (pc + 1) Ls (.int z :: rest)))) : Owes p e below F (T.setTop (mkF m pc Ls (.ref a :: rest))) := by
  obtain ⟨cl, A1, S, V⟩ := A
  exact Owes.alen X hx hZ eT A1 (len_of (by rw [S, (own_nat hz).2]) (own_nat hz).1) hd k
theorem Owes.sI (X : Stand p l e R s m args below meth c T locs cells slots) (hx : p.tables.exec = Jvm.exec) (hZ : Z.Warmed39 s.vm) (eT : T.heap = h) {a : Addr} {n : Nat} {w : Nat → Value} (A : GA Z h a .int n w) {j : Int32} {i : Nat} (hj : j.toInt = (i : Int)) (hi : i < n) {x : Int32} {pc : Nat} {Ls : Array Slot} {rest : List Value}
    (hd : decode c.code pc = .ok (.iastore, 1)) (k : ∀ (T' : State) (h' : Heap), Stand p l e R s m args below meth c T' (locs ++ [⟨a, i⟩]) cells slots → T'.heap = h' → Wr h h' a i (.int x) → GA Z h' a .int n (upd w i (.int x)) → Owes p e below F (T'.setTop (mkF m (pc + 1) Ls rest))) : Owes p e below F (T.setTop (mkF m pc Ls (.int x :: .int j :: .ref a :: rest))) := by
  have A0 := A
  obtain ⟨cl, A1, S, V⟩ := A
  obtain ⟨T', h', X', e', W, st⟩ := stI X hx hZ eT A1 (j := j) (x := x) (own_nth hj hi S) (g := mkF m pc Ls (.int x :: .int j :: .ref a :: rest)) rfl rfl hd
  rw [(own_nat hj).2] at X' W
  exact (k T' h' X' e' W (A0.set W)).go st
theorem Owes.sJ (X : Stand p l e R s m args below meth c T locs cells slots) (hx : p.tables.exec = Jvm.exec) (hZ : Z.Warmed39 s.vm) (eT : T.heap = h) {a : Addr} {n : Nat} {w : Nat → Value} (A : GA Z h a .long n w) {j : Int32} {i : Nat} (hj : j.toInt = (i : Int)) (hi : i < n) {x : Int64} {pc : Nat} {Ls : Array Slot} {rest : List Value}
    (hd : decode c.code pc = .ok (.lastore, 1)) (k : ∀ (T' : State) (h' : Heap), Stand p l e R s m args below meth c T' (locs ++ [⟨a, i⟩]) cells slots → T'.heap = h' → Wr h h' a i (.long x) → GA Z h' a .long n (upd w i (.long x)) → Owes p e below F (T'.setTop (mkF m (pc + 1) Ls rest))) : Owes p e below F (T.setTop (mkF m pc Ls (.long x :: .int j :: .ref a :: rest))) := by
  have A0 := A
  obtain ⟨cl, A1, S, V⟩ := A
  obtain ⟨T', h', X', e', W, st⟩ := stJ X hx hZ eT A1 (j := j) (x := x) (own_nth hj hi S) (g := mkF m pc Ls (.long x :: .int j :: .ref a :: rest)) rfl rfl hd
  rw [(own_nat hj).2] at X' W
  exact (k T' h' X' e' W (A0.set W)).go st
theorem Owes.sR (X : Stand p l e R s m args below meth c T locs cells slots) (hx : p.tables.exec = Jvm.exec) (hZ : Z.Warmed39 s.vm) (eT : T.heap = h) {a : Addr} {n : Nat} {ty : FieldType} {w : Nat → Value} (A : GA Z h a ty n w) (hty : ty.isReference = true) {j : Int32} {i : Nat} (hj : j.toInt = (i : Int)) (hi : i < n) {v : Value} (SF : Sto Z h a v) {pc : Nat} {Ls : Array Slot} {rest : List Value}
    (hd : decode c.code pc = .ok (.aastore, 1)) (k : ∀ (T' : State) (h' : Heap), Stand p l e R s m args below meth c T' (locs ++ [⟨a, i⟩]) cells slots → T'.heap = h' → Wr h h' a i v → GA Z h' a ty n (upd w i v) → Owes p e below F (T'.setTop (mkF m (pc + 1) Ls rest))) : Owes p e below F (T.setTop (mkF m pc Ls (v :: .int j :: .ref a :: rest))) := by
  have A0 := A
  obtain ⟨cl, A1, S, V⟩ := A
  obtain ⟨T', h', X', e', W, st⟩ := stR X hx hZ eT A1 (j := j) (v := v) (own_nth hj hi S) hty SF (g := mkF m pc Ls (v :: .int j :: .ref a :: rest)) rfl rfl hd
  rw [(own_nat hj).2] at X' W
  exact (k T' h' X' e' W (A0.set W)).go st
theorem Owes.newArr (X : Stand p l e R s m args below meth c T locs cells slots) (hx : p.tables.exec = Jvm.exec) (hZ : Z.Warmed39 s.vm) {aty : ArrayType} (w : (Cond.arrayClass (newarray.typeOf aty)).before a0 Z = true) (eT : T.heap = h) {z : Int32} {n : Nat} (hz : z.toInt = (n : Int)) (hb : n * 8 ≤ 536870912) (hcl : cells + 1 ≤ R.cells) (hsl : slots + n ≤ R.slots) {ad : String} (had : "[" ++ (newarray.typeOf aty).toString = ad) {pc : Nat} {Ls : Array Slot} {rest : List Value}
    (hd : decode c.code pc = .ok (.newarray aty, 2)) (k : ∀ (T' : State) (h' : Heap), Stand p l e R s m args below meth c T' locs (cells + 1) (slots + n) → T'.heap = h' → Ext h h' → GA Z h' h.size (newarray.typeOf aty) n (fun _ => defaultValue (newarray.typeOf aty)) → Exa Z h' h.size ad → Owes p e below F (T'.setTop (mkF m (pc + 2) Ls (.ref h.size :: rest)))) : Owes p e below F (T.setTop (mkF m pc Ls (.int z :: rest))) := by
  obtain ⟨T', h', cA, X', e', E, A1, EX, st⟩ := newPE X hx hZ w eT (g := mkF m pc Ls (.int z :: rest)) rfl hd (n := z) rfl (own_nat hz).1 (cap := n) (Nat.le_of_eq (own_nat hz).2) hb hcl hsl had
  exact (k T' h' X' e' E (GA.new A1 hz) EX).go st
theorem Owes.newArrA (X : Stand p l e R s m args below meth c T locs cells slots) (hx : p.tables.exec = Jvm.exec) (hZ : Z.Warmed39 s.vm) {own CC : String} {ty : FieldType} {index : Nat} (hown : s.vm.findClass own = some m.cls) (hC : (FieldType.array ty).toString = CC) (w1 : (Cond.classLink own index CC).before a0 Z = true) (w2 : (Cond.arrayOver (.array ty)).before a0 Z = true) (eT : T.heap = h) {z : Int32} {n : Nat} (hz : z.toInt = (n : Int)) (hb : n * 8 ≤ 536870912) (hcl : cells + 1 ≤ R.cells) (hsl : slots + n ≤ R.slots) {pc : Nat} {Ls : Array Slot} {rest : List Value}
    (hd : decode c.code pc = .ok (.anewarray index, 3)) (k : ∀ (T' : State) (h' : Heap) (cA : ClassId), Stand p l e R s m args below meth c T' locs (cells + 1) (slots + n) → T'.heap = h' → Ext h h' → Arr Z h' h.size (newA cA (.array ty) z) (.array ty) → OvrA Z cA ty CC → Owes p e below F (T'.setTop (mkF m (pc + 3) Ls (.ref h.size :: rest)))) : Owes p e below F (T.setTop (mkF m pc Ls (.int z :: rest))) := by
  obtain ⟨T', h', cA, X', e', E, A1, EX, O, st⟩ := newRA X hx hZ hown hC w1 w2 eT (g := mkF m pc Ls (.int z :: rest)) rfl hd (n := z) rfl (own_nat hz).1 (cap := n) (Nat.le_of_eq (own_nat hz).2) hb hcl hsl rfl
  exact (k T' h' cA X' e' E A1 O).go st
/-- the same, and the array's own class -/
def GC (Z : State) (h : Heap) (a : Addr) (ty : FieldType) (n : Nat) (w : Nat → Value) (kc : ClassId) : Prop := ∃ c : Cell, Arr Z h a c ty ∧ c.cls = kc ∧ c.slots.size = n ∧ ∀ i, i < n → c.slots[i]? = some (w i)
theorem GC.ga {a : Addr} {ty : FieldType} {n : Nat} {w : Nat → Value} {kc : ClassId} (G0 : GC Z h a ty n w kc) : GA Z h a ty n w := by obtain ⟨c, A, -, r⟩ := G0; exact ⟨c, A, r⟩
theorem GC.ext {a : Addr} {ty : FieldType} {n : Nat} {w : Nat → Value} {kc : ClassId} (G0 : GC Z h a ty n w kc) (E : Ext h h') : GC Z h' a ty n w kc := by obtain ⟨c, A, r⟩ := G0; exact ⟨c, A.ext E, r⟩
theorem GC.other {a b : Addr} {ty : FieldType} {n sl : Nat} {w : Nat → Value} {v : Value} {kc : ClassId} (G0 : GC Z h b ty n w kc) (W : Wr h h' a sl v) (q : b ≠ a) : GC Z h' b ty n w kc := by obtain ⟨c, A, r⟩ := G0; exact ⟨c, A.other W q, r⟩
theorem GC.congr {a : Addr} {ty : FieldType} {n : Nat} {w w' : Nat → Value} {kc : ClassId} (G0 : GC Z h a ty n w kc) (q : ∀ i, i < n → w i = w' i) : GC Z h a ty n w' kc := by obtain ⟨c, A, K, S, r⟩ := G0; exact ⟨c, A, K, S, fun i hi => by rw [← q i hi]; exact r i hi⟩
theorem GC.set {a : Addr} {ty : FieldType} {n i : Nat} {w : Nat → Value} {v : Value} {kc : ClassId} (G0 : GC Z h a ty n w kc) (W : Wr h h' a i v) : GC Z h' a ty n (upd w i v) kc := by
  obtain ⟨c, A, K, S, r⟩ := G0
  refine ⟨_, A.same W, K, by rw [sz_set]; exact S, fun k hk => ?_⟩
  by_cases q : k = i
  · subst q
    rw [upd_same]
    simp [Cell.setSlot, S, hk]
  · rw [upd_ne _ _ q, ← r k hk]
    exact Array.getElem?_setIfInBounds_ne (Ne.symm q)
theorem GC.new {a : Addr} {ty : FieldType} {k : ClassId} {z : Int32} {n : Nat} (A : Arr Z h a (newA k ty z) ty) (q : z.toInt = (n : Int)) : GC Z h a ty n (fun _ => defaultValue ty) k := by
  have e := (own_nat q).2
  refine ⟨_, A, rfl, by rw [sz_new]; exact e, fun i hi => ?_⟩
  simp [newA, e, hi]
theorem GC.sto {a y : Addr} {ty t0 : FieldType} {n : Nat} {w : Nat → Value} {kc : ClassId} {CC : String} (G0 : GC Z h a t0 n w kc) (O : OvrA Z kc ty CC) (I : Ins Z h y CC true) : Sto Z h a (.ref y) := by
  obtain ⟨c, A, K, -⟩ := G0
  exact Sto.ofVA A K O I
end OwnArr

section OwnBits
def bt (w : Int64) (b : Nat) : Bool := w.toBitVec.getLsbD b
theorem bt_zero (b : Nat) : bt 0 b = false := by simp [bt]
theorem bt_ext {x y : Int64} (h : ∀ b, b < 64 → bt x b = bt y b) : x = y := Int64.toBitVec_inj.mp (BitVec.eq_of_getLsbD_eq h)
theorem bt_ne0 {x : Int64} (h : ¬ x = 0) : ∃ b, b < 64 ∧ bt x b = true := by
  apply Classical.byContradiction
  intro q
  apply h
  apply bt_ext
  intro b hb
  rw [bt_zero]
  cases hv : bt x b
  · rfl
  · exact absurd ⟨b, hb, hv⟩ q
theorem bt_eq0 {x : Int64} (h : x = 0) (b : Nat) : bt x b = false := by rw [h, bt_zero]
theorem bt_and (x y : Int64) (b : Nat) : bt (x &&& y) b = (bt x b && bt y b) := by simp [bt]
theorem bt_or (x y : Int64) (b : Nat) : bt (x ||| y) b = (bt x b || bt y b) := by simp [bt]
theorem bt_xor (x y : Int64) (b : Nat) : bt (x ^^^ y) b = (bt x b ^^ bt y b) := by simp [bt]
theorem bt_m1 (b : Nat) (hb : b < 64) : bt (-1) b = true := (by decide +kernel : ∀ b : Fin 64, bt (-1) b.1 = true) ⟨b, hb⟩
theorem bt_1 (b : Nat) : bt 1 b = decide (b = 0) := by
  by_cases hb : b < 64
  · exact (by decide +kernel : ∀ b : Fin 64, bt 1 b.1 = decide (b.1 = 0)) ⟨b, hb⟩
  · have : ¬ b = 0 := by omega
    simp only [this, decide_false]
    exact BitVec.getLsbD_of_ge _ _ (by omega)
theorem i32_nat {q : Int32} {i : Nat} (h : q.toInt = (i : Int)) : q.toBitVec.toNat = i := by
  have h1 : q.toBitVec.toInt = (i : Int) := h
  have h2 := q.toBitVec.isLt
  rw [BitVec.toInt_eq_toNat_cond] at h1
  split at h1 <;> omega
theorem bt_shl (x : Int64) (q : Int32) (i : Nat) (h : q.toInt = (i : Int)) (b : Nat) (hb : b < 64) : bt (x <<< (q &&& 0x3f).toInt64) b = (decide (i % 64 ≤ b) && bt x (b - i % 64)) := by
  have e : q.toBitVec.toNat % 64 = i % 64 := by rw [i32_nat h]
  show (x.toBitVec <<< ((q &&& 0x3f).toInt64.toBitVec.smod 64)).getLsbD b = _
  rw [BitVec.shiftLeft_eq', (sm64 q _ e).1, smod64 _ (sm64 q _ e).2, BitVec.getLsbD_shiftLeft]
  by_cases c : i % 64 ≤ b
  · simp [c, hb, bt, Nat.not_lt.mpr c]
  · simp [c, hb, Nat.lt_of_not_le c]
theorem bt_ushr (x : Int64) (q : Int32) (i : Nat) (h : q.toInt = (i : Int)) (b : Nat) : bt ((x.toUInt64 >>> (q &&& 0x3f).toInt64.toUInt64).toInt64) b = bt x (i % 64 + b) := by
  have e : q.toBitVec.toNat % 64 = i % 64 := by rw [i32_nat h]
  have h5 := (sm64 q _ e).2
  show (x.toBitVec >>> ((q &&& 0x3f).toInt64.toBitVec % 64)).getLsbD b = _
  rw [BitVec.ushiftRight_eq', BitVec.getLsbD_ushiftRight, BitVec.toNat_umod, (sm64 q _ e).1, BitVec.toNat_ofNat]
  have : i % 64 % 2 ^ 64 % (64 : BitVec 64).toNat = i % 64 := by show i % 64 % 2 ^ 64 % 64 = _; omega
  rw [this]; rfl
/-- the word with just the bit i % 64 -/
theorem bt_one_shl (q : Int32) (i : Nat) (h : q.toInt = (i : Int)) (b : Nat) (hb : b < 64) : bt ((1 : Int64) <<< (q &&& 0x3f).toInt64) b = decide (b = i % 64) := by
  rw [bt_shl _ q i h b hb, bt_1]
  by_cases c : b = i % 64
  · simp [c]
  · by_cases d : i % 64 ≤ b
    · have : ¬ b - i % 64 = 0 := by omega
      simp [c, this]
    · simp [c, d]
theorem bt_m1_shl (q : Int32) (i : Nat) (h : q.toInt = (i : Int)) (b : Nat) (hb : b < 64) : bt ((-1 : Int64) <<< (q &&& 0x3f).toInt64) b = decide (i % 64 ≤ b) := by
  rw [bt_shl _ q i h b hb, bt_m1 _ (by omega)]; simp
theorem bt_m1_ushr (q : Int32) (i : Nat) (hi : i < 64) (h : q.toInt = ((63 - i : Nat) : Int)) (b : Nat) (hb : b < 64) : bt (((-1 : Int64).toUInt64 >>> (q &&& 0x3f).toInt64.toUInt64).toInt64) b = decide (b ≤ i) := by
  rw [bt_ushr _ q _ h, Nat.mod_eq_of_lt (show 63 - i < 64 by omega)]
  by_cases c : b ≤ i
  · simp only [c, decide_true]
    exact bt_m1 _ (by omega)
  · simp only [c, decide_false]
    exact BitVec.getLsbD_of_ge _ _ (by omega)
/-- the lowest bit's mask -/
theorem own_low (x : Int32) (t : Nat) (ht : t < 32) (h1 : x.toBitVec.getLsbD t = true) (h2 : ∀ b, b < t → x.toBitVec.getLsbD b = false) : ((x ^^^ (-1 : Int32)) &&& (x - (1 : Int32))) = Int32.ofNat (2 ^ t - 1) := by
  apply Int32.toBitVec_inj.mp
  show (x.toBitVec ^^^ (-1 : Int32).toBitVec) &&& (x.toBitVec - (1 : Int32).toBitVec) = BitVec.ofNat 32 (2 ^ t - 1)
  generalize x.toBitVec = y at *
  have hlt := y.isLt
  have b1 : y.toNat.testBit t = true := h1
  have b2 : ∀ b, b < t → y.toNat.testBit b = false := h2
  have m0 : y.toNat % 2 ^ t = 0 := by
    apply Nat.eq_of_testBit_eq
    intro j
    rw [Nat.testBit_mod_two_pow, Nat.zero_testBit]
    by_cases c : j < t
    · simp [c, b2 j c]
    · simp [c]
  have hd : y.toNat / 2 ^ t % 2 = 1 := by
    rw [Nat.testBit_eq_decide_div_mod_eq] at b1
    exact of_decide_eq_true b1
  have hp : 0 < 2 ^ t := Nat.two_pow_pos t
  have e1 : y.toNat = 2 ^ (t + 1) * (y.toNat / 2 ^ t / 2) + 2 ^ t := by
    have q1 := Nat.div_add_mod y.toNat (2 ^ t)
    have q2 := Nat.div_add_mod (y.toNat / 2 ^ t) 2
    rw [m0] at q1
    rw [hd] at q2
    rw [Nat.pow_succ]
    generalize y.toNat / 2 ^ t = a at *
    have q3 : 2 ^ t * 2 * (a / 2) + 2 ^ t = 2 ^ t * (2 * (a / 2) + 1) := by rw [Nat.mul_add, Nat.mul_one, Nat.mul_assoc]
    rw [q3, q2]; omega
  generalize y.toNat / 2 ^ t / 2 = hi at *
  have hle : 2 ^ t < 2 ^ (t + 1) := by rw [Nat.pow_succ]; omega
  have e2 : (y - (1 : Int32).toBitVec).toNat = 2 ^ (t + 1) * hi + (2 ^ t - 1) := by
    rw [BitVec.toNat_sub, show (1 : Int32).toBitVec.toNat = 1 by decide]
    omega
  apply BitVec.eq_of_getLsbD_eq
  intro j hj
  rw [BitVec.getLsbD_and, BitVec.getLsbD_xor, show (-1 : Int32).toBitVec.getLsbD j = true from (by decide +kernel : ∀ j : Fin 32, (-1 : Int32).toBitVec.getLsbD j.1 = true) ⟨j, hj⟩]
  have l1 : y.getLsbD j = y.toNat.testBit j := rfl
  have l2 : (y - (1 : Int32).toBitVec).getLsbD j = (y - (1 : Int32).toBitVec).toNat.testBit j := rfl
  rw [l1, l2, e2, e1, Nat.testBit_two_pow_mul_add _ hle, Nat.testBit_two_pow_mul_add _ (show 2 ^ t - 1 < 2 ^ (t + 1) by omega), BitVec.getLsbD_ofNat]
  rw [Nat.testBit_two_pow, Nat.testBit_two_pow_sub_one]
  by_cases c : j < t + 1
  · by_cases d : t = j
    · subst d; simp
    · have : j < t := by omega
      simp [c, d, this, hj]
  · have : ¬ j < t := by omega
    simp [c, this]
end OwnBits

section OwnRank
theorem dk_succ (x k : Nat) : x / 64 ^ (k + 1) = x / 64 ^ k / 64 := by rw [Nat.pow_succ, Nat.div_div_eq_div_mul]
theorem dk_mono {x y a b : Nat} (h : x / 64 ^ a = y / 64 ^ a) (hab : a ≤ b) : x / 64 ^ b = y / 64 ^ b := by
  obtain ⟨c, rfl⟩ := Nat.le.dest hab
  rw [Nat.pow_add, ← Nat.div_div_eq_div_mul, ← Nat.div_div_eq_div_mul, h]
/-- the words of level k tell of the members M -/
def LV (M : Nat → Prop) (k len : Nat) (f : Nat → Int64) : Prop := ∀ i, i < len → ∀ b, b < 64 → (bt (f i) b = true ↔ ∃ x, M x ∧ x / 64 ^ k = 64 * i + b)
theorem LV.empty (k len : Nat) : LV (fun _ => False) k len (fun _ => 0) := fun i _ b _ => by
  rw [bt_zero]
  exact ⟨fun h => Bool.noConfusion h, fun ⟨_, h, _⟩ => h.elim⟩
theorem LV.congr {M M' : Nat → Prop} {k len : Nat} {f : Nat → Int64} (H : LV M k len f) (q : ∀ x, M x ↔ M' x) : LV M' k len f := fun i hi b hb => by
  rw [H i hi b hb]
  exact ⟨fun ⟨x, h1, h2⟩ => ⟨x, (q x).mp h1, h2⟩, fun ⟨x, h1, h2⟩ => ⟨x, (q x).mpr h1, h2⟩⟩
theorem LV.add {M : Nat → Prop} {k len : Nat} {f : Nat → Int64} (H : LV M k len f) (n : Nat) (at_ : Int32) (ha : at_.toInt = ((n / 64 ^ k : Nat) : Int)) :
    LV (fun x => M x ∨ x = n) k len (upd f (n / 64 ^ k / 64) (f (n / 64 ^ k / 64) ||| ((1 : Int64) <<< (at_ &&& 0x3f).toInt64))) := fun i hi b hb => by
  generalize hA : n / 64 ^ k = A at *
  by_cases q : i = A / 64
  · subst q
    rw [upd_same, bt_or, bt_one_shl _ _ ha b hb]
    constructor
    · intro z
      rcases Bool.or_eq_true_iff.mp z with z | z
      · obtain ⟨x, h1, h2⟩ := (H _ hi b hb).mp z
        exact ⟨x, Or.inl h1, h2⟩
      · have z := of_decide_eq_true z
        exact ⟨n, Or.inr rfl, by rw [hA]; omega⟩
    · rintro ⟨x, h1 | rfl, h2⟩
      · rw [(H _ hi b hb).mpr ⟨x, h1, h2⟩]; rfl
      · rw [hA] at h2
        have : b = A % 64 := by omega
        simp [this]
  · rw [upd_ne _ _ q, H i hi b hb]
    constructor
    · rintro ⟨x, h1, h2⟩; exact ⟨x, Or.inl h1, h2⟩
    · rintro ⟨x, h1 | rfl, h2⟩
      · exact ⟨x, h1, h2⟩
      · rw [hA] at h2; exact absurd (by omega) q
/-- a word that held a member: the levels above tell of it already -/
theorem LV.up {M : Nat → Prop} {k len : Nat} {f : Nat → Int64} (H : LV M k len f) {n : Nat} (hi : n / 64 ^ k / 64 < len) (hne : ¬ f (n / 64 ^ k / 64) = 0) : ∃ x, M x ∧ x / 64 ^ (k + 1) = n / 64 ^ (k + 1) := by
  obtain ⟨b, hb, z⟩ := bt_ne0 hne
  obtain ⟨x, h1, h2⟩ := (H _ hi b hb).mp z
  exact ⟨x, h1, by rw [dk_succ, dk_succ, h2]; omega⟩
theorem LV.more {M : Nat → Prop} {j len k : Nat} {f : Nat → Int64} {n : Nat} (H : LV M j len f) (hj : k ≤ j) (q : ∃ x, M x ∧ x / 64 ^ k = n / 64 ^ k) : LV (fun x => M x ∨ x = n) j len f := fun i hi b hb => by
  rw [H i hi b hb]
  constructor
  · rintro ⟨x, h1, h2⟩; exact ⟨x, Or.inl h1, h2⟩
  · rintro ⟨x, h1 | rfl, h2⟩
    · exact ⟨x, h1, h2⟩
    · obtain ⟨x', h3, h4⟩ := q
      exact ⟨x', h3, (dk_mono h4 hj).trans h2⟩
theorem LV.del {M : Nat → Prop} {k len : Nat} {f : Nat → Int64} (H : LV M k len f) (n : Nat) (at_ : Int32) (ha : at_.toInt = ((n / 64 ^ k : Nat) : Int)) (hno : ∀ x, M x → x ≠ n → x / 64 ^ k ≠ n / 64 ^ k) :
    LV (fun x => M x ∧ x ≠ n) k len (upd f (n / 64 ^ k / 64) (f (n / 64 ^ k / 64) &&& (((1 : Int64) <<< (at_ &&& 0x3f).toInt64) ^^^ (-1 : Int64)))) := fun i hi b hb => by
  generalize hA : n / 64 ^ k = A at *
  by_cases q : i = A / 64
  · subst q
    rw [upd_same, bt_and, bt_xor, bt_one_shl _ _ ha b hb, bt_m1 b hb]
    constructor
    · intro z
      obtain ⟨z1, z2⟩ := Bool.and_eq_true_iff.mp z
      have z3 : ¬ b = A % 64 := by
        intro w
        simp [w] at z2
      obtain ⟨x, h1, h2⟩ := (H _ hi b hb).mp z1
      exact ⟨x, ⟨h1, fun w => by subst w; rw [hA] at h2; omega⟩, h2⟩
    · rintro ⟨x, ⟨h1, h3⟩, h2⟩
      have z1 := (H _ hi b hb).mpr ⟨x, h1, h2⟩
      have z3 : ¬ b = A % 64 := fun w => hno x h1 h3 (by rw [h2]; omega)
      rw [z1]; simp [z3]
  · rw [upd_ne _ _ q, H i hi b hb]
    constructor
    · rintro ⟨x, h1, h2⟩; exact ⟨x, ⟨h1, fun w => by subst w; rw [hA] at h2; exact absurd (by omega) q⟩, h2⟩
    · rintro ⟨x, ⟨h1, _⟩, h2⟩; exact ⟨x, h1, h2⟩
theorem LV.less {M : Nat → Prop} {j len k : Nat} {f : Nat → Int64} {n : Nat} (H : LV M j len f) (hj : k ≤ j) (q : ∃ x, (M x ∧ x ≠ n) ∧ x / 64 ^ k = n / 64 ^ k) : LV (fun x => M x ∧ x ≠ n) j len f := fun i hi b hb => by
  rw [H i hi b hb]
  constructor
  · rintro ⟨x, h1, h2⟩
    by_cases w : x = n
    · subst w
      obtain ⟨x', h3, h4⟩ := q
      exact ⟨x', h3, (dk_mono h4 hj).trans h2⟩
    · exact ⟨x, ⟨h1, w⟩, h2⟩
  · rintro ⟨x, ⟨h1, _⟩, h2⟩; exact ⟨x, h1, h2⟩
/-- an empty word: nobody is there -/
theorem LV.none {M : Nat → Prop} {k len : Nat} {f : Nat → Int64} (H : LV M k len f) {n : Nat} (hi : n / 64 ^ k / 64 < len) (hz : f (n / 64 ^ k / 64) = 0) (x : Nat) (hx : M x) : x / 64 ^ (k + 1) ≠ n / 64 ^ (k + 1) := fun w => by
  rw [dk_succ, dk_succ] at w
  have := (H _ hi (x / 64 ^ k % 64) (by omega)).mpr ⟨x, hx, by omega⟩
  rw [bt_eq0 hz] at this
  cases this
/-- up the levels: every member from 'from' on lies at or above A at level k, and whatever lies there is such a member -/
def Up (M : Nat → Prop) (fr k A : Nat) : Prop := (∀ x, M x → fr ≤ x → A ≤ x / 64 ^ k) ∧ ∀ x, M x → A ≤ x / 64 ^ k → fr ≤ x
theorem Up.start (M : Nat → Prop) (fr : Nat) : Up M fr 0 fr := ⟨fun x _ h => by simpa using h, fun x _ h => by simpa using h⟩
theorem Up.next {M : Nat → Prop} {fr k A len : Nat} {f : Nat → Int64} (U : Up M fr k A) (H : LV M k len f) (hi : A / 64 < len) (q : Int32) (hq : q.toInt = (A : Int)) (hz : f (A / 64) &&& ((-1 : Int64) <<< (q &&& 0x3f).toInt64) = 0) : Up M fr (k + 1) (A / 64 + 1) := by
  have hno : ∀ x, M x → A ≤ x / 64 ^ k → A / 64 + 1 ≤ x / 64 ^ k / 64 := by
    intro x hx hA
    apply Classical.byContradiction
    intro hc
    have e : x / 64 ^ k / 64 = A / 64 := by omega
    have hb : x / 64 ^ k % 64 < 64 := by omega
    have h1 := (H _ hi _ hb).mpr ⟨x, hx, by omega⟩
    have h2 := bt_eq0 hz (x / 64 ^ k % 64)
    rw [bt_and, h1, bt_m1_shl _ _ hq _ hb] at h2
    have : A % 64 ≤ x / 64 ^ k % 64 := by omega
    simp [this] at h2
  refine ⟨fun x hx hf => ?_, fun x hx hA => U.2 x hx ?_⟩
  · rw [dk_succ]; exact hno x hx (U.1 x hx hf)
  · rw [dk_succ] at hA; omega
/-- the least member from 'from' on, seen at level k -/
def Dn (M : Nat → Prop) (fr k y : Nat) : Prop := (∃ x, M x ∧ x / 64 ^ k = y) ∧ (∀ x, M x → fr ≤ x → y ≤ x / 64 ^ k) ∧ ∀ x, M x → x / 64 ^ k = y → fr ≤ x
/-- t is the lowest bit of w -/
def Low (w : Int64) (t : Nat) : Prop := t < 64 ∧ bt w t = true ∧ ∀ b, b < t → bt w b = false
theorem Low.ex {w : Int64} (h : ¬ w = 0) : ∃ t, Low w t := by
  obtain ⟨b, hb, hv⟩ := bt_ne0 h
  induction b using Nat.strongRecOn with
  | ind b ih =>
    by_cases q : ∃ b', b' < b ∧ bt w b' = true
    · obtain ⟨b', h1, h2⟩ := q
      exact ih b' h1 (by omega) h2
    · refine ⟨b, hb, hv, fun b' h' => ?_⟩
      cases hx : bt w b'
      · rfl
      · exact absurd ⟨b', h', hx⟩ q
theorem Up.found {M : Nat → Prop} {fr k A len t : Nat} {f : Nat → Int64} (U : Up M fr k A) (H : LV M k len f) (hi : A / 64 < len) (q : Int32) (hq : q.toInt = (A : Int)) (ht : Low (f (A / 64) &&& ((-1 : Int64) <<< (q &&& 0x3f).toInt64)) t) : Dn M fr k (A - A % 64 + t) := by
  obtain ⟨t1, t2, t3⟩ := ht
  rw [bt_and, bt_m1_shl _ _ hq _ t1] at t2
  obtain ⟨t4, t5⟩ := Bool.and_eq_true_iff.mp t2
  have t5 := of_decide_eq_true t5
  obtain ⟨x0, h1, h2⟩ := (H _ hi t t1).mp t4
  have e : A - A % 64 = 64 * (A / 64) := by omega
  rw [e]
  refine ⟨⟨x0, h1, h2⟩, fun x hx hf => ?_, fun x hx hxe => U.2 x hx (by omega)⟩
  have hA := U.1 x hx hf
  apply Classical.byContradiction
  intro hc
  have e2 : x / 64 ^ k / 64 = A / 64 := by omega
  have hb : x / 64 ^ k % 64 < 64 := by omega
  have h3 := (H _ hi _ hb).mpr ⟨x, hx, by omega⟩
  have h4 := t3 (x / 64 ^ k % 64) (by omega)
  rw [bt_and, h3, bt_m1_shl _ _ hq _ hb] at h4
  have : A % 64 ≤ x / 64 ^ k % 64 := by omega
  simp [this] at h4
theorem Dn.down {M : Nat → Prop} {fr k y len t : Nat} {f : Nat → Int64} (D : Dn M fr (k + 1) y) (H : LV M k len f) (hi : y < len) (ht : Low (f y) t) : Dn M fr k (64 * y + t) := by
  obtain ⟨d1, d2, d3⟩ := D
  obtain ⟨t1, t2, t3⟩ := ht
  obtain ⟨x0, h1, h2⟩ := (H _ hi t t1).mp t2
  refine ⟨⟨x0, h1, h2⟩, fun x hx hf => ?_, fun x hx hxe => d3 x hx (by rw [dk_succ]; omega)⟩
  have h3 := d2 x hx hf
  rw [dk_succ] at h3
  apply Classical.byContradiction
  intro hc
  have hb : x / 64 ^ k % 64 < 64 := by omega
  have h4 := (H _ hi _ hb).mpr ⟨x, hx, by omega⟩
  have h5 := t3 (x / 64 ^ k % 64) (by omega)
  rw [h4] at h5; cases h5
theorem Dn.word {M : Nat → Prop} {fr k y len : Nat} {f : Nat → Int64} (D : Dn M fr (k + 1) y) (H : LV M k len f) (hi : y < len) : ¬ f y = 0 := fun hz => by
  obtain ⟨x, h1, h2⟩ := D.1
  rw [dk_succ] at h2
  have h4 := (H _ hi (x / 64 ^ k % 64) (by omega)).mpr ⟨x, h1, by omega⟩
  rw [bt_eq0 hz] at h4; cases h4
/-- what 'next' answers -/
def NextIs (M : Nat → Prop) (fr : Nat) (r : Int) : Prop := (r = -1 ∧ ∀ x, M x → ¬ fr ≤ x) ∨ ∃ y : Nat, r = (y : Int) ∧ M y ∧ fr ≤ y ∧ ∀ x, M x → fr ≤ x → y ≤ x
theorem Dn.last {M : Nat → Prop} {fr y : Nat} (D : Dn M fr 0 y) : NextIs M fr (y : Int) := by
  obtain ⟨⟨x, h1, h2⟩, d2, d3⟩ := D
  simp only [Nat.pow_zero, Nat.div_one] at *
  subst h2
  exact Or.inr ⟨x, rfl, h1, d3 x h1 rfl, d2⟩
theorem NextIs.one {M : Nat → Prop} {fr : Nat} {r r' : Int} (h : NextIs M fr r) (h' : NextIs M fr r') : r = r' := by
  rcases h with ⟨rfl, h1⟩ | ⟨y, rfl, h1, h2, h3⟩ <;> rcases h' with ⟨rfl, h1'⟩ | ⟨y', rfl, h1', h2', h3'⟩
  · rfl
  · exact absurd h2' (h1 _ h1')
  · exact absurd h2 (h1' _ h1)
  · have := h3 _ h1' h2'
    have := h3' _ h1 h2
    omega
/-- the mirror: the greatest member up to 'upTo' (A at level k; -1: nothing is left) -/
def UpP (M : Nat → Prop) (fr : Int) (k : Nat) (A : Int) : Prop := (∀ x : Nat, M x → (x : Int) ≤ fr → ((x / 64 ^ k : Nat) : Int) ≤ A) ∧ ∀ x : Nat, M x → ((x / 64 ^ k : Nat) : Int) ≤ A → (x : Int) ≤ fr
theorem UpP.start (M : Nat → Prop) (fr : Int) : UpP M fr 0 fr := ⟨fun x _ h => by simpa using h, fun x _ h => by simpa using h⟩
theorem UpP.next {M : Nat → Prop} {fr : Int} {k A len : Nat} {f : Nat → Int64} (U : UpP M fr k (A : Int)) (H : LV M k len f) (hi : A / 64 < len) (q : Int32) (hq : q.toInt = ((63 - A % 64 : Nat) : Int)) (hz : f (A / 64) &&& (((-1 : Int64).toUInt64 >>> (q &&& 0x3f).toInt64.toUInt64).toInt64) = 0) : UpP M fr (k + 1) (((A / 64 : Nat) : Int) - 1) := by
  have hno : ∀ x, M x → x / 64 ^ k ≤ A → x / 64 ^ k / 64 + 1 ≤ A / 64 := by
    intro x hx hA
    apply Classical.byContradiction
    intro hc
    have e : x / 64 ^ k / 64 = A / 64 := by omega
    have hb : x / 64 ^ k % 64 < 64 := by omega
    have h1 := (H _ hi _ hb).mpr ⟨x, hx, by omega⟩
    have h2 := bt_eq0 hz (x / 64 ^ k % 64)
    rw [bt_and, h1, bt_m1_ushr _ (A % 64) (by omega) hq _ hb] at h2
    have : x / 64 ^ k % 64 ≤ A % 64 := by omega
    simp [this] at h2
  refine ⟨fun x hx hf => ?_, fun x hx hA => U.2 x hx ?_⟩
  · have := hno x hx (by have := U.1 x hx hf; omega)
    rw [dk_succ]; omega
  · rw [dk_succ] at hA; omega
def DnP (M : Nat → Prop) (fr : Int) (k y : Nat) : Prop := (∃ x, M x ∧ x / 64 ^ k = y) ∧ (∀ x : Nat, M x → (x : Int) ≤ fr → x / 64 ^ k ≤ y) ∧ ∀ x : Nat, M x → x / 64 ^ k = y → (x : Int) ≤ fr
def High (w : Int64) (t : Nat) : Prop := t < 64 ∧ bt w t = true ∧ ∀ b, t < b → b < 64 → bt w b = false
theorem High.ex {w : Int64} (h : ¬ w = 0) : ∃ t, High w t := by
  obtain ⟨b, hb, hv⟩ := bt_ne0 h
  generalize hn : 64 - b = n
  induction n using Nat.strongRecOn generalizing b with
  | ind n ih =>
    by_cases q : ∃ b', b < b' ∧ b' < 64 ∧ bt w b' = true
    · obtain ⟨b', h1, h2, h3⟩ := q
      exact ih (64 - b') (by omega) b' h2 h3 rfl
    · refine ⟨b, hb, hv, fun b' h' h'' => ?_⟩
      cases hx : bt w b'
      · rfl
      · exact absurd ⟨b', h', h'', hx⟩ q
theorem UpP.found {M : Nat → Prop} {fr : Int} {k A len t : Nat} {f : Nat → Int64} (U : UpP M fr k (A : Int)) (H : LV M k len f) (hi : A / 64 < len) (q : Int32) (hq : q.toInt = ((63 - A % 64 : Nat) : Int)) (ht : High (f (A / 64) &&& (((-1 : Int64).toUInt64 >>> (q &&& 0x3f).toInt64.toUInt64).toInt64)) t) : DnP M fr k (A - A % 64 + t) := by
  obtain ⟨t1, t2, t3⟩ := ht
  rw [bt_and, bt_m1_ushr _ (A % 64) (by omega) hq _ t1] at t2
  obtain ⟨t4, t5⟩ := Bool.and_eq_true_iff.mp t2
  have t5 := of_decide_eq_true t5
  obtain ⟨x0, h1, h2⟩ := (H _ hi t t1).mp t4
  have e : A - A % 64 = 64 * (A / 64) := by omega
  rw [e]
  refine ⟨⟨x0, h1, h2⟩, fun x hx hf => ?_, fun x hx hxe => U.2 x hx (by omega)⟩
  have hA := U.1 x hx hf
  apply Classical.byContradiction
  intro hc
  have e2 : x / 64 ^ k / 64 = A / 64 := by omega
  have hb : x / 64 ^ k % 64 < 64 := by omega
  have h3 := (H _ hi _ hb).mpr ⟨x, hx, by omega⟩
  have h4 := t3 (x / 64 ^ k % 64) (by omega) hb
  rw [bt_and, h3, bt_m1_ushr _ (A % 64) (by omega) hq _ hb] at h4
  have : x / 64 ^ k % 64 ≤ A % 64 := by omega
  simp [this] at h4
theorem DnP.down {M : Nat → Prop} {fr : Int} {k y len t : Nat} {f : Nat → Int64} (D : DnP M fr (k + 1) y) (H : LV M k len f) (hi : y < len) (ht : High (f y) t) : DnP M fr k (64 * y + t) := by
  obtain ⟨d1, d2, d3⟩ := D
  obtain ⟨t1, t2, t3⟩ := ht
  obtain ⟨x0, h1, h2⟩ := (H _ hi t t1).mp t2
  refine ⟨⟨x0, h1, h2⟩, fun x hx hf => ?_, fun x hx hxe => d3 x hx (by rw [dk_succ]; omega)⟩
  have h3 := d2 x hx hf
  rw [dk_succ] at h3
  apply Classical.byContradiction
  intro hc
  have hb : x / 64 ^ k % 64 < 64 := by omega
  have h4 := (H _ hi _ hb).mpr ⟨x, hx, by omega⟩
  have h5 := t3 (x / 64 ^ k % 64) (by omega) hb
  rw [h4] at h5; cases h5
theorem DnP.word {M : Nat → Prop} {fr : Int} {k y len : Nat} {f : Nat → Int64} (D : DnP M fr (k + 1) y) (H : LV M k len f) (hi : y < len) : ¬ f y = 0 := fun hz => by
  obtain ⟨x, h1, h2⟩ := D.1
  rw [dk_succ] at h2
  have h4 := (H _ hi (x / 64 ^ k % 64) (by omega)).mpr ⟨x, h1, by omega⟩
  rw [bt_eq0 hz] at h4; cases h4
def PrevIs (M : Nat → Prop) (fr : Int) (r : Int) : Prop := (r = -1 ∧ ∀ x : Nat, M x → ¬ (x : Int) ≤ fr) ∨ ∃ y : Nat, r = (y : Int) ∧ M y ∧ (y : Int) ≤ fr ∧ ∀ x : Nat, M x → (x : Int) ≤ fr → x ≤ y
theorem DnP.last {M : Nat → Prop} {fr : Int} {y : Nat} (D : DnP M fr 0 y) : PrevIs M fr (y : Int) := by
  obtain ⟨⟨x, h1, h2⟩, d2, d3⟩ := D
  simp only [Nat.pow_zero, Nat.div_one] at *
  subst h2
  exact Or.inr ⟨x, rfl, h1, d3 x h1 rfl, d2⟩
theorem PrevIs.one {M : Nat → Prop} {fr : Int} {r r' : Int} (h : PrevIs M fr r) (h' : PrevIs M fr r') : r = r' := by
  rcases h with ⟨rfl, h1⟩ | ⟨y, rfl, h1, h2, h3⟩ <;> rcases h' with ⟨rfl, h1'⟩ | ⟨y', rfl, h1', h2', h3'⟩
  · rfl
  · exact absurd h2' (h1 _ h1')
  · exact absurd h2 (h1' _ h1)
  · have := h3 _ h1' h2'
    have := h3' _ h1 h2
    omega
theorem own_lti {x y : Int32} {a b : Nat} (hx : x.toInt = (a : Int)) (hy : y.toInt = (b : Int)) (h : a < b) : x < y := by rw [Int32.lt_iff_toInt_lt, hx, hy]; omega
theorem own_nlti {x y : Int32} {a b : Nat} (hx : x.toInt = (a : Int)) (hy : y.toInt = (b : Int)) (h : ¬ a < b) : ¬ x < y := by rw [Int32.lt_iff_toInt_lt, hx, hy]; omega
theorem own_eqi {x y : Int32} {a b : Nat} (hx : x.toInt = (a : Int)) (hy : y.toInt = (b : Int)) (h : a = b) : x = y := Int32.toInt_inj.mp (by rw [hx, hy, h])
theorem own_nei {x y : Int32} {a b : Nat} (hx : x.toInt = (a : Int)) (hy : y.toInt = (b : Int)) (h : ¬ a = b) : ¬ x = y := fun q => h (by subst q; omega)
theorem own_inc {x : Int32} {a : Nat} (hx : x.toInt = (a : Int)) (h : a < 2147483647) : (x + (1 : Int32)).toInt = ((a + 1 : Nat) : Int) := by
  have h1 := c_iadd x 1
  have r := rng32 (x + 1)
  rw [show (1 : Int32).toInt = 1 from rfl] at h1
  omega
theorem own_dec {x : Int32} {a : Nat} (hx : x.toInt = ((a + 1 : Nat) : Int)) : (x + (-1 : Int32)).toInt = (a : Int) := by
  have h1 := c_iadd x (-1)
  have r := rng32 (x + (-1))
  rw [show (-1 : Int32).toInt = -1 from rfl] at h1
  have r2 := rng32 x
  omega
theorem own_sh6 {x : Int32} {a : Nat} (hx : x.toInt = (a : Int)) : ((x.toUInt32 >>> ((6 : Int32) &&& 31).toUInt32).toInt32).toInt = ((a / 64 : Nat) : Int) := by
  have h := c_iushr x 6 6 (by decide) (by decide)
  have r := rng32 x
  rw [h, hx]
  omega
theorem own_ofNat {n : Nat} (h : n < 2147483648) : (Int32.ofNat n).toInt = (n : Int) := Int32.toInt_ofNat_of_lt (by omega)
end OwnRank

section OwnStrs
variable {p : Program} {l : Launch} {e : Env} {R : Room} {s : State} {m : MethodId} {args : Array Value} {below : List Frame} {meth : Method} {c : Code} {T : State} {locs : List Loc} {cells slots : Nat} {Z : State} {a0 : Array Value} {h h' h2 : Heap}
variable {F : Outcome → State → Prop}
/-- the statics are as they were -/
def StK (Z : State) (h h' : Heap) : Prop := ∀ (C n d : String) (v : Value), Sta Z h C n d v → Sta Z h' C n d v
theorem StK.refl (Z : State) (h : Heap) : StK Z h h := fun _ _ _ _ q => q
theorem StK.ext (K : StK Z h h') (E : Ext h' h2) : StK Z h h2 := fun C n d v q => Sta.ext E (K C n d v q)
theorem StK.wr {a : Addr} {sl : Nat} {w : Value} (K : StK Z h h') (W : Wr h' h2 a sl w) : StK Z h h2 := fun C n d v q => Sta.wr W (K C n d v q)
theorem StK.trans (K : StK Z h h') (K' : StK Z h' h2) : StK Z h h2 := fun C n d v q => K' C n d v (K C n d v q)
theorem Owes.sC (X : Stand p l e R s m args below meth c T locs cells slots) (hx : p.tables.exec = Jvm.exec) (hZ : Z.Warmed39 s.vm) (eT : T.heap = h) {a : Addr} {n : Nat} {w : Nat → Value} (A : GA Z h a .char n w) {j : Int32} {i : Nat} (hj : j.toInt = (i : Int)) (hi : i < n) {x y : Int32} (hy : nar .char x = y) {pc : Nat} {Ls : Array Slot} {rest : List Value}
    (hd : decode c.code pc = .ok (.castore, 1)) (k : ∀ (T' : State) (h' : Heap), Stand p l e R s m args below meth c T' (locs ++ [⟨a, i⟩]) cells slots → T'.heap = h' → Wr h h' a i (.int y) → GA Z h' a .char n (upd w i (.int y)) → Owes p e below F (T'.setTop (mkF m (pc + 1) Ls rest))) : Owes p e below F (T.setTop (mkF m pc Ls (.int x :: .int j :: .ref a :: rest))) := by
  subst hy
  have A0 := A
  obtain ⟨cl, A1, S, V⟩ := A
  obtain ⟨T', h', X', e', W, st⟩ := stC X hx hZ eT A1 (j := j) (x := x) (own_nth hj hi S) (g := mkF m pc Ls (.int x :: .int j :: .ref a :: rest)) rfl rfl hd
  rw [(own_nat hj).2] at X' W
  exact (k T' h' X' e' W (A0.set W)).go st
theorem Owes.sBy (X : Stand p l e R s m args below meth c T locs cells slots) (hx : p.tables.exec = Jvm.exec) (hZ : Z.Warmed39 s.vm) (eT : T.heap = h) {a : Addr} {n : Nat} {w : Nat → Value} (A : GA Z h a .byte n w) {j : Int32} {i : Nat} (hj : j.toInt = (i : Int)) (hi : i < n) {x y : Int32} (hy : nar .byte x = y) {pc : Nat} {Ls : Array Slot} {rest : List Value}
    (hd : decode c.code pc = .ok (.bastore, 1)) (k : ∀ (T' : State) (h' : Heap), Stand p l e R s m args below meth c T' (locs ++ [⟨a, i⟩]) cells slots → T'.heap = h' → Wr h h' a i (.int y) → GA Z h' a .byte n (upd w i (.int y)) → Owes p e below F (T'.setTop (mkF m (pc + 1) Ls rest))) : Owes p e below F (T.setTop (mkF m pc Ls (.int x :: .int j :: .ref a :: rest))) := by
  subst hy
  have A0 := A
  obtain ⟨cl, A1, S, V⟩ := A
  obtain ⟨T', h', X', e', W, st⟩ := stB X hx hZ eT A1 (j := j) (x := x) (own_nth hj hi S) (g := mkF m pc Ls (.int x :: .int j :: .ref a :: rest)) rfl rfl hd
  rw [(own_nat hj).2] at X' W
  exact (k T' h' X' e' W (A0.set W)).go st
theorem GA.arv {a : Addr} {ty : FieldType} {n : Nat} {w : Nat → Value} {z : Int32} (A : GA Z h a ty n w) (hz : z.toInt = (n : Int)) (hf : ∀ i, i < n → fits ty (w i) = true) (d : Value) : ∃ k, Arv Z h a k ty z ((List.range n).map w) d := by
  obtain ⟨cl, A1, S, V⟩ := A
  have e : ∀ i, i < n → ((List.range n).map w).getD i d = w i := fun i hi => by simp [List.getD, hi]
  exact ⟨cl.cls, cl, A1, rfl, by rw [S, (own_nat hz).2], (own_nat hz).1, fun i hi => by rw [e i (by omega)]; exact V i (by omega), fun i hi => by rw [e i (by omega)]; exact hf i (by omega)⟩
theorem own_arvga {a : Addr} {ty : FieldType} {n : Nat} {k : ClassId} {z : Int32} {vs : List Value} {d : Value} (A : Arv Z h a k ty z vs d) (hz : z.toInt = (n : Int)) : GA Z h a ty n (fun i => vs.getD i d) := by
  obtain ⟨cl, A1, -, S, -, H, -⟩ := A
  rw [(own_nat hz).2] at S
  exact ⟨cl, A1, S, fun i hi => H i (by omega)⟩
/-- System.arraycopy of bytes, from sp on, into all of another array -/
theorem Owes.cpB (X : Stand p l e R s m args below meth c T locs cells slots) (hx : p.tables.exec = Jvm.exec) (hZ : Z.Warmed39 s.vm) {own : String} {index : Nat} (hown : s.vm.findClass own = some m.cls)
    (w1 : (Cond.methodLink own index Jvm.Stand.acN).before a0 Z = true) (w2 : (Cond.native Jvm.Stand.acN).before a0 Z = true) (w3 : (Cond.static Jvm.Stand.acN).before a0 Z = true) (w4 : (Cond.initialized "java/lang/System").before a0 Z = true) (eT : T.heap = h)
    {a b : Addr} {n n' sp : Nat} {w w' : Nat → Int32} (A : GA Z h a .byte n (fun i => .int (w i))) (B : GA Z h b .byte n' (fun i => .int (w' i))) (fa : ∀ i, i < n → fits .byte (.int (w i)) = true) (fb : ∀ i, i < n' → fits .byte (.int (w' i)) = true) {spI dI nI : Int32} (hsp : spI.toInt = (sp : Int)) (hd0 : dI.toInt = 0) (hn : nI.toInt = (n' : Int)) (hle : sp + n' ≤ n) (hnb : n < 2147483648) {n0 : Nat} (N : Fr n0 locs) (ge : n0 ≤ b)
    {pc : Nat} {Ls : Array Slot} {rest : List Value} (hsize : Ls.size = c.maxLocals) (hd : decode c.code pc = .ok (.invokestatic index, 3)) (hf : 1 ≤ R.frames) (hl : (rest.map fun v => v.category).sum + (nativeFrameWords "java/lang/System" "arraycopy" 5 + 11) ≤ R.locals)
    (k : ∀ (T' : State) (h' : Heap) (L : List Loc), Stand p l e R s m args below meth c T' L cells slots → T'.heap = h' → Fr n0 L → Keep h h' [b] → GA Z h' b .byte n' (fun i => .int (w (sp + i))) → Owes p e below F (T'.setTop (mkF m (pc + 3) Ls rest))) : Owes p e below F (T.setTop (mkF m pc Ls (.int nI :: .int dI :: .ref b :: .int spI :: .ref a :: rest))) := by
  obtain ⟨ka, A'⟩ := A.arv (z := Int32.ofNat n) (own_ofNat hnb) fa (.int 0)
  obtain ⟨kb, B'⟩ := B.arv hn fb (.int 0)
  have en := (own_nat hn).2
  have es := (own_nat hsp).2
  have ed := (own_nat (i := 0) hd0).2
  have ez := (own_nat (own_ofNat (n := n) hnb)).2
  obtain ⟨T', h', L, X', e', N', K, B2, st⟩ := cpA X hx hZ hown w1 w2 w3 w4 eT (sp := spI) (dp := dI) (nn := nI) A' B' (Or.inl ⟨rfl, rfl⟩) (own_nat hsp).1 (own_nat (i := 0) hd0).1 (own_nat hn).1 (by rw [es, en, ez]; exact hle) (by rw [ed, en]; omega) rfl (by rw [ed, en]; simp) N ge (g := mkF m pc Ls (.int nI :: .int dI :: .ref b :: .int spI :: .ref a :: rest)) rfl hsize rfl hd hf (W := (rest.map fun v => v.category).sum) (by show 2 * 0 + _ ≤ _; omega) hl
  have B3 := own_arvga B2 hn
  have B4 : GA Z h' b .byte n' (fun i => .int (w (sp + i))) := GA.congr B3 fun i hi => by
    have q : sp + i < n := by omega
    simp [List.getD, hi, q, ed, en, es]
  exact (k T' h' L X' e' N' K B4).go st
def SNm : String := "java/lang/String"
/-- a String of n signs, each at most 255 -/
def STR (Z : State) (h : Heap) (r b : Addr) (n : Nat) (c : Nat → Int32) : Prop := Exa Z h r "java/lang/String" ∧ Fld Z h r "java/lang/String" "coder" "B" (.int 0) ∧ Fld Z h r "java/lang/String" "value" "[B" (.ref b) ∧ GA Z h b .byte n (fun i => .int (c i).toInt8.toInt32)
theorem STR.ext {r b : Addr} {n : Nat} {c : Nat → Int32} (S : STR Z h r b n c) (E : Ext h h') : STR Z h' r b n c := ⟨S.1.ext E, S.2.1.ext E, S.2.2.1.ext E, S.2.2.2.ext E⟩
theorem own_fitB (x : Int32) : fits .byte (.int x.toInt8.toInt32) = true := by
  have := x.toInt8.toInt_lt
  have := x.toInt8.le_toInt
  simp only [fits, Bool.and_eq_true, decide_eq_true_eq]
  refine ⟨?_, ?_⟩
  · rw [Int32.le_iff_toInt_le, Int8.toInt_toInt32, show (-128 : Int32).toInt = -128 from by decide]; omega
  · rw [Int32.le_iff_toInt_le, Int8.toInt_toInt32, show (127 : Int32).toInt = 127 from by decide]; omega
def C8 (n : Nat) (c : Nat → Int32) : Prop := ∀ i, i < n → 0 ≤ (c i).toInt ∧ (c i).toInt < 256
theorem own_c8 {x : Int32} (h : 0 ≤ x.toInt ∧ x.toInt < 256) : ∃ k : Fin 256, x = Int32.ofNat k.1 := by
  refine ⟨⟨x.toInt.toNat, by omega⟩, ?_⟩
  apply Int32.toInt_inj.mp
  show x.toInt = (Int32.ofNat x.toInt.toNat).toInt
  rw [own_ofNat (by omega)]; omega
theorem own_chr {x : Int32} (h : 0 ≤ x.toInt ∧ x.toInt < 256) : nar .char ((x.toInt8.toInt32 &&& (255 : Int32)).toUInt32.toUInt16.toUInt32.toInt32) = x := by
  obtain ⟨k, rfl⟩ := own_c8 h
  revert k
  decide +kernel
theorem own_narB {x : Int32} : nar .byte x.toInt8.toInt32 = x.toInt8.toInt32 := by
  show x.toInt8.toInt32.toInt8.toInt32 = _
  simp
theorem own_narC {x : Int32} (h : 0 ≤ x.toInt ∧ x.toInt < 256) : nar .char x = x := by
  obtain ⟨k, rfl⟩ := own_c8 h
  revert k
  decide +kernel
theorem own_b47 {x : Int32} (h : 0 ≤ x.toInt ∧ x.toInt < 256) : x.toInt8.toInt32 = (47 : Int32).toInt8.toInt32 ↔ x = 47 := by
  obtain ⟨k, rfl⟩ := own_c8 h
  revert k
  decide +kernel
theorem own_sh0 (x : Int32) : (x >>> ((0 : Int32) &&& 31)) = x := by
  apply Int32.toBitVec_inj.mp
  show x.toBitVec.sshiftRight' ((0 : Int32) &&& 31).toBitVec = _
  simp
end OwnStrs

section OwnEq
variable {p : Program} {l : Launch} {e : Env} {R : Room} {s : State} {m : MethodId} {args : Array Value} {below : List Frame} {meth : Method} {c : Code} {T : State} {locs : List Loc} {cells slots : Nat} {Z : State} {a0 : Array Value} {h h' : Heap}
variable {F : Outcome → State → Prop}
theorem Owes.inst (X : Stand p l e R s m args below meth c T locs cells slots) (hx : p.tables.exec = Jvm.exec) (hZ : Z.Warmed39 s.vm) {own K : String} {index : Nat} (hown : s.vm.findClass own = some m.cls) (w : (Cond.classLink own index K).before a0 Z = true) (eT : T.heap = h) {a : Addr} (E : Exa Z h a K) {pc : Nat} {Ls : Array Slot} {rest : List Value}
    (hd : decode c.code pc = .ok (.instanceof index, 3)) (k : ∀ T' : State, Stand p l e R s m args below meth c T' locs cells slots → T'.heap = h → Owes p e below F (T'.setTop (mkF m (pc + 3) Ls (.int 1 :: rest)))) : Owes p e below F (T.setTop (mkF m pc Ls (.ref a :: rest))) := by
  obtain ⟨T', X', e', st⟩ := instY X hx hZ hown w eT (Ins.self E) (g := mkF m pc Ls (.ref a :: rest)) rfl rfl hd
  exact (k T' X' e').go st
theorem Owes.castR (X : Stand p l e R s m args below meth c T locs cells slots) (hx : p.tables.exec = Jvm.exec) (hZ : Z.Warmed39 s.vm) {own K : String} {index : Nat} (hown : s.vm.findClass own = some m.cls) (w : (Cond.classLink own index K).before a0 Z = true) (eT : T.heap = h) {a : Addr} (E : Exa Z h a K) {pc : Nat} {Ls : Array Slot} {rest : List Value}
    (hd : decode c.code pc = .ok (.checkcast index, 3)) (k : ∀ T' : State, Stand p l e R s m args below meth c T' locs cells slots → T'.heap = h → Owes p e below F (T'.setTop (mkF m (pc + 3) Ls (.ref a :: rest)))) : Owes p e below F (T.setTop (mkF m pc Ls (.ref a :: rest))) := by
  obtain ⟨T', X', e', st⟩ := castY X hx hZ hown w eT (Ins.self E) (g := mkF m pc Ls (.ref a :: rest)) rfl rfl hd
  exact (k T' X' e').go st
def EQB (n n' : Nat) (b b' : Nat → Int32) : Prop := n = n' ∧ ∀ i, i < n → b i = b' i
def eqv (n n' : Nat) (b b' : Nat → Int32) : Int32 := if n = n' ∧ ∀ i, i < n → b i = b' i then 1 else 0
theorem eqv_y {n n' : Nat} {b b' : Nat → Int32} (h : EQB n n' b b') : eqv n n' b b' = 1 := if_pos h
theorem eqv_n {n n' : Nat} {b b' : Nat → Int32} (h : ¬ EQB n n' b b') : eqv n n' b b' = 0 := if_neg h
theorem GA.fun {a : Addr} {ty ty' : FieldType} {n n' : Nat} {w w' : Nat → Value} (A : GA Z h a ty n w) (B : GA Z h a ty' n' w') : n = n' ∧ ∀ i, i < n → w i = w' i := by
  obtain ⟨c1, A1, S1, V1⟩ := A
  obtain ⟨c2, A2, S2, V2⟩ := B
  cases A1.1.symm.trans A2.1
  have e : n = n' := S1.symm.trans S2
  exact ⟨e, fun i hi => Option.some.inj ((V1 i hi).symm.trans (V2 i (by omega)))⟩
def by8 (c : Nat → Int32) (i : Nat) : Int32 := (c i).toInt8.toInt32
theorem STR.same {r b b' : Addr} {n n' : Nat} {c c' : Nat → Int32} (S : STR Z h r b n c) (S' : STR Z h r b' n' c') : EQB n n' (by8 c) (by8 c') := by
  by_cases q : b = b'
  · subst q
    obtain ⟨h1, h2⟩ := GA.fun S.2.2.2 S'.2.2.2
    exact ⟨h1, fun i hi => Value.int.inj (h2 i hi)⟩
  · exact absurd rfl (Fld.ne S.2.2.1 S'.2.2.1 (fun z => q (Value.ref.inj z)))
theorem Owes.cloneG (X : Stand p l e R s m args below meth c T locs cells slots) (hx : p.tables.exec = Jvm.exec) (hZ : Z.Warmed39 s.vm) {own ad : String} {index : Nat} (hown : s.vm.findClass own = some m.cls)
    (w1 : (Cond.methodLink own index ⟨ad, "clone", "()Ljava/lang/Object;"⟩).before a0 Z = true) (w2 : (Cond.sameMethod ad "java/lang/Object" "clone" "()Ljava/lang/Object;").before a0 Z = true) (w3 : (Cond.native ⟨"java/lang/Object", "clone", "()Ljava/lang/Object;"⟩).before a0 Z = true)
    (w4 : (Cond.instanceMethod ⟨"java/lang/Object", "clone", "()Ljava/lang/Object;"⟩).before a0 Z = true) (w5 : (Cond.selects ad ⟨ad, "clone", "()Ljava/lang/Object;"⟩ ⟨"java/lang/Object", "clone", "()Ljava/lang/Object;"⟩).before a0 Z = true) (w6 : (Cond.castable ad "java/lang/Cloneable").before a0 Z = true)
    (eT : T.heap = h) {a : Addr} {ty : FieldType} {n : Nat} {w : Nat → Value} (A : GA Z h a ty n w) (hfit : ∀ i, i < n → fits ty (w i) = true) (E : Exa Z h a ad) {pc : Nat} {Ls : Array Slot} {rest : List Value} (hsize : Ls.size = c.maxLocals) (hd : decode c.code pc = .ok (.invokevirtual index, 3)) (hf : 1 ≤ R.frames) (hl : (rest.map fun v => v.category).sum + 14 ≤ R.locals) (hcl : cells + 1 ≤ R.cells) (hsl : slots + n ≤ R.slots)
    (k : ∀ (T' : State) (h' : Heap), Stand p l e R s m args below meth c T' locs (cells + 1) (slots + n) → T'.heap = h' → Ext h h' → GA Z h' h.size ty n w → Exa Z h' h.size ad → Owes p e below F (T'.setTop (mkF m (pc + 3) Ls (.ref h.size :: rest)))) : Owes p e below F (T.setTop (mkF m pc Ls (.ref a :: rest))) := by
  obtain ⟨cl, A1, S, V⟩ := A
  have FC : FitC Z cl := fitC_of A1 fun i hi v hv => by rw [V i (by omega)] at hv; cases hv; exact hfit i (by omega)
  obtain ⟨T', h', X', e', ex, A', E', st⟩ := cloneA X hx hZ hown w1 w2 w3 w4 w5 w6 eT A1 E FC (g := mkF m pc Ls (.ref a :: rest)) rfl hsize rfl hd hf (W := (rest.map fun v => v.category).sum) (by show 2 * 0 + _ ≤ _; omega) hl (Nat.le_of_eq S) hcl hsl
  exact (k T' h' X' e' ex ⟨cloneOf cl, A', S, V⟩ E').go st
theorem STR.keep0 {r b : Addr} {n : Nat} {c : Nat → Int32} (S : STR Z h r b n c) (K : Keep h h' []) : STR Z h' r b n c := ⟨S.1.keep K, S.2.1.keep K List.not_mem_nil, S.2.2.1.keep K List.not_mem_nil, S.2.2.2.keep K List.not_mem_nil⟩
def nmd (e0 e1 e2 : Int32) (v0 v1 v2 : Addr) : Value := if e0 = 0 then (if e1 = 0 then (if e2 = 0 then .null else .ref v2) else .ref v1) else .ref v0
end OwnEq

section OwnWide
variable {p : Program} {l : Launch} {e : Env} {R : Room} {s : State} {vm0 : Vm} {m : MethodId} {args : Array Value} {below : List Frame} {meth : Method} {c : Code} {T : State} {locs : List Loc} {cells slots : Nat} {Z : State} {a0 : Array Value} {h : Heap}
variable {Q : Option Value → Heap → List Loc → Prop} {F : Outcome → State → Prop} {C N : Nat} {A B : State}
/-- the same end, where String constants may have been interned -/
def EndW (s : State) (Q : Option Value → Heap → List Loc → Prop) (C N : Nat) (o : Outcome) (t : State) : Prop := ∃ v L, o = .returned v ∧ Q v t.heap L ∧ ReturnedEndW s o t L C N
theorem own_since (s : State) (n : Nat) : s.Since s.vm n := (State.WarmedH.refl s).since n
theorem own_endW (X : Stand p l e R (s.setVm vm0) m args below meth c T locs cells slots) {k0 : Nat} (hS : s.Since vm0 k0) (hk : k0 ≤ T.heap.size) (hlk : meth.locks = false) {v : Option Value} (hv : meth.sig.returnType = none → v = none) (hc : cells ≤ C) (hs : slots ≤ N) (hq : Q v T.heap locs) {A : State}
    (hst : ∀ fs : List Frame, (∀ (f : JFrame) (acts : List Action), f.method = m → f.locked = none → f.entered = [] → (doReturn e (T.setTop f) acts v).1 = T.setFrames fs) → Steps p.tables e below A (T.setFrames fs)) : Owes p e below (EndW s Q C N) A := by
  obtain ⟨fs, hr, hrun, hended, hW⟩ := X.leaveW hS hk hv hlk
  exact ⟨_, _, hst fs hr, hrun, hended, v, locs, rfl, hq, hW.1, hW.2.1, hW.2.2.1, hW.2.2.2.mono hc hs⟩
theorem Owes.retNW (X : Stand p l e R (s.setVm vm0) m args below meth c T locs cells slots) {k0 : Nat} (hS : s.Since vm0 k0) (hk : k0 ≤ T.heap.size) (hx : p.tables.exec = Jvm.exec) (hlk : meth.locks = false) {pc : Nat} {Ls : Array Slot} {z : Int32} {t : FieldType} {rest : List Value} (hret : meth.sig.returnType = some t) (ht : t = .boolean ∨ t = .byte ∨ t = .char ∨ t = .short)
    (hd : decode c.code pc = .ok (.ireturn, 1)) (hc : cells ≤ C) (hs : slots ≤ N) (hq : Q (some (.int (nar t z))) T.heap locs) : Owes p e below (EndW s Q C N) (T.setTop (mkF m pc Ls (.int z :: rest))) :=
  own_endW X hS hk hlk (fun h => by rw [hret] at h; cases h) hc hs hq fun fs hr => Jvm.RoadKit.retN X hx hret ht hd hr
theorem Owes.retAW (X : Stand p l e R (s.setVm vm0) m args below meth c T locs cells slots) {k0 : Nat} (hS : s.Since vm0 k0) (hk : k0 ≤ T.heap.size) (hx : p.tables.exec = Jvm.exec) (hlk : meth.locks = false) {pc : Nat} {Ls : Array Slot} {w : Value} {t : FieldType} {rest : List Value} (hret : meth.sig.returnType = some t) (ht : t.isReference = true) (hn : narrow t w = w) (hw : w.isRef = true)
    (hd : decode c.code pc = .ok (.areturn, 1)) (hc : cells ≤ C) (hs : slots ≤ N) (hq : Q (some w) T.heap locs) : Owes p e below (EndW s Q C N) (T.setTop (mkF m pc Ls (w :: rest))) :=
  own_endW X hS hk hlk (fun h => by rw [hret] at h; cases h) hc hs hq fun fs hr => Jvm.RoadKit.retOut X hx hret hn (Or.inr (Or.inr (Or.inr (Or.inr ⟨rfl, ht, hw⟩)))) hd hr
def OMetW (l : Launch) (y : MethodName) (bytes : ByteArray) (maxL : Nat) (ret : Option FieldType) (ws : List Jvm.Cond) (rm : Room) (as' : Array Value) (Z : State) (h0 : Heap) (Q : Option Value → Heap → List Loc → Prop) : Prop :=
  MetFree l y (head1 (Jvm.Cond.code y bytes maxL ret :: ws) rm) (fun a U => a = as' ∧ Z.Warmed39 U.vm ∧ U.heap = h0) (fun _ _ _ _ _ => True) (fun _ U o U' => ∃ v L, o = .returned v ∧ Q v U'.heap L ∧ ReturnedEndW U o U' L rm.cells rm.slots)
theorem OMetW.of {y : MethodName} {bytes : ByteArray} {maxL : Nat} {ret : Option FieldType} {ws : List Jvm.Cond} {rm : Room} {as' : Array Value} {h0 : Heap} (hpl : plainFor y = true) {Ls : Array Slot} (ef : ∀ m, entryFrame m as' maxL = mkF m 0 Ls [])
    (body : ∀ (p : Program) (e : Env) (s : State) (m : MethodId) (below : List Frame) (meth : Method) (c : Code) (s₁ : State), p.tables.exec = Jvm.exec → c.code = bytes → c.maxLocals = maxL → (s.setVm s.vm).vm.findClass y.cls = some m.cls → meth.name = y.name → meth.sig.returnType = ret → meth.locks = false → Z.Warmed39 (s.setVm s.vm).vm →
      Stand p l e rm (s.setVm s.vm) m as' below meth c s₁ [] 0 0 → s₁.heap = h0 → s.heap = h0 → Owes p e below (EndW s Q rm.cells rm.slots) (s₁.setTop (mkF m 0 Ls []))) : OMetW l y bytes maxL ret ws rm as' Z h0 Q := by
  refine MetFree.of_bodySF hpl hisR ?_
  intro p e s m args below meth c s₁ Bd hml0 hP hK
  obtain ⟨rfl, hZ, hh⟩ := hP
  have hlk : meth.locks = false := BodyLoose.notSynchronized Bd
  have X0 : Stand p l e rm s m args below meth c s₁ [] 0 0 := Stand.of_body Bd
  have e0 : s₁.heap = h0 := by rw [← hh, Bd.state]; rfl
  obtain ⟨s₂, o, h1, h2, h3, h4⟩ := body p e s m below meth c s₁ Bd.exec Bd.bytes hml0 (findClass_of_methodNamed Bd.named) (name_of_methodNamed Bd.named Bd.method).1 Bd.returns hlk hZ X0 e0 hh
  exact ⟨s₂, o, castTop (ef m) h1, h2, h3, h4⟩
/-- a String constant whose text doesn't matter -/
theorem Owes.ldcS (X : Stand p l e R (s.setVm vm0) m args below meth c T locs cells slots) (hx : p.tables.exec = Jvm.exec) {own text : String} {index : Nat} (hZ : Z.Warmed39 vm0) (hown : vm0.findClass own = some m.cls) (w : (Cond.stringLink own index text).before a0 Z = true) (wS : ∀ a ∈ Bundle.stringAtoms, a.before a0 Z = true)
    (eT : T.heap = h) {k0 : Nat} (hS : s.Since vm0 k0) (hk : k0 ≤ h.size) {pc : Nat} {Ls : Array Slot} {st : List Value} (hd : decode c.code pc = .ok (.ldc index, 2)) {n : Nat} (hn : 4 * text.toList.length ≤ n) (hbig : n ≤ 536870912) (hcl : cells + 2 ≤ R.cells) (hsl : slots + (n + 4) ≤ R.slots)
    (k : ∀ (a : Addr) (T' : State) (h' : Heap) (k1 : Nat), Stand p l e R (s.setVm T'.vm) m args below meth c T' locs (cells + 2) (slots + (n + 4)) → T'.heap = h' → Ext h h' → s.Since T'.vm k1 → k1 ≤ h'.size → Z.Warmed39 (s.setVm T'.vm).vm → (s.setVm T'.vm).vm.findClass own = some m.cls → Owes p e below F (T'.setTop (mkF m (pc + 2) Ls (.ref a :: st)))) : Owes p e below F (T.setTop (mkF m pc Ls st)) := by
  obtain ⟨a, T', h', k1, X', e', E, hS', hk', hZ', hown', stp⟩ := Jvm.RoadKit.ldcS X hx hZ hown w wS eT hS hk (g := mkF m pc Ls st) rfl hd hn hbig hcl hsl
  exact (k a T' h' k1 X' e' E hS' hk' hZ' hown').go stp
end OwnWide

section OwnStrX
variable {p : Program} {l : Launch} {e : Env} {R : Room} {s : State} {vm0 : Vm} {m : MethodId} {args : Array Value} {below : List Frame} {meth : Method} {c : Code} {T : State} {locs : List Loc} {cells slots : Nat} {Z : State} {a0 : Array Value} {h : Heap} {EL : List (String × Nat)} {xs : List Addr}
variable {Q : Option Value → Heap → List Loc → Prop} {F : Outcome → State → Prop} {C N : Nat} {A B : State}
/-- the held constants are worth their text; and the addresses xs are none of theirs -/
def CHx (Z : State) (EL : List (String × Nat)) (xs : List Addr) (vm : Vm) (h : Heap) : Prop := CHv Z EL vm h ∧ ∀ x ∈ xs, x < h.size ∧ Safe Z EL vm h x
theorem CHx.of {vm vm1 : Vm} {h' : Heap} (H : CHx Z EL xs vm h) (C : CHr Z EL vm h vm1 h') : CHx Z EL xs vm1 h' := ⟨C.1, fun x hx => ⟨Nat.lt_of_lt_of_le (H.2 x hx).1 C.2.1, C.safe (H.2 x hx).1 (H.2 x hx).2⟩⟩
theorem CHx.ext {vm : Vm} {h' : Heap} (H : CHx Z EL xs vm h) (E : Ext h h') : CHx Z EL xs vm h' := H.of (CHr.ext E H.1)
theorem CHx.keep {vm : Vm} {h' : Heap} {ws : List Addr} (H : CHx Z EL xs vm h) (K : Keep h h' ws) (q : ∀ x ∈ ws, x ∈ xs) : CHx Z EL xs vm h' := H.of (CHr.keep K (fun x hx => (H.2 x (q x hx)).2) H.1)
theorem CHx.wr {vm : Vm} {h' : Heap} {a : Addr} {sl : Nat} {v : Value} (H : CHx Z EL xs vm h) (W : Wr h h' a sl v) (q : a ∈ xs) : CHx Z EL xs vm h' := H.of (CHr.wr W (H.2 a q).2 H.1)
/-- the wide end, and what the held constants are worth at it -/
def EndX (Z : State) (EL : List (String × Nat)) (xs : List Addr) (s : State) (Q : Option Value → Heap → List Loc → Prop) (C N : Nat) (o : Outcome) (t : State) : Prop := ∃ v L, o = .returned v ∧ (Q v t.heap L ∧ CHx Z EL xs t.vm t.heap) ∧ ReturnedEndW s o t L C N
theorem own_endX (X : Stand p l e R (s.setVm vm0) m args below meth c T locs cells slots) (hZ : Z.Warmed39 vm0) (hEL : EW Z a0 EL) (H : CHx Z EL xs vm0 T.heap) {k0 : Nat} (hS : s.Since vm0 k0) (hk : k0 ≤ T.heap.size) (hlk : meth.locks = false) {v : Option Value} (hv : meth.sig.returnType = none → v = none) (hc : cells ≤ C) (hs : slots ≤ N) (hq : Q v T.heap locs) {A : State}
    (hst : ∀ fs : List Frame, (∀ (f : JFrame) (acts : List Action), f.method = m → f.locked = none → f.entered = [] → (doReturn e (T.setTop f) acts v).1 = T.setFrames fs) → Steps p.tables e below A (T.setFrames fs)) : Owes p e below (EndX Z EL xs s Q C N) A := by
  obtain ⟨fs, hr, hrun, hended, hW⟩ := X.leaveW hS hk hv hlk
  exact ⟨_, _, hst fs hr, hrun, hended, v, locs, rfl, ⟨hq, (show CHx Z EL xs T.vm T.heap from H.of (CHv.at X hZ hEL H.1))⟩, hW.1, hW.2.1, hW.2.2.1, hW.2.2.2.mono hc hs⟩
theorem Owes.retNX (X : Stand p l e R (s.setVm vm0) m args below meth c T locs cells slots) (hZ : Z.Warmed39 vm0) (hEL : EW Z a0 EL) (eT : T.heap = h) (H : CHx Z EL xs vm0 h) {k0 : Nat} (hS : s.Since vm0 k0) (hk : k0 ≤ h.size) (hx : p.tables.exec = Jvm.exec) (hlk : meth.locks = false) {pc : Nat} {Ls : Array Slot} {z : Int32} {t : FieldType} {rest : List Value} (hret : meth.sig.returnType = some t) (ht : t = .boolean ∨ t = .byte ∨ t = .char ∨ t = .short)
    (hd : decode c.code pc = .ok (.ireturn, 1)) (hc : cells ≤ C) (hs : slots ≤ N) (hq : Q (some (.int (nar t z))) T.heap locs) : Owes p e below (EndX Z EL xs s Q C N) (T.setTop (mkF m pc Ls (.int z :: rest))) := by
  subst eT
  exact own_endX X hZ hEL H hS hk hlk (fun h => by rw [hret] at h; cases h) hc hs hq fun fs hr => Jvm.RoadKit.retN X hx hret ht hd hr
theorem Owes.retAX (X : Stand p l e R (s.setVm vm0) m args below meth c T locs cells slots) (hZ : Z.Warmed39 vm0) (hEL : EW Z a0 EL) (eT : T.heap = h) (H : CHx Z EL xs vm0 h) {k0 : Nat} (hS : s.Since vm0 k0) (hk : k0 ≤ h.size) (hx : p.tables.exec = Jvm.exec) (hlk : meth.locks = false) {pc : Nat} {Ls : Array Slot} {w : Value} {t : FieldType} {rest : List Value} (hret : meth.sig.returnType = some t) (ht : t.isReference = true) (hn : narrow t w = w) (hw : w.isRef = true)
    (hd : decode c.code pc = .ok (.areturn, 1)) (hc : cells ≤ C) (hs : slots ≤ N) (hq : Q (some w) T.heap locs) : Owes p e below (EndX Z EL xs s Q C N) (T.setTop (mkF m pc Ls (w :: rest))) := by
  subst eT
  exact own_endX X hZ hEL H hS hk hlk (fun h => by rw [hret] at h; cases h) hc hs hq fun fs hr => Jvm.RoadKit.retOut X hx hret hn (Or.inr (Or.inr (Or.inr (Or.inr ⟨rfl, ht, hw⟩)))) hd hr
def OMetX (l : Launch) (y : MethodName) (bytes : ByteArray) (maxL : Nat) (ret : Option FieldType) (ws : List Jvm.Cond) (rm : Room) (as' : Array Value) (Z : State) (EL : List (String × Nat)) (xs : List Addr) (h0 : Heap) (Q : Option Value → Heap → List Loc → Prop) : Prop :=
  MetFree l y (head1 (Jvm.Cond.code y bytes maxL ret :: ws) rm) (fun a U => a = as' ∧ Z.Warmed39 U.vm ∧ U.heap = h0 ∧ CHx Z EL xs U.vm h0) (fun _ _ _ _ _ => True) (fun _ U o U' => ∃ v L, o = .returned v ∧ (Q v U'.heap L ∧ CHx Z EL xs U'.vm U'.heap) ∧ ReturnedEndW U o U' L rm.cells rm.slots)
theorem OMetX.of {y : MethodName} {bytes : ByteArray} {maxL : Nat} {ret : Option FieldType} {ws : List Jvm.Cond} {rm : Room} {as' : Array Value} {h0 : Heap} (hpl : plainFor y = true) {Ls : Array Slot} (ef : ∀ m, entryFrame m as' maxL = mkF m 0 Ls [])
    (body : ∀ (p : Program) (e : Env) (s : State) (m : MethodId) (below : List Frame) (meth : Method) (c : Code) (s₁ : State), p.tables.exec = Jvm.exec → c.code = bytes → c.maxLocals = maxL → (s.setVm s.vm).vm.findClass y.cls = some m.cls → meth.name = y.name → meth.sig.returnType = ret → meth.locks = false → Z.Warmed39 (s.setVm s.vm).vm →
      Stand p l e rm (s.setVm s.vm) m as' below meth c s₁ [] 0 0 → s₁.heap = h0 → CHx Z EL xs s.vm h0 → Owes p e below (EndX Z EL xs s Q rm.cells rm.slots) (s₁.setTop (mkF m 0 Ls []))) : OMetX l y bytes maxL ret ws rm as' Z EL xs h0 Q := by
  refine MetFree.of_bodySF hpl hisR ?_
  intro p e s m args below meth c s₁ Bd hml0 hP hK
  obtain ⟨rfl, hZ, hh, hC⟩ := hP
  have hlk : meth.locks = false := BodyLoose.notSynchronized Bd
  have X0 : Stand p l e rm s m args below meth c s₁ [] 0 0 := Stand.of_body Bd
  have e0 : s₁.heap = h0 := by rw [← hh, Bd.state]; rfl
  obtain ⟨s₂, o, h1, h2, h3, h4⟩ := body p e s m below meth c s₁ Bd.exec Bd.bytes hml0 (findClass_of_methodNamed Bd.named) (name_of_methodNamed Bd.named Bd.method).1 Bd.returns hlk hZ X0 e0 hC
  exact ⟨s₂, o, castTop (ef m) h1, h2, h3, h4⟩
theorem own_backX {y : MethodName} {bytes : ByteArray} {maxL : Nat} {ret : Option FieldType} {rm : Room} {len W : Nat} {as' : Array Value} (hM : OMetX l y bytes maxL ret [] rm as' Z EL xs h Q)
    (hZ : Z.Warmed39 s.vm) (wc : (Cond.code y bytes maxL ret).before a0 Z = true) (wz : (Cond.initialized y.cls).before a0 Z = true) (hf : rm.frames + 1 ≤ R.frames) (hl : W + (maxL + 11) + rm.locals ≤ R.locals) :
    BackS l R p e below s args y len W (fun A a => a = as' ∧ A.U.heap = h ∧ A.cells + rm.cells ≤ R.cells ∧ A.slots + rm.slots ≤ R.slots ∧ CHx Z EL xs A.U.vm h)
      (fun A _ v B => ∃ L, (Q v B.U.heap L ∧ CHx Z EL xs B.U.vm B.U.heap) ∧ B.locs = A.locs ++ L ∧ B.cells = A.cells + rm.cells ∧ B.slots = A.slots + rm.slots) := by
  refine BackS.of_freeW (bytes := bytes) (maxL := maxL) (ret := ret) (E := fun _ _ o t L k n => k = rm.cells ∧ n = rm.slots ∧ ∃ v, o = .returned v ∧ (Q v t.heap L ∧ CHx Z EL xs t.vm t.heap)) hM hf hl ?_ ?_ (fun _ _ _ _ _ _ _ _ _ => trivial) ?_ ?_
  · intro m meth c A a Y hp
    have hU : Z.Warmed39 A.U.vm := wtrans hZ Y.warmed
    exact ⟨by show (Cond.and _ .tt).before a A.U = true; rw [Cond.before_and, mv hU wc]; rfl, mv hU wc, mv hU wz, hp.2.2.1, hp.2.2.2.1⟩
  · intro m meth c A a g mk Y hp
    exact ⟨hp.1, wtrans hZ Y.warmed, hp.2.1, hp.2.2.2.2⟩
  · rintro a f o t ⟨v, L, h1, h2, h3⟩
    exact ⟨L, _, _, h3, rfl, rfl, v, h1, h2⟩
  · intro m meth c A a g mk v t L k n Y hp _ _ hE
    obtain ⟨e1, e2, v', e3, e4⟩ := hE
    cases e3
    subst e1 e2
    exact ⟨L, e4, rfl, rfl, rfl⟩
theorem own_chsX {vm1 : Vm} (hZ : Z.Warmed39 s.vm) (hEL : EW Z a0 EL) (hW : s.WarmedH vm1) (H : CHx Z EL xs s.vm h) : CHx Z EL xs vm1 h := by
  have C := CHv.later (h' := h) hZ (hW := (show (Wst Z s.vm h).Warmed39 vm1 from hW.wide)) hEL ⟨Nat.le_refl _, fun _ _ q => q⟩ (Or.inl hW.interned_eq) H.1
  exact H.of ⟨C.1, Nat.le_refl _, C.2⟩
theorem Owes.retVX (X : Stand p l e R (s.setVm vm0) m args below meth c T locs cells slots) (hZ : Z.Warmed39 vm0) (hEL : EW Z a0 EL) (eT : T.heap = h) (H : CHx Z EL xs vm0 h) {k0 : Nat} (hS : s.Since vm0 k0) (hk : k0 ≤ h.size) (hx : p.tables.exec = Jvm.exec) (hlk : meth.locks = false) {pc : Nat} {Ls : Array Slot} (hret : meth.sig.returnType = none)
    (hd : decode c.code pc = .ok (.return_, 1)) (hc : cells ≤ C) (hs : slots ≤ N) (hq : Q none T.heap locs) : Owes p e below (EndX Z EL xs s Q C N) (T.setTop (mkF m pc Ls [])) := by
  subst eT
  exact own_endX X hZ hEL H hS hk hlk (fun _ => rfl) hc hs hq fun fs hr => X.returnOut hx hret hd hr
/-- a constructor that may load constants, by its contract -/
theorem Owes.callCX (X : Stand p l e R (s.setVm vm0) m args below meth c T locs cells slots) (hx : p.tables.exec = Jvm.exec) {own : String} (hZ : Z.Warmed39 (s.setVm vm0).vm) (hEL : EW Z a0 EL) (H : CHx Z EL xs vm0 h) {k0 : Nat} (hS : s.Since vm0 k0) (hk : k0 ≤ h.size) {index : Nat} {y : MethodName} {bytes : ByteArray} {maxL : Nat} {rm : Room} (hy1 : y.name = "<init>")
    (hown : (s.setVm vm0).vm.findClass own = some m.cls) (w1 : (Cond.methodLink own index y).before a0 Z = true) (w2 : (Cond.instanceMethod y).before a0 Z = true) (w3 : (Cond.initialized y.cls).before a0 Z = true) (w4 : (Cond.code y bytes maxL none).before a0 Z = true)
    (hy : y.cls ≠ "java/lang/invoke/MethodHandle" ∧ y.cls ≠ "java/lang/invoke/VarHandle") {pc : Nat} {Ls : Array Slot} {a : Addr} {argsL rest : List Value} {Q' : Option Value → Heap → List Loc → Prop} (M : OMetX l y bytes maxL none [] rm (.ref a :: argsL).toArray Z EL xs h Q') (eT : T.heap = h) (hsize : Ls.size = c.maxLocals)
    {ps : List FieldType} {rt : Option FieldType} (hpd : parseMethodDescriptor y.desc = some ⟨ps, rt⟩) (hln : argsL.length = ps.length) {st : List Value} (hst : st = argsL.reverse ++ .ref a :: rest) (hd : decode c.code pc = .ok (.invokespecial index, 3))
    (hf : rm.frames + 1 ≤ R.frames) (hl : (rest.map fun v => v.category).sum + (maxL + 11) + rm.locals ≤ R.locals) (hcl : cells + rm.cells ≤ R.cells) (hsl : slots + rm.slots ≤ R.slots)
    (k : ∀ (T' : State) (v : Option Value) (L : List Loc), Stand p l e R (s.setVm T'.vm) m args below meth c T' (locs ++ L) (cells + rm.cells) (slots + rm.slots) → s.Since T'.vm T'.heap.size → h.size ≤ T'.heap.size → Z.Warmed39 (s.setVm T'.vm).vm → (s.setVm T'.vm).vm.findClass own = some m.cls → CHx Z EL xs T'.vm T'.heap → Q' v T'.heap L → Owes p e below F (T'.setTop (mkF m (pc + 3) Ls (v.toList ++ rest)))) :
    Owes p e below F (T.setTop (mkF m pc Ls st)) := by
  subst hst
  obtain ⟨v, _, ⟨T3, L3, k3, n3⟩, -, X3, hS3, hg3, ⟨Lc3, ⟨hQ3, hC3⟩, l3, y3, z3⟩, st3⟩ := X.specialBackS hx (y := y) hy1 hown (mvT hZ w1) (mvT hZ w2) (mvT hZ w4) hy (own_backX (W := (rest.map fun v => v.category).sum) M hZ w4 w3 hf hl) (g := mkF m pc Ls (argsL.reverse ++ .ref a :: rest)) rfl hsize (Steps.refl _) (a := a) (argsL := argsL) (rest := rest) (lenOf hpd hln) rfl (by show 2 * 0 + _ ≤ _; omega) hd (fun vm₁ hW => ⟨rfl, eT, hcl, hsl, own_chsX hZ hEL hW H⟩)
  dsimp only [Pt.U, Pt.locs, Pt.cells, Pt.slots] at X3 l3 y3 z3 st3 hQ3 hS3 hg3 hC3
  subst l3 y3 z3
  have hS' : s.Since T3.vm T3.heap.size := hS.trans hS3 (by rw [eT] at hg3; exact Nat.le_trans hk hg3)
  exact (k T3 v Lc3 X3 hS' (by rw [← eT]; exact hg3) (State.Warmed39.trans (t := s.setVm vm0) hZ hS3.1) (by rw [show (s.setVm T3.vm).vm = T3.vm from rfl, hS3.1.alike.findClass]; exact hown) hC3 hQ3).tr st3
/-- an instance method that may load constants, by its contract -/
theorem Owes.callVX (X : Stand p l e R (s.setVm vm0) m args below meth c T locs cells slots) (hx : p.tables.exec = Jvm.exec) {own CR : String} (hZ : Z.Warmed39 (s.setVm vm0).vm) (hEL : EW Z a0 EL) (H : CHx Z EL xs vm0 h) {k0 : Nat} (hS : s.Since vm0 k0) (hk : k0 ≤ h.size) {index : Nat} {y z : MethodName} {bytes : ByteArray} {maxL : Nat} {ret : Option FieldType} {rm : Room}
    (hown : (s.setVm vm0).vm.findClass own = some m.cls) (w1 : (Cond.methodLink own index y).before a0 Z = true) (w2 : (Cond.declares y).before a0 Z = true) (hnf : NotFace (s.setVm vm0) y) (w5 : (Cond.selects CR y z).before a0 Z = true) (w6 : (Cond.instanceMethod z).before a0 Z = true) (w3 : (Cond.initialized z.cls).before a0 Z = true) (w4 : (Cond.code z bytes maxL ret).before a0 Z = true)
    (hy : y.cls ≠ "java/lang/invoke/MethodHandle" ∧ y.cls ≠ "java/lang/invoke/VarHandle") {pc : Nat} {Ls : Array Slot} {a : Addr} {argsL rest : List Value} {Q' : Option Value → Heap → List Loc → Prop} (M : OMetX l z bytes maxL ret [] rm (.ref a :: argsL).toArray Z EL xs h Q') (eT : T.heap = h) (E : Exa Z h a CR) (hsize : Ls.size = c.maxLocals)
    {ps : List FieldType} {rt : Option FieldType} (hpd : parseMethodDescriptor y.desc = some ⟨ps, rt⟩) (hln : argsL.length = ps.length) {st : List Value} (hst : st = argsL.reverse ++ .ref a :: rest) (hd : decode c.code pc = .ok (.invokevirtual index, 3))
    (hf : rm.frames + 1 ≤ R.frames) (hl : (rest.map fun v => v.category).sum + (maxL + 11) + rm.locals ≤ R.locals) (hcl : cells + rm.cells ≤ R.cells) (hsl : slots + rm.slots ≤ R.slots)
    (k : ∀ (T' : State) (v : Option Value) (L : List Loc), Stand p l e R (s.setVm T'.vm) m args below meth c T' (locs ++ L) (cells + rm.cells) (slots + rm.slots) → s.Since T'.vm T'.heap.size → h.size ≤ T'.heap.size → Z.Warmed39 (s.setVm T'.vm).vm → (s.setVm T'.vm).vm.findClass own = some m.cls → CHx Z EL xs T'.vm T'.heap → Q' v T'.heap L → Owes p e below F (T'.setTop (mkF m (pc + 3) Ls (v.toList ++ rest)))) :
    Owes p e below F (T.setTop (mkF m pc Ls st)) := by
  subst hst
  obtain ⟨cq, kq, qa, qb, qc⟩ := isOf hZ eT E
  obtain ⟨v, _, ⟨T3, L3, k3, n3⟩, -, X3, hS3, hg3, ⟨Lc3, ⟨hQ3, hC3⟩, l3, y3, z3⟩, st3⟩ := X.virtualBackS hx (y := y) (z := z) hown (mvT hZ w1) (mvT hZ w2) hnf (mvT hZ w5) (mvT hZ w6) hy (own_backX (W := (rest.map fun v => v.category).sum) M hZ w4 w3 hf hl) qa qc (g := mkF m pc Ls (argsL.reverse ++ .ref a :: rest)) rfl hsize (Steps.refl _) (argsL := argsL) (rest := rest) (lenOf hpd hln) rfl (by show 2 * 0 + _ ≤ _; omega) hd (fun vm₁ hW => ⟨rfl, eT, hcl, hsl, own_chsX hZ hEL hW H⟩)
  dsimp only [Pt.U, Pt.locs, Pt.cells, Pt.slots] at X3 l3 y3 z3 st3 hQ3 hS3 hg3 hC3
  subst l3 y3 z3
  have hS' : s.Since T3.vm T3.heap.size := hS.trans hS3 (by rw [eT] at hg3; exact Nat.le_trans hk hg3)
  exact (k T3 v Lc3 X3 hS' (by rw [← eT]; exact hg3) (State.Warmed39.trans (t := s.setVm vm0) hZ hS3.1) (by rw [show (s.setVm T3.vm).vm = T3.vm from rfl, hS3.1.alike.findClass]; exact hown) hC3 hQ3).tr st3
/-- a static method that may load constants, by its contract -/
theorem Owes.callSX (X : Stand p l e R (s.setVm vm0) m args below meth c T locs cells slots) (hx : p.tables.exec = Jvm.exec) {own : String} (hZ : Z.Warmed39 (s.setVm vm0).vm) (hEL : EW Z a0 EL) (H : CHx Z EL xs vm0 h) {k0 : Nat} (hS : s.Since vm0 k0) (hk : k0 ≤ h.size) {index : Nat} {y : MethodName} {bytes : ByteArray} {maxL : Nat} {ret : Option FieldType} {rm : Room}
    (hown : (s.setVm vm0).vm.findClass own = some m.cls) (w1 : (Cond.methodLink own index y).before a0 Z = true) (w2 : (Cond.static y).before a0 Z = true) (w3 : (Cond.initialized y.cls).before a0 Z = true) (w4 : (Cond.code y bytes maxL ret).before a0 Z = true)
    (hy : y.cls ≠ "java/lang/invoke/MethodHandle" ∧ y.cls ≠ "java/lang/invoke/VarHandle") {pc : Nat} {Ls : Array Slot} {argsL rest : List Value} {Q' : Option Value → Heap → List Loc → Prop} (M : OMetX l y bytes maxL ret [] rm argsL.toArray Z EL xs h Q') (eT : T.heap = h) (hsize : Ls.size = c.maxLocals)
    {ps : List FieldType} {rt : Option FieldType} (hpd : parseMethodDescriptor y.desc = some ⟨ps, rt⟩) (hln : argsL.length = ps.length) {st : List Value} (hst : st = argsL.reverse ++ rest) (hd : decode c.code pc = .ok (.invokestatic index, 3))
    (hf : rm.frames + 1 ≤ R.frames) (hl : (rest.map fun v => v.category).sum + (maxL + 11) + rm.locals ≤ R.locals) (hcl : cells + rm.cells ≤ R.cells) (hsl : slots + rm.slots ≤ R.slots)
    (k : ∀ (T' : State) (v : Option Value) (L : List Loc), Stand p l e R (s.setVm T'.vm) m args below meth c T' (locs ++ L) (cells + rm.cells) (slots + rm.slots) → s.Since T'.vm T'.heap.size → h.size ≤ T'.heap.size → Z.Warmed39 (s.setVm T'.vm).vm → (s.setVm T'.vm).vm.findClass own = some m.cls → CHx Z EL xs T'.vm T'.heap → Q' v T'.heap L → Owes p e below F (T'.setTop (mkF m (pc + 3) Ls (v.toList ++ rest)))) :
    Owes p e below F (T.setTop (mkF m pc Ls st)) := by
  subst hst
  obtain ⟨mk, hn⟩ := Cond.code_named (mvT (args := args) hZ w4)
  obtain ⟨methM, cM, hm, -, -, -, -, -, -, hsig⟩ := Cond.code_spec hn (mvT (args := args) hZ w4)
  obtain ⟨v, _, ⟨T3, L3, k3, n3⟩, -, X3, hS3, hg3, ⟨Lc3, ⟨hQ3, hC3⟩, l3, y3, z3⟩, st3⟩ := X.staticBackS hx (y := y) hown (mvT hZ w1) (mvT hZ w2) (mvT hZ w3) hn hm hsig hy (own_backX (W := (rest.map fun v => v.category).sum) M hZ w4 w3 hf hl) (g := mkF m pc Ls (argsL.reverse ++ rest)) rfl hsize (Steps.refl _) (argsL := argsL) (rest := rest) (lenOf hpd hln) rfl (by show 2 * 0 + _ ≤ _; omega) hd (fun vm₁ hW => ⟨rfl, eT, hcl, hsl, own_chsX hZ hEL hW H⟩)
  dsimp only [Pt.U, Pt.locs, Pt.cells, Pt.slots] at X3 l3 y3 z3 st3 hQ3 hS3 hg3 hC3
  subst l3 y3 z3
  have hS' : s.Since T3.vm T3.heap.size := hS.trans hS3 (by rw [eT] at hg3; exact Nat.le_trans hk hg3)
  exact (k T3 v Lc3 X3 hS' (by rw [← eT]; exact hg3) (State.Warmed39.trans (t := s.setVm vm0) hZ hS3.1) (by rw [show (s.setVm T3.vm).vm = T3.vm from rfl, hS3.1.alike.findClass]; exact hown) hC3 hQ3).tr st3
/-- a String constant, read -/
theorem Owes.ldcX (X : Stand p l e R (s.setVm vm0) m args below meth c T locs cells slots) (hx : p.tables.exec = Jvm.exec) {own text : String} {index : Nat} (hZ : Z.Warmed39 (s.setVm vm0).vm) (hown : (s.setVm vm0).vm.findClass own = some m.cls) (w : (Cond.stringLink own index text).before a0 Z = true) (wS : ∀ a ∈ Bundle.stringAtoms, a.before a0 Z = true)
    (eT : T.heap = h) {k0 : Nat} (hS : s.Since vm0 k0) (hk : k0 ≤ h.size) (hEL : EW Z a0 EL) (hmem : (own, index) ∈ EL) (H : CHx Z EL xs vm0 h) {vs : List Value} {z : Int32} (ht : (∀ c ∈ text.toList, c.toNat < 256) ∧ text.toList.map (fun c => Value.int (Jvm.Lit.byteI c.toNat.toUInt16)) = vs) (hz : ¬ z < 0) (hl : z.toNatClampNeg = vs.length)
    {pc : Nat} {Ls : Array Slot} {st : List Value} (hd : decode c.code pc = .ok (.ldc index, 2)) {n : Nat} (hn : 4 * text.toList.length ≤ n) (hbig : n ≤ 536870912) (hcl : cells + 2 ≤ R.cells) (hsl : slots + (n + 4) ≤ R.slots)
    (k : ∀ (a : Addr) (T' : State) (h' : Heap) (k1 : Nat) (b : Addr) (kc : ClassId), Stand p l e R (s.setVm T'.vm) m args below meth c T' locs (cells + 2) (slots + (n + 4)) → T'.heap = h' → Ext h h' → s.Since T'.vm k1 → k1 ≤ h'.size → Z.Warmed39 (s.setVm T'.vm).vm → (s.setVm T'.vm).vm.findClass own = some m.cls →
      Exa Z h' a "java/lang/String" → Fld Z h' a "java/lang/String" "coder" "B" (.int 0) → Fld Z h' a "java/lang/String" "value" "[B" (.ref b) → Arv Z h' b kc .byte z vs (.int 0) → CHx Z EL xs T'.vm h' → Owes p e below F (T'.setTop (mkF m (pc + 2) Ls (.ref a :: st)))) : Owes p e below F (T.setTop (mkF m pc Ls st)) := by
  obtain ⟨a, T', h', k1, b, kc, r1, r2, r3, r4, r5, r6, r7, r8, r9, r10, r11, r12, r13, r14, r15, r16, stp⟩ := ldcCH X hx hZ hown w wS eT hS hk hEL hmem H.1 ht hz hl (g := mkF m pc Ls st) rfl hd hn hbig hcl hsl
  exact (k a T' h' k1 b kc r1 r2 r3 r4 r5 r6 r7 r8 r9 r10 r11 (H.of r14)).go stp
end OwnStrX

abbrev EL0 : List (String × Nat) := [("com/example/herring/herring/acl/SchemeNamedPinLaw", 7), ("com/example/herring/herring/acl/SchemeNamedPinLaw", 9), ("com/example/herring/herring/acl/SchemeNamedPinLaw", 11), ("com/example/herring/herring/acl/SchemeNamedPinLaw", 13), ("java/lang/String", 7)]
theorem own_wS (Z : State) (a0 : Array Value) (hw : ∀ d ∈ tables_1, d.before a0 Z = true) : ∀ a ∈ Bundle.stringAtoms, a.before a0 Z = true := by
  intro a ha
  simp only [Bundle.stringAtoms, List.mem_cons, List.not_mem_nil, or_false] at ha
  rcases ha with rfl | rfl | rfl | rfl | rfl | rfl | rfl
  all_goals first | exact hw _ (List.mem_of_getElem? (i := 1) rfl) | exact hw _ (List.mem_of_getElem? (i := 2) rfl) | exact hw _ (List.mem_of_getElem? (i := 3) rfl) | exact hw _ (List.mem_of_getElem? (i := 4) rfl) | exact hw _ (List.mem_of_getElem? (i := 5) rfl) | exact hw _ (List.mem_of_getElem? (i := 6) rfl) | exact hw _ (List.mem_of_getElem? (i := 7) rfl) | exact hw _ (List.mem_of_getElem? (i := 8) rfl) | exact hw _ (List.mem_of_getElem? (i := 9) rfl) | exact hw _ (List.mem_of_getElem? (i := 10) rfl) | exact hw _ (List.mem_of_getElem? (i := 11) rfl) | exact hw _ (List.mem_of_getElem? (i := 12) rfl) | exact hw _ (List.mem_of_getElem? (i := 13) rfl) | exact hw _ (List.mem_of_getElem? (i := 14) rfl) | exact hw _ (List.mem_of_getElem? (i := 15) rfl) | exact hw _ (List.mem_of_getElem? (i := 16) rfl) | exact hw _ (List.mem_of_getElem? (i := 18) rfl) | exact hw _ (List.mem_of_getElem? (i := 19) rfl) | exact hw _ (List.mem_of_getElem? (i := 20) rfl) | exact hw _ (List.mem_of_getElem? (i := 21) rfl) | exact hw _ (List.mem_of_getElem? (i := 22) rfl) | exact hw _ (List.mem_of_getElem? (i := 23) rfl) | exact hw _ (List.mem_of_getElem? (i := 24) rfl) | exact hw _ (List.mem_of_getElem? (i := 25) rfl) | exact hw _ (List.mem_of_getElem? (i := 26) rfl) | exact hw _ (List.mem_of_getElem? (i := 27) rfl) | exact hw _ (List.mem_of_getElem? (i := 28) rfl) | exact hw _ (List.mem_of_getElem? (i := 29) rfl) | exact hw _ (List.mem_of_getElem? (i := 30) rfl) | exact hw _ (List.mem_of_getElem? (i := 32) rfl) | exact hw _ (List.mem_of_getElem? (i := 33) rfl) | exact hw _ (List.mem_of_getElem? (i := 35) rfl) | exact hw _ (List.mem_of_getElem? (i := 51) rfl) | exact hw _ (List.mem_of_getElem? (i := 52) rfl) | exact hw _ (List.mem_of_getElem? (i := 53) rfl) | exact hw _ (List.mem_of_getElem? (i := 54) rfl) | exact hw _ (List.mem_of_getElem? (i := 55) rfl) | exact hw _ (List.mem_of_getElem? (i := 56) rfl) | exact hw _ (List.mem_of_getElem? (i := 57) rfl) | exact hw _ (List.mem_of_getElem? (i := 58) rfl) | exact hw _ (List.mem_of_getElem? (i := 59) rfl) | exact hw _ (List.mem_of_getElem? (i := 60) rfl) | exact hw _ (List.mem_of_getElem? (i := 61) rfl) | exact hw _ (List.mem_of_getElem? (i := 62) rfl) | exact hw _ (List.mem_of_getElem? (i := 63) rfl) | exact hw _ (List.mem_of_getElem? (i := 64) rfl) | exact hw _ (List.mem_of_getElem? (i := 65) rfl) | exact hw _ (List.mem_of_getElem? (i := 66) rfl) | exact hw _ (List.mem_of_getElem? (i := 67) rfl) | exact hw _ (List.mem_of_getElem? (i := 68) rfl) | exact hw _ (List.mem_of_getElem? (i := 69) rfl) | exact hw _ (List.mem_of_getElem? (i := 70) rfl) | exact hw _ (List.mem_of_getElem? (i := 71) rfl) | exact hw _ (List.mem_of_getElem? (i := 74) rfl) | exact hw _ (List.mem_of_getElem? (i := 75) rfl) | exact hw _ (List.mem_of_getElem? (i := 76) rfl) | exact hw _ (List.mem_of_getElem? (i := 77) rfl) | exact hw _ (List.mem_of_getElem? (i := 78) rfl) | exact hw _ (List.mem_of_getElem? (i := 79) rfl) | exact hw _ (List.mem_of_getElem? (i := 80) rfl) | exact hw _ (List.mem_of_getElem? (i := 81) rfl) | exact hw _ (List.mem_of_getElem? (i := 82) rfl) | exact hw _ (List.mem_of_getElem? (i := 83) rfl) | exact hw _ (List.mem_of_getElem? (i := 85) rfl) | exact hw _ (List.mem_of_getElem? (i := 86) rfl) | exact hw _ (List.mem_of_getElem? (i := 87) rfl) | exact hw _ (List.mem_of_getElem? (i := 88) rfl) | exact hw _ (List.mem_of_getElem? (i := 89) rfl) | exact hw _ (List.mem_of_getElem? (i := 90) rfl) | exact hw _ (List.mem_of_getElem? (i := 93) rfl) | exact hw _ (List.mem_of_getElem? (i := 94) rfl) | exact hw _ (List.mem_of_getElem? (i := 95) rfl) | exact hw _ (List.mem_of_getElem? (i := 96) rfl) | exact hw _ (List.mem_of_getElem? (i := 97) rfl) | exact hw _ (List.mem_of_getElem? (i := 98) rfl) | exact hw _ (List.mem_of_getElem? (i := 99) rfl) | exact hw _ (List.mem_of_getElem? (i := 100) rfl) | exact hw _ (List.mem_of_getElem? (i := 101) rfl) | exact hw _ (List.mem_of_getElem? (i := 102) rfl) | exact hw _ (List.mem_of_getElem? (i := 103) rfl) | exact hw _ (List.mem_of_getElem? (i := 104) rfl) | exact hw _ (List.mem_of_getElem? (i := 105) rfl) | exact hw _ (List.mem_of_getElem? (i := 106) rfl) | exact hw _ (List.mem_of_getElem? (i := 107) rfl) | exact hw _ (List.mem_of_getElem? (i := 108) rfl) | exact hw _ (List.mem_of_getElem? (i := 109) rfl) | exact hw _ (List.mem_of_getElem? (i := 111) rfl) | exact hw _ (List.mem_of_getElem? (i := 118) rfl)
theorem own_EW (Z : State) (a0 : Array Value) (hw : ∀ d ∈ tables_1, d.before a0 Z = true) : EW Z a0 EL0 := (EW.cons (hw _ (List.mem_of_getElem? (i := 84) rfl)) (by decide) (EW.cons (hw _ (List.mem_of_getElem? (i := 91) rfl)) (by decide) (EW.cons (hw _ (List.mem_of_getElem? (i := 92) rfl)) (by decide) (EW.cons (hw _ (List.mem_of_getElem? (i := 0) rfl)) (by decide) (EW.cons (hw _ (List.mem_of_getElem? (i := 118) rfl)) (by decide) EW.nil)))))
theorem own_c255 {x : Int32} (h : 0 ≤ x.toInt ∧ x.toInt < 256) : ¬ (255 : Int32) < x := by
  rw [Int32.lt_iff_toInt_lt, show (255 : Int32).toInt = 255 from rfl]; omega
theorem own_nz1 {x : Int32} {n : Nat} (h : x.toInt = (n : Int)) (h1 : 1 ≤ n) : ¬ (x = (0 : Int32)) := fun q => by
  rw [q, show (0 : Int32).toInt = 0 from rfl] at h
  omega
theorem own_ni1' {a x : Nat} (h1 : a ≠ x) : a ∉ [x] := by simp [h1]
theorem d4_0 : decode jdk_42_method_152_code 0 = .ok (.getstatic 38, 3) := by decide +kernel
theorem d4_3 : decode jdk_42_method_152_code 3 = .ok (.ifCond .eq 10, 3) := by decide +kernel
theorem d4_6 : decode jdk_42_method_152_code 6 = .ok (.aload_n 0, 1) := by decide +kernel
theorem d4_7 : decode jdk_42_method_152_code 7 = .ok (.getfield 15, 3) := by decide +kernel
theorem d4_10 : decode jdk_42_method_152_code 10 = .ok (.goto 4, 3) := by decide +kernel
theorem d4_14 : decode jdk_42_method_152_code 14 = .ok (.ireturn, 1) := by decide +kernel
theorem ef_coder (m : MethodId) (r0 : Addr)  : entryFrame m #[(.ref r0)] 1 = mkF m 0 #[.val (.ref r0)] [] := by (first | (simp [entryFrame, mkF, argsToLocals, Value.category]; done) | rfl)
theorem pn_4 : plainFor (⟨"java/lang/String", "coder", "()B"⟩ : MethodName) = true := plainFor_of_name (by first | (simp [plainName, overriddenIn]; done) | decide +kernel)
set_option maxRecDepth 65536 in
set_option maxHeartbeats 40000000 in
theorem rm_coder (l : Launch) (Z : State) (a0 : Array Value) (hw : ∀ d ∈ tables_1, d.before a0 Z = true) (ws : List Jvm.Cond) (r0 : Addr) (h0 : Heap) (b : Addr) (n : Nat) (c_ : Nat → Int32) (S : STR Z h0 r0 b n c_) (zn : Int32) (hzn : zn.toInt = (n : Int)) (cs : Int32) (SC : Sta Z h0 "java/lang/String" "COMPACT_STRINGS" "Z" (.int cs)) (hcs : ¬ cs = (0 : Int32)) :
    OMet l (⟨"java/lang/String", "coder", "()B"⟩ : MethodName) jdk_42_method_152_code 1 (some .byte) ws ({ frames := 0, cells := 0, slots := 0, locals := 0 } : Room) #[(.ref r0)] Z h0 (fun v h L => v = some (.int (0 : Int32)) ∧ L = [] ∧ h = h0) := by
  refine OMet.of pn_4 (fun m => ef_coder m r0 ) ?_
  intro p e s m below meth c s₁ hx hby hml hown hnm hret hlk hZ X0 e0
  obtain ⟨T1, X1, e1, st1⟩ := getS2 X0 hx hZ hown (host := "") (Or.inl (hw _ (List.mem_of_getElem? (i := 29) rfl))) Via.refl e0 SC (g := (mkF m 0 #[.val (.ref r0)] [])) rfl (hb hby d4_0)
  refine Owes.go ?_ st1
  show Owes _ _ _ _ (T1.setTop (mkF m 3 #[.val (.ref r0)] [(.int cs)]))
  refine Owes.go ?_ fun t₀ k₀ => XS.ifNo X1.here hx rfl (hb hby d4_3) rfl ((if0 _ _).trans (feq hcs).1) k₀
  show Owes _ _ _ _ (T1.setTop (mkF m 6 #[.val (.ref r0)] []))
  refine Owes.go ?_ fun t₀ k₀ => XS.aloadN X1.here hx rfl (hb hby d4_6) rfl rfl k₀
  show Owes _ _ _ _ (T1.setTop (mkF m 7 #[.val (.ref r0)] [(.ref r0)]))
  obtain ⟨T2, X2, e2, st2⟩ := getF X1 hx hZ hown (host := "") (Or.inl (hw _ (List.mem_of_getElem? (i := 30) rfl))) Via.refl e1 S.2.1 (g := (mkF m 7 #[.val (.ref r0)] [(.ref r0)])) rfl rfl (hb hby d4_7)
  refine Owes.go ?_ st2
  show Owes _ _ _ _ (T2.setTop (mkF m 10 #[.val (.ref r0)] [(.int (0 : Int32))]))
  refine Owes.go ?_ fun t₀ k₀ => XS.goto X2.here hx rfl (pc0 := 10) (pc' := 14) rfl (hb hby d4_10) (by decide) (by decide) k₀
  show Owes _ _ _ _ (T2.setTop (mkF m 14 #[.val (.ref r0)] [(.int (0 : Int32))]))
  exact Owes.retN X2 hx hlk hret (by simp) (hb hby d4_14) (by decide) (by decide) ⟨congrArg (fun z => some (Value.int z)) (by decide), rfl, e2⟩
theorem d17_0 : decode jdk_42_method_154_code 0 = .ok (.getstatic 38, 3) := by decide +kernel
theorem d17_3 : decode jdk_42_method_154_code 3 = .ok (.ifCond .eq 14, 3) := by decide +kernel
theorem d17_6 : decode jdk_42_method_154_code 6 = .ok (.aload_n 0, 1) := by decide +kernel
theorem d17_7 : decode jdk_42_method_154_code 7 = .ok (.getfield 15, 3) := by decide +kernel
theorem d17_10 : decode jdk_42_method_154_code 10 = .ok (.ifCond .ne 7, 3) := by decide +kernel
theorem d17_13 : decode jdk_42_method_154_code 13 = .ok (.iconst 1, 1) := by decide +kernel
theorem d17_14 : decode jdk_42_method_154_code 14 = .ok (.goto 4, 3) := by decide +kernel
theorem d17_18 : decode jdk_42_method_154_code 18 = .ok (.ireturn, 1) := by decide +kernel
theorem ef_lat (m : MethodId) (r0 : Addr)  : entryFrame m #[(.ref r0)] 1 = mkF m 0 #[.val (.ref r0)] [] := by (first | (simp [entryFrame, mkF, argsToLocals, Value.category]; done) | rfl)
theorem pn_17 : plainFor (⟨"java/lang/String", "isLatin1", "()Z"⟩ : MethodName) = true := plainFor_of_name (by first | (simp [plainName, overriddenIn]; done) | decide +kernel)
set_option maxRecDepth 65536 in
set_option maxHeartbeats 40000000 in
theorem rm_lat (l : Launch) (Z : State) (a0 : Array Value) (hw : ∀ d ∈ tables_1, d.before a0 Z = true) (ws : List Jvm.Cond) (r0 : Addr) (h0 : Heap) (b : Addr) (n : Nat) (c_ : Nat → Int32) (S : STR Z h0 r0 b n c_) (zn : Int32) (hzn : zn.toInt = (n : Int)) (cs : Int32) (SC : Sta Z h0 "java/lang/String" "COMPACT_STRINGS" "Z" (.int cs)) (hcs : ¬ cs = (0 : Int32)) :
    OMet l (⟨"java/lang/String", "isLatin1", "()Z"⟩ : MethodName) jdk_42_method_154_code 1 (some .boolean) ws ({ frames := 0, cells := 0, slots := 0, locals := 0 } : Room) #[(.ref r0)] Z h0 (fun v h L => v = some (.int (1 : Int32)) ∧ L = [] ∧ h = h0) := by
  refine OMet.of pn_17 (fun m => ef_lat m r0 ) ?_
  intro p e s m below meth c s₁ hx hby hml hown hnm hret hlk hZ X0 e0
  obtain ⟨T3, X3, e3, st3⟩ := getS2 X0 hx hZ hown (host := "") (Or.inl (hw _ (List.mem_of_getElem? (i := 29) rfl))) Via.refl e0 SC (g := (mkF m 0 #[.val (.ref r0)] [])) rfl (hb hby d17_0)
  refine Owes.go ?_ st3
  show Owes _ _ _ _ (T3.setTop (mkF m 3 #[.val (.ref r0)] [(.int cs)]))
  refine Owes.go ?_ fun t₀ k₀ => XS.ifNo X3.here hx rfl (hb hby d17_3) rfl ((if0 _ _).trans (feq hcs).1) k₀
  show Owes _ _ _ _ (T3.setTop (mkF m 6 #[.val (.ref r0)] []))
  refine Owes.go ?_ fun t₀ k₀ => XS.aloadN X3.here hx rfl (hb hby d17_6) rfl rfl k₀
  show Owes _ _ _ _ (T3.setTop (mkF m 7 #[.val (.ref r0)] [(.ref r0)]))
  obtain ⟨T4, X4, e4, st4⟩ := getF X3 hx hZ hown (host := "") (Or.inl (hw _ (List.mem_of_getElem? (i := 30) rfl))) Via.refl e3 S.2.1 (g := (mkF m 7 #[.val (.ref r0)] [(.ref r0)])) rfl rfl (hb hby d17_7)
  refine Owes.go ?_ st4
  show Owes _ _ _ _ (T4.setTop (mkF m 10 #[.val (.ref r0)] [(.int (0 : Int32))]))
  refine Owes.go ?_ fun t₀ k₀ => XS.ifNo X4.here hx rfl (hb hby d17_10) rfl ((if0 _ _).trans (teq (by decide : ((0 : Int32) = (0 : Int32)))).2) k₀
  show Owes _ _ _ _ (T4.setTop (mkF m 13 #[.val (.ref r0)] []))
  refine Owes.go ?_ fun t₀ k₀ => XS.iconst X4.here hx rfl (hb hby d17_13) k₀
  show Owes _ _ _ _ (T4.setTop (mkF m 14 #[.val (.ref r0)] [(.int (1 : Int32))]))
  refine Owes.go ?_ fun t₀ k₀ => XS.goto X4.here hx rfl (pc0 := 14) (pc' := 18) rfl (hb hby d17_14) (by decide) (by decide) k₀
  show Owes _ _ _ _ (T4.setTop (mkF m 18 #[.val (.ref r0)] [(.int (1 : Int32))]))
  exact Owes.retN X4 hx hlk hret (by simp) (hb hby d17_18) (by decide) (by decide) ⟨congrArg (fun z => some (Value.int z)) (by decide), rfl, e4⟩
theorem d3_0 : decode jdk_42_method_54_code 0 = .ok (.aload_n 0, 1) := by decide +kernel
theorem d3_1 : decode jdk_42_method_54_code 1 = .ok (.getfield 9, 3) := by decide +kernel
theorem d3_4 : decode jdk_42_method_54_code 4 = .ok (.arraylength, 1) := by decide +kernel
theorem d3_5 : decode jdk_42_method_54_code 5 = .ok (.aload_n 0, 1) := by decide +kernel
theorem d3_6 : decode jdk_42_method_54_code 6 = .ok (.invokevirtual 335, 3) := by decide +kernel
theorem pd_0 : parseMethodDescriptor "()B" = some ⟨[], some .byte⟩ := by decide +kernel
theorem d3_9 : decode jdk_42_method_54_code 9 = .ok (.ishr, 1) := by decide +kernel
theorem d3_10 : decode jdk_42_method_54_code 10 = .ok (.ireturn, 1) := by decide +kernel
theorem ef_len (m : MethodId) (r0 : Addr)  : entryFrame m #[(.ref r0)] 1 = mkF m 0 #[.val (.ref r0)] [] := by (first | (simp [entryFrame, mkF, argsToLocals, Value.category]; done) | rfl)
theorem pn_3 : plainFor (⟨"java/lang/String", "length", "()I"⟩ : MethodName) = true := plainFor_of_name (by first | (simp [plainName, overriddenIn]; done) | decide +kernel)
set_option maxRecDepth 65536 in
set_option maxHeartbeats 40000000 in
theorem rm_len (l : Launch) (Z : State) (a0 : Array Value) (hw : ∀ d ∈ tables_1, d.before a0 Z = true) (ws : List Jvm.Cond) (r0 : Addr) (h0 : Heap) (b : Addr) (n : Nat) (c_ : Nat → Int32) (S : STR Z h0 r0 b n c_) (zn : Int32) (hzn : zn.toInt = (n : Int)) (cs : Int32) (SC : Sta Z h0 "java/lang/String" "COMPACT_STRINGS" "Z" (.int cs)) (hcs : ¬ cs = (0 : Int32)) :
    OMet l (⟨"java/lang/String", "length", "()I"⟩ : MethodName) jdk_42_method_54_code 1 (some .int) ws ({ frames := 1, cells := 0, slots := 0, locals := 14 } : Room) #[(.ref r0)] Z h0 (fun v h L => v = some (.int zn) ∧ L = [] ∧ h = h0) := by
  refine OMet.of pn_3 (fun m => ef_len m r0 ) ?_
  intro p e s m below meth c s₁ hx hby hml hown hnm hret hlk hZ X0 e0
  refine Owes.go ?_ fun t₀ k₀ => XS.aloadN X0.here hx rfl (hb hby d3_0) rfl rfl k₀
  show Owes _ _ _ _ (s₁.setTop (mkF m 1 #[.val (.ref r0)] [(.ref r0)]))
  obtain ⟨T5, X5, e5, st5⟩ := getF X0 hx hZ hown (host := "") (Or.inl (hw _ (List.mem_of_getElem? (i := 13) rfl))) Via.refl e0 S.2.2.1 (g := (mkF m 1 #[.val (.ref r0)] [(.ref r0)])) rfl rfl (hb hby d3_1)
  refine Owes.go ?_ st5
  show Owes _ _ _ _ (T5.setTop (mkF m 4 #[.val (.ref r0)] [(.ref b)]))
  refine Owes.glen X5 hx hZ e5 S.2.2.2 (z := zn) hzn (hb hby d3_4) ?_
  show Owes _ _ _ _ (T5.setTop (mkF m 5 #[.val (.ref r0)] [(.int zn)]))
  refine Owes.go ?_ fun t₀ k₀ => XS.aloadN X5.here hx rfl (hb hby d3_5) rfl rfl k₀
  show Owes _ _ _ _ (T5.setTop (mkF m 6 #[.val (.ref r0)] [(.ref r0), (.int zn)]))
  refine Owes.callV X5 hx hZ hown (hw _ (List.mem_of_getElem? (i := 24) rfl)) (hw _ (List.mem_of_getElem? (i := 25) rfl)) (notFace_of_selects (args := #[]) (mvT hZ (hw _ (List.mem_of_getElem? (i := 27) rfl)))) (hw _ (List.mem_of_getElem? (i := 27) rfl)) (hw _ (List.mem_of_getElem? (i := 26) rfl)) (hw _ (List.mem_of_getElem? (i := 1) rfl)) (hw _ (List.mem_of_getElem? (i := 28) rfl)) (by decide) (a := r0) (argsL := []) (rest := [(.int zn)]) (rm_coder l Z a0 hw [] r0  h0 b n c_ S zn hzn cs SC hcs) e5 S.1 (by rw [hml]; rfl) pd_0 rfl rfl (hb hby d3_6) (by decide) (Nat.le_of_ble_eq_true rfl) (by decide) (by decide) ?_
  rintro T6 _ _ X6 ⟨rfl, rfl, e6⟩
  rw [List.append_nil] at X6
  show Owes _ _ _ _ (T6.setTop (mkF m 9 #[.val (.ref r0)] [(.int (0 : Int32)), (.int zn)]))
  refine Owes.go ?_ fun t₀ k₀ => XS.ishr X6.here hx rfl (hb hby d3_9) rfl k₀
  show Owes _ _ _ _ (T6.setTop (mkF m 10 #[.val (.ref r0)] [(.int (zn >>> ((0 : Int32) &&& 31)))]))
  exact Owes.retI X6 hx hlk hret (hb hby d3_10) (by decide) (by decide) ⟨congrArg (fun z => some (Value.int z)) (own_sh0 zn), rfl, e6⟩
theorem d20_0 : decode jdk_41_method_11_code 0 = .ok (.iload_n 0, 1) := by decide +kernel
theorem d20_1 : decode jdk_41_method_11_code 1 = .ok (.ifCond .lt 8, 3) := by decide +kernel
theorem d20_4 : decode jdk_41_method_11_code 4 = .ok (.iload_n 0, 1) := by decide +kernel
theorem d20_5 : decode jdk_41_method_11_code 5 = .ok (.iload_n 1, 1) := by decide +kernel
theorem d20_6 : decode jdk_41_method_11_code 6 = .ok (.if_icmp .lt 10, 3) := by decide +kernel
theorem d20_16 : decode jdk_41_method_11_code 16 = .ok (.iload_n 0, 1) := by decide +kernel
theorem d20_17 : decode jdk_41_method_11_code 17 = .ok (.ireturn, 1) := by decide +kernel
theorem ef_pci (m : MethodId) (p0 : Int32) (p1 : Int32) (vf : Value) (hcat_vf : vf.category = 1) : entryFrame m #[(.int p0), (.int p1), vf] 3 = mkF m 0 #[.val (.int p0), .val (.int p1), .val vf] [] := by cases vf <;> first | (exfalso; revert hcat_vf; simp [Value.category]; done) | (first | (simp [entryFrame, mkF, argsToLocals, Value.category]; done) | rfl)
theorem pn_20 : plainFor (⟨"jdk/internal/util/Preconditions", "checkIndex", "(IILjava/util/function/BiFunction;)I"⟩ : MethodName) = true := plainFor_of_name (by first | (simp [plainName, overriddenIn]; done) | decide +kernel)
set_option maxRecDepth 65536 in
set_option maxHeartbeats 40000000 in
theorem rm_pci (l : Launch) (Z : State) (a0 : Array Value) (hw : ∀ d ∈ tables_1, d.before a0 Z = true) (ws : List Jvm.Cond) (p0 : Int32) (p1 : Int32) (vf : Value) (h0 : Heap) (hcat_vf : vf.category = 1) (h1 : ¬ p0 < (0 : Int32)) (h2 : p0 < p1) :
    OMet l (⟨"jdk/internal/util/Preconditions", "checkIndex", "(IILjava/util/function/BiFunction;)I"⟩ : MethodName) jdk_41_method_11_code 3 (some .int) ws ({ frames := 0, cells := 0, slots := 0, locals := 0 } : Room) #[(.int p0), (.int p1), vf] Z h0 (fun v h L => v = some (.int p0) ∧ L = [] ∧ h = h0) := by
  refine OMet.of pn_20 (fun m => ef_pci m p0 p1 vf hcat_vf) ?_
  intro p e s m below meth c s₁ hx hby hml hown hnm hret hlk hZ X0 e0
  refine Owes.go ?_ fun t₀ k₀ => XS.iloadN X0.here hx rfl (hb hby d20_0) rfl k₀
  show Owes _ _ _ _ (s₁.setTop (mkF m 1 #[.val (.int p0), .val (.int p1), .val vf] [(.int p0)]))
  refine Owes.go ?_ fun t₀ k₀ => XS.ifNo X0.here hx rfl (hb hby d20_1) rfl ((if0 _ _).trans (flt h1).1) k₀
  show Owes _ _ _ _ (s₁.setTop (mkF m 4 #[.val (.int p0), .val (.int p1), .val vf] []))
  refine Owes.go ?_ fun t₀ k₀ => XS.iloadN X0.here hx rfl (hb hby d20_4) rfl k₀
  show Owes _ _ _ _ (s₁.setTop (mkF m 5 #[.val (.int p0), .val (.int p1), .val vf] [(.int p0)]))
  refine Owes.go ?_ fun t₀ k₀ => XS.iloadN X0.here hx rfl (hb hby d20_5) rfl k₀
  show Owes _ _ _ _ (s₁.setTop (mkF m 6 #[.val (.int p0), .val (.int p1), .val vf] [(.int p1), (.int p0)]))
  refine Owes.go ?_ fun t₀ k₀ => XS.icmpYes X0.here hx rfl (pc0 := 6) (pc' := 16) rfl (hb hby d20_6) rfl (tlt h2).1 (by decide) (by decide) k₀
  show Owes _ _ _ _ (s₁.setTop (mkF m 16 #[.val (.int p0), .val (.int p1), .val vf] []))
  refine Owes.go ?_ fun t₀ k₀ => XS.iloadN X0.here hx rfl (hb hby d20_16) rfl k₀
  show Owes _ _ _ _ (s₁.setTop (mkF m 17 #[.val (.int p0), .val (.int p1), .val vf] [(.int p0)]))
  exact Owes.retI X0 hx hlk hret (hb hby d20_17) (by decide) (by decide) ⟨congrArg (fun z => some (Value.int z)) (rfl), rfl, e0⟩
theorem d19_0 : decode jdk_42_method_155_code 0 = .ok (.iload_n 0, 1) := by decide +kernel
theorem d19_1 : decode jdk_42_method_155_code 1 = .ok (.iload_n 1, 1) := by decide +kernel
theorem d19_2 : decode jdk_42_method_155_code 2 = .ok (.getstatic 1053, 3) := by decide +kernel
theorem d19_5 : decode jdk_42_method_155_code 5 = .ok (.invokestatic 1059, 3) := by decide +kernel
theorem pd_1 : parseMethodDescriptor "(IILjava/util/function/BiFunction;)I" = some ⟨[.int, .int, (.object "java/util/function/BiFunction")], some .int⟩ := by decide +kernel
theorem d19_8 : decode jdk_42_method_155_code 8 = .ok (.pop, 1) := by decide +kernel
theorem d19_9 : decode jdk_42_method_155_code 9 = .ok (.return_, 1) := by decide +kernel
theorem ef_cki (m : MethodId) (p0 : Int32) (p1 : Int32)  : entryFrame m #[(.int p0), (.int p1)] 2 = mkF m 0 #[.val (.int p0), .val (.int p1)] [] := by (first | (simp [entryFrame, mkF, argsToLocals, Value.category]; done) | rfl)
theorem pn_19 : plainFor (⟨"java/lang/String", "checkIndex", "(II)V"⟩ : MethodName) = true := plainFor_of_name (by first | (simp [plainName, overriddenIn]; done) | decide +kernel)
set_option maxRecDepth 65536 in
set_option maxHeartbeats 40000000 in
theorem rm_cki (l : Launch) (Z : State) (a0 : Array Value) (hw : ∀ d ∈ tables_1, d.before a0 Z = true) (ws : List Jvm.Cond) (p0 : Int32) (p1 : Int32) (h0 : Heap) (vf : Value) (hcat_vf : vf.category = 1) (SF : Sta Z h0 "jdk/internal/util/Preconditions" "SIOOBE_FORMATTER" "Ljava/util/function/BiFunction;" vf) (h1 : ¬ p0 < (0 : Int32)) (h2 : p0 < p1) :
    OMet l (⟨"java/lang/String", "checkIndex", "(II)V"⟩ : MethodName) jdk_42_method_155_code 2 none ws ({ frames := 1, cells := 0, slots := 0, locals := 16 } : Room) #[(.int p0), (.int p1)] Z h0 (fun v h L => v = none ∧ L = [] ∧ h = h0) := by
  refine OMet.of pn_19 (fun m => ef_cki m p0 p1 ) ?_
  intro p e s m below meth c s₁ hx hby hml hown hnm hret hlk hZ X0 e0
  refine Owes.go ?_ fun t₀ k₀ => XS.iloadN X0.here hx rfl (hb hby d19_0) rfl k₀
  show Owes _ _ _ _ (s₁.setTop (mkF m 1 #[.val (.int p0), .val (.int p1)] [(.int p0)]))
  refine Owes.go ?_ fun t₀ k₀ => XS.iloadN X0.here hx rfl (hb hby d19_1) rfl k₀
  show Owes _ _ _ _ (s₁.setTop (mkF m 2 #[.val (.int p0), .val (.int p1)] [(.int p1), (.int p0)]))
  obtain ⟨T7, X7, e7, st7⟩ := getS2 X0 hx hZ hown (host := "") (Or.inl (hw _ (List.mem_of_getElem? (i := 109) rfl))) Via.refl e0 SF (g := (mkF m 2 #[.val (.int p0), .val (.int p1)] [(.int p1), (.int p0)])) rfl (hb hby d19_2)
  refine Owes.go ?_ st7
  show Owes _ _ _ _ (T7.setTop (mkF m 5 #[.val (.int p0), .val (.int p1)] [vf, (.int p1), (.int p0)]))
  refine Owes.callS X7 hx hZ hown (hw _ (List.mem_of_getElem? (i := 111) rfl)) (hw _ (List.mem_of_getElem? (i := 112) rfl)) (hw _ (List.mem_of_getElem? (i := 110) rfl)) (hw _ (List.mem_of_getElem? (i := 113) rfl)) (by decide) (argsL := [(.int p0), (.int p1), vf]) (rest := []) (rm_pci l Z a0 hw [] p0 p1 vf h0 hcat_vf h1 h2) e7 (by rw [hml]; rfl) pd_1 rfl rfl (hb hby d19_5) (by decide) (Nat.le_of_ble_eq_true rfl) (by decide) (by decide) ?_
  rintro T8 _ _ X8 ⟨rfl, rfl, e8⟩
  rw [List.append_nil] at X8
  show Owes _ _ _ _ (T8.setTop (mkF m 8 #[.val (.int p0), .val (.int p1)] [(.int p0)]))
  refine Owes.go ?_ fun t₀ k₀ => XS.pop X8.here hx rfl (hb hby d19_8) rfl rfl k₀
  show Owes _ _ _ _ (T8.setTop (mkF m 9 #[.val (.int p0), .val (.int p1)] []))
  exact Owes.retV X8 hx hlk hret (hb hby d19_9) (by decide) (by decide) ⟨rfl, rfl, e8⟩
theorem d18_0 : decode jdk_43_method_2_code 0 = .ok (.iload_n 1, 1) := by decide +kernel
theorem d18_1 : decode jdk_43_method_2_code 1 = .ok (.aload_n 0, 1) := by decide +kernel
theorem d18_2 : decode jdk_43_method_2_code 2 = .ok (.arraylength, 1) := by decide +kernel
theorem d18_3 : decode jdk_43_method_2_code 3 = .ok (.invokestatic 9, 3) := by decide +kernel
theorem pd_2 : parseMethodDescriptor "(II)V" = some ⟨[.int, .int], none⟩ := by decide +kernel
theorem d18_6 : decode jdk_43_method_2_code 6 = .ok (.aload_n 0, 1) := by decide +kernel
theorem d18_7 : decode jdk_43_method_2_code 7 = .ok (.iload_n 1, 1) := by decide +kernel
theorem d18_8 : decode jdk_43_method_2_code 8 = .ok (.baload, 1) := by decide +kernel
theorem d18_9 : decode jdk_43_method_2_code 9 = .ok (.sipush 255, 3) := by decide +kernel
theorem d18_12 : decode jdk_43_method_2_code 12 = .ok (.iand, 1) := by decide +kernel
theorem d18_13 : decode jdk_43_method_2_code 13 = .ok (.i2c, 1) := by decide +kernel
theorem d18_14 : decode jdk_43_method_2_code 14 = .ok (.ireturn, 1) := by decide +kernel
theorem ef_lca (m : MethodId) (r0 : Addr) (p1 : Int32)  : entryFrame m #[(.ref r0), (.int p1)] 2 = mkF m 0 #[.val (.ref r0), .val (.int p1)] [] := by (first | (simp [entryFrame, mkF, argsToLocals, Value.category]; done) | rfl)
theorem pn_18 : plainFor (⟨"java/lang/StringLatin1", "charAt", "([BI)C"⟩ : MethodName) = true := plainFor_of_name (by first | (simp [plainName, overriddenIn]; done) | decide +kernel)
set_option maxRecDepth 65536 in
set_option maxHeartbeats 40000000 in
theorem rm_lca (l : Launch) (Z : State) (a0 : Array Value) (hw : ∀ d ∈ tables_1, d.before a0 Z = true) (ws : List Jvm.Cond) (r0 : Addr) (p1 : Int32) (h0 : Heap) (n : Nat) (c_ : Nat → Int32) (G : GA Z h0 r0 .byte n (fun i => .int (c_ i).toInt8.toInt32)) (zn : Int32) (hzn : zn.toInt = (n : Int)) (vf : Value) (hcat_vf : vf.category = 1) (SF : Sta Z h0 "jdk/internal/util/Preconditions" "SIOOBE_FORMATTER" "Ljava/util/function/BiFunction;" vf) (hc8 : C8 n c_) (i : Nat) (hi : p1.toInt = (i : Int)) (hin : i < n) :
    OMet l (⟨"java/lang/StringLatin1", "charAt", "([BI)C"⟩ : MethodName) jdk_43_method_2_code 2 (some .char) ws ({ frames := 2, cells := 0, slots := 0, locals := 32 } : Room) #[(.ref r0), (.int p1)] Z h0 (fun v h L => v = some (.int (c_ i)) ∧ L = [] ∧ h = h0) := by
  refine OMet.of pn_18 (fun m => ef_lca m r0 p1 ) ?_
  intro p e s m below meth c s₁ hx hby hml hown hnm hret hlk hZ X0 e0
  refine Owes.go ?_ fun t₀ k₀ => XS.iloadN X0.here hx rfl (hb hby d18_0) rfl k₀
  show Owes _ _ _ _ (s₁.setTop (mkF m 1 #[.val (.ref r0), .val (.int p1)] [(.int p1)]))
  refine Owes.go ?_ fun t₀ k₀ => XS.aloadN X0.here hx rfl (hb hby d18_1) rfl rfl k₀
  show Owes _ _ _ _ (s₁.setTop (mkF m 2 #[.val (.ref r0), .val (.int p1)] [(.ref r0), (.int p1)]))
  refine Owes.glen X0 hx hZ e0 G (z := zn) hzn (hb hby d18_2) ?_
  show Owes _ _ _ _ (s₁.setTop (mkF m 3 #[.val (.ref r0), .val (.int p1)] [(.int zn), (.int p1)]))
  refine Owes.callS X0 hx hZ hown (hw _ (List.mem_of_getElem? (i := 106) rfl)) (hw _ (List.mem_of_getElem? (i := 107) rfl)) (hw _ (List.mem_of_getElem? (i := 1) rfl)) (hw _ (List.mem_of_getElem? (i := 108) rfl)) (by decide) (argsL := [(.int p1), (.int zn)]) (rest := []) (rm_cki l Z a0 hw [] p1 zn h0 vf hcat_vf SF (own_nat hi).1 (own_lti hi hzn hin)) e0 (by rw [hml]; rfl) pd_2 rfl rfl (hb hby d18_3) (by decide) (Nat.le_of_ble_eq_true rfl) (by decide) (by decide) ?_
  rintro T9 _ _ X9 ⟨rfl, rfl, e9⟩
  rw [List.append_nil] at X9
  show Owes _ _ _ _ (T9.setTop (mkF m 6 #[.val (.ref r0), .val (.int p1)] []))
  refine Owes.go ?_ fun t₀ k₀ => XS.aloadN X9.here hx rfl (hb hby d18_6) rfl rfl k₀
  show Owes _ _ _ _ (T9.setTop (mkF m 7 #[.val (.ref r0), .val (.int p1)] [(.ref r0)]))
  refine Owes.go ?_ fun t₀ k₀ => XS.iloadN X9.here hx rfl (hb hby d18_7) rfl k₀
  show Owes _ _ _ _ (T9.setTop (mkF m 8 #[.val (.ref r0), .val (.int p1)] [(.int p1), (.ref r0)]))
  refine Owes.gB X9 hx hZ e9 G hi hin (v := .int (c_ i).toInt8.toInt32) rfl (hb hby d18_8) ?_
  show Owes _ _ _ _ (T9.setTop (mkF m 9 #[.val (.ref r0), .val (.int p1)] [(.int (c_ i).toInt8.toInt32)]))
  refine Owes.go ?_ fun t₀ k₀ => XS.sipush X9.here hx rfl (hb hby d18_9) k₀
  show Owes _ _ _ _ (T9.setTop (mkF m 12 #[.val (.ref r0), .val (.int p1)] [(.int (255 : Int32)), (.int (c_ i).toInt8.toInt32)]))
  refine Owes.go ?_ fun t₀ k₀ => XS.iand X9.here hx rfl (hb hby d18_12) rfl k₀
  show Owes _ _ _ _ (T9.setTop (mkF m 13 #[.val (.ref r0), .val (.int p1)] [(.int ((c_ i).toInt8.toInt32 &&& (255 : Int32)))]))
  refine Owes.go ?_ fun t₀ k₀ => XS.i2c X9.here hx rfl (hb hby d18_13) rfl k₀
  show Owes _ _ _ _ (T9.setTop (mkF m 14 #[.val (.ref r0), .val (.int p1)] [(.int (((c_ i).toInt8.toInt32 &&& (255 : Int32)).toUInt32.toUInt16.toUInt32.toInt32))]))
  exact Owes.retN X9 hx hlk hret (by simp) (hb hby d18_14) (by decide) (by decide) ⟨congrArg (fun z => some (Value.int z)) (own_chr (hc8 i hin)), rfl, e9⟩
theorem d16_0 : decode jdk_42_method_56_code 0 = .ok (.aload_n 0, 1) := by decide +kernel
theorem d16_1 : decode jdk_42_method_56_code 1 = .ok (.invokevirtual 492, 3) := by decide +kernel
theorem pd_3 : parseMethodDescriptor "()Z" = some ⟨[], some .boolean⟩ := by decide +kernel
theorem d16_4 : decode jdk_42_method_56_code 4 = .ok (.ifCond .eq 12, 3) := by decide +kernel
theorem d16_7 : decode jdk_42_method_56_code 7 = .ok (.aload_n 0, 1) := by decide +kernel
theorem d16_8 : decode jdk_42_method_56_code 8 = .ok (.getfield 9, 3) := by decide +kernel
theorem d16_11 : decode jdk_42_method_56_code 11 = .ok (.iload_n 1, 1) := by decide +kernel
theorem d16_12 : decode jdk_42_method_56_code 12 = .ok (.invokestatic 495, 3) := by decide +kernel
theorem pd_4 : parseMethodDescriptor "([BI)C" = some ⟨[(.array .byte), .int], some .char⟩ := by decide +kernel
theorem d16_15 : decode jdk_42_method_56_code 15 = .ok (.ireturn, 1) := by decide +kernel
theorem ef_ca (m : MethodId) (r0 : Addr) (p1 : Int32)  : entryFrame m #[(.ref r0), (.int p1)] 2 = mkF m 0 #[.val (.ref r0), .val (.int p1)] [] := by (first | (simp [entryFrame, mkF, argsToLocals, Value.category]; done) | rfl)
theorem pn_16 : plainFor (⟨"java/lang/String", "charAt", "(I)C"⟩ : MethodName) = true := plainFor_of_name (by first | (simp [plainName, overriddenIn]; done) | decide +kernel)
set_option maxRecDepth 65536 in
set_option maxHeartbeats 40000000 in
theorem rm_ca (l : Launch) (Z : State) (a0 : Array Value) (hw : ∀ d ∈ tables_1, d.before a0 Z = true) (ws : List Jvm.Cond) (r0 : Addr) (p1 : Int32) (h0 : Heap) (b : Addr) (n : Nat) (c_ : Nat → Int32) (S : STR Z h0 r0 b n c_) (zn : Int32) (hzn : zn.toInt = (n : Int)) (cs : Int32) (SC : Sta Z h0 "java/lang/String" "COMPACT_STRINGS" "Z" (.int cs)) (hcs : ¬ cs = (0 : Int32)) (vf : Value) (hcat_vf : vf.category = 1) (SF : Sta Z h0 "jdk/internal/util/Preconditions" "SIOOBE_FORMATTER" "Ljava/util/function/BiFunction;" vf) (hc8 : C8 n c_) (i : Nat) (hi : p1.toInt = (i : Int)) (hin : i < n) :
    OMet l (⟨"java/lang/String", "charAt", "(I)C"⟩ : MethodName) jdk_42_method_56_code 2 (some .char) ws ({ frames := 3, cells := 0, slots := 0, locals := 48 } : Room) #[(.ref r0), (.int p1)] Z h0 (fun v h L => v = some (.int (c_ i)) ∧ L = [] ∧ h = h0) := by
  refine OMet.of pn_16 (fun m => ef_ca m r0 p1 ) ?_
  intro p e s m below meth c s₁ hx hby hml hown hnm hret hlk hZ X0 e0
  refine Owes.go ?_ fun t₀ k₀ => XS.aloadN X0.here hx rfl (hb hby d16_0) rfl rfl k₀
  show Owes _ _ _ _ (s₁.setTop (mkF m 1 #[.val (.ref r0), .val (.int p1)] [(.ref r0)]))
  refine Owes.callV X0 hx hZ hown (hw _ (List.mem_of_getElem? (i := 98) rfl)) (hw _ (List.mem_of_getElem? (i := 99) rfl)) (notFace_of_selects (args := #[]) (mvT hZ (hw _ (List.mem_of_getElem? (i := 101) rfl)))) (hw _ (List.mem_of_getElem? (i := 101) rfl)) (hw _ (List.mem_of_getElem? (i := 100) rfl)) (hw _ (List.mem_of_getElem? (i := 1) rfl)) (hw _ (List.mem_of_getElem? (i := 102) rfl)) (by decide) (a := r0) (argsL := []) (rest := []) (rm_lat l Z a0 hw [] r0  h0 b n c_ S zn hzn cs SC hcs) e0 S.1 (by rw [hml]; rfl) pd_3 rfl rfl (hb hby d16_1) (by decide) (Nat.le_of_ble_eq_true rfl) (by decide) (by decide) ?_
  rintro T10 _ _ X10 ⟨rfl, rfl, e10⟩
  rw [List.append_nil] at X10
  show Owes _ _ _ _ (T10.setTop (mkF m 4 #[.val (.ref r0), .val (.int p1)] [(.int (1 : Int32))]))
  refine Owes.go ?_ fun t₀ k₀ => XS.ifNo X10.here hx rfl (hb hby d16_4) rfl ((if0 _ _).trans (feq (by decide : ¬ ((1 : Int32) = (0 : Int32)))).1) k₀
  show Owes _ _ _ _ (T10.setTop (mkF m 7 #[.val (.ref r0), .val (.int p1)] []))
  refine Owes.go ?_ fun t₀ k₀ => XS.aloadN X10.here hx rfl (hb hby d16_7) rfl rfl k₀
  show Owes _ _ _ _ (T10.setTop (mkF m 8 #[.val (.ref r0), .val (.int p1)] [(.ref r0)]))
  obtain ⟨T11, X11, e11, st11⟩ := getF X10 hx hZ hown (host := "") (Or.inl (hw _ (List.mem_of_getElem? (i := 13) rfl))) Via.refl e10 S.2.2.1 (g := (mkF m 8 #[.val (.ref r0), .val (.int p1)] [(.ref r0)])) rfl rfl (hb hby d16_8)
  refine Owes.go ?_ st11
  show Owes _ _ _ _ (T11.setTop (mkF m 11 #[.val (.ref r0), .val (.int p1)] [(.ref b)]))
  refine Owes.go ?_ fun t₀ k₀ => XS.iloadN X11.here hx rfl (hb hby d16_11) rfl k₀
  show Owes _ _ _ _ (T11.setTop (mkF m 12 #[.val (.ref r0), .val (.int p1)] [(.int p1), (.ref b)]))
  refine Owes.callS X11 hx hZ hown (hw _ (List.mem_of_getElem? (i := 103) rfl)) (hw _ (List.mem_of_getElem? (i := 104) rfl)) (hw _ (List.mem_of_getElem? (i := 89) rfl)) (hw _ (List.mem_of_getElem? (i := 105) rfl)) (by decide) (argsL := [(.ref b), (.int p1)]) (rest := []) (rm_lca l Z a0 hw [] b p1 h0 n c_ S.2.2.2 zn hzn vf hcat_vf SF hc8 i hi hin) e11 (by rw [hml]; rfl) pd_4 rfl rfl (hb hby d16_12) (by decide) (Nat.le_of_ble_eq_true rfl) (by decide) (by decide) ?_
  rintro T12 _ _ X12 ⟨rfl, rfl, e12⟩
  rw [List.append_nil] at X12
  show Owes _ _ _ _ (T12.setTop (mkF m 15 #[.val (.ref r0), .val (.int p1)] [(.int (c_ i))]))
  exact Owes.retN X12 hx hlk hret (by simp) (hb hby d16_15) (by decide) (by decide) ⟨congrArg (fun z => some (Value.int z)) (own_narC (hc8 i hin)), rfl, e12⟩
theorem d1_0 : decode jdk_42_method_55_code 0 = .ok (.aload_n 0, 1) := by decide +kernel
theorem d1_1 : decode jdk_42_method_55_code 1 = .ok (.getfield 9, 3) := by decide +kernel
theorem d1_4 : decode jdk_42_method_55_code 4 = .ok (.arraylength, 1) := by decide +kernel
theorem d1_5 : decode jdk_42_method_55_code 5 = .ok (.ifCond .ne 7, 3) := by decide +kernel
theorem d1_8 : decode jdk_42_method_55_code 8 = .ok (.iconst 1, 1) := by decide +kernel
theorem d1_9 : decode jdk_42_method_55_code 9 = .ok (.goto 4, 3) := by decide +kernel
theorem d1_13 : decode jdk_42_method_55_code 13 = .ok (.ireturn, 1) := by decide +kernel
theorem d1_12 : decode jdk_42_method_55_code 12 = .ok (.iconst 0, 1) := by decide +kernel
theorem ef_emp (m : MethodId) (r0 : Addr)  : entryFrame m #[(.ref r0)] 1 = mkF m 0 #[.val (.ref r0)] [] := by (first | (simp [entryFrame, mkF, argsToLocals, Value.category]; done) | rfl)
theorem pn_1 : plainFor (⟨"java/lang/String", "isEmpty", "()Z"⟩ : MethodName) = true := plainFor_of_name (by first | (simp [plainName, overriddenIn]; done) | decide +kernel)
theorem own_z0 {x : Int32} {n : Nat} (h : x.toInt = (n : Int)) (q : x = 0) : n = 0 := by rw [q, show (0 : Int32).toInt = 0 from rfl] at h; omega
theorem own_z1 {x : Int32} {n : Nat} (h : x.toInt = (n : Int)) (q : n = 0) : x = 0 := Int32.toInt_inj.mp (by rw [h, q]; rfl)
set_option maxRecDepth 65536 in
set_option maxHeartbeats 40000000 in
theorem rm_emp (l : Launch) (Z : State) (a0 : Array Value) (hw : ∀ d ∈ tables_1, d.before a0 Z = true) (ws : List Jvm.Cond) (r0 : Addr) (h0 : Heap) (b : Addr) (n : Nat) (c_ : Nat → Int32) (S : STR Z h0 r0 b n c_) (zn : Int32) (hzn : zn.toInt = (n : Int)) (cs : Int32) (SC : Sta Z h0 "java/lang/String" "COMPACT_STRINGS" "Z" (.int cs)) (hcs : ¬ cs = (0 : Int32)) :
    OMet l (⟨"java/lang/String", "isEmpty", "()Z"⟩ : MethodName) jdk_42_method_55_code 1 (some .boolean) ws ({ frames := 0, cells := 0, slots := 0, locals := 0 } : Room) #[(.ref r0)] Z h0 (fun v h L => v = some (.int (if n = 0 then (1 : Int32) else 0)) ∧ L = [] ∧ h = h0) := by
  refine OMet.of pn_1 (fun m => ef_emp m r0 ) ?_
  intro p e s m below meth c s₁ hx hby hml hown hnm hret hlk hZ X0 e0
  refine Owes.go ?_ fun t₀ k₀ => XS.aloadN X0.here hx rfl (hb hby d1_0) rfl rfl k₀
  show Owes _ _ _ _ (s₁.setTop (mkF m 1 #[.val (.ref r0)] [(.ref r0)]))
  obtain ⟨T13, X13, e13, st13⟩ := getF X0 hx hZ hown (host := "") (Or.inl (hw _ (List.mem_of_getElem? (i := 13) rfl))) Via.refl e0 S.2.2.1 (g := (mkF m 1 #[.val (.ref r0)] [(.ref r0)])) rfl rfl (hb hby d1_1)
  refine Owes.go ?_ st13
  show Owes _ _ _ _ (T13.setTop (mkF m 4 #[.val (.ref r0)] [(.ref b)]))
  refine Owes.glen X13 hx hZ e13 S.2.2.2 (z := zn) hzn (hb hby d1_4) ?_
  show Owes _ _ _ _ (T13.setTop (mkF m 5 #[.val (.ref r0)] [(.int zn)]))
  by_cases hc1 : zn = (0 : Int32)
  · skip
    refine Owes.go ?_ fun t₀ k₀ => XS.ifNo X13.here hx rfl (hb hby d1_5) rfl ((if0 _ _).trans (teq hc1).2) k₀
    show Owes _ _ _ _ (T13.setTop (mkF m 8 #[.val (.ref r0)] []))
    refine Owes.go ?_ fun t₀ k₀ => XS.iconst X13.here hx rfl (hb hby d1_8) k₀
    show Owes _ _ _ _ (T13.setTop (mkF m 9 #[.val (.ref r0)] [(.int (1 : Int32))]))
    refine Owes.go ?_ fun t₀ k₀ => XS.goto X13.here hx rfl (pc0 := 9) (pc' := 13) rfl (hb hby d1_9) (by decide) (by decide) k₀
    show Owes _ _ _ _ (T13.setTop (mkF m 13 #[.val (.ref r0)] [(.int (1 : Int32))]))
    exact Owes.retN X13 hx hlk hret (by simp) (hb hby d1_13) (by decide) (by decide) ⟨congrArg (fun z => some (Value.int z)) ((by rw [if_pos (own_z0 hzn hc1)]; decide)), rfl, e13⟩
  · skip
    refine Owes.go ?_ fun t₀ k₀ => XS.ifYes X13.here hx rfl (pc0 := 5) (pc' := 12) rfl (hb hby d1_5) rfl ((if0 _ _).trans (feq hc1).2) (by decide) (by decide) k₀
    show Owes _ _ _ _ (T13.setTop (mkF m 12 #[.val (.ref r0)] []))
    refine Owes.go ?_ fun t₀ k₀ => XS.iconst X13.here hx rfl (hb hby d1_12) k₀
    show Owes _ _ _ _ (T13.setTop (mkF m 13 #[.val (.ref r0)] [(.int (0 : Int32))]))
    exact Owes.retN X13 hx hlk hret (by simp) (hb hby d1_13) (by decide) (by decide) ⟨congrArg (fun z => some (Value.int z)) ((by rw [if_neg (fun q => hc1 (own_z1 hzn q))]; decide)), rfl, e13⟩
theorem d15_0 : decode jdk_43_method_13_code 0 = .ok (.aload_n 0, 1) := by decide +kernel
theorem d15_1 : decode jdk_43_method_13_code 1 = .ok (.arraylength, 1) := by decide +kernel
theorem d15_2 : decode jdk_43_method_13_code 2 = .ok (.aload_n 1, 1) := by decide +kernel
theorem d15_3 : decode jdk_43_method_13_code 3 = .ok (.arraylength, 1) := by decide +kernel
theorem d15_4 : decode jdk_43_method_13_code 4 = .ok (.if_icmp .ne 30, 3) := by decide +kernel
theorem d15_7 : decode jdk_43_method_13_code 7 = .ok (.iconst 0, 1) := by decide +kernel
theorem d15_8 : decode jdk_43_method_13_code 8 = .ok (.istore_n 2, 1) := by decide +kernel
theorem d15_9 : decode jdk_43_method_13_code 9 = .ok (.iload_n 2, 1) := by decide +kernel
theorem d15_10 : decode jdk_43_method_13_code 10 = .ok (.aload_n 0, 1) := by decide +kernel
theorem d15_11 : decode jdk_43_method_13_code 11 = .ok (.arraylength, 1) := by decide +kernel
theorem d15_12 : decode jdk_43_method_13_code 12 = .ok (.if_icmp .ge 20, 3) := by decide +kernel
theorem d15_32 : decode jdk_43_method_13_code 32 = .ok (.iconst 1, 1) := by decide +kernel
theorem d15_33 : decode jdk_43_method_13_code 33 = .ok (.ireturn, 1) := by decide +kernel
theorem d15_15 : decode jdk_43_method_13_code 15 = .ok (.aload_n 0, 1) := by decide +kernel
theorem d15_16 : decode jdk_43_method_13_code 16 = .ok (.iload_n 2, 1) := by decide +kernel
theorem d15_17 : decode jdk_43_method_13_code 17 = .ok (.baload, 1) := by decide +kernel
theorem d15_18 : decode jdk_43_method_13_code 18 = .ok (.aload_n 1, 1) := by decide +kernel
theorem d15_19 : decode jdk_43_method_13_code 19 = .ok (.iload_n 2, 1) := by decide +kernel
theorem d15_20 : decode jdk_43_method_13_code 20 = .ok (.baload, 1) := by decide +kernel
theorem d15_21 : decode jdk_43_method_13_code 21 = .ok (.if_icmp .eq 5, 3) := by decide +kernel
theorem d15_26 : decode jdk_43_method_13_code 26 = .ok (.iinc 2 1, 3) := by decide +kernel
theorem d15_29 : decode jdk_43_method_13_code 29 = .ok (.goto (-20), 3) := by decide +kernel
theorem d15_24 : decode jdk_43_method_13_code 24 = .ok (.iconst 0, 1) := by decide +kernel
theorem d15_25 : decode jdk_43_method_13_code 25 = .ok (.ireturn, 1) := by decide +kernel
theorem d15_34 : decode jdk_43_method_13_code 34 = .ok (.iconst 0, 1) := by decide +kernel
theorem d15_35 : decode jdk_43_method_13_code 35 = .ok (.ireturn, 1) := by decide +kernel
theorem own_eqn {x y : Int32} {a b : Nat} (hx : x.toInt = (a : Int)) (hy : y.toInt = (b : Int)) (h : x = y) : a = b := by rw [h, hy] at hx; omega
theorem ef_leq (m : MethodId) (r0 : Addr) (r1 : Addr)  : entryFrame m #[(.ref r0), (.ref r1)] 3 = mkF m 0 #[.val (.ref r0), .val (.ref r1), .unset] [] := by (first | (simp [entryFrame, mkF, argsToLocals, Value.category]; done) | rfl)
theorem pn_15 : plainFor (⟨"java/lang/StringLatin1", "equals", "([B[B)Z"⟩ : MethodName) = true := plainFor_of_name (by first | (simp [plainName, overriddenIn]; done) | decide +kernel)
set_option maxRecDepth 65536 in
set_option maxHeartbeats 40000000 in
theorem rm_leq (l : Launch) (Z : State) (a0 : Array Value) (hw : ∀ d ∈ tables_1, d.before a0 Z = true) (ws : List Jvm.Cond) (r0 : Addr) (r1 : Addr) (h0 : Heap) (n n' : Nat) (b b' : Nat → Int32) (G : GA Z h0 r0 .byte n (fun i => .int (b i))) (G' : GA Z h0 r1 .byte n' (fun i => .int (b' i))) (zn zn' : Int32) (hzn : zn.toInt = (n : Int)) (hzn' : zn'.toInt = (n' : Int)) (hn9 : n ≤ 16) :
    OMet l (⟨"java/lang/StringLatin1", "equals", "([B[B)Z"⟩ : MethodName) jdk_43_method_13_code 3 (some .boolean) ws ({ frames := 0, cells := 0, slots := 0, locals := 0 } : Room) #[(.ref r0), (.ref r1)] Z h0 (fun v h L => v = some (.int (eqv n n' b b')) ∧ L = [] ∧ h = h0) := by
  refine OMet.of pn_15 (fun m => ef_leq m r0 r1 ) ?_
  intro p e s m below meth c s₁ hx hby hml hown hnm hret hlk hZ X0 e0
  refine Owes.go ?_ fun t₀ k₀ => XS.aloadN X0.here hx rfl (hb hby d15_0) rfl rfl k₀
  show Owes _ _ _ _ (s₁.setTop (mkF m 1 #[.val (.ref r0), .val (.ref r1), .unset] [(.ref r0)]))
  refine Owes.glen X0 hx hZ e0 G (z := zn) hzn (hb hby d15_1) ?_
  show Owes _ _ _ _ (s₁.setTop (mkF m 2 #[.val (.ref r0), .val (.ref r1), .unset] [(.int zn)]))
  refine Owes.go ?_ fun t₀ k₀ => XS.aloadN X0.here hx rfl (hb hby d15_2) rfl rfl k₀
  show Owes _ _ _ _ (s₁.setTop (mkF m 3 #[.val (.ref r0), .val (.ref r1), .unset] [(.ref r1), (.int zn)]))
  refine Owes.glen X0 hx hZ e0 G' (z := zn') hzn' (hb hby d15_3) ?_
  show Owes _ _ _ _ (s₁.setTop (mkF m 4 #[.val (.ref r0), .val (.ref r1), .unset] [(.int zn'), (.int zn)]))
  by_cases hc1 : zn = zn'
  · skip
    refine Owes.go ?_ fun t₀ k₀ => XS.icmpNo X0.here hx rfl (hb hby d15_4) rfl (teq hc1).2 k₀
    show Owes _ _ _ _ (s₁.setTop (mkF m 7 #[.val (.ref r0), .val (.ref r1), .unset] []))
    refine Owes.go ?_ fun t₀ k₀ => XS.iconst X0.here hx rfl (hb hby d15_7) k₀
    show Owes _ _ _ _ (s₁.setTop (mkF m 8 #[.val (.ref r0), .val (.ref r1), .unset] [(.int (0 : Int32))]))
    refine Owes.go ?_ fun t₀ k₀ => XS.istoreN X0.here hx rfl (hb hby d15_8) rfl (l' := #[.val (.ref r0), .val (.ref r1), .val (.int (0 : Int32))]) rfl k₀
    show Owes _ _ _ _ (s₁.setTop (mkF m 9 #[.val (.ref r0), .val (.ref r1), .val (.int (0 : Int32))] []))
    have hnn : n = n' := own_eqn hzn hzn' hc1
    have lp : ∀ (r k : Nat), k + r = n → (∀ i, i < k → b i = b' i) → ∀ (kI : Int32) (T1 : State), Stand p l e ({ frames := 0, cells := 0, slots := 0, locals := 0 } : Room) s m #[(.ref r0), (.ref r1)] below meth c T1 [] 0 0 → T1.heap = h0 → kI.toInt = (k : Int) → Owes p e below (EndN s (fun v h L => v = some (.int (eqv n n' b b')) ∧ L = [] ∧ h = h0) ({ frames := 0, cells := 0, slots := 0, locals := 0 } : Room).cells ({ frames := 0, cells := 0, slots := 0, locals := 0 } : Room).slots) (T1.setTop (mkF m 9 #[.val (.ref r0), .val (.ref r1), .val (.int kI)] [])) := by
      intro r
      induction r with
      | zero =>
        intro k hk0 hb0 kI T1 X eT hk
        refine Owes.go ?_ fun t₀ k₀ => XS.iloadN X.here hx rfl (hb hby d15_9) rfl k₀
        show Owes _ _ _ _ (T1.setTop (mkF m 10 #[.val (.ref r0), .val (.ref r1), .val (.int kI)] [(.int kI)]))
        refine Owes.go ?_ fun t₀ k₀ => XS.aloadN X.here hx rfl (hb hby d15_10) rfl rfl k₀
        show Owes _ _ _ _ (T1.setTop (mkF m 11 #[.val (.ref r0), .val (.ref r1), .val (.int kI)] [(.ref r0), (.int kI)]))
        refine Owes.glen X hx hZ eT G (z := zn) hzn (hb hby d15_11) ?_
        show Owes _ _ _ _ (T1.setTop (mkF m 12 #[.val (.ref r0), .val (.ref r1), .val (.int kI)] [(.int zn), (.int kI)]))
        refine Owes.go ?_ fun t₀ k₀ => XS.icmpYes X.here hx rfl (pc0 := 12) (pc' := 32) rfl (hb hby d15_12) rfl (flt (own_nlti hk hzn (by omega))).2.1 (by decide) (by decide) k₀
        show Owes _ _ _ _ (T1.setTop (mkF m 32 #[.val (.ref r0), .val (.ref r1), .val (.int kI)] []))
        refine Owes.go ?_ fun t₀ k₀ => XS.iconst X.here hx rfl (hb hby d15_32) k₀
        show Owes _ _ _ _ (T1.setTop (mkF m 33 #[.val (.ref r0), .val (.ref r1), .val (.int kI)] [(.int (1 : Int32))]))
        exact Owes.retN X hx hlk hret (by simp) (hb hby d15_33) (by decide) (by decide) ⟨congrArg (fun z => some (Value.int z)) (by rw [eqv_y ⟨hnn, fun i hi => hb0 i (by omega)⟩]; decide), rfl, eT⟩
      | succ r ih =>
        intro k hk0 hb0 kI T1 X eT hk
        have hkn : k < n := by omega
        refine Owes.go ?_ fun t₀ k₀ => XS.iloadN X.here hx rfl (hb hby d15_9) rfl k₀
        show Owes _ _ _ _ (T1.setTop (mkF m 10 #[.val (.ref r0), .val (.ref r1), .val (.int kI)] [(.int kI)]))
        refine Owes.go ?_ fun t₀ k₀ => XS.aloadN X.here hx rfl (hb hby d15_10) rfl rfl k₀
        show Owes _ _ _ _ (T1.setTop (mkF m 11 #[.val (.ref r0), .val (.ref r1), .val (.int kI)] [(.ref r0), (.int kI)]))
        refine Owes.glen X hx hZ eT G (z := zn) hzn (hb hby d15_11) ?_
        show Owes _ _ _ _ (T1.setTop (mkF m 12 #[.val (.ref r0), .val (.ref r1), .val (.int kI)] [(.int zn), (.int kI)]))
        refine Owes.go ?_ fun t₀ k₀ => XS.icmpNo X.here hx rfl (hb hby d15_12) rfl (tlt (own_lti hk hzn hkn)).2.1 k₀
        show Owes _ _ _ _ (T1.setTop (mkF m 15 #[.val (.ref r0), .val (.ref r1), .val (.int kI)] []))
        refine Owes.go ?_ fun t₀ k₀ => XS.aloadN X.here hx rfl (hb hby d15_15) rfl rfl k₀
        show Owes _ _ _ _ (T1.setTop (mkF m 16 #[.val (.ref r0), .val (.ref r1), .val (.int kI)] [(.ref r0)]))
        refine Owes.go ?_ fun t₀ k₀ => XS.iloadN X.here hx rfl (hb hby d15_16) rfl k₀
        show Owes _ _ _ _ (T1.setTop (mkF m 17 #[.val (.ref r0), .val (.ref r1), .val (.int kI)] [(.int kI), (.ref r0)]))
        refine Owes.gB X hx hZ eT G hk hkn (v := .int (b k)) rfl (hb hby d15_17) ?_
        show Owes _ _ _ _ (T1.setTop (mkF m 18 #[.val (.ref r0), .val (.ref r1), .val (.int kI)] [(.int (b k))]))
        refine Owes.go ?_ fun t₀ k₀ => XS.aloadN X.here hx rfl (hb hby d15_18) rfl rfl k₀
        show Owes _ _ _ _ (T1.setTop (mkF m 19 #[.val (.ref r0), .val (.ref r1), .val (.int kI)] [(.ref r1), (.int (b k))]))
        refine Owes.go ?_ fun t₀ k₀ => XS.iloadN X.here hx rfl (hb hby d15_19) rfl k₀
        show Owes _ _ _ _ (T1.setTop (mkF m 20 #[.val (.ref r0), .val (.ref r1), .val (.int kI)] [(.int kI), (.ref r1), (.int (b k))]))
        refine Owes.gB X hx hZ eT G' hk (by omega) (v := .int (b' k)) rfl (hb hby d15_20) ?_
        show Owes _ _ _ _ (T1.setTop (mkF m 21 #[.val (.ref r0), .val (.ref r1), .val (.int kI)] [(.int (b' k)), (.int (b k))]))
        by_cases hc2 : (b k) = (b' k)
        · skip
          refine Owes.go ?_ fun t₀ k₀ => XS.icmpYes X.here hx rfl (pc0 := 21) (pc' := 26) rfl (hb hby d15_21) rfl (teq hc2).1 (by decide) (by decide) k₀
          show Owes _ _ _ _ (T1.setTop (mkF m 26 #[.val (.ref r0), .val (.ref r1), .val (.int kI)] []))
          refine Owes.go ?_ fun t₀ k₀ => XS.iinc X.here hx rfl (hb hby d15_26) rfl (l' := #[.val (.ref r0), .val (.ref r1), .val (.int (kI + (1 : Int32)))]) rfl k₀
          show Owes _ _ _ _ (T1.setTop (mkF m 29 #[.val (.ref r0), .val (.ref r1), .val (.int (kI + (1 : Int32)))] []))
          refine Owes.go ?_ fun t₀ k₀ => XS.goto X.here hx rfl (pc0 := 29) (pc' := 9) rfl (hb hby d15_29) (by decide) (by decide) k₀
          show Owes _ _ _ _ (T1.setTop (mkF m 9 #[.val (.ref r0), .val (.ref r1), .val (.int (kI + (1 : Int32)))] []))
          exact ih (k + 1) (by omega) (fun i hi => by
            by_cases q : i = k
            · rw [q]; exact hc2
            · exact hb0 i (by omega)) _ _ X eT (own_inc hk (by omega))
        · skip
          refine Owes.go ?_ fun t₀ k₀ => XS.icmpNo X.here hx rfl (hb hby d15_21) rfl (feq hc2).1 k₀
          show Owes _ _ _ _ (T1.setTop (mkF m 24 #[.val (.ref r0), .val (.ref r1), .val (.int kI)] []))
          refine Owes.go ?_ fun t₀ k₀ => XS.iconst X.here hx rfl (hb hby d15_24) k₀
          show Owes _ _ _ _ (T1.setTop (mkF m 25 #[.val (.ref r0), .val (.ref r1), .val (.int kI)] [(.int (0 : Int32))]))
          exact Owes.retN X hx hlk hret (by simp) (hb hby d15_25) (by decide) (by decide) ⟨congrArg (fun z => some (Value.int z)) (by rw [eqv_n (fun q => hc2 (q.2 k hkn))]; decide), rfl, eT⟩
    exact lp n 0 (by omega) (fun i hi => absurd hi (Nat.not_lt_zero _)) _ _ X0 e0 rfl
  · skip
    refine Owes.go ?_ fun t₀ k₀ => XS.icmpYes X0.here hx rfl (pc0 := 4) (pc' := 34) rfl (hb hby d15_4) rfl (feq hc1).2 (by decide) (by decide) k₀
    show Owes _ _ _ _ (s₁.setTop (mkF m 34 #[.val (.ref r0), .val (.ref r1), .unset] []))
    refine Owes.go ?_ fun t₀ k₀ => XS.iconst X0.here hx rfl (hb hby d15_34) k₀
    show Owes _ _ _ _ (s₁.setTop (mkF m 35 #[.val (.ref r0), .val (.ref r1), .unset] [(.int (0 : Int32))]))
    exact Owes.retN X0 hx hlk hret (by simp) (hb hby d15_35) (by decide) (by decide) ⟨congrArg (fun z => some (Value.int z)) (by rw [eqv_n (fun q => hc1 (own_eqi hzn hzn' q.1))]; decide), rfl, e0⟩
theorem d7_0 : decode jdk_42_method_66_code 0 = .ok (.aload_n 0, 1) := by decide +kernel
theorem d7_1 : decode jdk_42_method_66_code 1 = .ok (.aload_n 1, 1) := by decide +kernel
theorem d7_2 : decode jdk_42_method_66_code 2 = .ok (.if_acmp .ne 5, 3) := by decide +kernel
theorem d7_5 : decode jdk_42_method_66_code 5 = .ok (.iconst 1, 1) := by decide +kernel
theorem d7_6 : decode jdk_42_method_66_code 6 = .ok (.ireturn, 1) := by decide +kernel
theorem d7_7 : decode jdk_42_method_66_code 7 = .ok (.aload_n 1, 1) := by decide +kernel
theorem d7_8 : decode jdk_42_method_66_code 8 = .ok (.instanceof 10, 3) := by decide +kernel
theorem d7_11 : decode jdk_42_method_66_code 11 = .ok (.ifCond .eq 43, 3) := by decide +kernel
theorem d7_14 : decode jdk_42_method_66_code 14 = .ok (.aload_n 1, 1) := by decide +kernel
theorem d7_15 : decode jdk_42_method_66_code 15 = .ok (.checkcast 10, 3) := by decide +kernel
theorem d7_18 : decode jdk_42_method_66_code 18 = .ok (.astore_n 2, 1) := by decide +kernel
theorem d7_19 : decode jdk_42_method_66_code 19 = .ok (.getstatic 38, 3) := by decide +kernel
theorem d7_22 : decode jdk_42_method_66_code 22 = .ok (.ifCond .eq 14, 3) := by decide +kernel
theorem d7_25 : decode jdk_42_method_66_code 25 = .ok (.aload_n 0, 1) := by decide +kernel
theorem d7_26 : decode jdk_42_method_66_code 26 = .ok (.getfield 15, 3) := by decide +kernel
theorem d7_29 : decode jdk_42_method_66_code 29 = .ok (.aload_n 2, 1) := by decide +kernel
theorem d7_30 : decode jdk_42_method_66_code 30 = .ok (.getfield 15, 3) := by decide +kernel
theorem d7_33 : decode jdk_42_method_66_code 33 = .ok (.if_icmp .ne 21, 3) := by decide +kernel
theorem d7_36 : decode jdk_42_method_66_code 36 = .ok (.aload_n 0, 1) := by decide +kernel
theorem d7_37 : decode jdk_42_method_66_code 37 = .ok (.getfield 9, 3) := by decide +kernel
theorem d7_40 : decode jdk_42_method_66_code 40 = .ok (.aload_n 2, 1) := by decide +kernel
theorem d7_41 : decode jdk_42_method_66_code 41 = .ok (.getfield 9, 3) := by decide +kernel
theorem d7_44 : decode jdk_42_method_66_code 44 = .ok (.invokestatic 541, 3) := by decide +kernel
theorem pd_5 : parseMethodDescriptor "([B[B)Z" = some ⟨[(.array .byte), (.array .byte)], some .boolean⟩ := by decide +kernel
theorem d7_47 : decode jdk_42_method_66_code 47 = .ok (.ifCond .eq 7, 3) := by decide +kernel
theorem d7_54 : decode jdk_42_method_66_code 54 = .ok (.iconst 0, 1) := by decide +kernel
theorem d7_55 : decode jdk_42_method_66_code 55 = .ok (.ireturn, 1) := by decide +kernel
theorem d7_50 : decode jdk_42_method_66_code 50 = .ok (.iconst 1, 1) := by decide +kernel
theorem d7_51 : decode jdk_42_method_66_code 51 = .ok (.goto 4, 3) := by decide +kernel
theorem own_eq1 {n n' : Nat} {b b' : Nat → Int32} (h : ¬ eqv n n' b b' = 0) : eqv n n' b b' = 1 := by
  by_cases q : EQB n n' b b'
  · exact eqv_y q
  · exact absurd (eqv_n q) h
theorem ef_eqs (m : MethodId) (r0 : Addr) (r1 : Addr)  : entryFrame m #[(.ref r0), (.ref r1)] 3 = mkF m 0 #[.val (.ref r0), .val (.ref r1), .unset] [] := by (first | (simp [entryFrame, mkF, argsToLocals, Value.category]; done) | rfl)
theorem pn_7 : plainFor (⟨"java/lang/String", "equals", "(Ljava/lang/Object;)Z"⟩ : MethodName) = true := plainFor_of_name (by first | (simp [plainName, overriddenIn]; done) | decide +kernel)
set_option maxRecDepth 65536 in
set_option maxHeartbeats 40000000 in
theorem rm_eqs (l : Launch) (Z : State) (a0 : Array Value) (hw : ∀ d ∈ tables_1, d.before a0 Z = true) (ws : List Jvm.Cond) (r0 : Addr) (r1 : Addr) (h0 : Heap) (b : Addr) (n : Nat) (c_ : Nat → Int32) (S : STR Z h0 r0 b n c_) (zn : Int32) (hzn : zn.toInt = (n : Int)) (cs : Int32) (SC : Sta Z h0 "java/lang/String" "COMPACT_STRINGS" "Z" (.int cs)) (hcs : ¬ cs = (0 : Int32)) (b2 : Addr) (n2 : Nat) (c2 : Nat → Int32) (S2 : STR Z h0 r1 b2 n2 c2) (z2 : Int32) (hz2 : z2.toInt = (n2 : Int)) (hn9 : n ≤ 16) :
    OMet l (⟨"java/lang/String", "equals", "(Ljava/lang/Object;)Z"⟩ : MethodName) jdk_42_method_66_code 3 (some .boolean) ws ({ frames := 1, cells := 0, slots := 0, locals := 16 } : Room) #[(.ref r0), (.ref r1)] Z h0 (fun v h L => v = some (.int (eqv n n2 (by8 c_) (by8 c2))) ∧ L = [] ∧ h = h0) := by
  refine OMet.of pn_7 (fun m => ef_eqs m r0 r1 ) ?_
  intro p e s m below meth c s₁ hx hby hml hown hnm hret hlk hZ X0 e0
  refine Owes.go ?_ fun t₀ k₀ => XS.aloadN X0.here hx rfl (hb hby d7_0) rfl rfl k₀
  show Owes _ _ _ _ (s₁.setTop (mkF m 1 #[.val (.ref r0), .val (.ref r1), .unset] [(.ref r0)]))
  refine Owes.go ?_ fun t₀ k₀ => XS.aloadN X0.here hx rfl (hb hby d7_1) rfl rfl k₀
  show Owes _ _ _ _ (s₁.setTop (mkF m 2 #[.val (.ref r0), .val (.ref r1), .unset] [(.ref r1), (.ref r0)]))
  by_cases ha1 : r0 = r1
  · skip
    refine Owes.go ?_ fun t₀ k₀ => Jvm.RoadKit.acmp (g := (mkF m 2 #[.val (.ref r0), .val (.ref r1), .unset] [(.ref r1), (.ref r0)])) X0 hx rfl rfl rfl (pc0 := 2) (pc' := 5) (same := true) rfl (hb hby d7_2) rfl (decide_eq_true (congrArg Value.ref ha1)) (by decide) (by decide) k₀
    show Owes _ _ _ _ (s₁.setTop (mkF m 5 #[.val (.ref r0), .val (.ref r1), .unset] []))
    refine Owes.go ?_ fun t₀ k₀ => XS.iconst X0.here hx rfl (hb hby d7_5) k₀
    show Owes _ _ _ _ (s₁.setTop (mkF m 6 #[.val (.ref r0), .val (.ref r1), .unset] [(.int (1 : Int32))]))
    exact Owes.retN X0 hx hlk hret (by simp) (hb hby d7_6) (by decide) (by decide) ⟨congrArg (fun z => some (Value.int z)) (by subst ha1; rw [eqv_y (STR.same S S2)]; decide), rfl, e0⟩
  · skip
    refine Owes.go ?_ fun t₀ k₀ => Jvm.RoadKit.acmp (g := (mkF m 2 #[.val (.ref r0), .val (.ref r1), .unset] [(.ref r1), (.ref r0)])) X0 hx rfl rfl rfl (pc0 := 2) (pc' := 7) (same := false) rfl (hb hby d7_2) rfl (decide_eq_false fun q => ha1 (Value.ref.inj q)) (by decide) (by decide) k₀
    show Owes _ _ _ _ (s₁.setTop (mkF m 7 #[.val (.ref r0), .val (.ref r1), .unset] []))
    refine Owes.go ?_ fun t₀ k₀ => XS.aloadN X0.here hx rfl (hb hby d7_7) rfl rfl k₀
    show Owes _ _ _ _ (s₁.setTop (mkF m 8 #[.val (.ref r0), .val (.ref r1), .unset] [(.ref r1)]))
    refine Owes.inst X0 hx hZ hown (hw _ (List.mem_of_getElem? (i := 86) rfl)) e0 S2.1 (hb hby d7_8) ?_
    intro T14 X14 e14
    show Owes _ _ _ _ (T14.setTop (mkF m 11 #[.val (.ref r0), .val (.ref r1), .unset] [(.int (1 : Int32))]))
    refine Owes.go ?_ fun t₀ k₀ => XS.ifNo X14.here hx rfl (hb hby d7_11) rfl ((if0 _ _).trans (feq (by decide : ¬ ((1 : Int32) = (0 : Int32)))).1) k₀
    show Owes _ _ _ _ (T14.setTop (mkF m 14 #[.val (.ref r0), .val (.ref r1), .unset] []))
    refine Owes.go ?_ fun t₀ k₀ => XS.aloadN X14.here hx rfl (hb hby d7_14) rfl rfl k₀
    show Owes _ _ _ _ (T14.setTop (mkF m 15 #[.val (.ref r0), .val (.ref r1), .unset] [(.ref r1)]))
    refine Owes.castR X14 hx hZ hown (hw _ (List.mem_of_getElem? (i := 86) rfl)) e14 S2.1 (hb hby d7_15) ?_
    intro T15 X15 e15
    show Owes _ _ _ _ (T15.setTop (mkF m 18 #[.val (.ref r0), .val (.ref r1), .unset] [(.ref r1)]))
    refine Owes.go ?_ fun t₀ k₀ => XS.astoreN X15.here hx rfl (hb hby d7_18) rfl rfl (l' := #[.val (.ref r0), .val (.ref r1), .val (.ref r1)]) rfl k₀
    show Owes _ _ _ _ (T15.setTop (mkF m 19 #[.val (.ref r0), .val (.ref r1), .val (.ref r1)] []))
    obtain ⟨T16, X16, e16, st16⟩ := getS2 X15 hx hZ hown (host := "") (Or.inl (hw _ (List.mem_of_getElem? (i := 29) rfl))) Via.refl e15 SC (g := (mkF m 19 #[.val (.ref r0), .val (.ref r1), .val (.ref r1)] [])) rfl (hb hby d7_19)
    refine Owes.go ?_ st16
    show Owes _ _ _ _ (T16.setTop (mkF m 22 #[.val (.ref r0), .val (.ref r1), .val (.ref r1)] [(.int cs)]))
    refine Owes.go ?_ fun t₀ k₀ => XS.ifNo X16.here hx rfl (hb hby d7_22) rfl ((if0 _ _).trans (feq hcs).1) k₀
    show Owes _ _ _ _ (T16.setTop (mkF m 25 #[.val (.ref r0), .val (.ref r1), .val (.ref r1)] []))
    refine Owes.go ?_ fun t₀ k₀ => XS.aloadN X16.here hx rfl (hb hby d7_25) rfl rfl k₀
    show Owes _ _ _ _ (T16.setTop (mkF m 26 #[.val (.ref r0), .val (.ref r1), .val (.ref r1)] [(.ref r0)]))
    obtain ⟨T17, X17, e17, st17⟩ := getF X16 hx hZ hown (host := "") (Or.inl (hw _ (List.mem_of_getElem? (i := 30) rfl))) Via.refl e16 S.2.1 (g := (mkF m 26 #[.val (.ref r0), .val (.ref r1), .val (.ref r1)] [(.ref r0)])) rfl rfl (hb hby d7_26)
    refine Owes.go ?_ st17
    show Owes _ _ _ _ (T17.setTop (mkF m 29 #[.val (.ref r0), .val (.ref r1), .val (.ref r1)] [(.int (0 : Int32))]))
    refine Owes.go ?_ fun t₀ k₀ => XS.aloadN X17.here hx rfl (hb hby d7_29) rfl rfl k₀
    show Owes _ _ _ _ (T17.setTop (mkF m 30 #[.val (.ref r0), .val (.ref r1), .val (.ref r1)] [(.ref r1), (.int (0 : Int32))]))
    obtain ⟨T18, X18, e18, st18⟩ := getF X17 hx hZ hown (host := "") (Or.inl (hw _ (List.mem_of_getElem? (i := 30) rfl))) Via.refl e17 S2.2.1 (g := (mkF m 30 #[.val (.ref r0), .val (.ref r1), .val (.ref r1)] [(.ref r1), (.int (0 : Int32))])) rfl rfl (hb hby d7_30)
    refine Owes.go ?_ st18
    show Owes _ _ _ _ (T18.setTop (mkF m 33 #[.val (.ref r0), .val (.ref r1), .val (.ref r1)] [(.int (0 : Int32)), (.int (0 : Int32))]))
    refine Owes.go ?_ fun t₀ k₀ => XS.icmpNo X18.here hx rfl (hb hby d7_33) rfl (teq (by decide : ((0 : Int32) = (0 : Int32)))).2 k₀
    show Owes _ _ _ _ (T18.setTop (mkF m 36 #[.val (.ref r0), .val (.ref r1), .val (.ref r1)] []))
    refine Owes.go ?_ fun t₀ k₀ => XS.aloadN X18.here hx rfl (hb hby d7_36) rfl rfl k₀
    show Owes _ _ _ _ (T18.setTop (mkF m 37 #[.val (.ref r0), .val (.ref r1), .val (.ref r1)] [(.ref r0)]))
    obtain ⟨T19, X19, e19, st19⟩ := getF X18 hx hZ hown (host := "") (Or.inl (hw _ (List.mem_of_getElem? (i := 13) rfl))) Via.refl e18 S.2.2.1 (g := (mkF m 37 #[.val (.ref r0), .val (.ref r1), .val (.ref r1)] [(.ref r0)])) rfl rfl (hb hby d7_37)
    refine Owes.go ?_ st19
    show Owes _ _ _ _ (T19.setTop (mkF m 40 #[.val (.ref r0), .val (.ref r1), .val (.ref r1)] [(.ref b)]))
    refine Owes.go ?_ fun t₀ k₀ => XS.aloadN X19.here hx rfl (hb hby d7_40) rfl rfl k₀
    show Owes _ _ _ _ (T19.setTop (mkF m 41 #[.val (.ref r0), .val (.ref r1), .val (.ref r1)] [(.ref r1), (.ref b)]))
    obtain ⟨T20, X20, e20, st20⟩ := getF X19 hx hZ hown (host := "") (Or.inl (hw _ (List.mem_of_getElem? (i := 13) rfl))) Via.refl e19 S2.2.2.1 (g := (mkF m 41 #[.val (.ref r0), .val (.ref r1), .val (.ref r1)] [(.ref r1), (.ref b)])) rfl rfl (hb hby d7_41)
    refine Owes.go ?_ st20
    show Owes _ _ _ _ (T20.setTop (mkF m 44 #[.val (.ref r0), .val (.ref r1), .val (.ref r1)] [(.ref b2), (.ref b)]))
    refine Owes.callS X20 hx hZ hown (hw _ (List.mem_of_getElem? (i := 87) rfl)) (hw _ (List.mem_of_getElem? (i := 88) rfl)) (hw _ (List.mem_of_getElem? (i := 89) rfl)) (hw _ (List.mem_of_getElem? (i := 90) rfl)) (by decide) (argsL := [(.ref b), (.ref b2)]) (rest := []) (rm_leq l Z a0 hw [] b b2 h0 n n2 (by8 c_) (by8 c2) S.2.2.2 S2.2.2.2 zn z2 hzn hz2 hn9) e20 (by rw [hml]; rfl) pd_5 rfl rfl (hb hby d7_44) (by decide) (Nat.le_of_ble_eq_true rfl) (by decide) (by decide) ?_
    rintro T21 _ _ X21 ⟨rfl, rfl, e21⟩
    rw [List.append_nil] at X21
    show Owes _ _ _ _ (T21.setTop (mkF m 47 #[.val (.ref r0), .val (.ref r1), .val (.ref r1)] [(.int (eqv n n2 (by8 c_) (by8 c2)))]))
    by_cases hc2 : (eqv n n2 (by8 c_) (by8 c2)) = (0 : Int32)
    · skip
      refine Owes.go ?_ fun t₀ k₀ => XS.ifYes X21.here hx rfl (pc0 := 47) (pc' := 54) rfl (hb hby d7_47) rfl ((if0 _ _).trans (teq hc2).1) (by decide) (by decide) k₀
      show Owes _ _ _ _ (T21.setTop (mkF m 54 #[.val (.ref r0), .val (.ref r1), .val (.ref r1)] []))
      refine Owes.go ?_ fun t₀ k₀ => XS.iconst X21.here hx rfl (hb hby d7_54) k₀
      show Owes _ _ _ _ (T21.setTop (mkF m 55 #[.val (.ref r0), .val (.ref r1), .val (.ref r1)] [(.int (0 : Int32))]))
      exact Owes.retN X21 hx hlk hret (by simp) (hb hby d7_55) (by decide) (by decide) ⟨congrArg (fun z => some (Value.int z)) (by rw [hc2]; decide), rfl, e21⟩
    · skip
      refine Owes.go ?_ fun t₀ k₀ => XS.ifNo X21.here hx rfl (hb hby d7_47) rfl ((if0 _ _).trans (feq hc2).1) k₀
      show Owes _ _ _ _ (T21.setTop (mkF m 50 #[.val (.ref r0), .val (.ref r1), .val (.ref r1)] []))
      refine Owes.go ?_ fun t₀ k₀ => XS.iconst X21.here hx rfl (hb hby d7_50) k₀
      show Owes _ _ _ _ (T21.setTop (mkF m 51 #[.val (.ref r0), .val (.ref r1), .val (.ref r1)] [(.int (1 : Int32))]))
      refine Owes.go ?_ fun t₀ k₀ => XS.goto X21.here hx rfl (pc0 := 51) (pc' := 55) rfl (hb hby d7_51) (by decide) (by decide) k₀
      show Owes _ _ _ _ (T21.setTop (mkF m 55 #[.val (.ref r0), .val (.ref r1), .val (.ref r1)] [(.int (1 : Int32))]))
      exact Owes.retN X21 hx hlk hret (by simp) (hb hby d7_55) (by decide) (by decide) ⟨congrArg (fun z => some (Value.int z)) (by rw [own_eq1 hc2]; decide), rfl, e21⟩
theorem ef_eqn (m : MethodId) (r0 : Addr)  : entryFrame m #[(.ref r0), .null] 3 = mkF m 0 #[.val (.ref r0), .val .null, .unset] [] := by (first | (simp [entryFrame, mkF, argsToLocals, Value.category]; done) | rfl)
set_option maxRecDepth 65536 in
set_option maxHeartbeats 40000000 in
theorem rm_eqn (l : Launch) (Z : State) (a0 : Array Value) (hw : ∀ d ∈ tables_1, d.before a0 Z = true) (ws : List Jvm.Cond) (r0 : Addr) (h0 : Heap)  :
    OMet l (⟨"java/lang/String", "equals", "(Ljava/lang/Object;)Z"⟩ : MethodName) jdk_42_method_66_code 3 (some .boolean) ws ({ frames := 0, cells := 0, slots := 0, locals := 0 } : Room) #[(.ref r0), .null] Z h0 (fun v h L => v = some (.int (0 : Int32)) ∧ L = [] ∧ h = h0) := by
  refine OMet.of pn_7 (fun m => ef_eqn m r0 ) ?_
  intro p e s m below meth c s₁ hx hby hml hown hnm hret hlk hZ X0 e0
  refine Owes.go ?_ fun t₀ k₀ => XS.aloadN X0.here hx rfl (hb hby d7_0) rfl rfl k₀
  show Owes _ _ _ _ (s₁.setTop (mkF m 1 #[.val (.ref r0), .val .null, .unset] [(.ref r0)]))
  refine Owes.go ?_ fun t₀ k₀ => XS.aloadN X0.here hx rfl (hb hby d7_1) rfl rfl k₀
  show Owes _ _ _ _ (s₁.setTop (mkF m 2 #[.val (.ref r0), .val .null, .unset] [.null, (.ref r0)]))
  refine Owes.go ?_ fun t₀ k₀ => Jvm.RoadKit.acmp (g := (mkF m 2 #[.val (.ref r0), .val .null, .unset] [.null, (.ref r0)])) X0 hx rfl rfl rfl (pc0 := 2) (pc' := 7) (same := false) rfl (hb hby d7_2) rfl (decide_eq_false nofun) (by decide) (by decide) k₀
  show Owes _ _ _ _ (s₁.setTop (mkF m 7 #[.val (.ref r0), .val .null, .unset] []))
  refine Owes.go ?_ fun t₀ k₀ => XS.aloadN X0.here hx rfl (hb hby d7_7) rfl rfl k₀
  show Owes _ _ _ _ (s₁.setTop (mkF m 8 #[.val (.ref r0), .val .null, .unset] [.null]))
  refine Owes.go ?_ fun t₀ k₀ => Jvm.Stand.instanceofNull X0 hx (g := (mkF m 8 #[.val (.ref r0), .val .null, .unset] [.null])) rfl rfl (hb hby d7_8) _ k₀
  show Owes _ _ _ _ (s₁.setTop (mkF m 11 #[.val (.ref r0), .val .null, .unset] [(.int (0 : Int32))]))
  refine Owes.go ?_ fun t₀ k₀ => XS.ifYes X0.here hx rfl (pc0 := 11) (pc' := 54) rfl (hb hby d7_11) rfl ((if0 _ _).trans (teq (by decide : ((0 : Int32) = (0 : Int32)))).1) (by decide) (by decide) k₀
  show Owes _ _ _ _ (s₁.setTop (mkF m 54 #[.val (.ref r0), .val .null, .unset] []))
  refine Owes.go ?_ fun t₀ k₀ => XS.iconst X0.here hx rfl (hb hby d7_54) k₀
  show Owes _ _ _ _ (s₁.setTop (mkF m 55 #[.val (.ref r0), .val .null, .unset] [(.int (0 : Int32))]))
  exact Owes.retN X0 hx hlk hret (by simp) (hb hby d7_55) (by decide) (by decide) ⟨congrArg (fun z => some (Value.int z)) (by decide), rfl, e0⟩
theorem d2_0 : decode method_3_code 0 = .ok (.iload_n 1, 1) := by decide +kernel
theorem d2_1 : decode method_3_code 1 = .ok (.aload_n 0, 1) := by decide +kernel
theorem d2_2 : decode method_3_code 2 = .ok (.invokevirtual 21, 3) := by decide +kernel
theorem pd_6 : parseMethodDescriptor "()I" = some ⟨[], some .int⟩ := by decide +kernel
theorem d2_5 : decode method_3_code 5 = .ok (.if_icmp .ge 17, 3) := by decide +kernel
theorem d2_8 : decode method_3_code 8 = .ok (.iload_n 2, 1) := by decide +kernel
theorem d2_9 : decode method_3_code 9 = .ok (.iload_n 1, 1) := by decide +kernel
theorem d2_10 : decode method_3_code 10 = .ok (.iushr, 1) := by decide +kernel
theorem d2_11 : decode method_3_code 11 = .ok (.iconst 1, 1) := by decide +kernel
theorem d2_12 : decode method_3_code 12 = .ok (.iand, 1) := by decide +kernel
theorem d2_13 : decode method_3_code 13 = .ok (.ifCond .ne 9, 3) := by decide +kernel
theorem d2_16 : decode method_3_code 16 = .ok (.aload_n 0, 1) := by decide +kernel
theorem d2_17 : decode method_3_code 17 = .ok (.iload_n 1, 1) := by decide +kernel
theorem d2_18 : decode method_3_code 18 = .ok (.invokevirtual 55, 3) := by decide +kernel
theorem pd_7 : parseMethodDescriptor "(I)C" = some ⟨[.int], some .char⟩ := by decide +kernel
theorem d2_21 : decode method_3_code 21 = .ok (.ireturn, 1) := by decide +kernel
theorem d2_22 : decode method_3_code 22 = .ok (.lload_n 3, 1) := by decide +kernel
theorem d2_23 : decode method_3_code 23 = .ok (.bipush 8, 2) := by decide +kernel
theorem d2_25 : decode method_3_code 25 = .ok (.iload_n 1, 1) := by decide +kernel
theorem d2_26 : decode method_3_code 26 = .ok (.imul, 1) := by decide +kernel
theorem d2_27 : decode method_3_code 27 = .ok (.lushr, 1) := by decide +kernel
theorem d2_28 : decode method_3_code 28 = .ok (.ldc2_w 59, 3) := by decide +kernel
theorem d2_31 : decode method_3_code 31 = .ok (.land, 1) := by decide +kernel
theorem d2_32 : decode method_3_code 32 = .ok (.l2i, 1) := by decide +kernel
theorem d2_33 : decode method_3_code 33 = .ok (.i2c, 1) := by decide +kernel
theorem d2_34 : decode method_3_code 34 = .ok (.ireturn, 1) := by decide +kernel
theorem own_ltn {x y : Int32} {a b : Nat} (hx : x.toInt = (a : Int)) (hy : y.toInt = (b : Int)) (h : x < y) : a < b := by rw [Int32.lt_iff_toInt_lt, hx, hy] at h; omega
theorem own_w255 (y : Int64) : 0 ≤ (nar .char ((y &&& (255 : Int64)).toInt32.toUInt32.toUInt16.toUInt32.toInt32)).toInt ∧ (nar .char ((y &&& (255 : Int64)).toInt32.toUInt32.toUInt16.toUInt32.toInt32)).toInt < 256 := by
  have h := c_maskL y 255 8 (by decide) (by decide)
  have h2 := c_l2i (y &&& 255)
  have r := rng32 (y &&& 255).toInt32
  have e : 0 ≤ (y &&& 255).toInt32.toInt ∧ (y &&& 255).toInt32.toInt < 256 := by
    generalize (y &&& 255).toInt32.toInt = v at *
    generalize (y &&& 255).toInt = u at *
    omega
  obtain ⟨k, hk⟩ := own_c8 e
  rw [hk]
  clear hk e h h2 r
  revert k
  decide +kernel
theorem CHx.fresh {Z : State} {EL : List (String × Nat)} {vm : Vm} {h h' : Heap} {x : Addr} (H : CHx Z EL [] vm h) (E : Ext h h') (hx : h.size ≤ x) (hx' : x < h'.size) : CHx Z EL [x] vm h' := by
  refine ⟨H.1.ext E, fun y hy => ?_⟩
  rw [List.mem_singleton.mp hy]
  refine ⟨hx', Safe.ext E H.1 fun B => ?_⟩
  obtain ⟨p, hp, u, a, hb, q, hq, F, hy⟩ := B
  have h1 := (Array.getElem?_eq_some_iff.mp F.ha).1
  have h2 := (Array.getElem?_eq_some_iff.mp F.hd).1
  rcases hy with rfl | rfl
  · exact absurd h1 (Nat.not_lt.mpr hx)
  · exact absurd h2 (Nat.not_lt.mpr hx)
theorem ef_ch (m : MethodId) (r0 : Addr) (p1 : Int32) (p2 : Int32) (q3 : Int64)  : entryFrame m #[(.ref r0), (.int p1), (.int p2), (.long q3)] 5 = mkF m 0 #[.val (.ref r0), .val (.int p1), .val (.int p2), .val (.long q3), .second] [] := by (first | (simp [entryFrame, mkF, argsToLocals, Value.category]; done) | rfl)
theorem pn_2 : plainFor (⟨"com/example/herring/herring/acl/SchemeNamedPinLaw", "ch", "(Ljava/lang/String;IIJ)C"⟩ : MethodName) = true := plainFor_of_name (by first | (simp [plainName, overriddenIn]; done) | decide +kernel)
set_option maxRecDepth 65536 in
set_option maxHeartbeats 40000000 in
theorem rm_ch (l : Launch) (Z : State) (a0 : Array Value) (hw : ∀ d ∈ tables_1, d.before a0 Z = true) (ws : List Jvm.Cond) (r0 : Addr) (p1 : Int32) (p2 : Int32) (q3 : Int64) (h0 : Heap) (b : Addr) (n : Nat) (c_ : Nat → Int32) (S : STR Z h0 r0 b n c_) (zn : Int32) (hzn : zn.toInt = (n : Int)) (cs : Int32) (SC : Sta Z h0 "java/lang/String" "COMPACT_STRINGS" "Z" (.int cs)) (hcs : ¬ cs = (0 : Int32)) (vf : Value) (hcat_vf : vf.category = 1) (SF : Sta Z h0 "jdk/internal/util/Preconditions" "SIOOBE_FORMATTER" "Ljava/util/function/BiFunction;" vf) (hc8 : C8 n c_) (i : Nat) (hi : p1.toInt = (i : Int)) :
    OMet l (⟨"com/example/herring/herring/acl/SchemeNamedPinLaw", "ch", "(Ljava/lang/String;IIJ)C"⟩ : MethodName) method_3_code 5 (some .char) ws ({ frames := 4, cells := 0, slots := 0, locals := 64 } : Room) #[(.ref r0), (.int p1), (.int p2), (.long q3)] Z h0 (fun v h L => ∃ x : Int32, v = some (.int x) ∧ L = [] ∧ h = h0 ∧ 0 ≤ x.toInt ∧ x.toInt < 256) := by
  refine OMet.of pn_2 (fun m => ef_ch m r0 p1 p2 q3 ) ?_
  intro p e s m below meth c s₁ hx hby hml hown hnm hret hlk hZ X0 e0
  refine Owes.go ?_ fun t₀ k₀ => XS.iloadN X0.here hx rfl (hb hby d2_0) rfl k₀
  show Owes _ _ _ _ (s₁.setTop (mkF m 1 #[.val (.ref r0), .val (.int p1), .val (.int p2), .val (.long q3), .second] [(.int p1)]))
  refine Owes.go ?_ fun t₀ k₀ => XS.aloadN X0.here hx rfl (hb hby d2_1) rfl rfl k₀
  show Owes _ _ _ _ (s₁.setTop (mkF m 2 #[.val (.ref r0), .val (.int p1), .val (.int p2), .val (.long q3), .second] [(.ref r0), (.int p1)]))
  refine Owes.callV X0 hx hZ hown (hw _ (List.mem_of_getElem? (i := 19) rfl)) (hw _ (List.mem_of_getElem? (i := 20) rfl)) (notFace_of_selects (args := #[]) (mvT hZ (hw _ (List.mem_of_getElem? (i := 22) rfl)))) (hw _ (List.mem_of_getElem? (i := 22) rfl)) (hw _ (List.mem_of_getElem? (i := 21) rfl)) (hw _ (List.mem_of_getElem? (i := 1) rfl)) (hw _ (List.mem_of_getElem? (i := 23) rfl)) (by decide) (a := r0) (argsL := []) (rest := [(.int p1)]) (rm_len l Z a0 hw [] r0  h0 b n c_ S zn hzn cs SC hcs) e0 S.1 (by rw [hml]; rfl) pd_6 rfl rfl (hb hby d2_2) (by decide) (Nat.le_of_ble_eq_true rfl) (by decide) (by decide) ?_
  rintro T22 _ _ X22 ⟨rfl, rfl, e22⟩
  rw [List.append_nil] at X22
  show Owes _ _ _ _ (T22.setTop (mkF m 5 #[.val (.ref r0), .val (.int p1), .val (.int p2), .val (.long q3), .second] [(.int zn), (.int p1)]))
  by_cases hc1 : p1 < zn
  · skip
    refine Owes.go ?_ fun t₀ k₀ => XS.icmpNo X22.here hx rfl (hb hby d2_5) rfl (tlt hc1).2.1 k₀
    show Owes _ _ _ _ (T22.setTop (mkF m 8 #[.val (.ref r0), .val (.int p1), .val (.int p2), .val (.long q3), .second] []))
    refine Owes.go ?_ fun t₀ k₀ => XS.iloadN X22.here hx rfl (hb hby d2_8) rfl k₀
    show Owes _ _ _ _ (T22.setTop (mkF m 9 #[.val (.ref r0), .val (.int p1), .val (.int p2), .val (.long q3), .second] [(.int p2)]))
    refine Owes.go ?_ fun t₀ k₀ => XS.iloadN X22.here hx rfl (hb hby d2_9) rfl k₀
    show Owes _ _ _ _ (T22.setTop (mkF m 10 #[.val (.ref r0), .val (.int p1), .val (.int p2), .val (.long q3), .second] [(.int p1), (.int p2)]))
    refine Owes.go ?_ fun t₀ k₀ => XS.iushr X22.here hx rfl (hb hby d2_10) rfl k₀
    show Owes _ _ _ _ (T22.setTop (mkF m 11 #[.val (.ref r0), .val (.int p1), .val (.int p2), .val (.long q3), .second] [(.int ((p2.toUInt32 >>> (p1 &&& 31).toUInt32).toInt32))]))
    refine Owes.go ?_ fun t₀ k₀ => XS.iconst X22.here hx rfl (hb hby d2_11) k₀
    show Owes _ _ _ _ (T22.setTop (mkF m 12 #[.val (.ref r0), .val (.int p1), .val (.int p2), .val (.long q3), .second] [(.int (1 : Int32)), (.int ((p2.toUInt32 >>> (p1 &&& 31).toUInt32).toInt32))]))
    refine Owes.go ?_ fun t₀ k₀ => XS.iand X22.here hx rfl (hb hby d2_12) rfl k₀
    show Owes _ _ _ _ (T22.setTop (mkF m 13 #[.val (.ref r0), .val (.int p1), .val (.int p2), .val (.long q3), .second] [(.int (((p2.toUInt32 >>> (p1 &&& 31).toUInt32).toInt32) &&& (1 : Int32)))]))
    by_cases hc2 : (((p2.toUInt32 >>> (p1 &&& 31).toUInt32).toInt32) &&& (1 : Int32)) = (0 : Int32)
    · skip
      refine Owes.go ?_ fun t₀ k₀ => XS.ifNo X22.here hx rfl (hb hby d2_13) rfl ((if0 _ _).trans (teq hc2).2) k₀
      show Owes _ _ _ _ (T22.setTop (mkF m 16 #[.val (.ref r0), .val (.int p1), .val (.int p2), .val (.long q3), .second] []))
      refine Owes.go ?_ fun t₀ k₀ => XS.aloadN X22.here hx rfl (hb hby d2_16) rfl rfl k₀
      show Owes _ _ _ _ (T22.setTop (mkF m 17 #[.val (.ref r0), .val (.int p1), .val (.int p2), .val (.long q3), .second] [(.ref r0)]))
      refine Owes.go ?_ fun t₀ k₀ => XS.iloadN X22.here hx rfl (hb hby d2_17) rfl k₀
      show Owes _ _ _ _ (T22.setTop (mkF m 18 #[.val (.ref r0), .val (.int p1), .val (.int p2), .val (.long q3), .second] [(.int p1), (.ref r0)]))
      have hin : i < n := own_ltn hi hzn hc1
      refine Owes.callV X22 hx hZ hown (hw _ (List.mem_of_getElem? (i := 93) rfl)) (hw _ (List.mem_of_getElem? (i := 94) rfl)) (notFace_of_selects (args := #[]) (mvT hZ (hw _ (List.mem_of_getElem? (i := 96) rfl)))) (hw _ (List.mem_of_getElem? (i := 96) rfl)) (hw _ (List.mem_of_getElem? (i := 95) rfl)) (hw _ (List.mem_of_getElem? (i := 1) rfl)) (hw _ (List.mem_of_getElem? (i := 97) rfl)) (by decide) (a := r0) (argsL := [(.int p1)]) (rest := []) (rm_ca l Z a0 hw [] r0 p1 h0 b n c_ S zn hzn cs SC hcs vf hcat_vf SF hc8 i hi hin) e22 S.1 (by rw [hml]; rfl) pd_7 rfl rfl (hb hby d2_18) (by decide) (Nat.le_of_ble_eq_true rfl) (by decide) (by decide) ?_
      rintro T23 _ _ X23 ⟨rfl, rfl, e23⟩
      rw [List.append_nil] at X23
      show Owes _ _ _ _ (T23.setTop (mkF m 21 #[.val (.ref r0), .val (.int p1), .val (.int p2), .val (.long q3), .second] [(.int (c_ i))]))
      exact Owes.retN X23 hx hlk hret (by simp) (hb hby d2_21) (by decide) (by decide) ⟨_, rfl, rfl, e23, by rw [own_narC (hc8 i hin)]; exact hc8 i hin⟩
    · skip
      refine Owes.go ?_ fun t₀ k₀ => XS.ifYes X22.here hx rfl (pc0 := 13) (pc' := 22) rfl (hb hby d2_13) rfl ((if0 _ _).trans (feq hc2).2) (by decide) (by decide) k₀
      show Owes _ _ _ _ (T22.setTop (mkF m 22 #[.val (.ref r0), .val (.int p1), .val (.int p2), .val (.long q3), .second] []))
      refine Owes.go ?_ fun t₀ k₀ => XS.lloadN X22.here hx rfl (hb hby d2_22) rfl k₀
      show Owes _ _ _ _ (T22.setTop (mkF m 23 #[.val (.ref r0), .val (.int p1), .val (.int p2), .val (.long q3), .second] [(.long q3)]))
      refine Owes.go ?_ fun t₀ k₀ => XS.bipush X22.here hx rfl (hb hby d2_23) k₀
      show Owes _ _ _ _ (T22.setTop (mkF m 25 #[.val (.ref r0), .val (.int p1), .val (.int p2), .val (.long q3), .second] [(.int (8 : Int32)), (.long q3)]))
      refine Owes.go ?_ fun t₀ k₀ => XS.iloadN X22.here hx rfl (hb hby d2_25) rfl k₀
      show Owes _ _ _ _ (T22.setTop (mkF m 26 #[.val (.ref r0), .val (.int p1), .val (.int p2), .val (.long q3), .second] [(.int p1), (.int (8 : Int32)), (.long q3)]))
      refine Owes.go ?_ fun t₀ k₀ => XS.imul X22.here hx rfl (hb hby d2_26) rfl k₀
      show Owes _ _ _ _ (T22.setTop (mkF m 27 #[.val (.ref r0), .val (.int p1), .val (.int p2), .val (.long q3), .second] [(.int ((8 : Int32) * p1)), (.long q3)]))
      refine Owes.go ?_ fun t₀ k₀ => XS.lushr X22.here hx rfl (hb hby d2_27) rfl k₀
      show Owes _ _ _ _ (T22.setTop (mkF m 28 #[.val (.ref r0), .val (.int p1), .val (.int p2), .val (.long q3), .second] [(.long ((q3.toUInt64 >>> (((8 : Int32) * p1) &&& 0x3f).toInt64.toUInt64).toInt64))]))
      refine Owes.go ?_ fun t₀ k₀ => X22.ldc2Long hx hown (mvT hZ (hw _ (List.mem_of_getElem? (i := 31) rfl))) (g := (mkF m 28 #[.val (.ref r0), .val (.int p1), .val (.int p2), .val (.long q3), .second] [(.long ((q3.toUInt64 >>> (((8 : Int32) * p1) &&& 0x3f).toInt64.toUInt64).toInt64))])) rfl (hb hby d2_28) _ k₀
      show Owes _ _ _ _ (T22.setTop (mkF m 31 #[.val (.ref r0), .val (.int p1), .val (.int p2), .val (.long q3), .second] [(.long (255 : Int64)), (.long ((q3.toUInt64 >>> (((8 : Int32) * p1) &&& 0x3f).toInt64.toUInt64).toInt64))]))
      refine Owes.go ?_ fun t₀ k₀ => XS.land X22.here hx rfl (hb hby d2_31) rfl k₀
      show Owes _ _ _ _ (T22.setTop (mkF m 32 #[.val (.ref r0), .val (.int p1), .val (.int p2), .val (.long q3), .second] [(.long (((q3.toUInt64 >>> (((8 : Int32) * p1) &&& 0x3f).toInt64.toUInt64).toInt64) &&& (255 : Int64)))]))
      refine Owes.go ?_ fun t₀ k₀ => XS.l2i X22.here hx rfl (hb hby d2_32) rfl k₀
      show Owes _ _ _ _ (T22.setTop (mkF m 33 #[.val (.ref r0), .val (.int p1), .val (.int p2), .val (.long q3), .second] [(.int ((((q3.toUInt64 >>> (((8 : Int32) * p1) &&& 0x3f).toInt64.toUInt64).toInt64) &&& (255 : Int64)).toInt32))]))
      refine Owes.go ?_ fun t₀ k₀ => XS.i2c X22.here hx rfl (hb hby d2_33) rfl k₀
      show Owes _ _ _ _ (T22.setTop (mkF m 34 #[.val (.ref r0), .val (.int p1), .val (.int p2), .val (.long q3), .second] [(.int (((((q3.toUInt64 >>> (((8 : Int32) * p1) &&& 0x3f).toInt64.toUInt64).toInt64) &&& (255 : Int64)).toInt32).toUInt32.toUInt16.toUInt32.toInt32))]))
      exact Owes.retN X22 hx hlk hret (by simp) (hb hby d2_34) (by decide) (by decide) ⟨_, rfl, rfl, e22, own_w255 _⟩
  · skip
    refine Owes.go ?_ fun t₀ k₀ => XS.icmpYes X22.here hx rfl (pc0 := 5) (pc' := 22) rfl (hb hby d2_5) rfl (flt hc1).2.1 (by decide) (by decide) k₀
    show Owes _ _ _ _ (T22.setTop (mkF m 22 #[.val (.ref r0), .val (.int p1), .val (.int p2), .val (.long q3), .second] []))
    refine Owes.go ?_ fun t₀ k₀ => XS.lloadN X22.here hx rfl (hb hby d2_22) rfl k₀
    show Owes _ _ _ _ (T22.setTop (mkF m 23 #[.val (.ref r0), .val (.int p1), .val (.int p2), .val (.long q3), .second] [(.long q3)]))
    refine Owes.go ?_ fun t₀ k₀ => XS.bipush X22.here hx rfl (hb hby d2_23) k₀
    show Owes _ _ _ _ (T22.setTop (mkF m 25 #[.val (.ref r0), .val (.int p1), .val (.int p2), .val (.long q3), .second] [(.int (8 : Int32)), (.long q3)]))
    refine Owes.go ?_ fun t₀ k₀ => XS.iloadN X22.here hx rfl (hb hby d2_25) rfl k₀
    show Owes _ _ _ _ (T22.setTop (mkF m 26 #[.val (.ref r0), .val (.int p1), .val (.int p2), .val (.long q3), .second] [(.int p1), (.int (8 : Int32)), (.long q3)]))
    refine Owes.go ?_ fun t₀ k₀ => XS.imul X22.here hx rfl (hb hby d2_26) rfl k₀
    show Owes _ _ _ _ (T22.setTop (mkF m 27 #[.val (.ref r0), .val (.int p1), .val (.int p2), .val (.long q3), .second] [(.int ((8 : Int32) * p1)), (.long q3)]))
    refine Owes.go ?_ fun t₀ k₀ => XS.lushr X22.here hx rfl (hb hby d2_27) rfl k₀
    show Owes _ _ _ _ (T22.setTop (mkF m 28 #[.val (.ref r0), .val (.int p1), .val (.int p2), .val (.long q3), .second] [(.long ((q3.toUInt64 >>> (((8 : Int32) * p1) &&& 0x3f).toInt64.toUInt64).toInt64))]))
    refine Owes.go ?_ fun t₀ k₀ => X22.ldc2Long hx hown (mvT hZ (hw _ (List.mem_of_getElem? (i := 31) rfl))) (g := (mkF m 28 #[.val (.ref r0), .val (.int p1), .val (.int p2), .val (.long q3), .second] [(.long ((q3.toUInt64 >>> (((8 : Int32) * p1) &&& 0x3f).toInt64.toUInt64).toInt64))])) rfl (hb hby d2_28) _ k₀
    show Owes _ _ _ _ (T22.setTop (mkF m 31 #[.val (.ref r0), .val (.int p1), .val (.int p2), .val (.long q3), .second] [(.long (255 : Int64)), (.long ((q3.toUInt64 >>> (((8 : Int32) * p1) &&& 0x3f).toInt64.toUInt64).toInt64))]))
    refine Owes.go ?_ fun t₀ k₀ => XS.land X22.here hx rfl (hb hby d2_31) rfl k₀
    show Owes _ _ _ _ (T22.setTop (mkF m 32 #[.val (.ref r0), .val (.int p1), .val (.int p2), .val (.long q3), .second] [(.long (((q3.toUInt64 >>> (((8 : Int32) * p1) &&& 0x3f).toInt64.toUInt64).toInt64) &&& (255 : Int64)))]))
    refine Owes.go ?_ fun t₀ k₀ => XS.l2i X22.here hx rfl (hb hby d2_32) rfl k₀
    show Owes _ _ _ _ (T22.setTop (mkF m 33 #[.val (.ref r0), .val (.int p1), .val (.int p2), .val (.long q3), .second] [(.int ((((q3.toUInt64 >>> (((8 : Int32) * p1) &&& 0x3f).toInt64.toUInt64).toInt64) &&& (255 : Int64)).toInt32))]))
    refine Owes.go ?_ fun t₀ k₀ => XS.i2c X22.here hx rfl (hb hby d2_33) rfl k₀
    show Owes _ _ _ _ (T22.setTop (mkF m 34 #[.val (.ref r0), .val (.int p1), .val (.int p2), .val (.long q3), .second] [(.int (((((q3.toUInt64 >>> (((8 : Int32) * p1) &&& 0x3f).toInt64.toUInt64).toInt64) &&& (255 : Int64)).toInt32).toUInt32.toUInt16.toUInt32.toInt32))]))
    exact Owes.retN X22 hx hlk hret (by simp) (hb hby d2_34) (by decide) (by decide) ⟨_, rfl, rfl, e22, own_w255 _⟩
theorem d13_0 : decode jdk_52_method_21_code 0 = .ok (.iconst 0, 1) := by decide +kernel
theorem d13_1 : decode jdk_52_method_21_code 1 = .ok (.istore 5, 2) := by decide +kernel
theorem d13_3 : decode jdk_52_method_21_code 3 = .ok (.iload 5, 2) := by decide +kernel
theorem d13_5 : decode jdk_52_method_21_code 5 = .ok (.iload 4, 2) := by decide +kernel
theorem d13_7 : decode jdk_52_method_21_code 7 = .ok (.if_icmp .ge 37, 3) := by decide +kernel
theorem d13_44 : decode jdk_52_method_21_code 44 = .ok (.iload 4, 2) := by decide +kernel
theorem d13_46 : decode jdk_52_method_21_code 46 = .ok (.ireturn, 1) := by decide +kernel
theorem d13_10 : decode jdk_52_method_21_code 10 = .ok (.aload_n 0, 1) := by decide +kernel
theorem d13_11 : decode jdk_52_method_21_code 11 = .ok (.iload_n 1, 1) := by decide +kernel
theorem d13_12 : decode jdk_52_method_21_code 12 = .ok (.caload, 1) := by decide +kernel
theorem d13_13 : decode jdk_52_method_21_code 13 = .ok (.istore 6, 2) := by decide +kernel
theorem d13_15 : decode jdk_52_method_21_code 15 = .ok (.iload 6, 2) := by decide +kernel
theorem d13_17 : decode jdk_52_method_21_code 17 = .ok (.sipush 255, 3) := by decide +kernel
theorem d13_20 : decode jdk_52_method_21_code 20 = .ok (.if_icmp .le 6, 3) := by decide +kernel
theorem d13_26 : decode jdk_52_method_21_code 26 = .ok (.aload_n 2, 1) := by decide +kernel
theorem d13_27 : decode jdk_52_method_21_code 27 = .ok (.iload_n 3, 1) := by decide +kernel
theorem d13_28 : decode jdk_52_method_21_code 28 = .ok (.iload 6, 2) := by decide +kernel
theorem d13_30 : decode jdk_52_method_21_code 30 = .ok (.i2b, 1) := by decide +kernel
theorem d13_31 : decode jdk_52_method_21_code 31 = .ok (.bastore, 1) := by decide +kernel
theorem d13_32 : decode jdk_52_method_21_code 32 = .ok (.iinc 1 1, 3) := by decide +kernel
theorem d13_35 : decode jdk_52_method_21_code 35 = .ok (.iinc 3 1, 3) := by decide +kernel
theorem d13_38 : decode jdk_52_method_21_code 38 = .ok (.iinc 5 1, 3) := by decide +kernel
theorem d13_41 : decode jdk_52_method_21_code 41 = .ok (.goto (-38), 3) := by decide +kernel
theorem ef_cmp5 (m : MethodId) (r0 : Addr) (r2 : Addr) (zn : Int32)  : entryFrame m #[(.ref r0), (.int (0 : Int32)), (.ref r2), (.int (0 : Int32)), (.int zn)] 7 = mkF m 0 #[.val (.ref r0), .val (.int (0 : Int32)), .val (.ref r2), .val (.int (0 : Int32)), .val (.int zn), .unset, .unset] [] := by (first | (simp [entryFrame, mkF, argsToLocals, Value.category]; done) | rfl)
theorem pn_13 : plainFor (⟨"java/lang/StringUTF16", "compress", "([CI[BII)I"⟩ : MethodName) = true := plainFor_of_name (by first | (simp [plainName, overriddenIn]; done) | decide +kernel)
set_option maxRecDepth 65536 in
set_option maxHeartbeats 40000000 in
theorem rm_cmp5 (l : Launch) (Z : State) (a0 : Array Value) (hw : ∀ d ∈ tables_1, d.before a0 Z = true) (ws : List Jvm.Cond) (r0 : Addr) (r2 : Addr) (zn : Int32) (h0 : Heap) (n0 : Nat) (Z0 : n0 ≤ h0.size) (n : Nat) (c_ : Nat → Int32) (G : GA Z h0 r0 .char n (fun i => .int (c_ i))) (hzn : zn.toInt = (n : Int)) (hc8 : C8 n c_) (hn1 : 1 ≤ n) (hn9 : n ≤ 16) (g2 : n0 ≤ r2) (wf0 : Nat → Int32) (G2 : GA Z h0 r2 .byte n (fun i => .int (wf0 i))) :
    OMet l (⟨"java/lang/StringUTF16", "compress", "([CI[BII)I"⟩ : MethodName) jdk_52_method_21_code 7 (some .int) ws ({ frames := 0, cells := 0, slots := 0, locals := 0 } : Room) #[(.ref r0), (.int (0 : Int32)), (.ref r2), (.int (0 : Int32)), (.int zn)] Z h0 (fun v h L => v = some (.int zn) ∧ Fr n0 L ∧ Keep h0 h [r2] ∧ StK Z h0 h ∧ GA Z h r2 .byte n (fun i => .int (c_ i).toInt8.toInt32)) := by
  refine OMet.of pn_13 (fun m => ef_cmp5 m r0 r2 zn ) ?_
  intro p e s m below meth c s₁ hx hby hml hown hnm hret hlk hZ X0 e0
  have nrc : r0 ∉ [r2] := own_ni1' (GA.ne G G2 (by decide))
  refine Owes.go ?_ fun t₀ k₀ => XS.iconst X0.here hx rfl (hb hby d13_0) k₀
  show Owes _ _ _ _ (s₁.setTop (mkF m 1 #[.val (.ref r0), .val (.int (0 : Int32)), .val (.ref r2), .val (.int (0 : Int32)), .val (.int zn), .unset, .unset] [(.int (0 : Int32))]))
  refine Owes.go ?_ fun t₀ k₀ => XS.istore X0.here hx rfl (hb hby d13_1) rfl (l' := #[.val (.ref r0), .val (.int (0 : Int32)), .val (.ref r2), .val (.int (0 : Int32)), .val (.int zn), .val (.int (0 : Int32)), .unset]) rfl k₀
  show Owes _ _ _ _ (s₁.setTop (mkF m 3 #[.val (.ref r0), .val (.int (0 : Int32)), .val (.ref r2), .val (.int (0 : Int32)), .val (.int zn), .val (.int (0 : Int32)), .unset] []))
  have lp : ∀ (r k : Nat), k + r = n → ∀ (aI bI iI : Int32) (T1 : State) (locs : List Loc) (h : Heap) (wf : Nat → Int32) (s6 : Slot), One s6 → Stand p l e ({ frames := 0, cells := 0, slots := 0, locals := 0 } : Room) s m #[(.ref r0), (.int (0 : Int32)), (.ref r2), (.int (0 : Int32)), (.int zn)] below meth c T1 locs 0 0 → T1.heap = h → Fr n0 locs → Keep h0 h [r2] → StK Z h0 h → GA Z h r2 .byte n (fun i => .int (wf i)) → (∀ i, i < k → wf i = (c_ i).toInt8.toInt32) → aI.toInt = (k : Int) → bI.toInt = (k : Int) → iI.toInt = (k : Int) → Owes p e below (EndN s (fun v h L => v = some (.int zn) ∧ Fr n0 L ∧ Keep h0 h [r2] ∧ StK Z h0 h ∧ GA Z h r2 .byte n (fun i => .int (c_ i).toInt8.toInt32)) ({ frames := 0, cells := 0, slots := 0, locals := 0 } : Room).cells ({ frames := 0, cells := 0, slots := 0, locals := 0 } : Room).slots) (T1.setTop (mkF m 3 #[.val (.ref r0), .val (.int aI), .val (.ref r2), .val (.int bI), .val (.int zn), .val (.int iI), s6] [])) := by
    intro r
    induction r with
    | zero =>
      intro k hk aI bI iI T1 locs h wf s6 o6 X eT N K ST GW HW ha hb' hi
      have hkn : k = n := by omega
      subst hkn
      refine Owes.go ?_ fun t₀ k₀ => XS.iload X.here hx rfl (hb hby d13_3) rfl k₀
      show Owes _ _ _ _ (T1.setTop (mkF m 5 #[.val (.ref r0), .val (.int aI), .val (.ref r2), .val (.int bI), .val (.int zn), .val (.int iI), s6] [(.int iI)]))
      refine Owes.go ?_ fun t₀ k₀ => XS.iload X.here hx rfl (hb hby d13_5) rfl k₀
      show Owes _ _ _ _ (T1.setTop (mkF m 7 #[.val (.ref r0), .val (.int aI), .val (.ref r2), .val (.int bI), .val (.int zn), .val (.int iI), s6] [(.int zn), (.int iI)]))
      refine Owes.go ?_ fun t₀ k₀ => XS.icmpYes X.here hx rfl (pc0 := 7) (pc' := 44) rfl (hb hby d13_7) rfl (flt (own_nlti hi hzn (by omega))).2.1 (by decide) (by decide) k₀
      show Owes _ _ _ _ (T1.setTop (mkF m 44 #[.val (.ref r0), .val (.int aI), .val (.ref r2), .val (.int bI), .val (.int zn), .val (.int iI), s6] []))
      refine Owes.go ?_ fun t₀ k₀ => XS.iload X.here hx rfl (hb hby d13_44) rfl k₀
      show Owes _ _ _ _ (T1.setTop (mkF m 46 #[.val (.ref r0), .val (.int aI), .val (.ref r2), .val (.int bI), .val (.int zn), .val (.int iI), s6] [(.int zn)]))
      exact Owes.retI X hx hlk hret (hb hby d13_46) (by decide) (by decide) (by rw [eT]; exact ⟨rfl, N, K, ST, GW.congr fun i hi' => by rw [HW i hi']⟩)
    | succ r ih =>
      intro k hk aI bI iI T1 locs h wf s6 o6 X eT N K ST GW HW ha hb' hi
      have hkn : k < n := by omega
      refine Owes.go ?_ fun t₀ k₀ => XS.iload X.here hx rfl (hb hby d13_3) rfl k₀
      show Owes _ _ _ _ (T1.setTop (mkF m 5 #[.val (.ref r0), .val (.int aI), .val (.ref r2), .val (.int bI), .val (.int zn), .val (.int iI), s6] [(.int iI)]))
      refine Owes.go ?_ fun t₀ k₀ => XS.iload X.here hx rfl (hb hby d13_5) rfl k₀
      show Owes _ _ _ _ (T1.setTop (mkF m 7 #[.val (.ref r0), .val (.int aI), .val (.ref r2), .val (.int bI), .val (.int zn), .val (.int iI), s6] [(.int zn), (.int iI)]))
      refine Owes.go ?_ fun t₀ k₀ => XS.icmpNo X.here hx rfl (hb hby d13_7) rfl (tlt (own_lti hi hzn hkn)).2.1 k₀
      show Owes _ _ _ _ (T1.setTop (mkF m 10 #[.val (.ref r0), .val (.int aI), .val (.ref r2), .val (.int bI), .val (.int zn), .val (.int iI), s6] []))
      refine Owes.go ?_ fun t₀ k₀ => XS.aloadN X.here hx rfl (hb hby d13_10) rfl rfl k₀
      show Owes _ _ _ _ (T1.setTop (mkF m 11 #[.val (.ref r0), .val (.int aI), .val (.ref r2), .val (.int bI), .val (.int zn), .val (.int iI), s6] [(.ref r0)]))
      refine Owes.go ?_ fun t₀ k₀ => XS.iloadN X.here hx rfl (hb hby d13_11) rfl k₀
      show Owes _ _ _ _ (T1.setTop (mkF m 12 #[.val (.ref r0), .val (.int aI), .val (.ref r2), .val (.int bI), .val (.int zn), .val (.int iI), s6] [(.int aI), (.ref r0)]))
      refine Owes.gC X hx hZ eT (GA.keep G K nrc) ha hkn (v := .int (c_ k)) rfl (hb hby d13_12) ?_
      show Owes _ _ _ _ (T1.setTop (mkF m 13 #[.val (.ref r0), .val (.int aI), .val (.ref r2), .val (.int bI), .val (.int zn), .val (.int iI), s6] [(.int (c_ k))]))
      refine Owes.go ?_ fun t₀ k₀ => XS.istore X.here hx rfl (hb hby d13_13) rfl (l' := #[.val (.ref r0), .val (.int aI), .val (.ref r2), .val (.int bI), .val (.int zn), .val (.int iI), .val (.int (c_ k))]) (XS.store1 rfl o6 rfl) k₀
      show Owes _ _ _ _ (T1.setTop (mkF m 15 #[.val (.ref r0), .val (.int aI), .val (.ref r2), .val (.int bI), .val (.int zn), .val (.int iI), .val (.int (c_ k))] []))
      refine Owes.go ?_ fun t₀ k₀ => XS.iload X.here hx rfl (hb hby d13_15) rfl k₀
      show Owes _ _ _ _ (T1.setTop (mkF m 17 #[.val (.ref r0), .val (.int aI), .val (.ref r2), .val (.int bI), .val (.int zn), .val (.int iI), .val (.int (c_ k))] [(.int (c_ k))]))
      refine Owes.go ?_ fun t₀ k₀ => XS.sipush X.here hx rfl (hb hby d13_17) k₀
      show Owes _ _ _ _ (T1.setTop (mkF m 20 #[.val (.ref r0), .val (.int aI), .val (.ref r2), .val (.int bI), .val (.int zn), .val (.int iI), .val (.int (c_ k))] [(.int (255 : Int32)), (.int (c_ k))]))
      refine Owes.go ?_ fun t₀ k₀ => XS.icmpYes X.here hx rfl (pc0 := 20) (pc' := 26) rfl (hb hby d13_20) rfl (flt (own_c255 (hc8 k hkn))).2.2.2 (by decide) (by decide) k₀
      show Owes _ _ _ _ (T1.setTop (mkF m 26 #[.val (.ref r0), .val (.int aI), .val (.ref r2), .val (.int bI), .val (.int zn), .val (.int iI), .val (.int (c_ k))] []))
      refine Owes.go ?_ fun t₀ k₀ => XS.aloadN X.here hx rfl (hb hby d13_26) rfl rfl k₀
      show Owes _ _ _ _ (T1.setTop (mkF m 27 #[.val (.ref r0), .val (.int aI), .val (.ref r2), .val (.int bI), .val (.int zn), .val (.int iI), .val (.int (c_ k))] [(.ref r2)]))
      refine Owes.go ?_ fun t₀ k₀ => XS.iloadN X.here hx rfl (hb hby d13_27) rfl k₀
      show Owes _ _ _ _ (T1.setTop (mkF m 28 #[.val (.ref r0), .val (.int aI), .val (.ref r2), .val (.int bI), .val (.int zn), .val (.int iI), .val (.int (c_ k))] [(.int bI), (.ref r2)]))
      refine Owes.go ?_ fun t₀ k₀ => XS.iload X.here hx rfl (hb hby d13_28) rfl k₀
      show Owes _ _ _ _ (T1.setTop (mkF m 30 #[.val (.ref r0), .val (.int aI), .val (.ref r2), .val (.int bI), .val (.int zn), .val (.int iI), .val (.int (c_ k))] [(.int (c_ k)), (.int bI), (.ref r2)]))
      refine Owes.go ?_ fun t₀ k₀ => XS.i2b X.here hx rfl (hb hby d13_30) rfl k₀
      show Owes _ _ _ _ (T1.setTop (mkF m 31 #[.val (.ref r0), .val (.int aI), .val (.ref r2), .val (.int bI), .val (.int zn), .val (.int iI), .val (.int (c_ k))] [(.int ((c_ k).toInt8.toInt32)), (.int bI), (.ref r2)]))
      refine Owes.sBy X hx hZ eT GW hb' hkn own_narB (hb hby d13_31) ?_
      intro T24 h24 X24 e24 W24 G24
      have N24 := Fr.snoc X24 N g2
      have GX24 : GA Z h24 r2 .byte n (fun i => .int (upd wf k (c_ k).toInt8.toInt32 i)) := G24.congr fun i _ => by
        by_cases q : i = k
        · rw [q, upd_same, upd_same]
        · rw [upd_ne _ _ q, upd_ne _ _ q]
      show Owes _ _ _ _ (T24.setTop (mkF m 32 #[.val (.ref r0), .val (.int aI), .val (.ref r2), .val (.int bI), .val (.int zn), .val (.int iI), .val (.int (c_ k))] []))
      refine Owes.go ?_ fun t₀ k₀ => XS.iinc X24.here hx rfl (hb hby d13_32) rfl (l' := #[.val (.ref r0), .val (.int (aI + (1 : Int32))), .val (.ref r2), .val (.int bI), .val (.int zn), .val (.int iI), .val (.int (c_ k))]) rfl k₀
      show Owes _ _ _ _ (T24.setTop (mkF m 35 #[.val (.ref r0), .val (.int (aI + (1 : Int32))), .val (.ref r2), .val (.int bI), .val (.int zn), .val (.int iI), .val (.int (c_ k))] []))
      refine Owes.go ?_ fun t₀ k₀ => XS.iinc X24.here hx rfl (hb hby d13_35) rfl (l' := #[.val (.ref r0), .val (.int (aI + (1 : Int32))), .val (.ref r2), .val (.int (bI + (1 : Int32))), .val (.int zn), .val (.int iI), .val (.int (c_ k))]) rfl k₀
      show Owes _ _ _ _ (T24.setTop (mkF m 38 #[.val (.ref r0), .val (.int (aI + (1 : Int32))), .val (.ref r2), .val (.int (bI + (1 : Int32))), .val (.int zn), .val (.int iI), .val (.int (c_ k))] []))
      refine Owes.go ?_ fun t₀ k₀ => XS.iinc X24.here hx rfl (hb hby d13_38) rfl (l' := #[.val (.ref r0), .val (.int (aI + (1 : Int32))), .val (.ref r2), .val (.int (bI + (1 : Int32))), .val (.int zn), .val (.int (iI + (1 : Int32))), .val (.int (c_ k))]) rfl k₀
      show Owes _ _ _ _ (T24.setTop (mkF m 41 #[.val (.ref r0), .val (.int (aI + (1 : Int32))), .val (.ref r2), .val (.int (bI + (1 : Int32))), .val (.int zn), .val (.int (iI + (1 : Int32))), .val (.int (c_ k))] []))
      refine Owes.go ?_ fun t₀ k₀ => XS.goto X24.here hx rfl (pc0 := 41) (pc' := 3) rfl (hb hby d13_41) (by decide) (by decide) k₀
      show Owes _ _ _ _ (T24.setTop (mkF m 3 #[.val (.ref r0), .val (.int (aI + (1 : Int32))), .val (.ref r2), .val (.int (bI + (1 : Int32))), .val (.int zn), .val (.int (iI + (1 : Int32))), .val (.int (c_ k))] []))
      exact ih (k + 1) (by omega) _ _ _ _ _ _ _ _ (One.val rfl) X24 e24 N24 (K.wr W24 (Or.inl (List.mem_singleton.mpr rfl))) (ST.wr W24) GX24 (fun i hi' => by
        by_cases q : i = k
        · rw [q, upd_same]
        · rw [upd_ne _ _ q]; exact HW i (by omega)) (own_inc ha (by omega)) (own_inc hb' (by omega)) (own_inc hi (by omega))
  exact lp n 0 (by omega) _ _ _ _ _ _ wf0 .unset One.u X0 e0 (Fr.nil n0) (Keep.refl h0 _) (StK.refl Z h0) G2 (fun i hi' => absurd hi' (Nat.not_lt_zero _)) rfl rfl rfl
theorem d12_0 : decode jdk_52_method_16_code 0 = .ok (.iload_n 2, 1) := by decide +kernel
theorem d12_1 : decode jdk_52_method_16_code 1 = .ok (.newarray .byte, 2) := by decide +kernel
theorem d12_3 : decode jdk_52_method_16_code 3 = .ok (.astore_n 3, 1) := by decide +kernel
theorem d12_4 : decode jdk_52_method_16_code 4 = .ok (.aload_n 0, 1) := by decide +kernel
theorem d12_5 : decode jdk_52_method_16_code 5 = .ok (.iload_n 1, 1) := by decide +kernel
theorem d12_6 : decode jdk_52_method_16_code 6 = .ok (.aload_n 3, 1) := by decide +kernel
theorem d12_7 : decode jdk_52_method_16_code 7 = .ok (.iconst 0, 1) := by decide +kernel
theorem d12_8 : decode jdk_52_method_16_code 8 = .ok (.iload_n 2, 1) := by decide +kernel
theorem d12_9 : decode jdk_52_method_16_code 9 = .ok (.invokestatic 115, 3) := by decide +kernel
theorem pd_8 : parseMethodDescriptor "([CI[BII)I" = some ⟨[(.array .char), .int, (.array .byte), .int, .int], some .int⟩ := by decide +kernel
theorem d12_12 : decode jdk_52_method_16_code 12 = .ok (.istore 4, 2) := by decide +kernel
theorem d12_14 : decode jdk_52_method_16_code 14 = .ok (.iload 4, 2) := by decide +kernel
theorem d12_16 : decode jdk_52_method_16_code 16 = .ok (.iload_n 2, 1) := by decide +kernel
theorem d12_17 : decode jdk_52_method_16_code 17 = .ok (.if_icmp .eq 40, 3) := by decide +kernel
theorem d12_57 : decode jdk_52_method_16_code 57 = .ok (.aload_n 3, 1) := by decide +kernel
theorem d12_58 : decode jdk_52_method_16_code 58 = .ok (.areturn, 1) := by decide +kernel
theorem ef_cmp3 (m : MethodId) (r0 : Addr) (zn : Int32)  : entryFrame m #[(.ref r0), (.int (0 : Int32)), (.int zn)] 6 = mkF m 0 #[.val (.ref r0), .val (.int (0 : Int32)), .val (.int zn), .unset, .unset, .unset] [] := by (first | (simp [entryFrame, mkF, argsToLocals, Value.category]; done) | rfl)
theorem pn_12 : plainFor (⟨"java/lang/StringUTF16", "compress", "([CII)[B"⟩ : MethodName) = true := plainFor_of_name (by first | (simp [plainName, overriddenIn]; done) | decide +kernel)
set_option maxRecDepth 65536 in
set_option maxHeartbeats 40000000 in
theorem rm_cmp3 (l : Launch) (Z : State) (a0 : Array Value) (hw : ∀ d ∈ tables_1, d.before a0 Z = true) (ws : List Jvm.Cond) (r0 : Addr) (zn : Int32) (h0 : Heap) (n0 : Nat) (Z0 : n0 ≤ h0.size) (n : Nat) (c_ : Nat → Int32) (G : GA Z h0 r0 .char n (fun i => .int (c_ i))) (hzn : zn.toInt = (n : Int)) (hc8 : C8 n c_) (hn1 : 1 ≤ n) (hn9 : n ≤ 16) :
    OMet l (⟨"java/lang/StringUTF16", "compress", "([CII)[B"⟩ : MethodName) jdk_52_method_16_code 6 (some (.array .byte)) ws ({ frames := 1, cells := 1, slots := 16, locals := 20 } : Room) #[(.ref r0), (.int (0 : Int32)), (.int zn)] Z h0 (fun v h L => ∃ r : Addr, v = some (.ref r) ∧ Fr n0 L ∧ Keep h0 h [] ∧ StK Z h0 h ∧ GA Z h r .byte n (fun i => .int (c_ i).toInt8.toInt32) ∧ Exa Z h r "[B") := by
  refine OMet.of pn_12 (fun m => ef_cmp3 m r0 zn ) ?_
  intro p e s m below meth c s₁ hx hby hml hown hnm hret hlk hZ X0 e0
  have N0 := Fr.nil n0
  have K0 := Keep.refl h0 []
  have ST0 := StK.refl Z h0
  refine Owes.go ?_ fun t₀ k₀ => XS.iloadN X0.here hx rfl (hb hby d12_0) rfl k₀
  show Owes _ _ _ _ (s₁.setTop (mkF m 1 #[.val (.ref r0), .val (.int (0 : Int32)), .val (.int zn), .unset, .unset, .unset] [(.int zn)]))
  refine Owes.newArr X0 hx hZ (aty := .byte) (hw _ (List.mem_of_getElem? (i := 3) rfl)) e0 (n := n) hzn (by omega) (by decide) (show 0 + n ≤ 16 by omega) (ad := "[B") (by decide) (hb hby d12_1) ?_
  intro T25 h25 X25 e25 E25 G25 EX25
  obtain ⟨r3, gr3⟩ : ∃ z, z = h0.size := ⟨_, rfl⟩
  rw [← gr3] at G25 EX25 ⊢
  have lt_r0_r3 : r0 < r3 := by rw [gr3]; exact (G).lt
  have ge_r3 : h0.size ≤ r3 := by rw [gr3]; exact K0.1
  have gn_r3 : n0 ≤ r3 := Nat.le_trans Z0 ge_r3
  have G_r0_25 := GA.ext G E25
  have K_25 := K0.ext E25
  have ST_25 := ST0.ext E25
  have G25 : GA Z h25 r3 .byte n (fun i => .int ((fun _ => (0 : Int32)) i)) := G25
  show Owes _ _ _ _ (T25.setTop (mkF m 3 #[.val (.ref r0), .val (.int (0 : Int32)), .val (.int zn), .unset, .unset, .unset] [(.ref r3)]))
  refine Owes.go ?_ fun t₀ k₀ => XS.astoreN X25.here hx rfl (hb hby d12_3) rfl rfl (l' := #[.val (.ref r0), .val (.int (0 : Int32)), .val (.int zn), .val (.ref r3), .unset, .unset]) rfl k₀
  show Owes _ _ _ _ (T25.setTop (mkF m 4 #[.val (.ref r0), .val (.int (0 : Int32)), .val (.int zn), .val (.ref r3), .unset, .unset] []))
  refine Owes.go ?_ fun t₀ k₀ => XS.aloadN X25.here hx rfl (hb hby d12_4) rfl rfl k₀
  show Owes _ _ _ _ (T25.setTop (mkF m 5 #[.val (.ref r0), .val (.int (0 : Int32)), .val (.int zn), .val (.ref r3), .unset, .unset] [(.ref r0)]))
  refine Owes.go ?_ fun t₀ k₀ => XS.iloadN X25.here hx rfl (hb hby d12_5) rfl k₀
  show Owes _ _ _ _ (T25.setTop (mkF m 6 #[.val (.ref r0), .val (.int (0 : Int32)), .val (.int zn), .val (.ref r3), .unset, .unset] [(.int (0 : Int32)), (.ref r0)]))
  refine Owes.go ?_ fun t₀ k₀ => XS.aloadN X25.here hx rfl (hb hby d12_6) rfl rfl k₀
  show Owes _ _ _ _ (T25.setTop (mkF m 7 #[.val (.ref r0), .val (.int (0 : Int32)), .val (.int zn), .val (.ref r3), .unset, .unset] [(.ref r3), (.int (0 : Int32)), (.ref r0)]))
  refine Owes.go ?_ fun t₀ k₀ => XS.iconst X25.here hx rfl (hb hby d12_7) k₀
  show Owes _ _ _ _ (T25.setTop (mkF m 8 #[.val (.ref r0), .val (.int (0 : Int32)), .val (.int zn), .val (.ref r3), .unset, .unset] [(.int (0 : Int32)), (.ref r3), (.int (0 : Int32)), (.ref r0)]))
  refine Owes.go ?_ fun t₀ k₀ => XS.iloadN X25.here hx rfl (hb hby d12_8) rfl k₀
  show Owes _ _ _ _ (T25.setTop (mkF m 9 #[.val (.ref r0), .val (.int (0 : Int32)), .val (.int zn), .val (.ref r3), .unset, .unset] [(.int zn), (.int (0 : Int32)), (.ref r3), (.int (0 : Int32)), (.ref r0)]))
  refine Owes.callS X25 hx hZ hown (hw _ (List.mem_of_getElem? (i := 78) rfl)) (hw _ (List.mem_of_getElem? (i := 79) rfl)) (hw _ (List.mem_of_getElem? (i := 76) rfl)) (hw _ (List.mem_of_getElem? (i := 80) rfl)) (by decide) (argsL := [(.ref r0), (.int (0 : Int32)), (.ref r3), (.int (0 : Int32)), (.int zn)]) (rest := []) (rm_cmp5 l Z a0 hw [] r0 r3 zn h25 n0 (Nat.le_trans Z0 K_25.1) n c_ G_r0_25 hzn hc8 hn1 hn9 gn_r3 (fun _ => 0) G25) e25 (by rw [hml]; rfl) pd_8 rfl rfl (hb hby d12_9) (by decide) (Nat.le_of_ble_eq_true rfl) (by decide) (show 0 + n + 0 ≤ 16 by omega) ?_
  rintro T26 v26 L26 X26 ⟨rfl, N26, K26, ST26, GR⟩
  have NF26 := Fr.app N0 N26
  have EXR := Exa.keep EX25 K26
  have KK := K_25.trans K26 (fun x hx => Or.inr (by rw [List.mem_singleton.mp hx]; exact ge_r3))
  have STT := ST_25.trans ST26
  show Owes _ _ _ _ (T26.setTop (mkF m 12 #[.val (.ref r0), .val (.int (0 : Int32)), .val (.int zn), .val (.ref r3), .unset, .unset] [(.int zn)]))
  refine Owes.go ?_ fun t₀ k₀ => XS.istore X26.here hx rfl (hb hby d12_12) rfl (l' := #[.val (.ref r0), .val (.int (0 : Int32)), .val (.int zn), .val (.ref r3), .val (.int zn), .unset]) rfl k₀
  show Owes _ _ _ _ (T26.setTop (mkF m 14 #[.val (.ref r0), .val (.int (0 : Int32)), .val (.int zn), .val (.ref r3), .val (.int zn), .unset] []))
  refine Owes.go ?_ fun t₀ k₀ => XS.iload X26.here hx rfl (hb hby d12_14) rfl k₀
  show Owes _ _ _ _ (T26.setTop (mkF m 16 #[.val (.ref r0), .val (.int (0 : Int32)), .val (.int zn), .val (.ref r3), .val (.int zn), .unset] [(.int zn)]))
  refine Owes.go ?_ fun t₀ k₀ => XS.iloadN X26.here hx rfl (hb hby d12_16) rfl k₀
  show Owes _ _ _ _ (T26.setTop (mkF m 17 #[.val (.ref r0), .val (.int (0 : Int32)), .val (.int zn), .val (.ref r3), .val (.int zn), .unset] [(.int zn), (.int zn)]))
  refine Owes.go ?_ fun t₀ k₀ => XS.icmpYes X26.here hx rfl (pc0 := 17) (pc' := 57) rfl (hb hby d12_17) rfl (teq (rfl : zn = zn)).1 (by decide) (by decide) k₀
  show Owes _ _ _ _ (T26.setTop (mkF m 57 #[.val (.ref r0), .val (.int (0 : Int32)), .val (.int zn), .val (.ref r3), .val (.int zn), .unset] []))
  refine Owes.go ?_ fun t₀ k₀ => XS.aloadN X26.here hx rfl (hb hby d12_57) rfl rfl k₀
  show Owes _ _ _ _ (T26.setTop (mkF m 58 #[.val (.ref r0), .val (.int (0 : Int32)), .val (.int zn), .val (.ref r3), .val (.int zn), .unset] [(.ref r3)]))
  exact Owes.retA X26 hx hlk hret rfl rfl rfl (hb hby d12_58) (by decide) (show 0 + n + 0 ≤ 16 by omega) ⟨r3, rfl, NF26, KK, STT, GR, EXR⟩
theorem d14_0 : decode jdk_52_method_15_code 0 = .ok (.iload_n 1, 1) := by decide +kernel
theorem d14_1 : decode jdk_52_method_15_code 1 = .ok (.aload_n 0, 1) := by decide +kernel
theorem d14_2 : decode jdk_52_method_15_code 2 = .ok (.arraylength, 1) := by decide +kernel
theorem d14_3 : decode jdk_52_method_15_code 3 = .ok (.isub, 1) := by decide +kernel
theorem d14_4 : decode jdk_52_method_15_code 4 = .ok (.bipush 31, 2) := by decide +kernel
theorem d14_6 : decode jdk_52_method_15_code 6 = .ok (.iushr, 1) := by decide +kernel
theorem d14_7 : decode jdk_52_method_15_code 7 = .ok (.i2b, 1) := by decide +kernel
theorem d14_8 : decode jdk_52_method_15_code 8 = .ok (.ireturn, 1) := by decide +kernel
theorem ef_cfa (m : MethodId) (r0 : Addr) (zn : Int32)  : entryFrame m #[(.ref r0), (.int zn)] 2 = mkF m 0 #[.val (.ref r0), .val (.int zn)] [] := by (first | (simp [entryFrame, mkF, argsToLocals, Value.category]; done) | rfl)
theorem pn_14 : plainFor (⟨"java/lang/StringUTF16", "coderFromArrayLen", "([BI)B"⟩ : MethodName) = true := plainFor_of_name (by first | (simp [plainName, overriddenIn]; done) | decide +kernel)
set_option maxRecDepth 65536 in
set_option maxHeartbeats 40000000 in
theorem rm_cfa (l : Launch) (Z : State) (a0 : Array Value) (hw : ∀ d ∈ tables_1, d.before a0 Z = true) (ws : List Jvm.Cond) (r0 : Addr) (zn : Int32) (h0 : Heap) (n : Nat) (c_ : Nat → Int32) (G : GA Z h0 r0 .byte n (fun i => .int (c_ i).toInt8.toInt32)) (hzn : zn.toInt = (n : Int)) :
    OMet l (⟨"java/lang/StringUTF16", "coderFromArrayLen", "([BI)B"⟩ : MethodName) jdk_52_method_15_code 2 (some .byte) ws ({ frames := 0, cells := 0, slots := 0, locals := 0 } : Room) #[(.ref r0), (.int zn)] Z h0 (fun v h L => v = some (.int (0 : Int32)) ∧ L = [] ∧ h = h0) := by
  refine OMet.of pn_14 (fun m => ef_cfa m r0 zn ) ?_
  intro p e s m below meth c s₁ hx hby hml hown hnm hret hlk hZ X0 e0
  refine Owes.go ?_ fun t₀ k₀ => XS.iloadN X0.here hx rfl (hb hby d14_0) rfl k₀
  show Owes _ _ _ _ (s₁.setTop (mkF m 1 #[.val (.ref r0), .val (.int zn)] [(.int zn)]))
  refine Owes.go ?_ fun t₀ k₀ => XS.aloadN X0.here hx rfl (hb hby d14_1) rfl rfl k₀
  show Owes _ _ _ _ (s₁.setTop (mkF m 2 #[.val (.ref r0), .val (.int zn)] [(.ref r0), (.int zn)]))
  refine Owes.glen X0 hx hZ e0 G (z := zn) hzn (hb hby d14_2) ?_
  show Owes _ _ _ _ (s₁.setTop (mkF m 3 #[.val (.ref r0), .val (.int zn)] [(.int zn), (.int zn)]))
  refine Owes.go ?_ fun t₀ k₀ => XS.isub X0.here hx rfl (hb hby d14_3) rfl k₀
  show Owes _ _ _ _ (s₁.setTop (mkF m 4 #[.val (.ref r0), .val (.int zn)] [(.int (zn - zn))]))
  refine Owes.go ?_ fun t₀ k₀ => XS.bipush X0.here hx rfl (hb hby d14_4) k₀
  show Owes _ _ _ _ (s₁.setTop (mkF m 6 #[.val (.ref r0), .val (.int zn)] [(.int (31 : Int32)), (.int (zn - zn))]))
  refine Owes.go ?_ fun t₀ k₀ => XS.iushr X0.here hx rfl (hb hby d14_6) rfl k₀
  show Owes _ _ _ _ (s₁.setTop (mkF m 7 #[.val (.ref r0), .val (.int zn)] [(.int (((zn - zn).toUInt32 >>> ((31 : Int32) &&& 31).toUInt32).toInt32))]))
  refine Owes.go ?_ fun t₀ k₀ => XS.i2b X0.here hx rfl (hb hby d14_7) rfl k₀
  show Owes _ _ _ _ (s₁.setTop (mkF m 8 #[.val (.ref r0), .val (.int zn)] [(.int ((((zn - zn).toUInt32 >>> ((31 : Int32) &&& 31).toUInt32).toInt32).toInt8.toInt32))]))
  exact Owes.retN X0 hx hlk hret (by simp) (hb hby d14_8) (by decide) (by decide) ⟨congrArg (fun z => some (Value.int z)) (by rw [Int32.sub_self]; decide), rfl, e0⟩
theorem d10_0 : decode jdk_42_method_149_code 0 = .ok (.aload_n 0, 1) := by decide +kernel
theorem d10_1 : decode jdk_42_method_149_code 1 = .ok (.invokespecial 1, 3) := by decide +kernel
theorem d10_4 : decode jdk_42_method_149_code 4 = .ok (.iload_n 3, 1) := by decide +kernel
theorem d10_5 : decode jdk_42_method_149_code 5 = .ok (.ifCond .ne 22, 3) := by decide +kernel
theorem d10_8 : decode jdk_42_method_149_code 8 = .ok (.aload_n 0, 1) := by decide +kernel
theorem d10_9 : decode jdk_42_method_149_code 9 = .ok (.ldc 7, 2) := by decide +kernel
theorem d10_11 : decode jdk_42_method_149_code 11 = .ok (.getfield 9, 3) := by decide +kernel
theorem d10_14 : decode jdk_42_method_149_code 14 = .ok (.putfield 9, 3) := by decide +kernel
theorem d10_17 : decode jdk_42_method_149_code 17 = .ok (.aload_n 0, 1) := by decide +kernel
theorem d10_18 : decode jdk_42_method_149_code 18 = .ok (.ldc 7, 2) := by decide +kernel
theorem d10_20 : decode jdk_42_method_149_code 20 = .ok (.getfield 15, 3) := by decide +kernel
theorem d10_23 : decode jdk_42_method_149_code 23 = .ok (.putfield 15, 3) := by decide +kernel
theorem d10_26 : decode jdk_42_method_149_code 26 = .ok (.return_, 1) := by decide +kernel
theorem d10_27 : decode jdk_42_method_149_code 27 = .ok (.getstatic 38, 3) := by decide +kernel
theorem d10_30 : decode jdk_42_method_149_code 30 = .ok (.ifCond .eq 28, 3) := by decide +kernel
theorem d10_33 : decode jdk_42_method_149_code 33 = .ok (.aload_n 1, 1) := by decide +kernel
theorem d10_34 : decode jdk_42_method_149_code 34 = .ok (.iload_n 2, 1) := by decide +kernel
theorem d10_35 : decode jdk_42_method_149_code 35 = .ok (.iload_n 3, 1) := by decide +kernel
theorem d10_36 : decode jdk_42_method_149_code 36 = .ok (.invokestatic 177, 3) := by decide +kernel
theorem pd_9 : parseMethodDescriptor "([CII)[B" = some ⟨[(.array .char), .int, .int], some (.array .byte)⟩ := by decide +kernel
theorem d10_39 : decode jdk_42_method_149_code 39 = .ok (.astore 5, 2) := by decide +kernel
theorem d10_41 : decode jdk_42_method_149_code 41 = .ok (.aload_n 0, 1) := by decide +kernel
theorem d10_42 : decode jdk_42_method_149_code 42 = .ok (.aload 5, 2) := by decide +kernel
theorem d10_44 : decode jdk_42_method_149_code 44 = .ok (.iload_n 3, 1) := by decide +kernel
theorem d10_45 : decode jdk_42_method_149_code 45 = .ok (.invokestatic 47, 3) := by decide +kernel
theorem pd_10 : parseMethodDescriptor "([BI)B" = some ⟨[(.array .byte), .int], some .byte⟩ := by decide +kernel
theorem d10_48 : decode jdk_42_method_149_code 48 = .ok (.putfield 15, 3) := by decide +kernel
theorem d10_51 : decode jdk_42_method_149_code 51 = .ok (.aload_n 0, 1) := by decide +kernel
theorem d10_52 : decode jdk_42_method_149_code 52 = .ok (.aload 5, 2) := by decide +kernel
theorem d10_54 : decode jdk_42_method_149_code 54 = .ok (.putfield 9, 3) := by decide +kernel
theorem d10_57 : decode jdk_42_method_149_code 57 = .ok (.return_, 1) := by decide +kernel
theorem own_pos1 {x : Int32} {n : Nat} (h : x.toInt = (n : Int)) (q : ¬ x = (0 : Int32)) : 1 ≤ n := by
  by_cases z : n = 0
  · exact absurd (Int32.toInt_inj.mp (by rw [h, z]; rfl)) q
  · omega
theorem own_zn0 {x : Int32} {n : Nat} (h : x.toInt = (n : Int)) (q : x = 0) : n = 0 := by rw [q, show (0 : Int32).toInt = 0 from rfl] at h; omega
theorem ef_in4 (m : MethodId) (r0 : Addr) (r1 : Addr) (zn : Int32)  : entryFrame m #[(.ref r0), (.ref r1), (.int (0 : Int32)), (.int zn), .null] 6 = mkF m 0 #[.val (.ref r0), .val (.ref r1), .val (.int (0 : Int32)), .val (.int zn), .val .null, .unset] [] := by (first | (simp [entryFrame, mkF, argsToLocals, Value.category]; done) | rfl)
theorem pn_10 : plainFor (⟨"java/lang/String", "<init>", "([CIILjava/lang/Void;)V"⟩ : MethodName) = true := plainFor_of_name (by first | (simp [plainName, overriddenIn]; done) | decide +kernel)
set_option maxRecDepth 65536 in
set_option maxHeartbeats 40000000 in
theorem rm_in4 (l : Launch) (Z : State) (a0 : Array Value) (hw : ∀ d ∈ tables_1, d.before a0 Z = true) (hEL : EW Z a0 EL0) (ws : List Jvm.Cond) (r0 : Addr) (r1 : Addr) (zn : Int32) (h0 : Heap) (n0 : Nat) (Z0 : n0 ≤ h0.size) (n : Nat) (c_ : Nat → Int32) (G : GA Z h0 r1 .char n (fun i => .int (c_ i))) (hzn : zn.toInt = (n : Int)) (hc8 : C8 n c_) (hn9 : n ≤ 16) (g0 : n0 ≤ r0) (E0 : Exa Z h0 r0 "java/lang/String") (F_coder : Fld Z h0 r0 "java/lang/String" "coder" "B" (.int 0)) (F_value : Fld Z h0 r0 "java/lang/String" "value" "[B" .null) (cs : Int32) (SC : Sta Z h0 "java/lang/String" "COMPACT_STRINGS" "Z" (.int cs)) (hcs : ¬ cs = (0 : Int32)) :
    OMetX l (⟨"java/lang/String", "<init>", "([CIILjava/lang/Void;)V"⟩ : MethodName) jdk_42_method_149_code 6 none ws ({ frames := 2, cells := 4, slots := 16, locals := 42 } : Room) #[(.ref r0), (.ref r1), (.int (0 : Int32)), (.int zn), .null] Z EL0 [r0] h0 (fun v h L => v = none ∧ Fr n0 L ∧ Keep h0 h [r0] ∧ StK Z h0 h ∧ ∃ b : Addr, STR Z h r0 b n c_) := by
  refine OMetX.of pn_10 (fun m => ef_in4 m r0 r1 zn ) ?_
  intro p e s m below meth c s₁ hx hby hml hown hnm hret hlk hZ X0 e0 hC0
  have N0 := Fr.nil n0
  have K0 := Keep.refl h0 [r0]
  have ST0 := StK.refl Z h0
  have wi := (hw _ (List.mem_of_getElem? (i := 2) rfl))
  refine Owes.go ?_ fun t₀ k₀ => XS.aloadN X0.here hx rfl (hb hby d10_0) rfl rfl k₀
  show Owes _ _ _ _ (s₁.setTop (mkF m 1 #[.val (.ref r0), .val (.ref r1), .val (.int (0 : Int32)), .val (.int zn), .val .null, .unset] [(.ref r0)]))
  refine Owes.initO X0 hx hZ hown (hw _ (List.mem_of_getElem? (i := 71) rfl)) (hw _ (List.mem_of_getElem? (i := 72) rfl)) (hw _ (List.mem_of_getElem? (i := 73) rfl)) e0 (by rw [hml]; rfl) (hb hby d10_1) (by decide) (Nat.le_of_ble_eq_true rfl) ?_
  intro T27 X27 e27
  show Owes _ _ _ _ (T27.setTop (mkF m 4 #[.val (.ref r0), .val (.ref r1), .val (.int (0 : Int32)), .val (.int zn), .val .null, .unset] []))
  refine Owes.go ?_ fun t₀ k₀ => XS.iloadN X27.here hx rfl (hb hby d10_4) rfl k₀
  show Owes _ _ _ _ (T27.setTop (mkF m 5 #[.val (.ref r0), .val (.ref r1), .val (.int (0 : Int32)), .val (.int zn), .val .null, .unset] [(.int zn)]))
  by_cases hc1 : zn = (0 : Int32)
  · skip
    refine Owes.go ?_ fun t₀ k₀ => XS.ifNo X27.here hx rfl (hb hby d10_5) rfl ((if0 _ _).trans (teq hc1).2) k₀
    show Owes _ _ _ _ (T27.setTop (mkF m 8 #[.val (.ref r0), .val (.ref r1), .val (.int (0 : Int32)), .val (.int zn), .val .null, .unset] []))
    refine Owes.go ?_ fun t₀ k₀ => XS.aloadN X27.here hx rfl (hb hby d10_8) rfl rfl k₀
    show Owes _ _ _ _ (T27.setTop (mkF m 9 #[.val (.ref r0), .val (.ref r1), .val (.int (0 : Int32)), .val (.int zn), .val .null, .unset] [(.ref r0)]))
    refine Owes.ldcX X27 hx hZ hown (hw _ (List.mem_of_getElem? (i := 118) rfl)) (own_wS Z a0 hw) e27 (own_since s 0) (Nat.zero_le _) hEL (List.mem_of_getElem? (i := 4) rfl) hC0 (z := 0) ⟨by decide, rfl⟩ (by decide) (by decide) (hb hby d10_9) (n := 0) (by decide) (by decide) (by decide) (by decide) ?_
    intro aS28 T28 h28 k28 bS28 kc28 X28 e28 ES28 hS28 hk28 hZ hown EA28 FCo28 FVa28 AV28 hC28
    have E28 := ES28
    have E_r0_28 := (E0).ext E28
    have F_r0_coder_28 := (F_coder).ext E28
    have F_r0_value_28 := (F_value).ext E28
    have K_28 := K0.ext E28
    have ST_28 := ST0.ext E28
    have GE28 : GA Z h28 bS28 .byte 0 (fun i => .int (c_ i).toInt8.toInt32) := GA.congr (own_arvga (n := 0) AV28 rfl) (fun i hi => absurd hi (Nat.not_lt_zero _))
    show Owes _ _ _ _ (T28.setTop (mkF m 11 #[.val (.ref r0), .val (.ref r1), .val (.int (0 : Int32)), .val (.int zn), .val .null, .unset] [(.ref aS28), (.ref r0)]))
    obtain ⟨T29, X29, e29, st29⟩ := getF X28 hx hZ hown (host := "") (Or.inl (hw _ (List.mem_of_getElem? (i := 13) rfl))) Via.refl e28 FVa28 (g := (mkF m 11 #[.val (.ref r0), .val (.ref r1), .val (.int (0 : Int32)), .val (.int zn), .val .null, .unset] [(.ref aS28), (.ref r0)])) rfl rfl (hb hby d10_11)
    refine Owes.go ?_ st29
    show Owes _ _ _ _ (T29.setTop (mkF m 14 #[.val (.ref r0), .val (.ref r1), .val (.int (0 : Int32)), .val (.int zn), .val .null, .unset] [(.ref bS28), (.ref r0)]))
    refine Owes.putF X29 hx hZ hown (host := "") (Or.inl (hw _ (List.mem_of_getElem? (i := 13) rfl))) Via.refl e29 F_r0_value_28 E_r0_28 (Or.inr ⟨(hw _ (List.mem_of_getElem? (i := 4) rfl)), rfl, hnm⟩) (hw _ (List.mem_of_getElem? (i := 2) rfl)) (ty := (.array .byte)) (by decide) rfl rfl (hb hby d10_14) ?_
    intro T30 h30 X30 e30 W30
    have N30 := Fr.snoc X30 N0 g0
    have E_r0_30 := Exa.wr W30 E_r0_28
    have F_r0_coder_30 := Fld.other W30 F_r0_coder_28 (Or.inr (slot_ne (Or.inr (hw _ (List.mem_of_getElem? (i := 5) rfl))) (Or.inr (hw _ (List.mem_of_getElem? (i := 4) rfl))) (by decide) (t := .byte) (t' := (.array .byte)) (by decide) (by decide)))
    have F_r0_value_30 := Fld.same W30 F_r0_value_28
    have G_bS28_30 := GA.other GE28 W30 (Ne.symm (GA.ne_obj E_r0_28 wi GE28))
    have K_30 := K_28.wr W30 (Or.inl (List.mem_singleton.mpr rfl))
    have ST_30 := ST_28.wr W30
    have HC_30 := (hC28).wr W30 (List.mem_singleton.mpr rfl)
    show Owes _ _ _ _ (T30.setTop (mkF m 17 #[.val (.ref r0), .val (.ref r1), .val (.int (0 : Int32)), .val (.int zn), .val .null, .unset] []))
    refine Owes.go ?_ fun t₀ k₀ => XS.aloadN X30.here hx rfl (hb hby d10_17) rfl rfl k₀
    show Owes _ _ _ _ (T30.setTop (mkF m 18 #[.val (.ref r0), .val (.ref r1), .val (.int (0 : Int32)), .val (.int zn), .val .null, .unset] [(.ref r0)]))
    refine Owes.ldcX X30 hx hZ hown (hw _ (List.mem_of_getElem? (i := 118) rfl)) (own_wS Z a0 hw) e30 hS28 (Nat.le_trans hk28 (Nat.le_of_eq W30.size.symm)) hEL (List.mem_of_getElem? (i := 4) rfl) HC_30 (z := 0) ⟨by decide, rfl⟩ (by decide) (by decide) (hb hby d10_18) (n := 0) (by decide) (by decide) (by decide) (by decide) ?_
    intro aS31 T31 h31 k31 bS31 kc31 X31 e31 ES31 hS31 hk31 hZ hown EA31 FCo31 FVa31 AV31 hC31
    have E31 := ES31
    have E_r0_31 := (E_r0_30).ext E31
    have F_r0_coder_31 := (F_r0_coder_30).ext E31
    have F_r0_value_31 := (F_r0_value_30).ext E31
    have G_bS28_31 := GA.ext G_bS28_30 E31
    have K_31 := K_30.ext E31
    have ST_31 := ST_30.ext E31
    show Owes _ _ _ _ (T31.setTop (mkF m 20 #[.val (.ref r0), .val (.ref r1), .val (.int (0 : Int32)), .val (.int zn), .val .null, .unset] [(.ref aS31), (.ref r0)]))
    obtain ⟨T32, X32, e32, st32⟩ := getF X31 hx hZ hown (host := "") (Or.inl (hw _ (List.mem_of_getElem? (i := 30) rfl))) Via.refl e31 FCo31 (g := (mkF m 20 #[.val (.ref r0), .val (.ref r1), .val (.int (0 : Int32)), .val (.int zn), .val .null, .unset] [(.ref aS31), (.ref r0)])) rfl rfl (hb hby d10_20)
    refine Owes.go ?_ st32
    show Owes _ _ _ _ (T32.setTop (mkF m 23 #[.val (.ref r0), .val (.ref r1), .val (.int (0 : Int32)), .val (.int zn), .val .null, .unset] [(.int (0 : Int32)), (.ref r0)]))
    refine Owes.putF X32 hx hZ hown (host := "") (Or.inl (hw _ (List.mem_of_getElem? (i := 30) rfl))) Via.refl e32 F_r0_coder_31 E_r0_31 (Or.inr ⟨(hw _ (List.mem_of_getElem? (i := 5) rfl)), rfl, hnm⟩) (hw _ (List.mem_of_getElem? (i := 2) rfl)) (ty := .byte) (by decide) rfl rfl (hb hby d10_23) ?_
    intro T33 h33 X33 e33 W33
    have N33 := Fr.snoc X33 N30 g0
    have E_r0_33 := Exa.wr W33 E_r0_31
    have F_r0_coder_33 := Fld.same W33 F_r0_coder_31
    have F_r0_value_33 := Fld.other W33 F_r0_value_31 (Or.inr (slot_ne (Or.inr (hw _ (List.mem_of_getElem? (i := 4) rfl))) (Or.inr (hw _ (List.mem_of_getElem? (i := 5) rfl))) (by decide) (t := (.array .byte)) (t' := .byte) (by decide) (by decide)))
    have G_bS28_33 := GA.other G_bS28_31 W33 (Ne.symm (GA.ne_obj E_r0_31 wi G_bS28_31))
    have K_33 := K_31.wr W33 (Or.inl (List.mem_singleton.mpr rfl))
    have ST_33 := ST_31.wr W33
    have HC_33 := (hC31).wr W33 (List.mem_singleton.mpr rfl)
    show Owes _ _ _ _ (T33.setTop (mkF m 26 #[.val (.ref r0), .val (.ref r1), .val (.int (0 : Int32)), .val (.int zn), .val .null, .unset] []))
    exact Owes.retVX X33 hZ hEL e33 HC_33 hS31 (Nat.le_trans hk31 (Nat.le_of_eq W33.size.symm)) hx hlk hret (hb hby d10_26) (by decide) (by decide) (by rw [e33]; exact ⟨rfl, N33, K_33, ST_33, bS28, E_r0_33, F_r0_coder_33, F_r0_value_33, (by rw [own_zn0 hzn hc1]; exact G_bS28_33)⟩)
  · skip
    refine Owes.go ?_ fun t₀ k₀ => XS.ifYes X27.here hx rfl (pc0 := 5) (pc' := 27) rfl (hb hby d10_5) rfl ((if0 _ _).trans (feq hc1).2) (by decide) (by decide) k₀
    show Owes _ _ _ _ (T27.setTop (mkF m 27 #[.val (.ref r0), .val (.ref r1), .val (.int (0 : Int32)), .val (.int zn), .val .null, .unset] []))
    obtain ⟨T34, X34, e34, st34⟩ := getS2 X27 hx hZ hown (host := "") (Or.inl (hw _ (List.mem_of_getElem? (i := 29) rfl))) Via.refl e27 SC (g := (mkF m 27 #[.val (.ref r0), .val (.ref r1), .val (.int (0 : Int32)), .val (.int zn), .val .null, .unset] [])) rfl (hb hby d10_27)
    refine Owes.go ?_ st34
    show Owes _ _ _ _ (T34.setTop (mkF m 30 #[.val (.ref r0), .val (.ref r1), .val (.int (0 : Int32)), .val (.int zn), .val .null, .unset] [(.int cs)]))
    refine Owes.go ?_ fun t₀ k₀ => XS.ifNo X34.here hx rfl (hb hby d10_30) rfl ((if0 _ _).trans (feq hcs).1) k₀
    show Owes _ _ _ _ (T34.setTop (mkF m 33 #[.val (.ref r0), .val (.ref r1), .val (.int (0 : Int32)), .val (.int zn), .val .null, .unset] []))
    refine Owes.go ?_ fun t₀ k₀ => XS.aloadN X34.here hx rfl (hb hby d10_33) rfl rfl k₀
    show Owes _ _ _ _ (T34.setTop (mkF m 34 #[.val (.ref r0), .val (.ref r1), .val (.int (0 : Int32)), .val (.int zn), .val .null, .unset] [(.ref r1)]))
    refine Owes.go ?_ fun t₀ k₀ => XS.iloadN X34.here hx rfl (hb hby d10_34) rfl k₀
    show Owes _ _ _ _ (T34.setTop (mkF m 35 #[.val (.ref r0), .val (.ref r1), .val (.int (0 : Int32)), .val (.int zn), .val .null, .unset] [(.int (0 : Int32)), (.ref r1)]))
    refine Owes.go ?_ fun t₀ k₀ => XS.iloadN X34.here hx rfl (hb hby d10_35) rfl k₀
    show Owes _ _ _ _ (T34.setTop (mkF m 36 #[.val (.ref r0), .val (.ref r1), .val (.int (0 : Int32)), .val (.int zn), .val .null, .unset] [(.int zn), (.int (0 : Int32)), (.ref r1)]))
    have hn1 : 1 ≤ n := own_pos1 hzn hc1
    refine Owes.callS X34 hx hZ hown (hw _ (List.mem_of_getElem? (i := 74) rfl)) (hw _ (List.mem_of_getElem? (i := 75) rfl)) (hw _ (List.mem_of_getElem? (i := 76) rfl)) (hw _ (List.mem_of_getElem? (i := 77) rfl)) (by decide) (argsL := [(.ref r1), (.int (0 : Int32)), (.int zn)]) (rest := []) (rm_cmp3 l Z a0 hw [] r1 zn h0 n0 Z0 n c_ G hzn hc8 hn1 hn9) e34 (by rw [hml]; rfl) pd_9 rfl rfl (hb hby d10_36) (by decide) (Nat.le_of_ble_eq_true rfl) (by decide) (by decide) ?_
    rintro T35 v35 L35 X35 ⟨rb, rfl, N35, K35, ST35, GR, EXR⟩
    have NF35 := Fr.app N0 N35
    have E_r0_35 := Exa.keep E0 K35
    have F_r0_coder_35 := Fld.keep F_coder K35 List.not_mem_nil
    have F_r0_value_35 := Fld.keep F_value K35 List.not_mem_nil
    have K_35 := K0.trans K35 (fun x hx => absurd hx List.not_mem_nil)
    have ST_35 := ST0.trans ST35
    have HC_35 := (hC0).keep K35 (fun x hx => absurd hx List.not_mem_nil)
    show Owes _ _ _ _ (T35.setTop (mkF m 39 #[.val (.ref r0), .val (.ref r1), .val (.int (0 : Int32)), .val (.int zn), .val .null, .unset] [(.ref rb)]))
    refine Owes.go ?_ fun t₀ k₀ => XS.astore X35.here hx rfl (hb hby d10_39) rfl rfl (l' := #[.val (.ref r0), .val (.ref r1), .val (.int (0 : Int32)), .val (.int zn), .val .null, .val (.ref rb)]) rfl k₀
    show Owes _ _ _ _ (T35.setTop (mkF m 41 #[.val (.ref r0), .val (.ref r1), .val (.int (0 : Int32)), .val (.int zn), .val .null, .val (.ref rb)] []))
    refine Owes.go ?_ fun t₀ k₀ => XS.aloadN X35.here hx rfl (hb hby d10_41) rfl rfl k₀
    show Owes _ _ _ _ (T35.setTop (mkF m 42 #[.val (.ref r0), .val (.ref r1), .val (.int (0 : Int32)), .val (.int zn), .val .null, .val (.ref rb)] [(.ref r0)]))
    refine Owes.go ?_ fun t₀ k₀ => XS.aload X35.here hx rfl (hb hby d10_42) rfl rfl k₀
    show Owes _ _ _ _ (T35.setTop (mkF m 44 #[.val (.ref r0), .val (.ref r1), .val (.int (0 : Int32)), .val (.int zn), .val .null, .val (.ref rb)] [(.ref rb), (.ref r0)]))
    refine Owes.go ?_ fun t₀ k₀ => XS.iloadN X35.here hx rfl (hb hby d10_44) rfl k₀
    show Owes _ _ _ _ (T35.setTop (mkF m 45 #[.val (.ref r0), .val (.ref r1), .val (.int (0 : Int32)), .val (.int zn), .val .null, .val (.ref rb)] [(.int zn), (.ref rb), (.ref r0)]))
    refine Owes.callS X35 hx hZ hown (hw _ (List.mem_of_getElem? (i := 81) rfl)) (hw _ (List.mem_of_getElem? (i := 82) rfl)) (hw _ (List.mem_of_getElem? (i := 76) rfl)) (hw _ (List.mem_of_getElem? (i := 83) rfl)) (by decide) (argsL := [(.ref rb), (.int zn)]) (rest := [(.ref r0)]) (rm_cfa l Z a0 hw [] rb zn T35.heap n c_ GR hzn) rfl (by rw [hml]; rfl) pd_10 rfl rfl (hb hby d10_45) (by decide) (Nat.le_of_ble_eq_true rfl) (by decide) (by decide) ?_
    rintro T36 _ _ X36 ⟨rfl, rfl, e36⟩
    rw [List.append_nil] at X36
    show Owes _ _ _ _ (T36.setTop (mkF m 48 #[.val (.ref r0), .val (.ref r1), .val (.int (0 : Int32)), .val (.int zn), .val .null, .val (.ref rb)] [(.int (0 : Int32)), (.ref r0)]))
    refine Owes.putF X36 hx hZ hown (host := "") (Or.inl (hw _ (List.mem_of_getElem? (i := 30) rfl))) Via.refl e36 F_r0_coder_35 E_r0_35 (Or.inr ⟨(hw _ (List.mem_of_getElem? (i := 5) rfl)), rfl, hnm⟩) (hw _ (List.mem_of_getElem? (i := 2) rfl)) (ty := .byte) (by decide) rfl rfl (hb hby d10_48) ?_
    intro T37 h37 X37 e37 W37
    have N37 := Fr.snoc X37 NF35 g0
    have E_r0_37 := Exa.wr W37 E_r0_35
    have F_r0_coder_37 := Fld.same W37 F_r0_coder_35
    have F_r0_value_37 := Fld.other W37 F_r0_value_35 (Or.inr (slot_ne (Or.inr (hw _ (List.mem_of_getElem? (i := 4) rfl))) (Or.inr (hw _ (List.mem_of_getElem? (i := 5) rfl))) (by decide) (t := (.array .byte)) (t' := .byte) (by decide) (by decide)))
    have G_rb_37 := GA.other GR W37 (Ne.symm (GA.ne_obj E_r0_35 wi GR))
    have K_37 := K_35.wr W37 (Or.inl (List.mem_singleton.mpr rfl))
    have ST_37 := ST_35.wr W37
    have HC_37 := (HC_35).wr W37 (List.mem_singleton.mpr rfl)
    show Owes _ _ _ _ (T37.setTop (mkF m 51 #[.val (.ref r0), .val (.ref r1), .val (.int (0 : Int32)), .val (.int zn), .val .null, .val (.ref rb)] []))
    refine Owes.go ?_ fun t₀ k₀ => XS.aloadN X37.here hx rfl (hb hby d10_51) rfl rfl k₀
    show Owes _ _ _ _ (T37.setTop (mkF m 52 #[.val (.ref r0), .val (.ref r1), .val (.int (0 : Int32)), .val (.int zn), .val .null, .val (.ref rb)] [(.ref r0)]))
    refine Owes.go ?_ fun t₀ k₀ => XS.aload X37.here hx rfl (hb hby d10_52) rfl rfl k₀
    show Owes _ _ _ _ (T37.setTop (mkF m 54 #[.val (.ref r0), .val (.ref r1), .val (.int (0 : Int32)), .val (.int zn), .val .null, .val (.ref rb)] [(.ref rb), (.ref r0)]))
    refine Owes.putF X37 hx hZ hown (host := "") (Or.inl (hw _ (List.mem_of_getElem? (i := 13) rfl))) Via.refl e37 F_r0_value_37 E_r0_37 (Or.inr ⟨(hw _ (List.mem_of_getElem? (i := 4) rfl)), rfl, hnm⟩) (hw _ (List.mem_of_getElem? (i := 2) rfl)) (ty := (.array .byte)) (by decide) rfl rfl (hb hby d10_54) ?_
    intro T38 h38 X38 e38 W38
    have N38 := Fr.snoc X38 N37 g0
    have E_r0_38 := Exa.wr W38 E_r0_37
    have F_r0_coder_38 := Fld.other W38 F_r0_coder_37 (Or.inr (slot_ne (Or.inr (hw _ (List.mem_of_getElem? (i := 5) rfl))) (Or.inr (hw _ (List.mem_of_getElem? (i := 4) rfl))) (by decide) (t := .byte) (t' := (.array .byte)) (by decide) (by decide)))
    have F_r0_value_38 := Fld.same W38 F_r0_value_37
    have G_rb_38 := GA.other G_rb_37 W38 (Ne.symm (GA.ne_obj E_r0_37 wi G_rb_37))
    have K_38 := K_37.wr W38 (Or.inl (List.mem_singleton.mpr rfl))
    have ST_38 := ST_37.wr W38
    have HC_38 := (HC_37).wr W38 (List.mem_singleton.mpr rfl)
    show Owes _ _ _ _ (T38.setTop (mkF m 57 #[.val (.ref r0), .val (.ref r1), .val (.int (0 : Int32)), .val (.int zn), .val .null, .val (.ref rb)] []))
    exact Owes.retVX X38 hZ hEL e38 HC_38 (own_since s 0) (Nat.le_trans (Nat.le_trans (Nat.zero_le _) (Nat.le_of_eq W37.size.symm)) (Nat.le_of_eq W38.size.symm)) hx hlk hret (hb hby d10_57) (by decide) (by decide) (by rw [e38]; exact ⟨rfl, N38, K_38, ST_38, rb, E_r0_38, F_r0_coder_38, F_r0_value_38, G_rb_38⟩)
theorem d9_0 : decode jdk_42_method_3_code 0 = .ok (.aload_n 0, 1) := by decide +kernel
theorem d9_1 : decode jdk_42_method_3_code 1 = .ok (.aload_n 1, 1) := by decide +kernel
theorem d9_2 : decode jdk_42_method_3_code 2 = .ok (.iconst 0, 1) := by decide +kernel
theorem d9_3 : decode jdk_42_method_3_code 3 = .ok (.aload_n 1, 1) := by decide +kernel
theorem d9_4 : decode jdk_42_method_3_code 4 = .ok (.arraylength, 1) := by decide +kernel
theorem d9_5 : decode jdk_42_method_3_code 5 = .ok (.aconst_null, 1) := by decide +kernel
theorem d9_6 : decode jdk_42_method_3_code 6 = .ok (.invokespecial 27, 3) := by decide +kernel
theorem pd_11 : parseMethodDescriptor "([CIILjava/lang/Void;)V" = some ⟨[(.array .char), .int, .int, (.object "java/lang/Void")], none⟩ := by decide +kernel
theorem d9_9 : decode jdk_42_method_3_code 9 = .ok (.return_, 1) := by decide +kernel
theorem ef_in1 (m : MethodId) (r0 : Addr) (r1 : Addr)  : entryFrame m #[(.ref r0), (.ref r1)] 2 = mkF m 0 #[.val (.ref r0), .val (.ref r1)] [] := by (first | (simp [entryFrame, mkF, argsToLocals, Value.category]; done) | rfl)
theorem pn_9 : plainFor (⟨"java/lang/String", "<init>", "([C)V"⟩ : MethodName) = true := plainFor_of_name (by first | (simp [plainName, overriddenIn]; done) | decide +kernel)
set_option maxRecDepth 65536 in
set_option maxHeartbeats 40000000 in
theorem rm_in1 (l : Launch) (Z : State) (a0 : Array Value) (hw : ∀ d ∈ tables_1, d.before a0 Z = true) (hEL : EW Z a0 EL0) (ws : List Jvm.Cond) (r0 : Addr) (r1 : Addr) (h0 : Heap) (n0 : Nat) (Z0 : n0 ≤ h0.size) (n : Nat) (c_ : Nat → Int32) (G : GA Z h0 r1 .char n (fun i => .int (c_ i))) (zn : Int32) (hzn : zn.toInt = (n : Int)) (hc8 : C8 n c_) (hn9 : n ≤ 16) (g0 : n0 ≤ r0) (E0 : Exa Z h0 r0 "java/lang/String") (F_coder : Fld Z h0 r0 "java/lang/String" "coder" "B" (.int 0)) (F_value : Fld Z h0 r0 "java/lang/String" "value" "[B" .null) (cs : Int32) (SC : Sta Z h0 "java/lang/String" "COMPACT_STRINGS" "Z" (.int cs)) (hcs : ¬ cs = (0 : Int32)) :
    OMetX l (⟨"java/lang/String", "<init>", "([C)V"⟩ : MethodName) jdk_42_method_3_code 2 none ws ({ frames := 3, cells := 4, slots := 16, locals := 62 } : Room) #[(.ref r0), (.ref r1)] Z EL0 [r0] h0 (fun v h L => v = none ∧ Fr n0 L ∧ Keep h0 h [r0] ∧ StK Z h0 h ∧ ∃ b : Addr, STR Z h r0 b n c_) := by
  refine OMetX.of pn_9 (fun m => ef_in1 m r0 r1 ) ?_
  intro p e s m below meth c s₁ hx hby hml hown hnm hret hlk hZ X0 e0 hC0
  have N0 := Fr.nil n0
  refine Owes.go ?_ fun t₀ k₀ => XS.aloadN X0.here hx rfl (hb hby d9_0) rfl rfl k₀
  show Owes _ _ _ _ (s₁.setTop (mkF m 1 #[.val (.ref r0), .val (.ref r1)] [(.ref r0)]))
  refine Owes.go ?_ fun t₀ k₀ => XS.aloadN X0.here hx rfl (hb hby d9_1) rfl rfl k₀
  show Owes _ _ _ _ (s₁.setTop (mkF m 2 #[.val (.ref r0), .val (.ref r1)] [(.ref r1), (.ref r0)]))
  refine Owes.go ?_ fun t₀ k₀ => XS.iconst X0.here hx rfl (hb hby d9_2) k₀
  show Owes _ _ _ _ (s₁.setTop (mkF m 3 #[.val (.ref r0), .val (.ref r1)] [(.int (0 : Int32)), (.ref r1), (.ref r0)]))
  refine Owes.go ?_ fun t₀ k₀ => XS.aloadN X0.here hx rfl (hb hby d9_3) rfl rfl k₀
  show Owes _ _ _ _ (s₁.setTop (mkF m 4 #[.val (.ref r0), .val (.ref r1)] [(.ref r1), (.int (0 : Int32)), (.ref r1), (.ref r0)]))
  refine Owes.glen X0 hx hZ e0 G (z := zn) hzn (hb hby d9_4) ?_
  show Owes _ _ _ _ (s₁.setTop (mkF m 5 #[.val (.ref r0), .val (.ref r1)] [(.int zn), (.int (0 : Int32)), (.ref r1), (.ref r0)]))
  refine Owes.go ?_ fun t₀ k₀ => XS.aconstNull X0.here hx rfl (hb hby d9_5) k₀
  show Owes _ _ _ _ (s₁.setTop (mkF m 6 #[.val (.ref r0), .val (.ref r1)] [.null, (.int zn), (.int (0 : Int32)), (.ref r1), (.ref r0)]))
  refine Owes.callCX (xs := [r0]) X0 hx hZ hEL hC0 (own_since s 0) (Nat.zero_le _) rfl hown (hw _ (List.mem_of_getElem? (i := 67) rfl)) (hw _ (List.mem_of_getElem? (i := 68) rfl)) (hw _ (List.mem_of_getElem? (i := 1) rfl)) (hw _ (List.mem_of_getElem? (i := 70) rfl)) (by decide) (a := r0) (argsL := [(.ref r1), (.int (0 : Int32)), (.int zn), .null]) (rest := []) (rm_in4 l Z a0 hw hEL [] r0 r1 zn h0 n0 Z0 n c_ G hzn hc8 hn9 g0 E0 F_coder F_value cs SC hcs) e0 (by rw [hml]; rfl) pd_11 rfl rfl (hb hby d9_6) (by decide) (Nat.le_of_ble_eq_true rfl) (by decide) (by decide) ?_
  rintro T39 _ L39 X39 hS39 hg39 hZ hown hC39 ⟨rfl, N39, Q39⟩
  have NF39 := Fr.app N0 N39
  show Owes _ _ _ _ (T39.setTop (mkF m 9 #[.val (.ref r0), .val (.ref r1)] []))
  exact Owes.retVX X39 hZ hEL rfl hC39 hS39 (Nat.le_refl _) hx hlk hret (hb hby d9_9) (by decide) (by decide) ⟨rfl, NF39, Q39⟩
theorem d8_0 : decode method_4_code 0 = .ok (.iload_n 1, 1) := by decide +kernel
theorem d8_1 : decode method_4_code 1 = .ok (.ifCond .ne 14, 3) := by decide +kernel
theorem d8_4 : decode method_4_code 4 = .ok (.new 16, 3) := by decide +kernel
theorem d8_7 : decode method_4_code 7 = .ok (.dup, 1) := by decide +kernel
theorem d8_8 : decode method_4_code 8 = .ok (.iconst 0, 1) := by decide +kernel
theorem d8_9 : decode method_4_code 9 = .ok (.newarray .char, 2) := by decide +kernel
theorem d8_11 : decode method_4_code 11 = .ok (.invokespecial 61, 3) := by decide +kernel
theorem pd_12 : parseMethodDescriptor "([C)V" = some ⟨[(.array .char)], none⟩ := by decide +kernel
theorem d8_14 : decode method_4_code 14 = .ok (.areturn, 1) := by decide +kernel
theorem d8_15 : decode method_4_code 15 = .ok (.iload_n 1, 1) := by decide +kernel
theorem d8_16 : decode method_4_code 16 = .ok (.iconst 1, 1) := by decide +kernel
theorem d8_17 : decode method_4_code 17 = .ok (.if_icmp .ne 20, 3) := by decide +kernel
theorem d8_20 : decode method_4_code 20 = .ok (.new 16, 3) := by decide +kernel
theorem d8_23 : decode method_4_code 23 = .ok (.dup, 1) := by decide +kernel
theorem d8_24 : decode method_4_code 24 = .ok (.iconst 1, 1) := by decide +kernel
theorem d8_25 : decode method_4_code 25 = .ok (.newarray .char, 2) := by decide +kernel
theorem d8_27 : decode method_4_code 27 = .ok (.dup, 1) := by decide +kernel
theorem d8_28 : decode method_4_code 28 = .ok (.iconst 0, 1) := by decide +kernel
theorem d8_29 : decode method_4_code 29 = .ok (.aload_n 0, 1) := by decide +kernel
theorem d8_30 : decode method_4_code 30 = .ok (.iconst 0, 1) := by decide +kernel
theorem d8_31 : decode method_4_code 31 = .ok (.caload, 1) := by decide +kernel
theorem d8_32 : decode method_4_code 32 = .ok (.castore, 1) := by decide +kernel
theorem d8_33 : decode method_4_code 33 = .ok (.invokespecial 61, 3) := by decide +kernel
theorem d8_36 : decode method_4_code 36 = .ok (.areturn, 1) := by decide +kernel
theorem d8_37 : decode method_4_code 37 = .ok (.iload_n 1, 1) := by decide +kernel
theorem d8_38 : decode method_4_code 38 = .ok (.iconst 2, 1) := by decide +kernel
theorem d8_39 : decode method_4_code 39 = .ok (.if_icmp .ne 26, 3) := by decide +kernel
theorem d8_42 : decode method_4_code 42 = .ok (.new 16, 3) := by decide +kernel
theorem d8_45 : decode method_4_code 45 = .ok (.dup, 1) := by decide +kernel
theorem d8_46 : decode method_4_code 46 = .ok (.iconst 2, 1) := by decide +kernel
theorem d8_47 : decode method_4_code 47 = .ok (.newarray .char, 2) := by decide +kernel
theorem d8_49 : decode method_4_code 49 = .ok (.dup, 1) := by decide +kernel
theorem d8_50 : decode method_4_code 50 = .ok (.iconst 0, 1) := by decide +kernel
theorem d8_51 : decode method_4_code 51 = .ok (.aload_n 0, 1) := by decide +kernel
theorem d8_52 : decode method_4_code 52 = .ok (.iconst 0, 1) := by decide +kernel
theorem d8_53 : decode method_4_code 53 = .ok (.caload, 1) := by decide +kernel
theorem d8_54 : decode method_4_code 54 = .ok (.castore, 1) := by decide +kernel
theorem d8_55 : decode method_4_code 55 = .ok (.dup, 1) := by decide +kernel
theorem d8_56 : decode method_4_code 56 = .ok (.iconst 1, 1) := by decide +kernel
theorem d8_57 : decode method_4_code 57 = .ok (.aload_n 0, 1) := by decide +kernel
theorem d8_58 : decode method_4_code 58 = .ok (.iconst 1, 1) := by decide +kernel
theorem d8_59 : decode method_4_code 59 = .ok (.caload, 1) := by decide +kernel
theorem d8_60 : decode method_4_code 60 = .ok (.castore, 1) := by decide +kernel
theorem d8_61 : decode method_4_code 61 = .ok (.invokespecial 61, 3) := by decide +kernel
theorem d8_64 : decode method_4_code 64 = .ok (.areturn, 1) := by decide +kernel
theorem d8_65 : decode method_4_code 65 = .ok (.iload_n 1, 1) := by decide +kernel
theorem d8_66 : decode method_4_code 66 = .ok (.iconst 3, 1) := by decide +kernel
theorem d8_67 : decode method_4_code 67 = .ok (.if_icmp .ne 32, 3) := by decide +kernel
theorem d8_70 : decode method_4_code 70 = .ok (.new 16, 3) := by decide +kernel
theorem d8_73 : decode method_4_code 73 = .ok (.dup, 1) := by decide +kernel
theorem d8_74 : decode method_4_code 74 = .ok (.iconst 3, 1) := by decide +kernel
theorem d8_75 : decode method_4_code 75 = .ok (.newarray .char, 2) := by decide +kernel
theorem d8_77 : decode method_4_code 77 = .ok (.dup, 1) := by decide +kernel
theorem d8_78 : decode method_4_code 78 = .ok (.iconst 0, 1) := by decide +kernel
theorem d8_79 : decode method_4_code 79 = .ok (.aload_n 0, 1) := by decide +kernel
theorem d8_80 : decode method_4_code 80 = .ok (.iconst 0, 1) := by decide +kernel
theorem d8_81 : decode method_4_code 81 = .ok (.caload, 1) := by decide +kernel
theorem d8_82 : decode method_4_code 82 = .ok (.castore, 1) := by decide +kernel
theorem d8_83 : decode method_4_code 83 = .ok (.dup, 1) := by decide +kernel
theorem d8_84 : decode method_4_code 84 = .ok (.iconst 1, 1) := by decide +kernel
theorem d8_85 : decode method_4_code 85 = .ok (.aload_n 0, 1) := by decide +kernel
theorem d8_86 : decode method_4_code 86 = .ok (.iconst 1, 1) := by decide +kernel
theorem d8_87 : decode method_4_code 87 = .ok (.caload, 1) := by decide +kernel
theorem d8_88 : decode method_4_code 88 = .ok (.castore, 1) := by decide +kernel
theorem d8_89 : decode method_4_code 89 = .ok (.dup, 1) := by decide +kernel
theorem d8_90 : decode method_4_code 90 = .ok (.iconst 2, 1) := by decide +kernel
theorem d8_91 : decode method_4_code 91 = .ok (.aload_n 0, 1) := by decide +kernel
theorem d8_92 : decode method_4_code 92 = .ok (.iconst 2, 1) := by decide +kernel
theorem d8_93 : decode method_4_code 93 = .ok (.caload, 1) := by decide +kernel
theorem d8_94 : decode method_4_code 94 = .ok (.castore, 1) := by decide +kernel
theorem d8_95 : decode method_4_code 95 = .ok (.invokespecial 61, 3) := by decide +kernel
theorem d8_98 : decode method_4_code 98 = .ok (.areturn, 1) := by decide +kernel
theorem d8_99 : decode method_4_code 99 = .ok (.iload_n 1, 1) := by decide +kernel
theorem d8_100 : decode method_4_code 100 = .ok (.iconst 4, 1) := by decide +kernel
theorem d8_101 : decode method_4_code 101 = .ok (.if_icmp .ne 38, 3) := by decide +kernel
theorem d8_104 : decode method_4_code 104 = .ok (.new 16, 3) := by decide +kernel
theorem d8_107 : decode method_4_code 107 = .ok (.dup, 1) := by decide +kernel
theorem d8_108 : decode method_4_code 108 = .ok (.iconst 4, 1) := by decide +kernel
theorem d8_109 : decode method_4_code 109 = .ok (.newarray .char, 2) := by decide +kernel
theorem d8_111 : decode method_4_code 111 = .ok (.dup, 1) := by decide +kernel
theorem d8_112 : decode method_4_code 112 = .ok (.iconst 0, 1) := by decide +kernel
theorem d8_113 : decode method_4_code 113 = .ok (.aload_n 0, 1) := by decide +kernel
theorem d8_114 : decode method_4_code 114 = .ok (.iconst 0, 1) := by decide +kernel
theorem d8_115 : decode method_4_code 115 = .ok (.caload, 1) := by decide +kernel
theorem d8_116 : decode method_4_code 116 = .ok (.castore, 1) := by decide +kernel
theorem d8_117 : decode method_4_code 117 = .ok (.dup, 1) := by decide +kernel
theorem d8_118 : decode method_4_code 118 = .ok (.iconst 1, 1) := by decide +kernel
theorem d8_119 : decode method_4_code 119 = .ok (.aload_n 0, 1) := by decide +kernel
theorem d8_120 : decode method_4_code 120 = .ok (.iconst 1, 1) := by decide +kernel
theorem d8_121 : decode method_4_code 121 = .ok (.caload, 1) := by decide +kernel
theorem d8_122 : decode method_4_code 122 = .ok (.castore, 1) := by decide +kernel
theorem d8_123 : decode method_4_code 123 = .ok (.dup, 1) := by decide +kernel
theorem d8_124 : decode method_4_code 124 = .ok (.iconst 2, 1) := by decide +kernel
theorem d8_125 : decode method_4_code 125 = .ok (.aload_n 0, 1) := by decide +kernel
theorem d8_126 : decode method_4_code 126 = .ok (.iconst 2, 1) := by decide +kernel
theorem d8_127 : decode method_4_code 127 = .ok (.caload, 1) := by decide +kernel
theorem d8_128 : decode method_4_code 128 = .ok (.castore, 1) := by decide +kernel
theorem d8_129 : decode method_4_code 129 = .ok (.dup, 1) := by decide +kernel
theorem d8_130 : decode method_4_code 130 = .ok (.iconst 3, 1) := by decide +kernel
theorem d8_131 : decode method_4_code 131 = .ok (.aload_n 0, 1) := by decide +kernel
theorem d8_132 : decode method_4_code 132 = .ok (.iconst 3, 1) := by decide +kernel
theorem d8_133 : decode method_4_code 133 = .ok (.caload, 1) := by decide +kernel
theorem d8_134 : decode method_4_code 134 = .ok (.castore, 1) := by decide +kernel
theorem d8_135 : decode method_4_code 135 = .ok (.invokespecial 61, 3) := by decide +kernel
theorem d8_138 : decode method_4_code 138 = .ok (.areturn, 1) := by decide +kernel
theorem d8_139 : decode method_4_code 139 = .ok (.iload_n 1, 1) := by decide +kernel
theorem d8_140 : decode method_4_code 140 = .ok (.iconst 5, 1) := by decide +kernel
theorem d8_141 : decode method_4_code 141 = .ok (.if_icmp .ne 44, 3) := by decide +kernel
theorem d8_144 : decode method_4_code 144 = .ok (.new 16, 3) := by decide +kernel
theorem d8_147 : decode method_4_code 147 = .ok (.dup, 1) := by decide +kernel
theorem d8_148 : decode method_4_code 148 = .ok (.iconst 5, 1) := by decide +kernel
theorem d8_149 : decode method_4_code 149 = .ok (.newarray .char, 2) := by decide +kernel
theorem d8_151 : decode method_4_code 151 = .ok (.dup, 1) := by decide +kernel
theorem d8_152 : decode method_4_code 152 = .ok (.iconst 0, 1) := by decide +kernel
theorem d8_153 : decode method_4_code 153 = .ok (.aload_n 0, 1) := by decide +kernel
theorem d8_154 : decode method_4_code 154 = .ok (.iconst 0, 1) := by decide +kernel
theorem d8_155 : decode method_4_code 155 = .ok (.caload, 1) := by decide +kernel
theorem d8_156 : decode method_4_code 156 = .ok (.castore, 1) := by decide +kernel
theorem d8_157 : decode method_4_code 157 = .ok (.dup, 1) := by decide +kernel
theorem d8_158 : decode method_4_code 158 = .ok (.iconst 1, 1) := by decide +kernel
theorem d8_159 : decode method_4_code 159 = .ok (.aload_n 0, 1) := by decide +kernel
theorem d8_160 : decode method_4_code 160 = .ok (.iconst 1, 1) := by decide +kernel
theorem d8_161 : decode method_4_code 161 = .ok (.caload, 1) := by decide +kernel
theorem d8_162 : decode method_4_code 162 = .ok (.castore, 1) := by decide +kernel
theorem d8_163 : decode method_4_code 163 = .ok (.dup, 1) := by decide +kernel
theorem d8_164 : decode method_4_code 164 = .ok (.iconst 2, 1) := by decide +kernel
theorem d8_165 : decode method_4_code 165 = .ok (.aload_n 0, 1) := by decide +kernel
theorem d8_166 : decode method_4_code 166 = .ok (.iconst 2, 1) := by decide +kernel
theorem d8_167 : decode method_4_code 167 = .ok (.caload, 1) := by decide +kernel
theorem d8_168 : decode method_4_code 168 = .ok (.castore, 1) := by decide +kernel
theorem d8_169 : decode method_4_code 169 = .ok (.dup, 1) := by decide +kernel
theorem d8_170 : decode method_4_code 170 = .ok (.iconst 3, 1) := by decide +kernel
theorem d8_171 : decode method_4_code 171 = .ok (.aload_n 0, 1) := by decide +kernel
theorem d8_172 : decode method_4_code 172 = .ok (.iconst 3, 1) := by decide +kernel
theorem d8_173 : decode method_4_code 173 = .ok (.caload, 1) := by decide +kernel
theorem d8_174 : decode method_4_code 174 = .ok (.castore, 1) := by decide +kernel
theorem d8_175 : decode method_4_code 175 = .ok (.dup, 1) := by decide +kernel
theorem d8_176 : decode method_4_code 176 = .ok (.iconst 4, 1) := by decide +kernel
theorem d8_177 : decode method_4_code 177 = .ok (.aload_n 0, 1) := by decide +kernel
theorem d8_178 : decode method_4_code 178 = .ok (.iconst 4, 1) := by decide +kernel
theorem d8_179 : decode method_4_code 179 = .ok (.caload, 1) := by decide +kernel
theorem d8_180 : decode method_4_code 180 = .ok (.castore, 1) := by decide +kernel
theorem d8_181 : decode method_4_code 181 = .ok (.invokespecial 61, 3) := by decide +kernel
theorem d8_184 : decode method_4_code 184 = .ok (.areturn, 1) := by decide +kernel
theorem d8_185 : decode method_4_code 185 = .ok (.iload_n 1, 1) := by decide +kernel
theorem d8_186 : decode method_4_code 186 = .ok (.bipush 6, 2) := by decide +kernel
theorem d8_188 : decode method_4_code 188 = .ok (.if_icmp .ne 51, 3) := by decide +kernel
theorem d8_191 : decode method_4_code 191 = .ok (.new 16, 3) := by decide +kernel
theorem d8_194 : decode method_4_code 194 = .ok (.dup, 1) := by decide +kernel
theorem d8_195 : decode method_4_code 195 = .ok (.bipush 6, 2) := by decide +kernel
theorem d8_197 : decode method_4_code 197 = .ok (.newarray .char, 2) := by decide +kernel
theorem d8_199 : decode method_4_code 199 = .ok (.dup, 1) := by decide +kernel
theorem d8_200 : decode method_4_code 200 = .ok (.iconst 0, 1) := by decide +kernel
theorem d8_201 : decode method_4_code 201 = .ok (.aload_n 0, 1) := by decide +kernel
theorem d8_202 : decode method_4_code 202 = .ok (.iconst 0, 1) := by decide +kernel
theorem d8_203 : decode method_4_code 203 = .ok (.caload, 1) := by decide +kernel
theorem d8_204 : decode method_4_code 204 = .ok (.castore, 1) := by decide +kernel
theorem d8_205 : decode method_4_code 205 = .ok (.dup, 1) := by decide +kernel
theorem d8_206 : decode method_4_code 206 = .ok (.iconst 1, 1) := by decide +kernel
theorem d8_207 : decode method_4_code 207 = .ok (.aload_n 0, 1) := by decide +kernel
theorem d8_208 : decode method_4_code 208 = .ok (.iconst 1, 1) := by decide +kernel
theorem d8_209 : decode method_4_code 209 = .ok (.caload, 1) := by decide +kernel
theorem d8_210 : decode method_4_code 210 = .ok (.castore, 1) := by decide +kernel
theorem d8_211 : decode method_4_code 211 = .ok (.dup, 1) := by decide +kernel
theorem d8_212 : decode method_4_code 212 = .ok (.iconst 2, 1) := by decide +kernel
theorem d8_213 : decode method_4_code 213 = .ok (.aload_n 0, 1) := by decide +kernel
theorem d8_214 : decode method_4_code 214 = .ok (.iconst 2, 1) := by decide +kernel
theorem d8_215 : decode method_4_code 215 = .ok (.caload, 1) := by decide +kernel
theorem d8_216 : decode method_4_code 216 = .ok (.castore, 1) := by decide +kernel
theorem d8_217 : decode method_4_code 217 = .ok (.dup, 1) := by decide +kernel
theorem d8_218 : decode method_4_code 218 = .ok (.iconst 3, 1) := by decide +kernel
theorem d8_219 : decode method_4_code 219 = .ok (.aload_n 0, 1) := by decide +kernel
theorem d8_220 : decode method_4_code 220 = .ok (.iconst 3, 1) := by decide +kernel
theorem d8_221 : decode method_4_code 221 = .ok (.caload, 1) := by decide +kernel
theorem d8_222 : decode method_4_code 222 = .ok (.castore, 1) := by decide +kernel
theorem d8_223 : decode method_4_code 223 = .ok (.dup, 1) := by decide +kernel
theorem d8_224 : decode method_4_code 224 = .ok (.iconst 4, 1) := by decide +kernel
theorem d8_225 : decode method_4_code 225 = .ok (.aload_n 0, 1) := by decide +kernel
theorem d8_226 : decode method_4_code 226 = .ok (.iconst 4, 1) := by decide +kernel
theorem d8_227 : decode method_4_code 227 = .ok (.caload, 1) := by decide +kernel
theorem d8_228 : decode method_4_code 228 = .ok (.castore, 1) := by decide +kernel
theorem d8_229 : decode method_4_code 229 = .ok (.dup, 1) := by decide +kernel
theorem d8_230 : decode method_4_code 230 = .ok (.iconst 5, 1) := by decide +kernel
theorem d8_231 : decode method_4_code 231 = .ok (.aload_n 0, 1) := by decide +kernel
theorem d8_232 : decode method_4_code 232 = .ok (.iconst 5, 1) := by decide +kernel
theorem d8_233 : decode method_4_code 233 = .ok (.caload, 1) := by decide +kernel
theorem d8_234 : decode method_4_code 234 = .ok (.castore, 1) := by decide +kernel
theorem d8_235 : decode method_4_code 235 = .ok (.invokespecial 61, 3) := by decide +kernel
theorem d8_238 : decode method_4_code 238 = .ok (.areturn, 1) := by decide +kernel
theorem d8_239 : decode method_4_code 239 = .ok (.new 16, 3) := by decide +kernel
theorem d8_242 : decode method_4_code 242 = .ok (.dup, 1) := by decide +kernel
theorem d8_243 : decode method_4_code 243 = .ok (.bipush 7, 2) := by decide +kernel
theorem d8_245 : decode method_4_code 245 = .ok (.newarray .char, 2) := by decide +kernel
theorem d8_247 : decode method_4_code 247 = .ok (.dup, 1) := by decide +kernel
theorem d8_248 : decode method_4_code 248 = .ok (.iconst 0, 1) := by decide +kernel
theorem d8_249 : decode method_4_code 249 = .ok (.aload_n 0, 1) := by decide +kernel
theorem d8_250 : decode method_4_code 250 = .ok (.iconst 0, 1) := by decide +kernel
theorem d8_251 : decode method_4_code 251 = .ok (.caload, 1) := by decide +kernel
theorem d8_252 : decode method_4_code 252 = .ok (.castore, 1) := by decide +kernel
theorem d8_253 : decode method_4_code 253 = .ok (.dup, 1) := by decide +kernel
theorem d8_254 : decode method_4_code 254 = .ok (.iconst 1, 1) := by decide +kernel
theorem d8_255 : decode method_4_code 255 = .ok (.aload_n 0, 1) := by decide +kernel
theorem d8_256 : decode method_4_code 256 = .ok (.iconst 1, 1) := by decide +kernel
theorem d8_257 : decode method_4_code 257 = .ok (.caload, 1) := by decide +kernel
theorem d8_258 : decode method_4_code 258 = .ok (.castore, 1) := by decide +kernel
theorem d8_259 : decode method_4_code 259 = .ok (.dup, 1) := by decide +kernel
theorem d8_260 : decode method_4_code 260 = .ok (.iconst 2, 1) := by decide +kernel
theorem d8_261 : decode method_4_code 261 = .ok (.aload_n 0, 1) := by decide +kernel
theorem d8_262 : decode method_4_code 262 = .ok (.iconst 2, 1) := by decide +kernel
theorem d8_263 : decode method_4_code 263 = .ok (.caload, 1) := by decide +kernel
theorem d8_264 : decode method_4_code 264 = .ok (.castore, 1) := by decide +kernel
theorem d8_265 : decode method_4_code 265 = .ok (.dup, 1) := by decide +kernel
theorem d8_266 : decode method_4_code 266 = .ok (.iconst 3, 1) := by decide +kernel
theorem d8_267 : decode method_4_code 267 = .ok (.aload_n 0, 1) := by decide +kernel
theorem d8_268 : decode method_4_code 268 = .ok (.iconst 3, 1) := by decide +kernel
theorem d8_269 : decode method_4_code 269 = .ok (.caload, 1) := by decide +kernel
theorem d8_270 : decode method_4_code 270 = .ok (.castore, 1) := by decide +kernel
theorem d8_271 : decode method_4_code 271 = .ok (.dup, 1) := by decide +kernel
theorem d8_272 : decode method_4_code 272 = .ok (.iconst 4, 1) := by decide +kernel
theorem d8_273 : decode method_4_code 273 = .ok (.aload_n 0, 1) := by decide +kernel
theorem d8_274 : decode method_4_code 274 = .ok (.iconst 4, 1) := by decide +kernel
theorem d8_275 : decode method_4_code 275 = .ok (.caload, 1) := by decide +kernel
theorem d8_276 : decode method_4_code 276 = .ok (.castore, 1) := by decide +kernel
theorem d8_277 : decode method_4_code 277 = .ok (.dup, 1) := by decide +kernel
theorem d8_278 : decode method_4_code 278 = .ok (.iconst 5, 1) := by decide +kernel
theorem d8_279 : decode method_4_code 279 = .ok (.aload_n 0, 1) := by decide +kernel
theorem d8_280 : decode method_4_code 280 = .ok (.iconst 5, 1) := by decide +kernel
theorem d8_281 : decode method_4_code 281 = .ok (.caload, 1) := by decide +kernel
theorem d8_282 : decode method_4_code 282 = .ok (.castore, 1) := by decide +kernel
theorem d8_283 : decode method_4_code 283 = .ok (.dup, 1) := by decide +kernel
theorem d8_284 : decode method_4_code 284 = .ok (.bipush 6, 2) := by decide +kernel
theorem d8_286 : decode method_4_code 286 = .ok (.aload_n 0, 1) := by decide +kernel
theorem d8_287 : decode method_4_code 287 = .ok (.bipush 6, 2) := by decide +kernel
theorem d8_289 : decode method_4_code 289 = .ok (.caload, 1) := by decide +kernel
theorem d8_290 : decode method_4_code 290 = .ok (.castore, 1) := by decide +kernel
theorem d8_291 : decode method_4_code 291 = .ok (.invokespecial 61, 3) := by decide +kernel
theorem d8_294 : decode method_4_code 294 = .ok (.areturn, 1) := by decide +kernel
theorem ef_cut (m : MethodId) (r0 : Addr) (p1 : Int32)  : entryFrame m #[(.ref r0), (.int p1)] 2 = mkF m 0 #[.val (.ref r0), .val (.int p1)] [] := by (first | (simp [entryFrame, mkF, argsToLocals, Value.category]; done) | rfl)
theorem pn_8 : plainFor (⟨"com/example/herring/herring/acl/SchemeNamedPinLaw", "cut", "([CI)Ljava/lang/String;"⟩ : MethodName) = true := plainFor_of_name (by first | (simp [plainName, overriddenIn]; done) | decide +kernel)
set_option maxRecDepth 65536 in
set_option maxHeartbeats 40000000 in
theorem rm_cut (l : Launch) (Z : State) (a0 : Array Value) (hw : ∀ d ∈ tables_1, d.before a0 Z = true) (hEL : EW Z a0 EL0) (ws : List Jvm.Cond) (r0 : Addr) (p1 : Int32) (h0 : Heap) (n0 : Nat) (Z0 : n0 ≤ h0.size) (c_ : Nat → Int32) (G : GA Z h0 r0 .char 7 (fun i => .int (c_ i))) (hc8 : C8 7 c_) (cs : Int32) (SC : Sta Z h0 "java/lang/String" "COMPACT_STRINGS" "Z" (.int cs)) (hcs : ¬ cs = (0 : Int32)) :
    OMetX l (⟨"com/example/herring/herring/acl/SchemeNamedPinLaw", "cut", "([CI)Ljava/lang/String;"⟩ : MethodName) method_4_code 2 (some (.object "java/lang/String")) ws ({ frames := 4, cells := 6, slots := 32, locals := 84 } : Room) #[(.ref r0), (.int p1)] Z EL0 [] h0 (fun v h L => ∃ (r b : Addr) (k : Nat), v = some (.ref r) ∧ Fr n0 L ∧ Keep h0 h [] ∧ StK Z h0 h ∧ STR Z h r b k c_ ∧ k ≤ 7) := by
  refine OMetX.of pn_8 (fun m => ef_cut m r0 p1 ) ?_
  intro p e s m below meth c s₁ hx hby hml hown hnm hret hlk hZ X0 e0 hC0
  have N0 := Fr.nil n0
  have K0 := Keep.refl h0 []
  have ST0 := StK.refl Z h0
  have wi := (hw _ (List.mem_of_getElem? (i := 2) rfl))
  refine Owes.go ?_ fun t₀ k₀ => XS.iloadN X0.here hx rfl (hb hby d8_0) rfl k₀
  show Owes _ _ _ _ (s₁.setTop (mkF m 1 #[.val (.ref r0), .val (.int p1)] [(.int p1)]))
  by_cases hc1 : p1 = (0 : Int32)
  · skip
    refine Owes.go ?_ fun t₀ k₀ => XS.ifNo X0.here hx rfl (hb hby d8_1) rfl ((if0 _ _).trans (teq hc1).2) k₀
    show Owes _ _ _ _ (s₁.setTop (mkF m 4 #[.val (.ref r0), .val (.int p1)] []))
    refine Owes.newO X0 hx hZ hown (hw _ (List.mem_of_getElem? (i := 63) rfl)) (hw _ (List.mem_of_getElem? (i := 2) rfl)) (hw _ (List.mem_of_getElem? (i := 1) rfl)) e0 (hb hby d8_4) (by decide) (by decide) ?_
    intro T40 h40 X40 e40 E40 A40 D40
    obtain ⟨rn, grn⟩ : ∃ z, z = h0.size := ⟨_, rfl⟩
    rw [← grn] at A40 ⊢
    have lt_r0_rn : r0 < rn := by rw [grn]; exact (G).lt
    have ge_rn : h0.size ≤ rn := by rw [grn]; exact K0.1
    have gn_rn : n0 ≤ rn := Nat.le_trans Z0 ge_rn
    have G_r0_40 := GA.ext G E40
    have K_40 := K0.ext E40
    have ST_40 := ST0.ext E40
    have F_rn_value_40 : Fld Z h40 rn "java/lang/String" "value" "[B" .null := by rw [grn]; exact D40 (Or.inr (hw _ (List.mem_of_getElem? (i := 4) rfl))) (ty := (.array .byte)) (by decide)
    have F_rn_coder_40 : Fld Z h40 rn "java/lang/String" "coder" "B" (.int (0 : Int32)) := by rw [grn]; exact D40 (Or.inr (hw _ (List.mem_of_getElem? (i := 5) rfl))) (ty := .byte) (by decide)
    have HB := CHx.fresh hC0 E40 (Nat.le_of_eq grn.symm) (A40).lt
    have KB := Keep.refl h40 []
    show Owes _ _ _ _ (T40.setTop (mkF m 7 #[.val (.ref r0), .val (.int p1)] [(.ref rn)]))
    refine Owes.go ?_ fun t₀ k₀ => XS.dup X40.here hx rfl (hb hby d8_7) rfl rfl k₀
    show Owes _ _ _ _ (T40.setTop (mkF m 8 #[.val (.ref r0), .val (.int p1)] [(.ref rn), (.ref rn)]))
    refine Owes.go ?_ fun t₀ k₀ => XS.iconst X40.here hx rfl (hb hby d8_8) k₀
    show Owes _ _ _ _ (T40.setTop (mkF m 9 #[.val (.ref r0), .val (.int p1)] [(.int (0 : Int32)), (.ref rn), (.ref rn)]))
    refine Owes.newArr X40 hx hZ (aty := .char) (hw _ (List.mem_of_getElem? (i := 14) rfl)) e40 (n := 0) rfl (by omega) (by decide) (by decide) (ad := "[C") (by decide) (hb hby d8_9) ?_
    intro T41 h41 X41 e41 E41 G41 EX41
    obtain ⟨xa, gxa⟩ : ∃ z, z = h40.size := ⟨_, rfl⟩
    rw [← gxa] at G41 EX41 ⊢
    have lt_rn_xa : rn < xa := by rw [gxa]; exact (A40).lt
    have lt_r0_xa : r0 < xa := by rw [gxa]; exact (G_r0_40).lt
    have ge_xa : h0.size ≤ xa := by rw [gxa]; exact K_40.1
    have gn_xa : n0 ≤ xa := Nat.le_trans Z0 ge_xa
    have E_rn_41 := (A40).ext E41
    have F_rn_value_41 := (F_rn_value_40).ext E41
    have F_rn_coder_41 := (F_rn_coder_40).ext E41
    have G_r0_41 := GA.ext G_r0_40 E41
    have K_41 := K_40.ext E41
    have ST_41 := ST_40.ext E41
    have G41 : GA Z h41 xa .char 0 (fun _ => .int 0) := G41
    have ge1 := Nat.le_of_eq gxa.symm
    have KB_41 := KB.ext E41
    have GF : GA Z h41 xa .char 0 (fun i => .int (c_ i)) := GA.congr G41 fun i hi => absurd hi (Nat.not_lt_zero _)
    show Owes _ _ _ _ (T41.setTop (mkF m 11 #[.val (.ref r0), .val (.int p1)] [(.ref xa), (.ref rn), (.ref rn)]))
    have HB1 := HB.keep KB_41 (fun x hx => absurd hx List.not_mem_nil)
    have SC1 := ST_41 _ _ _ _ SC
    refine Owes.callCX (xs := [rn]) X41 hx hZ hEL HB1 (own_since s 0) (Nat.zero_le _) rfl hown (hw _ (List.mem_of_getElem? (i := 64) rfl)) (hw _ (List.mem_of_getElem? (i := 65) rfl)) (hw _ (List.mem_of_getElem? (i := 1) rfl)) (hw _ (List.mem_of_getElem? (i := 66) rfl)) (by decide) (a := rn) (argsL := [(.ref xa)]) (rest := [(.ref rn)]) (rm_in1 l Z a0 hw hEL [] rn xa h41 n0 (Nat.le_trans Z0 K_41.1) 0 c_ GF (0 : Int32) rfl (fun i hi => hc8 i (by omega)) (by decide) gn_rn E_rn_41 F_rn_coder_41 F_rn_value_41 cs SC1 hcs) e41 (by rw [hml]; rfl) pd_12 rfl rfl (hb hby d8_11) (by decide) (Nat.le_of_ble_eq_true rfl) (by decide) (by decide) ?_
    rintro T42 _ L42 X42 hS42 hg42 hZ hown hC42 ⟨rfl, N42, K42, ST42, bS, SP⟩
    have NF42 := Fr.app N0 N42
    have KK := K_41.trans K42 (fun x hx => Or.inr (by rw [List.mem_singleton.mp hx]; exact ge_rn))
    have STT := ST_41.trans ST42
    have HE : CHx Z EL0 [] T42.vm T42.heap := ⟨hC42.1, fun x hx => absurd hx List.not_mem_nil⟩
    show Owes _ _ _ _ (T42.setTop (mkF m 14 #[.val (.ref r0), .val (.int p1)] [(.ref rn)]))
    exact Owes.retAX X42 hZ hEL rfl HE hS42 (Nat.le_refl _) hx hlk hret rfl rfl rfl (hb hby d8_14) (by decide) (by decide) ⟨rn, bS, 0, rfl, NF42, KK, STT, SP, by decide⟩
  · skip
    refine Owes.go ?_ fun t₀ k₀ => XS.ifYes X0.here hx rfl (pc0 := 1) (pc' := 15) rfl (hb hby d8_1) rfl ((if0 _ _).trans (feq hc1).2) (by decide) (by decide) k₀
    show Owes _ _ _ _ (s₁.setTop (mkF m 15 #[.val (.ref r0), .val (.int p1)] []))
    refine Owes.go ?_ fun t₀ k₀ => XS.iloadN X0.here hx rfl (hb hby d8_15) rfl k₀
    show Owes _ _ _ _ (s₁.setTop (mkF m 16 #[.val (.ref r0), .val (.int p1)] [(.int p1)]))
    refine Owes.go ?_ fun t₀ k₀ => XS.iconst X0.here hx rfl (hb hby d8_16) k₀
    show Owes _ _ _ _ (s₁.setTop (mkF m 17 #[.val (.ref r0), .val (.int p1)] [(.int (1 : Int32)), (.int p1)]))
    by_cases hc2 : p1 = (1 : Int32)
    · skip
      refine Owes.go ?_ fun t₀ k₀ => XS.icmpNo X0.here hx rfl (hb hby d8_17) rfl (teq hc2).2 k₀
      show Owes _ _ _ _ (s₁.setTop (mkF m 20 #[.val (.ref r0), .val (.int p1)] []))
      refine Owes.newO X0 hx hZ hown (hw _ (List.mem_of_getElem? (i := 63) rfl)) (hw _ (List.mem_of_getElem? (i := 2) rfl)) (hw _ (List.mem_of_getElem? (i := 1) rfl)) e0 (hb hby d8_20) (by decide) (by decide) ?_
      intro T43 h43 X43 e43 E43 A43 D43
      obtain ⟨rn, grn⟩ : ∃ z, z = h0.size := ⟨_, rfl⟩
      rw [← grn] at A43 ⊢
      have lt_r0_rn : r0 < rn := by rw [grn]; exact (G).lt
      have ge_rn : h0.size ≤ rn := by rw [grn]; exact K0.1
      have gn_rn : n0 ≤ rn := Nat.le_trans Z0 ge_rn
      have G_r0_43 := GA.ext G E43
      have K_43 := K0.ext E43
      have ST_43 := ST0.ext E43
      have F_rn_value_43 : Fld Z h43 rn "java/lang/String" "value" "[B" .null := by rw [grn]; exact D43 (Or.inr (hw _ (List.mem_of_getElem? (i := 4) rfl))) (ty := (.array .byte)) (by decide)
      have F_rn_coder_43 : Fld Z h43 rn "java/lang/String" "coder" "B" (.int (0 : Int32)) := by rw [grn]; exact D43 (Or.inr (hw _ (List.mem_of_getElem? (i := 5) rfl))) (ty := .byte) (by decide)
      have HB := CHx.fresh hC0 E43 (Nat.le_of_eq grn.symm) (A43).lt
      have KB := Keep.refl h43 []
      show Owes _ _ _ _ (T43.setTop (mkF m 23 #[.val (.ref r0), .val (.int p1)] [(.ref rn)]))
      refine Owes.go ?_ fun t₀ k₀ => XS.dup X43.here hx rfl (hb hby d8_23) rfl rfl k₀
      show Owes _ _ _ _ (T43.setTop (mkF m 24 #[.val (.ref r0), .val (.int p1)] [(.ref rn), (.ref rn)]))
      refine Owes.go ?_ fun t₀ k₀ => XS.iconst X43.here hx rfl (hb hby d8_24) k₀
      show Owes _ _ _ _ (T43.setTop (mkF m 25 #[.val (.ref r0), .val (.int p1)] [(.int (1 : Int32)), (.ref rn), (.ref rn)]))
      refine Owes.newArr X43 hx hZ (aty := .char) (hw _ (List.mem_of_getElem? (i := 14) rfl)) e43 (n := 1) rfl (by omega) (by decide) (by decide) (ad := "[C") (by decide) (hb hby d8_25) ?_
      intro T44 h44 X44 e44 E44 G44 EX44
      obtain ⟨xa, gxa⟩ : ∃ z, z = h43.size := ⟨_, rfl⟩
      rw [← gxa] at G44 EX44 ⊢
      have lt_rn_xa : rn < xa := by rw [gxa]; exact (A43).lt
      have lt_r0_xa : r0 < xa := by rw [gxa]; exact (G_r0_43).lt
      have ge_xa : h0.size ≤ xa := by rw [gxa]; exact K_43.1
      have gn_xa : n0 ≤ xa := Nat.le_trans Z0 ge_xa
      have E_rn_44 := (A43).ext E44
      have F_rn_value_44 := (F_rn_value_43).ext E44
      have F_rn_coder_44 := (F_rn_coder_43).ext E44
      have G_r0_44 := GA.ext G_r0_43 E44
      have K_44 := K_43.ext E44
      have ST_44 := ST_43.ext E44
      have G44 : GA Z h44 xa .char 1 (fun _ => .int 0) := G44
      have ge1 := Nat.le_of_eq gxa.symm
      have KB_44 := KB.ext E44
      show Owes _ _ _ _ (T44.setTop (mkF m 27 #[.val (.ref r0), .val (.int p1)] [(.ref xa), (.ref rn), (.ref rn)]))
      refine Owes.go ?_ fun t₀ k₀ => XS.dup X44.here hx rfl (hb hby d8_27) rfl rfl k₀
      show Owes _ _ _ _ (T44.setTop (mkF m 28 #[.val (.ref r0), .val (.int p1)] [(.ref xa), (.ref xa), (.ref rn), (.ref rn)]))
      refine Owes.go ?_ fun t₀ k₀ => XS.iconst X44.here hx rfl (hb hby d8_28) k₀
      show Owes _ _ _ _ (T44.setTop (mkF m 29 #[.val (.ref r0), .val (.int p1)] [(.int (0 : Int32)), (.ref xa), (.ref xa), (.ref rn), (.ref rn)]))
      refine Owes.go ?_ fun t₀ k₀ => XS.aloadN X44.here hx rfl (hb hby d8_29) rfl rfl k₀
      show Owes _ _ _ _ (T44.setTop (mkF m 30 #[.val (.ref r0), .val (.int p1)] [(.ref r0), (.int (0 : Int32)), (.ref xa), (.ref xa), (.ref rn), (.ref rn)]))
      refine Owes.go ?_ fun t₀ k₀ => XS.iconst X44.here hx rfl (hb hby d8_30) k₀
      show Owes _ _ _ _ (T44.setTop (mkF m 31 #[.val (.ref r0), .val (.int p1)] [(.int (0 : Int32)), (.ref r0), (.int (0 : Int32)), (.ref xa), (.ref xa), (.ref rn), (.ref rn)]))
      refine Owes.gC X44 hx hZ e44 G_r0_44 (i := 0) rfl (by decide) (v := .int (c_ 0)) rfl (hb hby d8_31) ?_
      show Owes _ _ _ _ (T44.setTop (mkF m 32 #[.val (.ref r0), .val (.int p1)] [(.int (c_ 0)), (.int (0 : Int32)), (.ref xa), (.ref xa), (.ref rn), (.ref rn)]))
      refine Owes.sC X44 hx hZ e44 G44 (i := 0) rfl (by decide) (own_narC (hc8 0 (by decide))) (hb hby d8_32) ?_
      intro T45 h45 X45 e45 W45 G45
      have G_r0_45 := GA.other G_r0_44 W45 (Nat.ne_of_lt lt_r0_xa)
      have E_rn_45 := Exa.wr W45 E_rn_44
      have F_rn_value_45 := Fld.other W45 F_rn_value_44 (Or.inl (Nat.ne_of_lt lt_rn_xa))
      have F_rn_coder_45 := Fld.other W45 F_rn_coder_44 (Or.inl (Nat.ne_of_lt lt_rn_xa))
      have GF : GA Z h45 xa .char 1 (fun i => .int (c_ i)) := G45.congr fun i hi => by
        rcases (show i = 0 by omega) with rfl; rfl
      have K_45 := K_44.wr W45 (Or.inr ge_xa)
      have ST_45 := ST_44.wr W45
      have KB_45 := KB_44.wr W45 (Or.inr ge1)
      have N45 := Fr.snoc X45 N0 gn_xa
      show Owes _ _ _ _ (T45.setTop (mkF m 33 #[.val (.ref r0), .val (.int p1)] [(.ref xa), (.ref rn), (.ref rn)]))
      have HB1 := HB.keep KB_45 (fun x hx => absurd hx List.not_mem_nil)
      have SC1 := ST_45 _ _ _ _ SC
      refine Owes.callCX (xs := [rn]) X45 hx hZ hEL HB1 (own_since s 0) (Nat.zero_le _) rfl hown (hw _ (List.mem_of_getElem? (i := 64) rfl)) (hw _ (List.mem_of_getElem? (i := 65) rfl)) (hw _ (List.mem_of_getElem? (i := 1) rfl)) (hw _ (List.mem_of_getElem? (i := 66) rfl)) (by decide) (a := rn) (argsL := [(.ref xa)]) (rest := [(.ref rn)]) (rm_in1 l Z a0 hw hEL [] rn xa h45 n0 (Nat.le_trans Z0 K_45.1) 1 c_ GF (1 : Int32) rfl (fun i hi => hc8 i (by omega)) (by decide) gn_rn E_rn_45 F_rn_coder_45 F_rn_value_45 cs SC1 hcs) e45 (by rw [hml]; rfl) pd_12 rfl rfl (hb hby d8_33) (by decide) (Nat.le_of_ble_eq_true rfl) (by decide) (by decide) ?_
      rintro T46 _ L46 X46 hS46 hg46 hZ hown hC46 ⟨rfl, N46, K46, ST46, bS, SP⟩
      have NF46 := Fr.app N45 N46
      have KK := K_45.trans K46 (fun x hx => Or.inr (by rw [List.mem_singleton.mp hx]; exact ge_rn))
      have STT := ST_45.trans ST46
      have HE : CHx Z EL0 [] T46.vm T46.heap := ⟨hC46.1, fun x hx => absurd hx List.not_mem_nil⟩
      show Owes _ _ _ _ (T46.setTop (mkF m 36 #[.val (.ref r0), .val (.int p1)] [(.ref rn)]))
      exact Owes.retAX X46 hZ hEL rfl HE hS46 (Nat.le_refl _) hx hlk hret rfl rfl rfl (hb hby d8_36) (by decide) (by decide) ⟨rn, bS, 1, rfl, NF46, KK, STT, SP, by decide⟩
    · skip
      refine Owes.go ?_ fun t₀ k₀ => XS.icmpYes X0.here hx rfl (pc0 := 17) (pc' := 37) rfl (hb hby d8_17) rfl (feq hc2).2 (by decide) (by decide) k₀
      show Owes _ _ _ _ (s₁.setTop (mkF m 37 #[.val (.ref r0), .val (.int p1)] []))
      refine Owes.go ?_ fun t₀ k₀ => XS.iloadN X0.here hx rfl (hb hby d8_37) rfl k₀
      show Owes _ _ _ _ (s₁.setTop (mkF m 38 #[.val (.ref r0), .val (.int p1)] [(.int p1)]))
      refine Owes.go ?_ fun t₀ k₀ => XS.iconst X0.here hx rfl (hb hby d8_38) k₀
      show Owes _ _ _ _ (s₁.setTop (mkF m 39 #[.val (.ref r0), .val (.int p1)] [(.int (2 : Int32)), (.int p1)]))
      by_cases hc3 : p1 = (2 : Int32)
      · skip
        refine Owes.go ?_ fun t₀ k₀ => XS.icmpNo X0.here hx rfl (hb hby d8_39) rfl (teq hc3).2 k₀
        show Owes _ _ _ _ (s₁.setTop (mkF m 42 #[.val (.ref r0), .val (.int p1)] []))
        refine Owes.newO X0 hx hZ hown (hw _ (List.mem_of_getElem? (i := 63) rfl)) (hw _ (List.mem_of_getElem? (i := 2) rfl)) (hw _ (List.mem_of_getElem? (i := 1) rfl)) e0 (hb hby d8_42) (by decide) (by decide) ?_
        intro T47 h47 X47 e47 E47 A47 D47
        obtain ⟨rn, grn⟩ : ∃ z, z = h0.size := ⟨_, rfl⟩
        rw [← grn] at A47 ⊢
        have lt_r0_rn : r0 < rn := by rw [grn]; exact (G).lt
        have ge_rn : h0.size ≤ rn := by rw [grn]; exact K0.1
        have gn_rn : n0 ≤ rn := Nat.le_trans Z0 ge_rn
        have G_r0_47 := GA.ext G E47
        have K_47 := K0.ext E47
        have ST_47 := ST0.ext E47
        have F_rn_value_47 : Fld Z h47 rn "java/lang/String" "value" "[B" .null := by rw [grn]; exact D47 (Or.inr (hw _ (List.mem_of_getElem? (i := 4) rfl))) (ty := (.array .byte)) (by decide)
        have F_rn_coder_47 : Fld Z h47 rn "java/lang/String" "coder" "B" (.int (0 : Int32)) := by rw [grn]; exact D47 (Or.inr (hw _ (List.mem_of_getElem? (i := 5) rfl))) (ty := .byte) (by decide)
        have HB := CHx.fresh hC0 E47 (Nat.le_of_eq grn.symm) (A47).lt
        have KB := Keep.refl h47 []
        show Owes _ _ _ _ (T47.setTop (mkF m 45 #[.val (.ref r0), .val (.int p1)] [(.ref rn)]))
        refine Owes.go ?_ fun t₀ k₀ => XS.dup X47.here hx rfl (hb hby d8_45) rfl rfl k₀
        show Owes _ _ _ _ (T47.setTop (mkF m 46 #[.val (.ref r0), .val (.int p1)] [(.ref rn), (.ref rn)]))
        refine Owes.go ?_ fun t₀ k₀ => XS.iconst X47.here hx rfl (hb hby d8_46) k₀
        show Owes _ _ _ _ (T47.setTop (mkF m 47 #[.val (.ref r0), .val (.int p1)] [(.int (2 : Int32)), (.ref rn), (.ref rn)]))
        refine Owes.newArr X47 hx hZ (aty := .char) (hw _ (List.mem_of_getElem? (i := 14) rfl)) e47 (n := 2) rfl (by omega) (by decide) (by decide) (ad := "[C") (by decide) (hb hby d8_47) ?_
        intro T48 h48 X48 e48 E48 G48 EX48
        obtain ⟨xa, gxa⟩ : ∃ z, z = h47.size := ⟨_, rfl⟩
        rw [← gxa] at G48 EX48 ⊢
        have lt_rn_xa : rn < xa := by rw [gxa]; exact (A47).lt
        have lt_r0_xa : r0 < xa := by rw [gxa]; exact (G_r0_47).lt
        have ge_xa : h0.size ≤ xa := by rw [gxa]; exact K_47.1
        have gn_xa : n0 ≤ xa := Nat.le_trans Z0 ge_xa
        have E_rn_48 := (A47).ext E48
        have F_rn_value_48 := (F_rn_value_47).ext E48
        have F_rn_coder_48 := (F_rn_coder_47).ext E48
        have G_r0_48 := GA.ext G_r0_47 E48
        have K_48 := K_47.ext E48
        have ST_48 := ST_47.ext E48
        have G48 : GA Z h48 xa .char 2 (fun _ => .int 0) := G48
        have ge1 := Nat.le_of_eq gxa.symm
        have KB_48 := KB.ext E48
        show Owes _ _ _ _ (T48.setTop (mkF m 49 #[.val (.ref r0), .val (.int p1)] [(.ref xa), (.ref rn), (.ref rn)]))
        refine Owes.go ?_ fun t₀ k₀ => XS.dup X48.here hx rfl (hb hby d8_49) rfl rfl k₀
        show Owes _ _ _ _ (T48.setTop (mkF m 50 #[.val (.ref r0), .val (.int p1)] [(.ref xa), (.ref xa), (.ref rn), (.ref rn)]))
        refine Owes.go ?_ fun t₀ k₀ => XS.iconst X48.here hx rfl (hb hby d8_50) k₀
        show Owes _ _ _ _ (T48.setTop (mkF m 51 #[.val (.ref r0), .val (.int p1)] [(.int (0 : Int32)), (.ref xa), (.ref xa), (.ref rn), (.ref rn)]))
        refine Owes.go ?_ fun t₀ k₀ => XS.aloadN X48.here hx rfl (hb hby d8_51) rfl rfl k₀
        show Owes _ _ _ _ (T48.setTop (mkF m 52 #[.val (.ref r0), .val (.int p1)] [(.ref r0), (.int (0 : Int32)), (.ref xa), (.ref xa), (.ref rn), (.ref rn)]))
        refine Owes.go ?_ fun t₀ k₀ => XS.iconst X48.here hx rfl (hb hby d8_52) k₀
        show Owes _ _ _ _ (T48.setTop (mkF m 53 #[.val (.ref r0), .val (.int p1)] [(.int (0 : Int32)), (.ref r0), (.int (0 : Int32)), (.ref xa), (.ref xa), (.ref rn), (.ref rn)]))
        refine Owes.gC X48 hx hZ e48 G_r0_48 (i := 0) rfl (by decide) (v := .int (c_ 0)) rfl (hb hby d8_53) ?_
        show Owes _ _ _ _ (T48.setTop (mkF m 54 #[.val (.ref r0), .val (.int p1)] [(.int (c_ 0)), (.int (0 : Int32)), (.ref xa), (.ref xa), (.ref rn), (.ref rn)]))
        refine Owes.sC X48 hx hZ e48 G48 (i := 0) rfl (by decide) (own_narC (hc8 0 (by decide))) (hb hby d8_54) ?_
        intro T49 h49 X49 e49 W49 G49
        have G_r0_49 := GA.other G_r0_48 W49 (Nat.ne_of_lt lt_r0_xa)
        have E_rn_49 := Exa.wr W49 E_rn_48
        have F_rn_value_49 := Fld.other W49 F_rn_value_48 (Or.inl (Nat.ne_of_lt lt_rn_xa))
        have F_rn_coder_49 := Fld.other W49 F_rn_coder_48 (Or.inl (Nat.ne_of_lt lt_rn_xa))
        have K_49 := K_48.wr W49 (Or.inr ge_xa)
        have ST_49 := ST_48.wr W49
        have KB_49 := KB_48.wr W49 (Or.inr ge1)
        have N49 := Fr.snoc X49 N0 gn_xa
        show Owes _ _ _ _ (T49.setTop (mkF m 55 #[.val (.ref r0), .val (.int p1)] [(.ref xa), (.ref rn), (.ref rn)]))
        refine Owes.go ?_ fun t₀ k₀ => XS.dup X49.here hx rfl (hb hby d8_55) rfl rfl k₀
        show Owes _ _ _ _ (T49.setTop (mkF m 56 #[.val (.ref r0), .val (.int p1)] [(.ref xa), (.ref xa), (.ref rn), (.ref rn)]))
        refine Owes.go ?_ fun t₀ k₀ => XS.iconst X49.here hx rfl (hb hby d8_56) k₀
        show Owes _ _ _ _ (T49.setTop (mkF m 57 #[.val (.ref r0), .val (.int p1)] [(.int (1 : Int32)), (.ref xa), (.ref xa), (.ref rn), (.ref rn)]))
        refine Owes.go ?_ fun t₀ k₀ => XS.aloadN X49.here hx rfl (hb hby d8_57) rfl rfl k₀
        show Owes _ _ _ _ (T49.setTop (mkF m 58 #[.val (.ref r0), .val (.int p1)] [(.ref r0), (.int (1 : Int32)), (.ref xa), (.ref xa), (.ref rn), (.ref rn)]))
        refine Owes.go ?_ fun t₀ k₀ => XS.iconst X49.here hx rfl (hb hby d8_58) k₀
        show Owes _ _ _ _ (T49.setTop (mkF m 59 #[.val (.ref r0), .val (.int p1)] [(.int (1 : Int32)), (.ref r0), (.int (1 : Int32)), (.ref xa), (.ref xa), (.ref rn), (.ref rn)]))
        refine Owes.gC X49 hx hZ e49 G_r0_49 (i := 1) rfl (by decide) (v := .int (c_ 1)) rfl (hb hby d8_59) ?_
        show Owes _ _ _ _ (T49.setTop (mkF m 60 #[.val (.ref r0), .val (.int p1)] [(.int (c_ 1)), (.int (1 : Int32)), (.ref xa), (.ref xa), (.ref rn), (.ref rn)]))
        refine Owes.sC X49 hx hZ e49 G49 (i := 1) rfl (by decide) (own_narC (hc8 1 (by decide))) (hb hby d8_60) ?_
        intro T50 h50 X50 e50 W50 G50
        have G_r0_50 := GA.other G_r0_49 W50 (Nat.ne_of_lt lt_r0_xa)
        have E_rn_50 := Exa.wr W50 E_rn_49
        have F_rn_value_50 := Fld.other W50 F_rn_value_49 (Or.inl (Nat.ne_of_lt lt_rn_xa))
        have F_rn_coder_50 := Fld.other W50 F_rn_coder_49 (Or.inl (Nat.ne_of_lt lt_rn_xa))
        have GF : GA Z h50 xa .char 2 (fun i => .int (c_ i)) := G50.congr fun i hi => by
          rcases (show i = 0 ∨ i = 1 by omega) with rfl | rfl <;> rfl
        have K_50 := K_49.wr W50 (Or.inr ge_xa)
        have ST_50 := ST_49.wr W50
        have KB_50 := KB_49.wr W50 (Or.inr ge1)
        have N50 := Fr.snoc X50 N49 gn_xa
        show Owes _ _ _ _ (T50.setTop (mkF m 61 #[.val (.ref r0), .val (.int p1)] [(.ref xa), (.ref rn), (.ref rn)]))
        have HB1 := HB.keep KB_50 (fun x hx => absurd hx List.not_mem_nil)
        have SC1 := ST_50 _ _ _ _ SC
        refine Owes.callCX (xs := [rn]) X50 hx hZ hEL HB1 (own_since s 0) (Nat.zero_le _) rfl hown (hw _ (List.mem_of_getElem? (i := 64) rfl)) (hw _ (List.mem_of_getElem? (i := 65) rfl)) (hw _ (List.mem_of_getElem? (i := 1) rfl)) (hw _ (List.mem_of_getElem? (i := 66) rfl)) (by decide) (a := rn) (argsL := [(.ref xa)]) (rest := [(.ref rn)]) (rm_in1 l Z a0 hw hEL [] rn xa h50 n0 (Nat.le_trans Z0 K_50.1) 2 c_ GF (2 : Int32) rfl (fun i hi => hc8 i (by omega)) (by decide) gn_rn E_rn_50 F_rn_coder_50 F_rn_value_50 cs SC1 hcs) e50 (by rw [hml]; rfl) pd_12 rfl rfl (hb hby d8_61) (by decide) (Nat.le_of_ble_eq_true rfl) (by decide) (by decide) ?_
        rintro T51 _ L51 X51 hS51 hg51 hZ hown hC51 ⟨rfl, N51, K51, ST51, bS, SP⟩
        have NF51 := Fr.app N50 N51
        have KK := K_50.trans K51 (fun x hx => Or.inr (by rw [List.mem_singleton.mp hx]; exact ge_rn))
        have STT := ST_50.trans ST51
        have HE : CHx Z EL0 [] T51.vm T51.heap := ⟨hC51.1, fun x hx => absurd hx List.not_mem_nil⟩
        show Owes _ _ _ _ (T51.setTop (mkF m 64 #[.val (.ref r0), .val (.int p1)] [(.ref rn)]))
        exact Owes.retAX X51 hZ hEL rfl HE hS51 (Nat.le_refl _) hx hlk hret rfl rfl rfl (hb hby d8_64) (by decide) (by decide) ⟨rn, bS, 2, rfl, NF51, KK, STT, SP, by decide⟩
      · skip
        refine Owes.go ?_ fun t₀ k₀ => XS.icmpYes X0.here hx rfl (pc0 := 39) (pc' := 65) rfl (hb hby d8_39) rfl (feq hc3).2 (by decide) (by decide) k₀
        show Owes _ _ _ _ (s₁.setTop (mkF m 65 #[.val (.ref r0), .val (.int p1)] []))
        refine Owes.go ?_ fun t₀ k₀ => XS.iloadN X0.here hx rfl (hb hby d8_65) rfl k₀
        show Owes _ _ _ _ (s₁.setTop (mkF m 66 #[.val (.ref r0), .val (.int p1)] [(.int p1)]))
        refine Owes.go ?_ fun t₀ k₀ => XS.iconst X0.here hx rfl (hb hby d8_66) k₀
        show Owes _ _ _ _ (s₁.setTop (mkF m 67 #[.val (.ref r0), .val (.int p1)] [(.int (3 : Int32)), (.int p1)]))
        by_cases hc4 : p1 = (3 : Int32)
        · skip
          refine Owes.go ?_ fun t₀ k₀ => XS.icmpNo X0.here hx rfl (hb hby d8_67) rfl (teq hc4).2 k₀
          show Owes _ _ _ _ (s₁.setTop (mkF m 70 #[.val (.ref r0), .val (.int p1)] []))
          refine Owes.newO X0 hx hZ hown (hw _ (List.mem_of_getElem? (i := 63) rfl)) (hw _ (List.mem_of_getElem? (i := 2) rfl)) (hw _ (List.mem_of_getElem? (i := 1) rfl)) e0 (hb hby d8_70) (by decide) (by decide) ?_
          intro T52 h52 X52 e52 E52 A52 D52
          obtain ⟨rn, grn⟩ : ∃ z, z = h0.size := ⟨_, rfl⟩
          rw [← grn] at A52 ⊢
          have lt_r0_rn : r0 < rn := by rw [grn]; exact (G).lt
          have ge_rn : h0.size ≤ rn := by rw [grn]; exact K0.1
          have gn_rn : n0 ≤ rn := Nat.le_trans Z0 ge_rn
          have G_r0_52 := GA.ext G E52
          have K_52 := K0.ext E52
          have ST_52 := ST0.ext E52
          have F_rn_value_52 : Fld Z h52 rn "java/lang/String" "value" "[B" .null := by rw [grn]; exact D52 (Or.inr (hw _ (List.mem_of_getElem? (i := 4) rfl))) (ty := (.array .byte)) (by decide)
          have F_rn_coder_52 : Fld Z h52 rn "java/lang/String" "coder" "B" (.int (0 : Int32)) := by rw [grn]; exact D52 (Or.inr (hw _ (List.mem_of_getElem? (i := 5) rfl))) (ty := .byte) (by decide)
          have HB := CHx.fresh hC0 E52 (Nat.le_of_eq grn.symm) (A52).lt
          have KB := Keep.refl h52 []
          show Owes _ _ _ _ (T52.setTop (mkF m 73 #[.val (.ref r0), .val (.int p1)] [(.ref rn)]))
          refine Owes.go ?_ fun t₀ k₀ => XS.dup X52.here hx rfl (hb hby d8_73) rfl rfl k₀
          show Owes _ _ _ _ (T52.setTop (mkF m 74 #[.val (.ref r0), .val (.int p1)] [(.ref rn), (.ref rn)]))
          refine Owes.go ?_ fun t₀ k₀ => XS.iconst X52.here hx rfl (hb hby d8_74) k₀
          show Owes _ _ _ _ (T52.setTop (mkF m 75 #[.val (.ref r0), .val (.int p1)] [(.int (3 : Int32)), (.ref rn), (.ref rn)]))
          refine Owes.newArr X52 hx hZ (aty := .char) (hw _ (List.mem_of_getElem? (i := 14) rfl)) e52 (n := 3) rfl (by omega) (by decide) (by decide) (ad := "[C") (by decide) (hb hby d8_75) ?_
          intro T53 h53 X53 e53 E53 G53 EX53
          obtain ⟨xa, gxa⟩ : ∃ z, z = h52.size := ⟨_, rfl⟩
          rw [← gxa] at G53 EX53 ⊢
          have lt_rn_xa : rn < xa := by rw [gxa]; exact (A52).lt
          have lt_r0_xa : r0 < xa := by rw [gxa]; exact (G_r0_52).lt
          have ge_xa : h0.size ≤ xa := by rw [gxa]; exact K_52.1
          have gn_xa : n0 ≤ xa := Nat.le_trans Z0 ge_xa
          have E_rn_53 := (A52).ext E53
          have F_rn_value_53 := (F_rn_value_52).ext E53
          have F_rn_coder_53 := (F_rn_coder_52).ext E53
          have G_r0_53 := GA.ext G_r0_52 E53
          have K_53 := K_52.ext E53
          have ST_53 := ST_52.ext E53
          have G53 : GA Z h53 xa .char 3 (fun _ => .int 0) := G53
          have ge1 := Nat.le_of_eq gxa.symm
          have KB_53 := KB.ext E53
          show Owes _ _ _ _ (T53.setTop (mkF m 77 #[.val (.ref r0), .val (.int p1)] [(.ref xa), (.ref rn), (.ref rn)]))
          refine Owes.go ?_ fun t₀ k₀ => XS.dup X53.here hx rfl (hb hby d8_77) rfl rfl k₀
          show Owes _ _ _ _ (T53.setTop (mkF m 78 #[.val (.ref r0), .val (.int p1)] [(.ref xa), (.ref xa), (.ref rn), (.ref rn)]))
          refine Owes.go ?_ fun t₀ k₀ => XS.iconst X53.here hx rfl (hb hby d8_78) k₀
          show Owes _ _ _ _ (T53.setTop (mkF m 79 #[.val (.ref r0), .val (.int p1)] [(.int (0 : Int32)), (.ref xa), (.ref xa), (.ref rn), (.ref rn)]))
          refine Owes.go ?_ fun t₀ k₀ => XS.aloadN X53.here hx rfl (hb hby d8_79) rfl rfl k₀
          show Owes _ _ _ _ (T53.setTop (mkF m 80 #[.val (.ref r0), .val (.int p1)] [(.ref r0), (.int (0 : Int32)), (.ref xa), (.ref xa), (.ref rn), (.ref rn)]))
          refine Owes.go ?_ fun t₀ k₀ => XS.iconst X53.here hx rfl (hb hby d8_80) k₀
          show Owes _ _ _ _ (T53.setTop (mkF m 81 #[.val (.ref r0), .val (.int p1)] [(.int (0 : Int32)), (.ref r0), (.int (0 : Int32)), (.ref xa), (.ref xa), (.ref rn), (.ref rn)]))
          refine Owes.gC X53 hx hZ e53 G_r0_53 (i := 0) rfl (by decide) (v := .int (c_ 0)) rfl (hb hby d8_81) ?_
          show Owes _ _ _ _ (T53.setTop (mkF m 82 #[.val (.ref r0), .val (.int p1)] [(.int (c_ 0)), (.int (0 : Int32)), (.ref xa), (.ref xa), (.ref rn), (.ref rn)]))
          refine Owes.sC X53 hx hZ e53 G53 (i := 0) rfl (by decide) (own_narC (hc8 0 (by decide))) (hb hby d8_82) ?_
          intro T54 h54 X54 e54 W54 G54
          have G_r0_54 := GA.other G_r0_53 W54 (Nat.ne_of_lt lt_r0_xa)
          have E_rn_54 := Exa.wr W54 E_rn_53
          have F_rn_value_54 := Fld.other W54 F_rn_value_53 (Or.inl (Nat.ne_of_lt lt_rn_xa))
          have F_rn_coder_54 := Fld.other W54 F_rn_coder_53 (Or.inl (Nat.ne_of_lt lt_rn_xa))
          have K_54 := K_53.wr W54 (Or.inr ge_xa)
          have ST_54 := ST_53.wr W54
          have KB_54 := KB_53.wr W54 (Or.inr ge1)
          have N54 := Fr.snoc X54 N0 gn_xa
          show Owes _ _ _ _ (T54.setTop (mkF m 83 #[.val (.ref r0), .val (.int p1)] [(.ref xa), (.ref rn), (.ref rn)]))
          refine Owes.go ?_ fun t₀ k₀ => XS.dup X54.here hx rfl (hb hby d8_83) rfl rfl k₀
          show Owes _ _ _ _ (T54.setTop (mkF m 84 #[.val (.ref r0), .val (.int p1)] [(.ref xa), (.ref xa), (.ref rn), (.ref rn)]))
          refine Owes.go ?_ fun t₀ k₀ => XS.iconst X54.here hx rfl (hb hby d8_84) k₀
          show Owes _ _ _ _ (T54.setTop (mkF m 85 #[.val (.ref r0), .val (.int p1)] [(.int (1 : Int32)), (.ref xa), (.ref xa), (.ref rn), (.ref rn)]))
          refine Owes.go ?_ fun t₀ k₀ => XS.aloadN X54.here hx rfl (hb hby d8_85) rfl rfl k₀
          show Owes _ _ _ _ (T54.setTop (mkF m 86 #[.val (.ref r0), .val (.int p1)] [(.ref r0), (.int (1 : Int32)), (.ref xa), (.ref xa), (.ref rn), (.ref rn)]))
          refine Owes.go ?_ fun t₀ k₀ => XS.iconst X54.here hx rfl (hb hby d8_86) k₀
          show Owes _ _ _ _ (T54.setTop (mkF m 87 #[.val (.ref r0), .val (.int p1)] [(.int (1 : Int32)), (.ref r0), (.int (1 : Int32)), (.ref xa), (.ref xa), (.ref rn), (.ref rn)]))
          refine Owes.gC X54 hx hZ e54 G_r0_54 (i := 1) rfl (by decide) (v := .int (c_ 1)) rfl (hb hby d8_87) ?_
          show Owes _ _ _ _ (T54.setTop (mkF m 88 #[.val (.ref r0), .val (.int p1)] [(.int (c_ 1)), (.int (1 : Int32)), (.ref xa), (.ref xa), (.ref rn), (.ref rn)]))
          refine Owes.sC X54 hx hZ e54 G54 (i := 1) rfl (by decide) (own_narC (hc8 1 (by decide))) (hb hby d8_88) ?_
          intro T55 h55 X55 e55 W55 G55
          have G_r0_55 := GA.other G_r0_54 W55 (Nat.ne_of_lt lt_r0_xa)
          have E_rn_55 := Exa.wr W55 E_rn_54
          have F_rn_value_55 := Fld.other W55 F_rn_value_54 (Or.inl (Nat.ne_of_lt lt_rn_xa))
          have F_rn_coder_55 := Fld.other W55 F_rn_coder_54 (Or.inl (Nat.ne_of_lt lt_rn_xa))
          have K_55 := K_54.wr W55 (Or.inr ge_xa)
          have ST_55 := ST_54.wr W55
          have KB_55 := KB_54.wr W55 (Or.inr ge1)
          have N55 := Fr.snoc X55 N54 gn_xa
          show Owes _ _ _ _ (T55.setTop (mkF m 89 #[.val (.ref r0), .val (.int p1)] [(.ref xa), (.ref rn), (.ref rn)]))
          refine Owes.go ?_ fun t₀ k₀ => XS.dup X55.here hx rfl (hb hby d8_89) rfl rfl k₀
          show Owes _ _ _ _ (T55.setTop (mkF m 90 #[.val (.ref r0), .val (.int p1)] [(.ref xa), (.ref xa), (.ref rn), (.ref rn)]))
          refine Owes.go ?_ fun t₀ k₀ => XS.iconst X55.here hx rfl (hb hby d8_90) k₀
          show Owes _ _ _ _ (T55.setTop (mkF m 91 #[.val (.ref r0), .val (.int p1)] [(.int (2 : Int32)), (.ref xa), (.ref xa), (.ref rn), (.ref rn)]))
          refine Owes.go ?_ fun t₀ k₀ => XS.aloadN X55.here hx rfl (hb hby d8_91) rfl rfl k₀
          show Owes _ _ _ _ (T55.setTop (mkF m 92 #[.val (.ref r0), .val (.int p1)] [(.ref r0), (.int (2 : Int32)), (.ref xa), (.ref xa), (.ref rn), (.ref rn)]))
          refine Owes.go ?_ fun t₀ k₀ => XS.iconst X55.here hx rfl (hb hby d8_92) k₀
          show Owes _ _ _ _ (T55.setTop (mkF m 93 #[.val (.ref r0), .val (.int p1)] [(.int (2 : Int32)), (.ref r0), (.int (2 : Int32)), (.ref xa), (.ref xa), (.ref rn), (.ref rn)]))
          refine Owes.gC X55 hx hZ e55 G_r0_55 (i := 2) rfl (by decide) (v := .int (c_ 2)) rfl (hb hby d8_93) ?_
          show Owes _ _ _ _ (T55.setTop (mkF m 94 #[.val (.ref r0), .val (.int p1)] [(.int (c_ 2)), (.int (2 : Int32)), (.ref xa), (.ref xa), (.ref rn), (.ref rn)]))
          refine Owes.sC X55 hx hZ e55 G55 (i := 2) rfl (by decide) (own_narC (hc8 2 (by decide))) (hb hby d8_94) ?_
          intro T56 h56 X56 e56 W56 G56
          have G_r0_56 := GA.other G_r0_55 W56 (Nat.ne_of_lt lt_r0_xa)
          have E_rn_56 := Exa.wr W56 E_rn_55
          have F_rn_value_56 := Fld.other W56 F_rn_value_55 (Or.inl (Nat.ne_of_lt lt_rn_xa))
          have F_rn_coder_56 := Fld.other W56 F_rn_coder_55 (Or.inl (Nat.ne_of_lt lt_rn_xa))
          have GF : GA Z h56 xa .char 3 (fun i => .int (c_ i)) := G56.congr fun i hi => by
            rcases (show i = 0 ∨ i = 1 ∨ i = 2 by omega) with rfl | rfl | rfl <;> rfl
          have K_56 := K_55.wr W56 (Or.inr ge_xa)
          have ST_56 := ST_55.wr W56
          have KB_56 := KB_55.wr W56 (Or.inr ge1)
          have N56 := Fr.snoc X56 N55 gn_xa
          show Owes _ _ _ _ (T56.setTop (mkF m 95 #[.val (.ref r0), .val (.int p1)] [(.ref xa), (.ref rn), (.ref rn)]))
          have HB1 := HB.keep KB_56 (fun x hx => absurd hx List.not_mem_nil)
          have SC1 := ST_56 _ _ _ _ SC
          refine Owes.callCX (xs := [rn]) X56 hx hZ hEL HB1 (own_since s 0) (Nat.zero_le _) rfl hown (hw _ (List.mem_of_getElem? (i := 64) rfl)) (hw _ (List.mem_of_getElem? (i := 65) rfl)) (hw _ (List.mem_of_getElem? (i := 1) rfl)) (hw _ (List.mem_of_getElem? (i := 66) rfl)) (by decide) (a := rn) (argsL := [(.ref xa)]) (rest := [(.ref rn)]) (rm_in1 l Z a0 hw hEL [] rn xa h56 n0 (Nat.le_trans Z0 K_56.1) 3 c_ GF (3 : Int32) rfl (fun i hi => hc8 i (by omega)) (by decide) gn_rn E_rn_56 F_rn_coder_56 F_rn_value_56 cs SC1 hcs) e56 (by rw [hml]; rfl) pd_12 rfl rfl (hb hby d8_95) (by decide) (Nat.le_of_ble_eq_true rfl) (by decide) (by decide) ?_
          rintro T57 _ L57 X57 hS57 hg57 hZ hown hC57 ⟨rfl, N57, K57, ST57, bS, SP⟩
          have NF57 := Fr.app N56 N57
          have KK := K_56.trans K57 (fun x hx => Or.inr (by rw [List.mem_singleton.mp hx]; exact ge_rn))
          have STT := ST_56.trans ST57
          have HE : CHx Z EL0 [] T57.vm T57.heap := ⟨hC57.1, fun x hx => absurd hx List.not_mem_nil⟩
          show Owes _ _ _ _ (T57.setTop (mkF m 98 #[.val (.ref r0), .val (.int p1)] [(.ref rn)]))
          exact Owes.retAX X57 hZ hEL rfl HE hS57 (Nat.le_refl _) hx hlk hret rfl rfl rfl (hb hby d8_98) (by decide) (by decide) ⟨rn, bS, 3, rfl, NF57, KK, STT, SP, by decide⟩
        · skip
          refine Owes.go ?_ fun t₀ k₀ => XS.icmpYes X0.here hx rfl (pc0 := 67) (pc' := 99) rfl (hb hby d8_67) rfl (feq hc4).2 (by decide) (by decide) k₀
          show Owes _ _ _ _ (s₁.setTop (mkF m 99 #[.val (.ref r0), .val (.int p1)] []))
          refine Owes.go ?_ fun t₀ k₀ => XS.iloadN X0.here hx rfl (hb hby d8_99) rfl k₀
          show Owes _ _ _ _ (s₁.setTop (mkF m 100 #[.val (.ref r0), .val (.int p1)] [(.int p1)]))
          refine Owes.go ?_ fun t₀ k₀ => XS.iconst X0.here hx rfl (hb hby d8_100) k₀
          show Owes _ _ _ _ (s₁.setTop (mkF m 101 #[.val (.ref r0), .val (.int p1)] [(.int (4 : Int32)), (.int p1)]))
          by_cases hc5 : p1 = (4 : Int32)
          · skip
            refine Owes.go ?_ fun t₀ k₀ => XS.icmpNo X0.here hx rfl (hb hby d8_101) rfl (teq hc5).2 k₀
            show Owes _ _ _ _ (s₁.setTop (mkF m 104 #[.val (.ref r0), .val (.int p1)] []))
            refine Owes.newO X0 hx hZ hown (hw _ (List.mem_of_getElem? (i := 63) rfl)) (hw _ (List.mem_of_getElem? (i := 2) rfl)) (hw _ (List.mem_of_getElem? (i := 1) rfl)) e0 (hb hby d8_104) (by decide) (by decide) ?_
            intro T58 h58 X58 e58 E58 A58 D58
            obtain ⟨rn, grn⟩ : ∃ z, z = h0.size := ⟨_, rfl⟩
            rw [← grn] at A58 ⊢
            have lt_r0_rn : r0 < rn := by rw [grn]; exact (G).lt
            have ge_rn : h0.size ≤ rn := by rw [grn]; exact K0.1
            have gn_rn : n0 ≤ rn := Nat.le_trans Z0 ge_rn
            have G_r0_58 := GA.ext G E58
            have K_58 := K0.ext E58
            have ST_58 := ST0.ext E58
            have F_rn_value_58 : Fld Z h58 rn "java/lang/String" "value" "[B" .null := by rw [grn]; exact D58 (Or.inr (hw _ (List.mem_of_getElem? (i := 4) rfl))) (ty := (.array .byte)) (by decide)
            have F_rn_coder_58 : Fld Z h58 rn "java/lang/String" "coder" "B" (.int (0 : Int32)) := by rw [grn]; exact D58 (Or.inr (hw _ (List.mem_of_getElem? (i := 5) rfl))) (ty := .byte) (by decide)
            have HB := CHx.fresh hC0 E58 (Nat.le_of_eq grn.symm) (A58).lt
            have KB := Keep.refl h58 []
            show Owes _ _ _ _ (T58.setTop (mkF m 107 #[.val (.ref r0), .val (.int p1)] [(.ref rn)]))
            refine Owes.go ?_ fun t₀ k₀ => XS.dup X58.here hx rfl (hb hby d8_107) rfl rfl k₀
            show Owes _ _ _ _ (T58.setTop (mkF m 108 #[.val (.ref r0), .val (.int p1)] [(.ref rn), (.ref rn)]))
            refine Owes.go ?_ fun t₀ k₀ => XS.iconst X58.here hx rfl (hb hby d8_108) k₀
            show Owes _ _ _ _ (T58.setTop (mkF m 109 #[.val (.ref r0), .val (.int p1)] [(.int (4 : Int32)), (.ref rn), (.ref rn)]))
            refine Owes.newArr X58 hx hZ (aty := .char) (hw _ (List.mem_of_getElem? (i := 14) rfl)) e58 (n := 4) rfl (by omega) (by decide) (by decide) (ad := "[C") (by decide) (hb hby d8_109) ?_
            intro T59 h59 X59 e59 E59 G59 EX59
            obtain ⟨xa, gxa⟩ : ∃ z, z = h58.size := ⟨_, rfl⟩
            rw [← gxa] at G59 EX59 ⊢
            have lt_rn_xa : rn < xa := by rw [gxa]; exact (A58).lt
            have lt_r0_xa : r0 < xa := by rw [gxa]; exact (G_r0_58).lt
            have ge_xa : h0.size ≤ xa := by rw [gxa]; exact K_58.1
            have gn_xa : n0 ≤ xa := Nat.le_trans Z0 ge_xa
            have E_rn_59 := (A58).ext E59
            have F_rn_value_59 := (F_rn_value_58).ext E59
            have F_rn_coder_59 := (F_rn_coder_58).ext E59
            have G_r0_59 := GA.ext G_r0_58 E59
            have K_59 := K_58.ext E59
            have ST_59 := ST_58.ext E59
            have G59 : GA Z h59 xa .char 4 (fun _ => .int 0) := G59
            have ge1 := Nat.le_of_eq gxa.symm
            have KB_59 := KB.ext E59
            show Owes _ _ _ _ (T59.setTop (mkF m 111 #[.val (.ref r0), .val (.int p1)] [(.ref xa), (.ref rn), (.ref rn)]))
            refine Owes.go ?_ fun t₀ k₀ => XS.dup X59.here hx rfl (hb hby d8_111) rfl rfl k₀
            show Owes _ _ _ _ (T59.setTop (mkF m 112 #[.val (.ref r0), .val (.int p1)] [(.ref xa), (.ref xa), (.ref rn), (.ref rn)]))
            refine Owes.go ?_ fun t₀ k₀ => XS.iconst X59.here hx rfl (hb hby d8_112) k₀
            show Owes _ _ _ _ (T59.setTop (mkF m 113 #[.val (.ref r0), .val (.int p1)] [(.int (0 : Int32)), (.ref xa), (.ref xa), (.ref rn), (.ref rn)]))
            refine Owes.go ?_ fun t₀ k₀ => XS.aloadN X59.here hx rfl (hb hby d8_113) rfl rfl k₀
            show Owes _ _ _ _ (T59.setTop (mkF m 114 #[.val (.ref r0), .val (.int p1)] [(.ref r0), (.int (0 : Int32)), (.ref xa), (.ref xa), (.ref rn), (.ref rn)]))
            refine Owes.go ?_ fun t₀ k₀ => XS.iconst X59.here hx rfl (hb hby d8_114) k₀
            show Owes _ _ _ _ (T59.setTop (mkF m 115 #[.val (.ref r0), .val (.int p1)] [(.int (0 : Int32)), (.ref r0), (.int (0 : Int32)), (.ref xa), (.ref xa), (.ref rn), (.ref rn)]))
            refine Owes.gC X59 hx hZ e59 G_r0_59 (i := 0) rfl (by decide) (v := .int (c_ 0)) rfl (hb hby d8_115) ?_
            show Owes _ _ _ _ (T59.setTop (mkF m 116 #[.val (.ref r0), .val (.int p1)] [(.int (c_ 0)), (.int (0 : Int32)), (.ref xa), (.ref xa), (.ref rn), (.ref rn)]))
            refine Owes.sC X59 hx hZ e59 G59 (i := 0) rfl (by decide) (own_narC (hc8 0 (by decide))) (hb hby d8_116) ?_
            intro T60 h60 X60 e60 W60 G60
            have G_r0_60 := GA.other G_r0_59 W60 (Nat.ne_of_lt lt_r0_xa)
            have E_rn_60 := Exa.wr W60 E_rn_59
            have F_rn_value_60 := Fld.other W60 F_rn_value_59 (Or.inl (Nat.ne_of_lt lt_rn_xa))
            have F_rn_coder_60 := Fld.other W60 F_rn_coder_59 (Or.inl (Nat.ne_of_lt lt_rn_xa))
            have K_60 := K_59.wr W60 (Or.inr ge_xa)
            have ST_60 := ST_59.wr W60
            have KB_60 := KB_59.wr W60 (Or.inr ge1)
            have N60 := Fr.snoc X60 N0 gn_xa
            show Owes _ _ _ _ (T60.setTop (mkF m 117 #[.val (.ref r0), .val (.int p1)] [(.ref xa), (.ref rn), (.ref rn)]))
            refine Owes.go ?_ fun t₀ k₀ => XS.dup X60.here hx rfl (hb hby d8_117) rfl rfl k₀
            show Owes _ _ _ _ (T60.setTop (mkF m 118 #[.val (.ref r0), .val (.int p1)] [(.ref xa), (.ref xa), (.ref rn), (.ref rn)]))
            refine Owes.go ?_ fun t₀ k₀ => XS.iconst X60.here hx rfl (hb hby d8_118) k₀
            show Owes _ _ _ _ (T60.setTop (mkF m 119 #[.val (.ref r0), .val (.int p1)] [(.int (1 : Int32)), (.ref xa), (.ref xa), (.ref rn), (.ref rn)]))
            refine Owes.go ?_ fun t₀ k₀ => XS.aloadN X60.here hx rfl (hb hby d8_119) rfl rfl k₀
            show Owes _ _ _ _ (T60.setTop (mkF m 120 #[.val (.ref r0), .val (.int p1)] [(.ref r0), (.int (1 : Int32)), (.ref xa), (.ref xa), (.ref rn), (.ref rn)]))
            refine Owes.go ?_ fun t₀ k₀ => XS.iconst X60.here hx rfl (hb hby d8_120) k₀
            show Owes _ _ _ _ (T60.setTop (mkF m 121 #[.val (.ref r0), .val (.int p1)] [(.int (1 : Int32)), (.ref r0), (.int (1 : Int32)), (.ref xa), (.ref xa), (.ref rn), (.ref rn)]))
            refine Owes.gC X60 hx hZ e60 G_r0_60 (i := 1) rfl (by decide) (v := .int (c_ 1)) rfl (hb hby d8_121) ?_
            show Owes _ _ _ _ (T60.setTop (mkF m 122 #[.val (.ref r0), .val (.int p1)] [(.int (c_ 1)), (.int (1 : Int32)), (.ref xa), (.ref xa), (.ref rn), (.ref rn)]))
            refine Owes.sC X60 hx hZ e60 G60 (i := 1) rfl (by decide) (own_narC (hc8 1 (by decide))) (hb hby d8_122) ?_
            intro T61 h61 X61 e61 W61 G61
            have G_r0_61 := GA.other G_r0_60 W61 (Nat.ne_of_lt lt_r0_xa)
            have E_rn_61 := Exa.wr W61 E_rn_60
            have F_rn_value_61 := Fld.other W61 F_rn_value_60 (Or.inl (Nat.ne_of_lt lt_rn_xa))
            have F_rn_coder_61 := Fld.other W61 F_rn_coder_60 (Or.inl (Nat.ne_of_lt lt_rn_xa))
            have K_61 := K_60.wr W61 (Or.inr ge_xa)
            have ST_61 := ST_60.wr W61
            have KB_61 := KB_60.wr W61 (Or.inr ge1)
            have N61 := Fr.snoc X61 N60 gn_xa
            show Owes _ _ _ _ (T61.setTop (mkF m 123 #[.val (.ref r0), .val (.int p1)] [(.ref xa), (.ref rn), (.ref rn)]))
            refine Owes.go ?_ fun t₀ k₀ => XS.dup X61.here hx rfl (hb hby d8_123) rfl rfl k₀
            show Owes _ _ _ _ (T61.setTop (mkF m 124 #[.val (.ref r0), .val (.int p1)] [(.ref xa), (.ref xa), (.ref rn), (.ref rn)]))
            refine Owes.go ?_ fun t₀ k₀ => XS.iconst X61.here hx rfl (hb hby d8_124) k₀
            show Owes _ _ _ _ (T61.setTop (mkF m 125 #[.val (.ref r0), .val (.int p1)] [(.int (2 : Int32)), (.ref xa), (.ref xa), (.ref rn), (.ref rn)]))
            refine Owes.go ?_ fun t₀ k₀ => XS.aloadN X61.here hx rfl (hb hby d8_125) rfl rfl k₀
            show Owes _ _ _ _ (T61.setTop (mkF m 126 #[.val (.ref r0), .val (.int p1)] [(.ref r0), (.int (2 : Int32)), (.ref xa), (.ref xa), (.ref rn), (.ref rn)]))
            refine Owes.go ?_ fun t₀ k₀ => XS.iconst X61.here hx rfl (hb hby d8_126) k₀
            show Owes _ _ _ _ (T61.setTop (mkF m 127 #[.val (.ref r0), .val (.int p1)] [(.int (2 : Int32)), (.ref r0), (.int (2 : Int32)), (.ref xa), (.ref xa), (.ref rn), (.ref rn)]))
            refine Owes.gC X61 hx hZ e61 G_r0_61 (i := 2) rfl (by decide) (v := .int (c_ 2)) rfl (hb hby d8_127) ?_
            show Owes _ _ _ _ (T61.setTop (mkF m 128 #[.val (.ref r0), .val (.int p1)] [(.int (c_ 2)), (.int (2 : Int32)), (.ref xa), (.ref xa), (.ref rn), (.ref rn)]))
            refine Owes.sC X61 hx hZ e61 G61 (i := 2) rfl (by decide) (own_narC (hc8 2 (by decide))) (hb hby d8_128) ?_
            intro T62 h62 X62 e62 W62 G62
            have G_r0_62 := GA.other G_r0_61 W62 (Nat.ne_of_lt lt_r0_xa)
            have E_rn_62 := Exa.wr W62 E_rn_61
            have F_rn_value_62 := Fld.other W62 F_rn_value_61 (Or.inl (Nat.ne_of_lt lt_rn_xa))
            have F_rn_coder_62 := Fld.other W62 F_rn_coder_61 (Or.inl (Nat.ne_of_lt lt_rn_xa))
            have K_62 := K_61.wr W62 (Or.inr ge_xa)
            have ST_62 := ST_61.wr W62
            have KB_62 := KB_61.wr W62 (Or.inr ge1)
            have N62 := Fr.snoc X62 N61 gn_xa
            show Owes _ _ _ _ (T62.setTop (mkF m 129 #[.val (.ref r0), .val (.int p1)] [(.ref xa), (.ref rn), (.ref rn)]))
            refine Owes.go ?_ fun t₀ k₀ => XS.dup X62.here hx rfl (hb hby d8_129) rfl rfl k₀
            show Owes _ _ _ _ (T62.setTop (mkF m 130 #[.val (.ref r0), .val (.int p1)] [(.ref xa), (.ref xa), (.ref rn), (.ref rn)]))
            refine Owes.go ?_ fun t₀ k₀ => XS.iconst X62.here hx rfl (hb hby d8_130) k₀
            show Owes _ _ _ _ (T62.setTop (mkF m 131 #[.val (.ref r0), .val (.int p1)] [(.int (3 : Int32)), (.ref xa), (.ref xa), (.ref rn), (.ref rn)]))
            refine Owes.go ?_ fun t₀ k₀ => XS.aloadN X62.here hx rfl (hb hby d8_131) rfl rfl k₀
            show Owes _ _ _ _ (T62.setTop (mkF m 132 #[.val (.ref r0), .val (.int p1)] [(.ref r0), (.int (3 : Int32)), (.ref xa), (.ref xa), (.ref rn), (.ref rn)]))
            refine Owes.go ?_ fun t₀ k₀ => XS.iconst X62.here hx rfl (hb hby d8_132) k₀
            show Owes _ _ _ _ (T62.setTop (mkF m 133 #[.val (.ref r0), .val (.int p1)] [(.int (3 : Int32)), (.ref r0), (.int (3 : Int32)), (.ref xa), (.ref xa), (.ref rn), (.ref rn)]))
            refine Owes.gC X62 hx hZ e62 G_r0_62 (i := 3) rfl (by decide) (v := .int (c_ 3)) rfl (hb hby d8_133) ?_
            show Owes _ _ _ _ (T62.setTop (mkF m 134 #[.val (.ref r0), .val (.int p1)] [(.int (c_ 3)), (.int (3 : Int32)), (.ref xa), (.ref xa), (.ref rn), (.ref rn)]))
            refine Owes.sC X62 hx hZ e62 G62 (i := 3) rfl (by decide) (own_narC (hc8 3 (by decide))) (hb hby d8_134) ?_
            intro T63 h63 X63 e63 W63 G63
            have G_r0_63 := GA.other G_r0_62 W63 (Nat.ne_of_lt lt_r0_xa)
            have E_rn_63 := Exa.wr W63 E_rn_62
            have F_rn_value_63 := Fld.other W63 F_rn_value_62 (Or.inl (Nat.ne_of_lt lt_rn_xa))
            have F_rn_coder_63 := Fld.other W63 F_rn_coder_62 (Or.inl (Nat.ne_of_lt lt_rn_xa))
            have GF : GA Z h63 xa .char 4 (fun i => .int (c_ i)) := G63.congr fun i hi => by
              rcases (show i = 0 ∨ i = 1 ∨ i = 2 ∨ i = 3 by omega) with rfl | rfl | rfl | rfl <;> rfl
            have K_63 := K_62.wr W63 (Or.inr ge_xa)
            have ST_63 := ST_62.wr W63
            have KB_63 := KB_62.wr W63 (Or.inr ge1)
            have N63 := Fr.snoc X63 N62 gn_xa
            show Owes _ _ _ _ (T63.setTop (mkF m 135 #[.val (.ref r0), .val (.int p1)] [(.ref xa), (.ref rn), (.ref rn)]))
            have HB1 := HB.keep KB_63 (fun x hx => absurd hx List.not_mem_nil)
            have SC1 := ST_63 _ _ _ _ SC
            refine Owes.callCX (xs := [rn]) X63 hx hZ hEL HB1 (own_since s 0) (Nat.zero_le _) rfl hown (hw _ (List.mem_of_getElem? (i := 64) rfl)) (hw _ (List.mem_of_getElem? (i := 65) rfl)) (hw _ (List.mem_of_getElem? (i := 1) rfl)) (hw _ (List.mem_of_getElem? (i := 66) rfl)) (by decide) (a := rn) (argsL := [(.ref xa)]) (rest := [(.ref rn)]) (rm_in1 l Z a0 hw hEL [] rn xa h63 n0 (Nat.le_trans Z0 K_63.1) 4 c_ GF (4 : Int32) rfl (fun i hi => hc8 i (by omega)) (by decide) gn_rn E_rn_63 F_rn_coder_63 F_rn_value_63 cs SC1 hcs) e63 (by rw [hml]; rfl) pd_12 rfl rfl (hb hby d8_135) (by decide) (Nat.le_of_ble_eq_true rfl) (by decide) (by decide) ?_
            rintro T64 _ L64 X64 hS64 hg64 hZ hown hC64 ⟨rfl, N64, K64, ST64, bS, SP⟩
            have NF64 := Fr.app N63 N64
            have KK := K_63.trans K64 (fun x hx => Or.inr (by rw [List.mem_singleton.mp hx]; exact ge_rn))
            have STT := ST_63.trans ST64
            have HE : CHx Z EL0 [] T64.vm T64.heap := ⟨hC64.1, fun x hx => absurd hx List.not_mem_nil⟩
            show Owes _ _ _ _ (T64.setTop (mkF m 138 #[.val (.ref r0), .val (.int p1)] [(.ref rn)]))
            exact Owes.retAX X64 hZ hEL rfl HE hS64 (Nat.le_refl _) hx hlk hret rfl rfl rfl (hb hby d8_138) (by decide) (by decide) ⟨rn, bS, 4, rfl, NF64, KK, STT, SP, by decide⟩
          · skip
            refine Owes.go ?_ fun t₀ k₀ => XS.icmpYes X0.here hx rfl (pc0 := 101) (pc' := 139) rfl (hb hby d8_101) rfl (feq hc5).2 (by decide) (by decide) k₀
            show Owes _ _ _ _ (s₁.setTop (mkF m 139 #[.val (.ref r0), .val (.int p1)] []))
            refine Owes.go ?_ fun t₀ k₀ => XS.iloadN X0.here hx rfl (hb hby d8_139) rfl k₀
            show Owes _ _ _ _ (s₁.setTop (mkF m 140 #[.val (.ref r0), .val (.int p1)] [(.int p1)]))
            refine Owes.go ?_ fun t₀ k₀ => XS.iconst X0.here hx rfl (hb hby d8_140) k₀
            show Owes _ _ _ _ (s₁.setTop (mkF m 141 #[.val (.ref r0), .val (.int p1)] [(.int (5 : Int32)), (.int p1)]))
            by_cases hc6 : p1 = (5 : Int32)
            · skip
              refine Owes.go ?_ fun t₀ k₀ => XS.icmpNo X0.here hx rfl (hb hby d8_141) rfl (teq hc6).2 k₀
              show Owes _ _ _ _ (s₁.setTop (mkF m 144 #[.val (.ref r0), .val (.int p1)] []))
              refine Owes.newO X0 hx hZ hown (hw _ (List.mem_of_getElem? (i := 63) rfl)) (hw _ (List.mem_of_getElem? (i := 2) rfl)) (hw _ (List.mem_of_getElem? (i := 1) rfl)) e0 (hb hby d8_144) (by decide) (by decide) ?_
              intro T65 h65 X65 e65 E65 A65 D65
              obtain ⟨rn, grn⟩ : ∃ z, z = h0.size := ⟨_, rfl⟩
              rw [← grn] at A65 ⊢
              have lt_r0_rn : r0 < rn := by rw [grn]; exact (G).lt
              have ge_rn : h0.size ≤ rn := by rw [grn]; exact K0.1
              have gn_rn : n0 ≤ rn := Nat.le_trans Z0 ge_rn
              have G_r0_65 := GA.ext G E65
              have K_65 := K0.ext E65
              have ST_65 := ST0.ext E65
              have F_rn_value_65 : Fld Z h65 rn "java/lang/String" "value" "[B" .null := by rw [grn]; exact D65 (Or.inr (hw _ (List.mem_of_getElem? (i := 4) rfl))) (ty := (.array .byte)) (by decide)
              have F_rn_coder_65 : Fld Z h65 rn "java/lang/String" "coder" "B" (.int (0 : Int32)) := by rw [grn]; exact D65 (Or.inr (hw _ (List.mem_of_getElem? (i := 5) rfl))) (ty := .byte) (by decide)
              have HB := CHx.fresh hC0 E65 (Nat.le_of_eq grn.symm) (A65).lt
              have KB := Keep.refl h65 []
              show Owes _ _ _ _ (T65.setTop (mkF m 147 #[.val (.ref r0), .val (.int p1)] [(.ref rn)]))
              refine Owes.go ?_ fun t₀ k₀ => XS.dup X65.here hx rfl (hb hby d8_147) rfl rfl k₀
              show Owes _ _ _ _ (T65.setTop (mkF m 148 #[.val (.ref r0), .val (.int p1)] [(.ref rn), (.ref rn)]))
              refine Owes.go ?_ fun t₀ k₀ => XS.iconst X65.here hx rfl (hb hby d8_148) k₀
              show Owes _ _ _ _ (T65.setTop (mkF m 149 #[.val (.ref r0), .val (.int p1)] [(.int (5 : Int32)), (.ref rn), (.ref rn)]))
              refine Owes.newArr X65 hx hZ (aty := .char) (hw _ (List.mem_of_getElem? (i := 14) rfl)) e65 (n := 5) rfl (by omega) (by decide) (by decide) (ad := "[C") (by decide) (hb hby d8_149) ?_
              intro T66 h66 X66 e66 E66 G66 EX66
              obtain ⟨xa, gxa⟩ : ∃ z, z = h65.size := ⟨_, rfl⟩
              rw [← gxa] at G66 EX66 ⊢
              have lt_rn_xa : rn < xa := by rw [gxa]; exact (A65).lt
              have lt_r0_xa : r0 < xa := by rw [gxa]; exact (G_r0_65).lt
              have ge_xa : h0.size ≤ xa := by rw [gxa]; exact K_65.1
              have gn_xa : n0 ≤ xa := Nat.le_trans Z0 ge_xa
              have E_rn_66 := (A65).ext E66
              have F_rn_value_66 := (F_rn_value_65).ext E66
              have F_rn_coder_66 := (F_rn_coder_65).ext E66
              have G_r0_66 := GA.ext G_r0_65 E66
              have K_66 := K_65.ext E66
              have ST_66 := ST_65.ext E66
              have G66 : GA Z h66 xa .char 5 (fun _ => .int 0) := G66
              have ge1 := Nat.le_of_eq gxa.symm
              have KB_66 := KB.ext E66
              show Owes _ _ _ _ (T66.setTop (mkF m 151 #[.val (.ref r0), .val (.int p1)] [(.ref xa), (.ref rn), (.ref rn)]))
              refine Owes.go ?_ fun t₀ k₀ => XS.dup X66.here hx rfl (hb hby d8_151) rfl rfl k₀
              show Owes _ _ _ _ (T66.setTop (mkF m 152 #[.val (.ref r0), .val (.int p1)] [(.ref xa), (.ref xa), (.ref rn), (.ref rn)]))
              refine Owes.go ?_ fun t₀ k₀ => XS.iconst X66.here hx rfl (hb hby d8_152) k₀
              show Owes _ _ _ _ (T66.setTop (mkF m 153 #[.val (.ref r0), .val (.int p1)] [(.int (0 : Int32)), (.ref xa), (.ref xa), (.ref rn), (.ref rn)]))
              refine Owes.go ?_ fun t₀ k₀ => XS.aloadN X66.here hx rfl (hb hby d8_153) rfl rfl k₀
              show Owes _ _ _ _ (T66.setTop (mkF m 154 #[.val (.ref r0), .val (.int p1)] [(.ref r0), (.int (0 : Int32)), (.ref xa), (.ref xa), (.ref rn), (.ref rn)]))
              refine Owes.go ?_ fun t₀ k₀ => XS.iconst X66.here hx rfl (hb hby d8_154) k₀
              show Owes _ _ _ _ (T66.setTop (mkF m 155 #[.val (.ref r0), .val (.int p1)] [(.int (0 : Int32)), (.ref r0), (.int (0 : Int32)), (.ref xa), (.ref xa), (.ref rn), (.ref rn)]))
              refine Owes.gC X66 hx hZ e66 G_r0_66 (i := 0) rfl (by decide) (v := .int (c_ 0)) rfl (hb hby d8_155) ?_
              show Owes _ _ _ _ (T66.setTop (mkF m 156 #[.val (.ref r0), .val (.int p1)] [(.int (c_ 0)), (.int (0 : Int32)), (.ref xa), (.ref xa), (.ref rn), (.ref rn)]))
              refine Owes.sC X66 hx hZ e66 G66 (i := 0) rfl (by decide) (own_narC (hc8 0 (by decide))) (hb hby d8_156) ?_
              intro T67 h67 X67 e67 W67 G67
              have G_r0_67 := GA.other G_r0_66 W67 (Nat.ne_of_lt lt_r0_xa)
              have E_rn_67 := Exa.wr W67 E_rn_66
              have F_rn_value_67 := Fld.other W67 F_rn_value_66 (Or.inl (Nat.ne_of_lt lt_rn_xa))
              have F_rn_coder_67 := Fld.other W67 F_rn_coder_66 (Or.inl (Nat.ne_of_lt lt_rn_xa))
              have K_67 := K_66.wr W67 (Or.inr ge_xa)
              have ST_67 := ST_66.wr W67
              have KB_67 := KB_66.wr W67 (Or.inr ge1)
              have N67 := Fr.snoc X67 N0 gn_xa
              show Owes _ _ _ _ (T67.setTop (mkF m 157 #[.val (.ref r0), .val (.int p1)] [(.ref xa), (.ref rn), (.ref rn)]))
              refine Owes.go ?_ fun t₀ k₀ => XS.dup X67.here hx rfl (hb hby d8_157) rfl rfl k₀
              show Owes _ _ _ _ (T67.setTop (mkF m 158 #[.val (.ref r0), .val (.int p1)] [(.ref xa), (.ref xa), (.ref rn), (.ref rn)]))
              refine Owes.go ?_ fun t₀ k₀ => XS.iconst X67.here hx rfl (hb hby d8_158) k₀
              show Owes _ _ _ _ (T67.setTop (mkF m 159 #[.val (.ref r0), .val (.int p1)] [(.int (1 : Int32)), (.ref xa), (.ref xa), (.ref rn), (.ref rn)]))
              refine Owes.go ?_ fun t₀ k₀ => XS.aloadN X67.here hx rfl (hb hby d8_159) rfl rfl k₀
              show Owes _ _ _ _ (T67.setTop (mkF m 160 #[.val (.ref r0), .val (.int p1)] [(.ref r0), (.int (1 : Int32)), (.ref xa), (.ref xa), (.ref rn), (.ref rn)]))
              refine Owes.go ?_ fun t₀ k₀ => XS.iconst X67.here hx rfl (hb hby d8_160) k₀
              show Owes _ _ _ _ (T67.setTop (mkF m 161 #[.val (.ref r0), .val (.int p1)] [(.int (1 : Int32)), (.ref r0), (.int (1 : Int32)), (.ref xa), (.ref xa), (.ref rn), (.ref rn)]))
              refine Owes.gC X67 hx hZ e67 G_r0_67 (i := 1) rfl (by decide) (v := .int (c_ 1)) rfl (hb hby d8_161) ?_
              show Owes _ _ _ _ (T67.setTop (mkF m 162 #[.val (.ref r0), .val (.int p1)] [(.int (c_ 1)), (.int (1 : Int32)), (.ref xa), (.ref xa), (.ref rn), (.ref rn)]))
              refine Owes.sC X67 hx hZ e67 G67 (i := 1) rfl (by decide) (own_narC (hc8 1 (by decide))) (hb hby d8_162) ?_
              intro T68 h68 X68 e68 W68 G68
              have G_r0_68 := GA.other G_r0_67 W68 (Nat.ne_of_lt lt_r0_xa)
              have E_rn_68 := Exa.wr W68 E_rn_67
              have F_rn_value_68 := Fld.other W68 F_rn_value_67 (Or.inl (Nat.ne_of_lt lt_rn_xa))
              have F_rn_coder_68 := Fld.other W68 F_rn_coder_67 (Or.inl (Nat.ne_of_lt lt_rn_xa))
              have K_68 := K_67.wr W68 (Or.inr ge_xa)
              have ST_68 := ST_67.wr W68
              have KB_68 := KB_67.wr W68 (Or.inr ge1)
              have N68 := Fr.snoc X68 N67 gn_xa
              show Owes _ _ _ _ (T68.setTop (mkF m 163 #[.val (.ref r0), .val (.int p1)] [(.ref xa), (.ref rn), (.ref rn)]))
              refine Owes.go ?_ fun t₀ k₀ => XS.dup X68.here hx rfl (hb hby d8_163) rfl rfl k₀
              show Owes _ _ _ _ (T68.setTop (mkF m 164 #[.val (.ref r0), .val (.int p1)] [(.ref xa), (.ref xa), (.ref rn), (.ref rn)]))
              refine Owes.go ?_ fun t₀ k₀ => XS.iconst X68.here hx rfl (hb hby d8_164) k₀
              show Owes _ _ _ _ (T68.setTop (mkF m 165 #[.val (.ref r0), .val (.int p1)] [(.int (2 : Int32)), (.ref xa), (.ref xa), (.ref rn), (.ref rn)]))
              refine Owes.go ?_ fun t₀ k₀ => XS.aloadN X68.here hx rfl (hb hby d8_165) rfl rfl k₀
              show Owes _ _ _ _ (T68.setTop (mkF m 166 #[.val (.ref r0), .val (.int p1)] [(.ref r0), (.int (2 : Int32)), (.ref xa), (.ref xa), (.ref rn), (.ref rn)]))
              refine Owes.go ?_ fun t₀ k₀ => XS.iconst X68.here hx rfl (hb hby d8_166) k₀
              show Owes _ _ _ _ (T68.setTop (mkF m 167 #[.val (.ref r0), .val (.int p1)] [(.int (2 : Int32)), (.ref r0), (.int (2 : Int32)), (.ref xa), (.ref xa), (.ref rn), (.ref rn)]))
              refine Owes.gC X68 hx hZ e68 G_r0_68 (i := 2) rfl (by decide) (v := .int (c_ 2)) rfl (hb hby d8_167) ?_
              show Owes _ _ _ _ (T68.setTop (mkF m 168 #[.val (.ref r0), .val (.int p1)] [(.int (c_ 2)), (.int (2 : Int32)), (.ref xa), (.ref xa), (.ref rn), (.ref rn)]))
              refine Owes.sC X68 hx hZ e68 G68 (i := 2) rfl (by decide) (own_narC (hc8 2 (by decide))) (hb hby d8_168) ?_
              intro T69 h69 X69 e69 W69 G69
              have G_r0_69 := GA.other G_r0_68 W69 (Nat.ne_of_lt lt_r0_xa)
              have E_rn_69 := Exa.wr W69 E_rn_68
              have F_rn_value_69 := Fld.other W69 F_rn_value_68 (Or.inl (Nat.ne_of_lt lt_rn_xa))
              have F_rn_coder_69 := Fld.other W69 F_rn_coder_68 (Or.inl (Nat.ne_of_lt lt_rn_xa))
              have K_69 := K_68.wr W69 (Or.inr ge_xa)
              have ST_69 := ST_68.wr W69
              have KB_69 := KB_68.wr W69 (Or.inr ge1)
              have N69 := Fr.snoc X69 N68 gn_xa
              show Owes _ _ _ _ (T69.setTop (mkF m 169 #[.val (.ref r0), .val (.int p1)] [(.ref xa), (.ref rn), (.ref rn)]))
              refine Owes.go ?_ fun t₀ k₀ => XS.dup X69.here hx rfl (hb hby d8_169) rfl rfl k₀
              show Owes _ _ _ _ (T69.setTop (mkF m 170 #[.val (.ref r0), .val (.int p1)] [(.ref xa), (.ref xa), (.ref rn), (.ref rn)]))
              refine Owes.go ?_ fun t₀ k₀ => XS.iconst X69.here hx rfl (hb hby d8_170) k₀
              show Owes _ _ _ _ (T69.setTop (mkF m 171 #[.val (.ref r0), .val (.int p1)] [(.int (3 : Int32)), (.ref xa), (.ref xa), (.ref rn), (.ref rn)]))
              refine Owes.go ?_ fun t₀ k₀ => XS.aloadN X69.here hx rfl (hb hby d8_171) rfl rfl k₀
              show Owes _ _ _ _ (T69.setTop (mkF m 172 #[.val (.ref r0), .val (.int p1)] [(.ref r0), (.int (3 : Int32)), (.ref xa), (.ref xa), (.ref rn), (.ref rn)]))
              refine Owes.go ?_ fun t₀ k₀ => XS.iconst X69.here hx rfl (hb hby d8_172) k₀
              show Owes _ _ _ _ (T69.setTop (mkF m 173 #[.val (.ref r0), .val (.int p1)] [(.int (3 : Int32)), (.ref r0), (.int (3 : Int32)), (.ref xa), (.ref xa), (.ref rn), (.ref rn)]))
              refine Owes.gC X69 hx hZ e69 G_r0_69 (i := 3) rfl (by decide) (v := .int (c_ 3)) rfl (hb hby d8_173) ?_
              show Owes _ _ _ _ (T69.setTop (mkF m 174 #[.val (.ref r0), .val (.int p1)] [(.int (c_ 3)), (.int (3 : Int32)), (.ref xa), (.ref xa), (.ref rn), (.ref rn)]))
              refine Owes.sC X69 hx hZ e69 G69 (i := 3) rfl (by decide) (own_narC (hc8 3 (by decide))) (hb hby d8_174) ?_
              intro T70 h70 X70 e70 W70 G70
              have G_r0_70 := GA.other G_r0_69 W70 (Nat.ne_of_lt lt_r0_xa)
              have E_rn_70 := Exa.wr W70 E_rn_69
              have F_rn_value_70 := Fld.other W70 F_rn_value_69 (Or.inl (Nat.ne_of_lt lt_rn_xa))
              have F_rn_coder_70 := Fld.other W70 F_rn_coder_69 (Or.inl (Nat.ne_of_lt lt_rn_xa))
              have K_70 := K_69.wr W70 (Or.inr ge_xa)
              have ST_70 := ST_69.wr W70
              have KB_70 := KB_69.wr W70 (Or.inr ge1)
              have N70 := Fr.snoc X70 N69 gn_xa
              show Owes _ _ _ _ (T70.setTop (mkF m 175 #[.val (.ref r0), .val (.int p1)] [(.ref xa), (.ref rn), (.ref rn)]))
              refine Owes.go ?_ fun t₀ k₀ => XS.dup X70.here hx rfl (hb hby d8_175) rfl rfl k₀
              show Owes _ _ _ _ (T70.setTop (mkF m 176 #[.val (.ref r0), .val (.int p1)] [(.ref xa), (.ref xa), (.ref rn), (.ref rn)]))
              refine Owes.go ?_ fun t₀ k₀ => XS.iconst X70.here hx rfl (hb hby d8_176) k₀
              show Owes _ _ _ _ (T70.setTop (mkF m 177 #[.val (.ref r0), .val (.int p1)] [(.int (4 : Int32)), (.ref xa), (.ref xa), (.ref rn), (.ref rn)]))
              refine Owes.go ?_ fun t₀ k₀ => XS.aloadN X70.here hx rfl (hb hby d8_177) rfl rfl k₀
              show Owes _ _ _ _ (T70.setTop (mkF m 178 #[.val (.ref r0), .val (.int p1)] [(.ref r0), (.int (4 : Int32)), (.ref xa), (.ref xa), (.ref rn), (.ref rn)]))
              refine Owes.go ?_ fun t₀ k₀ => XS.iconst X70.here hx rfl (hb hby d8_178) k₀
              show Owes _ _ _ _ (T70.setTop (mkF m 179 #[.val (.ref r0), .val (.int p1)] [(.int (4 : Int32)), (.ref r0), (.int (4 : Int32)), (.ref xa), (.ref xa), (.ref rn), (.ref rn)]))
              refine Owes.gC X70 hx hZ e70 G_r0_70 (i := 4) rfl (by decide) (v := .int (c_ 4)) rfl (hb hby d8_179) ?_
              show Owes _ _ _ _ (T70.setTop (mkF m 180 #[.val (.ref r0), .val (.int p1)] [(.int (c_ 4)), (.int (4 : Int32)), (.ref xa), (.ref xa), (.ref rn), (.ref rn)]))
              refine Owes.sC X70 hx hZ e70 G70 (i := 4) rfl (by decide) (own_narC (hc8 4 (by decide))) (hb hby d8_180) ?_
              intro T71 h71 X71 e71 W71 G71
              have G_r0_71 := GA.other G_r0_70 W71 (Nat.ne_of_lt lt_r0_xa)
              have E_rn_71 := Exa.wr W71 E_rn_70
              have F_rn_value_71 := Fld.other W71 F_rn_value_70 (Or.inl (Nat.ne_of_lt lt_rn_xa))
              have F_rn_coder_71 := Fld.other W71 F_rn_coder_70 (Or.inl (Nat.ne_of_lt lt_rn_xa))
              have GF : GA Z h71 xa .char 5 (fun i => .int (c_ i)) := G71.congr fun i hi => by
                rcases (show i = 0 ∨ i = 1 ∨ i = 2 ∨ i = 3 ∨ i = 4 by omega) with rfl | rfl | rfl | rfl | rfl <;> rfl
              have K_71 := K_70.wr W71 (Or.inr ge_xa)
              have ST_71 := ST_70.wr W71
              have KB_71 := KB_70.wr W71 (Or.inr ge1)
              have N71 := Fr.snoc X71 N70 gn_xa
              show Owes _ _ _ _ (T71.setTop (mkF m 181 #[.val (.ref r0), .val (.int p1)] [(.ref xa), (.ref rn), (.ref rn)]))
              have HB1 := HB.keep KB_71 (fun x hx => absurd hx List.not_mem_nil)
              have SC1 := ST_71 _ _ _ _ SC
              refine Owes.callCX (xs := [rn]) X71 hx hZ hEL HB1 (own_since s 0) (Nat.zero_le _) rfl hown (hw _ (List.mem_of_getElem? (i := 64) rfl)) (hw _ (List.mem_of_getElem? (i := 65) rfl)) (hw _ (List.mem_of_getElem? (i := 1) rfl)) (hw _ (List.mem_of_getElem? (i := 66) rfl)) (by decide) (a := rn) (argsL := [(.ref xa)]) (rest := [(.ref rn)]) (rm_in1 l Z a0 hw hEL [] rn xa h71 n0 (Nat.le_trans Z0 K_71.1) 5 c_ GF (5 : Int32) rfl (fun i hi => hc8 i (by omega)) (by decide) gn_rn E_rn_71 F_rn_coder_71 F_rn_value_71 cs SC1 hcs) e71 (by rw [hml]; rfl) pd_12 rfl rfl (hb hby d8_181) (by decide) (Nat.le_of_ble_eq_true rfl) (by decide) (by decide) ?_
              rintro T72 _ L72 X72 hS72 hg72 hZ hown hC72 ⟨rfl, N72, K72, ST72, bS, SP⟩
              have NF72 := Fr.app N71 N72
              have KK := K_71.trans K72 (fun x hx => Or.inr (by rw [List.mem_singleton.mp hx]; exact ge_rn))
              have STT := ST_71.trans ST72
              have HE : CHx Z EL0 [] T72.vm T72.heap := ⟨hC72.1, fun x hx => absurd hx List.not_mem_nil⟩
              show Owes _ _ _ _ (T72.setTop (mkF m 184 #[.val (.ref r0), .val (.int p1)] [(.ref rn)]))
              exact Owes.retAX X72 hZ hEL rfl HE hS72 (Nat.le_refl _) hx hlk hret rfl rfl rfl (hb hby d8_184) (by decide) (by decide) ⟨rn, bS, 5, rfl, NF72, KK, STT, SP, by decide⟩
            · skip
              refine Owes.go ?_ fun t₀ k₀ => XS.icmpYes X0.here hx rfl (pc0 := 141) (pc' := 185) rfl (hb hby d8_141) rfl (feq hc6).2 (by decide) (by decide) k₀
              show Owes _ _ _ _ (s₁.setTop (mkF m 185 #[.val (.ref r0), .val (.int p1)] []))
              refine Owes.go ?_ fun t₀ k₀ => XS.iloadN X0.here hx rfl (hb hby d8_185) rfl k₀
              show Owes _ _ _ _ (s₁.setTop (mkF m 186 #[.val (.ref r0), .val (.int p1)] [(.int p1)]))
              refine Owes.go ?_ fun t₀ k₀ => XS.bipush X0.here hx rfl (hb hby d8_186) k₀
              show Owes _ _ _ _ (s₁.setTop (mkF m 188 #[.val (.ref r0), .val (.int p1)] [(.int (6 : Int32)), (.int p1)]))
              by_cases hc7 : p1 = (6 : Int32)
              · skip
                refine Owes.go ?_ fun t₀ k₀ => XS.icmpNo X0.here hx rfl (hb hby d8_188) rfl (teq hc7).2 k₀
                show Owes _ _ _ _ (s₁.setTop (mkF m 191 #[.val (.ref r0), .val (.int p1)] []))
                refine Owes.newO X0 hx hZ hown (hw _ (List.mem_of_getElem? (i := 63) rfl)) (hw _ (List.mem_of_getElem? (i := 2) rfl)) (hw _ (List.mem_of_getElem? (i := 1) rfl)) e0 (hb hby d8_191) (by decide) (by decide) ?_
                intro T73 h73 X73 e73 E73 A73 D73
                obtain ⟨rn, grn⟩ : ∃ z, z = h0.size := ⟨_, rfl⟩
                rw [← grn] at A73 ⊢
                have lt_r0_rn : r0 < rn := by rw [grn]; exact (G).lt
                have ge_rn : h0.size ≤ rn := by rw [grn]; exact K0.1
                have gn_rn : n0 ≤ rn := Nat.le_trans Z0 ge_rn
                have G_r0_73 := GA.ext G E73
                have K_73 := K0.ext E73
                have ST_73 := ST0.ext E73
                have F_rn_value_73 : Fld Z h73 rn "java/lang/String" "value" "[B" .null := by rw [grn]; exact D73 (Or.inr (hw _ (List.mem_of_getElem? (i := 4) rfl))) (ty := (.array .byte)) (by decide)
                have F_rn_coder_73 : Fld Z h73 rn "java/lang/String" "coder" "B" (.int (0 : Int32)) := by rw [grn]; exact D73 (Or.inr (hw _ (List.mem_of_getElem? (i := 5) rfl))) (ty := .byte) (by decide)
                have HB := CHx.fresh hC0 E73 (Nat.le_of_eq grn.symm) (A73).lt
                have KB := Keep.refl h73 []
                show Owes _ _ _ _ (T73.setTop (mkF m 194 #[.val (.ref r0), .val (.int p1)] [(.ref rn)]))
                refine Owes.go ?_ fun t₀ k₀ => XS.dup X73.here hx rfl (hb hby d8_194) rfl rfl k₀
                show Owes _ _ _ _ (T73.setTop (mkF m 195 #[.val (.ref r0), .val (.int p1)] [(.ref rn), (.ref rn)]))
                refine Owes.go ?_ fun t₀ k₀ => XS.bipush X73.here hx rfl (hb hby d8_195) k₀
                show Owes _ _ _ _ (T73.setTop (mkF m 197 #[.val (.ref r0), .val (.int p1)] [(.int (6 : Int32)), (.ref rn), (.ref rn)]))
                refine Owes.newArr X73 hx hZ (aty := .char) (hw _ (List.mem_of_getElem? (i := 14) rfl)) e73 (n := 6) rfl (by omega) (by decide) (by decide) (ad := "[C") (by decide) (hb hby d8_197) ?_
                intro T74 h74 X74 e74 E74 G74 EX74
                obtain ⟨xa, gxa⟩ : ∃ z, z = h73.size := ⟨_, rfl⟩
                rw [← gxa] at G74 EX74 ⊢
                have lt_rn_xa : rn < xa := by rw [gxa]; exact (A73).lt
                have lt_r0_xa : r0 < xa := by rw [gxa]; exact (G_r0_73).lt
                have ge_xa : h0.size ≤ xa := by rw [gxa]; exact K_73.1
                have gn_xa : n0 ≤ xa := Nat.le_trans Z0 ge_xa
                have E_rn_74 := (A73).ext E74
                have F_rn_value_74 := (F_rn_value_73).ext E74
                have F_rn_coder_74 := (F_rn_coder_73).ext E74
                have G_r0_74 := GA.ext G_r0_73 E74
                have K_74 := K_73.ext E74
                have ST_74 := ST_73.ext E74
                have G74 : GA Z h74 xa .char 6 (fun _ => .int 0) := G74
                have ge1 := Nat.le_of_eq gxa.symm
                have KB_74 := KB.ext E74
                show Owes _ _ _ _ (T74.setTop (mkF m 199 #[.val (.ref r0), .val (.int p1)] [(.ref xa), (.ref rn), (.ref rn)]))
                refine Owes.go ?_ fun t₀ k₀ => XS.dup X74.here hx rfl (hb hby d8_199) rfl rfl k₀
                show Owes _ _ _ _ (T74.setTop (mkF m 200 #[.val (.ref r0), .val (.int p1)] [(.ref xa), (.ref xa), (.ref rn), (.ref rn)]))
                refine Owes.go ?_ fun t₀ k₀ => XS.iconst X74.here hx rfl (hb hby d8_200) k₀
                show Owes _ _ _ _ (T74.setTop (mkF m 201 #[.val (.ref r0), .val (.int p1)] [(.int (0 : Int32)), (.ref xa), (.ref xa), (.ref rn), (.ref rn)]))
                refine Owes.go ?_ fun t₀ k₀ => XS.aloadN X74.here hx rfl (hb hby d8_201) rfl rfl k₀
                show Owes _ _ _ _ (T74.setTop (mkF m 202 #[.val (.ref r0), .val (.int p1)] [(.ref r0), (.int (0 : Int32)), (.ref xa), (.ref xa), (.ref rn), (.ref rn)]))
                refine Owes.go ?_ fun t₀ k₀ => XS.iconst X74.here hx rfl (hb hby d8_202) k₀
                show Owes _ _ _ _ (T74.setTop (mkF m 203 #[.val (.ref r0), .val (.int p1)] [(.int (0 : Int32)), (.ref r0), (.int (0 : Int32)), (.ref xa), (.ref xa), (.ref rn), (.ref rn)]))
                refine Owes.gC X74 hx hZ e74 G_r0_74 (i := 0) rfl (by decide) (v := .int (c_ 0)) rfl (hb hby d8_203) ?_
                show Owes _ _ _ _ (T74.setTop (mkF m 204 #[.val (.ref r0), .val (.int p1)] [(.int (c_ 0)), (.int (0 : Int32)), (.ref xa), (.ref xa), (.ref rn), (.ref rn)]))
                refine Owes.sC X74 hx hZ e74 G74 (i := 0) rfl (by decide) (own_narC (hc8 0 (by decide))) (hb hby d8_204) ?_
                intro T75 h75 X75 e75 W75 G75
                have G_r0_75 := GA.other G_r0_74 W75 (Nat.ne_of_lt lt_r0_xa)
                have E_rn_75 := Exa.wr W75 E_rn_74
                have F_rn_value_75 := Fld.other W75 F_rn_value_74 (Or.inl (Nat.ne_of_lt lt_rn_xa))
                have F_rn_coder_75 := Fld.other W75 F_rn_coder_74 (Or.inl (Nat.ne_of_lt lt_rn_xa))
                have K_75 := K_74.wr W75 (Or.inr ge_xa)
                have ST_75 := ST_74.wr W75
                have KB_75 := KB_74.wr W75 (Or.inr ge1)
                have N75 := Fr.snoc X75 N0 gn_xa
                show Owes _ _ _ _ (T75.setTop (mkF m 205 #[.val (.ref r0), .val (.int p1)] [(.ref xa), (.ref rn), (.ref rn)]))
                refine Owes.go ?_ fun t₀ k₀ => XS.dup X75.here hx rfl (hb hby d8_205) rfl rfl k₀
                show Owes _ _ _ _ (T75.setTop (mkF m 206 #[.val (.ref r0), .val (.int p1)] [(.ref xa), (.ref xa), (.ref rn), (.ref rn)]))
                refine Owes.go ?_ fun t₀ k₀ => XS.iconst X75.here hx rfl (hb hby d8_206) k₀
                show Owes _ _ _ _ (T75.setTop (mkF m 207 #[.val (.ref r0), .val (.int p1)] [(.int (1 : Int32)), (.ref xa), (.ref xa), (.ref rn), (.ref rn)]))
                refine Owes.go ?_ fun t₀ k₀ => XS.aloadN X75.here hx rfl (hb hby d8_207) rfl rfl k₀
                show Owes _ _ _ _ (T75.setTop (mkF m 208 #[.val (.ref r0), .val (.int p1)] [(.ref r0), (.int (1 : Int32)), (.ref xa), (.ref xa), (.ref rn), (.ref rn)]))
                refine Owes.go ?_ fun t₀ k₀ => XS.iconst X75.here hx rfl (hb hby d8_208) k₀
                show Owes _ _ _ _ (T75.setTop (mkF m 209 #[.val (.ref r0), .val (.int p1)] [(.int (1 : Int32)), (.ref r0), (.int (1 : Int32)), (.ref xa), (.ref xa), (.ref rn), (.ref rn)]))
                refine Owes.gC X75 hx hZ e75 G_r0_75 (i := 1) rfl (by decide) (v := .int (c_ 1)) rfl (hb hby d8_209) ?_
                show Owes _ _ _ _ (T75.setTop (mkF m 210 #[.val (.ref r0), .val (.int p1)] [(.int (c_ 1)), (.int (1 : Int32)), (.ref xa), (.ref xa), (.ref rn), (.ref rn)]))
                refine Owes.sC X75 hx hZ e75 G75 (i := 1) rfl (by decide) (own_narC (hc8 1 (by decide))) (hb hby d8_210) ?_
                intro T76 h76 X76 e76 W76 G76
                have G_r0_76 := GA.other G_r0_75 W76 (Nat.ne_of_lt lt_r0_xa)
                have E_rn_76 := Exa.wr W76 E_rn_75
                have F_rn_value_76 := Fld.other W76 F_rn_value_75 (Or.inl (Nat.ne_of_lt lt_rn_xa))
                have F_rn_coder_76 := Fld.other W76 F_rn_coder_75 (Or.inl (Nat.ne_of_lt lt_rn_xa))
                have K_76 := K_75.wr W76 (Or.inr ge_xa)
                have ST_76 := ST_75.wr W76
                have KB_76 := KB_75.wr W76 (Or.inr ge1)
                have N76 := Fr.snoc X76 N75 gn_xa
                show Owes _ _ _ _ (T76.setTop (mkF m 211 #[.val (.ref r0), .val (.int p1)] [(.ref xa), (.ref rn), (.ref rn)]))
                refine Owes.go ?_ fun t₀ k₀ => XS.dup X76.here hx rfl (hb hby d8_211) rfl rfl k₀
                show Owes _ _ _ _ (T76.setTop (mkF m 212 #[.val (.ref r0), .val (.int p1)] [(.ref xa), (.ref xa), (.ref rn), (.ref rn)]))
                refine Owes.go ?_ fun t₀ k₀ => XS.iconst X76.here hx rfl (hb hby d8_212) k₀
                show Owes _ _ _ _ (T76.setTop (mkF m 213 #[.val (.ref r0), .val (.int p1)] [(.int (2 : Int32)), (.ref xa), (.ref xa), (.ref rn), (.ref rn)]))
                refine Owes.go ?_ fun t₀ k₀ => XS.aloadN X76.here hx rfl (hb hby d8_213) rfl rfl k₀
                show Owes _ _ _ _ (T76.setTop (mkF m 214 #[.val (.ref r0), .val (.int p1)] [(.ref r0), (.int (2 : Int32)), (.ref xa), (.ref xa), (.ref rn), (.ref rn)]))
                refine Owes.go ?_ fun t₀ k₀ => XS.iconst X76.here hx rfl (hb hby d8_214) k₀
                show Owes _ _ _ _ (T76.setTop (mkF m 215 #[.val (.ref r0), .val (.int p1)] [(.int (2 : Int32)), (.ref r0), (.int (2 : Int32)), (.ref xa), (.ref xa), (.ref rn), (.ref rn)]))
                refine Owes.gC X76 hx hZ e76 G_r0_76 (i := 2) rfl (by decide) (v := .int (c_ 2)) rfl (hb hby d8_215) ?_
                show Owes _ _ _ _ (T76.setTop (mkF m 216 #[.val (.ref r0), .val (.int p1)] [(.int (c_ 2)), (.int (2 : Int32)), (.ref xa), (.ref xa), (.ref rn), (.ref rn)]))
                refine Owes.sC X76 hx hZ e76 G76 (i := 2) rfl (by decide) (own_narC (hc8 2 (by decide))) (hb hby d8_216) ?_
                intro T77 h77 X77 e77 W77 G77
                have G_r0_77 := GA.other G_r0_76 W77 (Nat.ne_of_lt lt_r0_xa)
                have E_rn_77 := Exa.wr W77 E_rn_76
                have F_rn_value_77 := Fld.other W77 F_rn_value_76 (Or.inl (Nat.ne_of_lt lt_rn_xa))
                have F_rn_coder_77 := Fld.other W77 F_rn_coder_76 (Or.inl (Nat.ne_of_lt lt_rn_xa))
                have K_77 := K_76.wr W77 (Or.inr ge_xa)
                have ST_77 := ST_76.wr W77
                have KB_77 := KB_76.wr W77 (Or.inr ge1)
                have N77 := Fr.snoc X77 N76 gn_xa
                show Owes _ _ _ _ (T77.setTop (mkF m 217 #[.val (.ref r0), .val (.int p1)] [(.ref xa), (.ref rn), (.ref rn)]))
                refine Owes.go ?_ fun t₀ k₀ => XS.dup X77.here hx rfl (hb hby d8_217) rfl rfl k₀
                show Owes _ _ _ _ (T77.setTop (mkF m 218 #[.val (.ref r0), .val (.int p1)] [(.ref xa), (.ref xa), (.ref rn), (.ref rn)]))
                refine Owes.go ?_ fun t₀ k₀ => XS.iconst X77.here hx rfl (hb hby d8_218) k₀
                show Owes _ _ _ _ (T77.setTop (mkF m 219 #[.val (.ref r0), .val (.int p1)] [(.int (3 : Int32)), (.ref xa), (.ref xa), (.ref rn), (.ref rn)]))
                refine Owes.go ?_ fun t₀ k₀ => XS.aloadN X77.here hx rfl (hb hby d8_219) rfl rfl k₀
                show Owes _ _ _ _ (T77.setTop (mkF m 220 #[.val (.ref r0), .val (.int p1)] [(.ref r0), (.int (3 : Int32)), (.ref xa), (.ref xa), (.ref rn), (.ref rn)]))
                refine Owes.go ?_ fun t₀ k₀ => XS.iconst X77.here hx rfl (hb hby d8_220) k₀
                show Owes _ _ _ _ (T77.setTop (mkF m 221 #[.val (.ref r0), .val (.int p1)] [(.int (3 : Int32)), (.ref r0), (.int (3 : Int32)), (.ref xa), (.ref xa), (.ref rn), (.ref rn)]))
                refine Owes.gC X77 hx hZ e77 G_r0_77 (i := 3) rfl (by decide) (v := .int (c_ 3)) rfl (hb hby d8_221) ?_
                show Owes _ _ _ _ (T77.setTop (mkF m 222 #[.val (.ref r0), .val (.int p1)] [(.int (c_ 3)), (.int (3 : Int32)), (.ref xa), (.ref xa), (.ref rn), (.ref rn)]))
                refine Owes.sC X77 hx hZ e77 G77 (i := 3) rfl (by decide) (own_narC (hc8 3 (by decide))) (hb hby d8_222) ?_
                intro T78 h78 X78 e78 W78 G78
                have G_r0_78 := GA.other G_r0_77 W78 (Nat.ne_of_lt lt_r0_xa)
                have E_rn_78 := Exa.wr W78 E_rn_77
                have F_rn_value_78 := Fld.other W78 F_rn_value_77 (Or.inl (Nat.ne_of_lt lt_rn_xa))
                have F_rn_coder_78 := Fld.other W78 F_rn_coder_77 (Or.inl (Nat.ne_of_lt lt_rn_xa))
                have K_78 := K_77.wr W78 (Or.inr ge_xa)
                have ST_78 := ST_77.wr W78
                have KB_78 := KB_77.wr W78 (Or.inr ge1)
                have N78 := Fr.snoc X78 N77 gn_xa
                show Owes _ _ _ _ (T78.setTop (mkF m 223 #[.val (.ref r0), .val (.int p1)] [(.ref xa), (.ref rn), (.ref rn)]))
                refine Owes.go ?_ fun t₀ k₀ => XS.dup X78.here hx rfl (hb hby d8_223) rfl rfl k₀
                show Owes _ _ _ _ (T78.setTop (mkF m 224 #[.val (.ref r0), .val (.int p1)] [(.ref xa), (.ref xa), (.ref rn), (.ref rn)]))
                refine Owes.go ?_ fun t₀ k₀ => XS.iconst X78.here hx rfl (hb hby d8_224) k₀
                show Owes _ _ _ _ (T78.setTop (mkF m 225 #[.val (.ref r0), .val (.int p1)] [(.int (4 : Int32)), (.ref xa), (.ref xa), (.ref rn), (.ref rn)]))
                refine Owes.go ?_ fun t₀ k₀ => XS.aloadN X78.here hx rfl (hb hby d8_225) rfl rfl k₀
                show Owes _ _ _ _ (T78.setTop (mkF m 226 #[.val (.ref r0), .val (.int p1)] [(.ref r0), (.int (4 : Int32)), (.ref xa), (.ref xa), (.ref rn), (.ref rn)]))
                refine Owes.go ?_ fun t₀ k₀ => XS.iconst X78.here hx rfl (hb hby d8_226) k₀
                show Owes _ _ _ _ (T78.setTop (mkF m 227 #[.val (.ref r0), .val (.int p1)] [(.int (4 : Int32)), (.ref r0), (.int (4 : Int32)), (.ref xa), (.ref xa), (.ref rn), (.ref rn)]))
                refine Owes.gC X78 hx hZ e78 G_r0_78 (i := 4) rfl (by decide) (v := .int (c_ 4)) rfl (hb hby d8_227) ?_
                show Owes _ _ _ _ (T78.setTop (mkF m 228 #[.val (.ref r0), .val (.int p1)] [(.int (c_ 4)), (.int (4 : Int32)), (.ref xa), (.ref xa), (.ref rn), (.ref rn)]))
                refine Owes.sC X78 hx hZ e78 G78 (i := 4) rfl (by decide) (own_narC (hc8 4 (by decide))) (hb hby d8_228) ?_
                intro T79 h79 X79 e79 W79 G79
                have G_r0_79 := GA.other G_r0_78 W79 (Nat.ne_of_lt lt_r0_xa)
                have E_rn_79 := Exa.wr W79 E_rn_78
                have F_rn_value_79 := Fld.other W79 F_rn_value_78 (Or.inl (Nat.ne_of_lt lt_rn_xa))
                have F_rn_coder_79 := Fld.other W79 F_rn_coder_78 (Or.inl (Nat.ne_of_lt lt_rn_xa))
                have K_79 := K_78.wr W79 (Or.inr ge_xa)
                have ST_79 := ST_78.wr W79
                have KB_79 := KB_78.wr W79 (Or.inr ge1)
                have N79 := Fr.snoc X79 N78 gn_xa
                show Owes _ _ _ _ (T79.setTop (mkF m 229 #[.val (.ref r0), .val (.int p1)] [(.ref xa), (.ref rn), (.ref rn)]))
                refine Owes.go ?_ fun t₀ k₀ => XS.dup X79.here hx rfl (hb hby d8_229) rfl rfl k₀
                show Owes _ _ _ _ (T79.setTop (mkF m 230 #[.val (.ref r0), .val (.int p1)] [(.ref xa), (.ref xa), (.ref rn), (.ref rn)]))
                refine Owes.go ?_ fun t₀ k₀ => XS.iconst X79.here hx rfl (hb hby d8_230) k₀
                show Owes _ _ _ _ (T79.setTop (mkF m 231 #[.val (.ref r0), .val (.int p1)] [(.int (5 : Int32)), (.ref xa), (.ref xa), (.ref rn), (.ref rn)]))
                refine Owes.go ?_ fun t₀ k₀ => XS.aloadN X79.here hx rfl (hb hby d8_231) rfl rfl k₀
                show Owes _ _ _ _ (T79.setTop (mkF m 232 #[.val (.ref r0), .val (.int p1)] [(.ref r0), (.int (5 : Int32)), (.ref xa), (.ref xa), (.ref rn), (.ref rn)]))
                refine Owes.go ?_ fun t₀ k₀ => XS.iconst X79.here hx rfl (hb hby d8_232) k₀
                show Owes _ _ _ _ (T79.setTop (mkF m 233 #[.val (.ref r0), .val (.int p1)] [(.int (5 : Int32)), (.ref r0), (.int (5 : Int32)), (.ref xa), (.ref xa), (.ref rn), (.ref rn)]))
                refine Owes.gC X79 hx hZ e79 G_r0_79 (i := 5) rfl (by decide) (v := .int (c_ 5)) rfl (hb hby d8_233) ?_
                show Owes _ _ _ _ (T79.setTop (mkF m 234 #[.val (.ref r0), .val (.int p1)] [(.int (c_ 5)), (.int (5 : Int32)), (.ref xa), (.ref xa), (.ref rn), (.ref rn)]))
                refine Owes.sC X79 hx hZ e79 G79 (i := 5) rfl (by decide) (own_narC (hc8 5 (by decide))) (hb hby d8_234) ?_
                intro T80 h80 X80 e80 W80 G80
                have G_r0_80 := GA.other G_r0_79 W80 (Nat.ne_of_lt lt_r0_xa)
                have E_rn_80 := Exa.wr W80 E_rn_79
                have F_rn_value_80 := Fld.other W80 F_rn_value_79 (Or.inl (Nat.ne_of_lt lt_rn_xa))
                have F_rn_coder_80 := Fld.other W80 F_rn_coder_79 (Or.inl (Nat.ne_of_lt lt_rn_xa))
                have GF : GA Z h80 xa .char 6 (fun i => .int (c_ i)) := G80.congr fun i hi => by
                  rcases (show i = 0 ∨ i = 1 ∨ i = 2 ∨ i = 3 ∨ i = 4 ∨ i = 5 by omega) with rfl | rfl | rfl | rfl | rfl | rfl <;> rfl
                have K_80 := K_79.wr W80 (Or.inr ge_xa)
                have ST_80 := ST_79.wr W80
                have KB_80 := KB_79.wr W80 (Or.inr ge1)
                have N80 := Fr.snoc X80 N79 gn_xa
                show Owes _ _ _ _ (T80.setTop (mkF m 235 #[.val (.ref r0), .val (.int p1)] [(.ref xa), (.ref rn), (.ref rn)]))
                have HB1 := HB.keep KB_80 (fun x hx => absurd hx List.not_mem_nil)
                have SC1 := ST_80 _ _ _ _ SC
                refine Owes.callCX (xs := [rn]) X80 hx hZ hEL HB1 (own_since s 0) (Nat.zero_le _) rfl hown (hw _ (List.mem_of_getElem? (i := 64) rfl)) (hw _ (List.mem_of_getElem? (i := 65) rfl)) (hw _ (List.mem_of_getElem? (i := 1) rfl)) (hw _ (List.mem_of_getElem? (i := 66) rfl)) (by decide) (a := rn) (argsL := [(.ref xa)]) (rest := [(.ref rn)]) (rm_in1 l Z a0 hw hEL [] rn xa h80 n0 (Nat.le_trans Z0 K_80.1) 6 c_ GF (6 : Int32) rfl (fun i hi => hc8 i (by omega)) (by decide) gn_rn E_rn_80 F_rn_coder_80 F_rn_value_80 cs SC1 hcs) e80 (by rw [hml]; rfl) pd_12 rfl rfl (hb hby d8_235) (by decide) (Nat.le_of_ble_eq_true rfl) (by decide) (by decide) ?_
                rintro T81 _ L81 X81 hS81 hg81 hZ hown hC81 ⟨rfl, N81, K81, ST81, bS, SP⟩
                have NF81 := Fr.app N80 N81
                have KK := K_80.trans K81 (fun x hx => Or.inr (by rw [List.mem_singleton.mp hx]; exact ge_rn))
                have STT := ST_80.trans ST81
                have HE : CHx Z EL0 [] T81.vm T81.heap := ⟨hC81.1, fun x hx => absurd hx List.not_mem_nil⟩
                show Owes _ _ _ _ (T81.setTop (mkF m 238 #[.val (.ref r0), .val (.int p1)] [(.ref rn)]))
                exact Owes.retAX X81 hZ hEL rfl HE hS81 (Nat.le_refl _) hx hlk hret rfl rfl rfl (hb hby d8_238) (by decide) (by decide) ⟨rn, bS, 6, rfl, NF81, KK, STT, SP, by decide⟩
              · skip
                refine Owes.go ?_ fun t₀ k₀ => XS.icmpYes X0.here hx rfl (pc0 := 188) (pc' := 239) rfl (hb hby d8_188) rfl (feq hc7).2 (by decide) (by decide) k₀
                show Owes _ _ _ _ (s₁.setTop (mkF m 239 #[.val (.ref r0), .val (.int p1)] []))
                refine Owes.newO X0 hx hZ hown (hw _ (List.mem_of_getElem? (i := 63) rfl)) (hw _ (List.mem_of_getElem? (i := 2) rfl)) (hw _ (List.mem_of_getElem? (i := 1) rfl)) e0 (hb hby d8_239) (by decide) (by decide) ?_
                intro T82 h82 X82 e82 E82 A82 D82
                obtain ⟨rn, grn⟩ : ∃ z, z = h0.size := ⟨_, rfl⟩
                rw [← grn] at A82 ⊢
                have lt_r0_rn : r0 < rn := by rw [grn]; exact (G).lt
                have ge_rn : h0.size ≤ rn := by rw [grn]; exact K0.1
                have gn_rn : n0 ≤ rn := Nat.le_trans Z0 ge_rn
                have G_r0_82 := GA.ext G E82
                have K_82 := K0.ext E82
                have ST_82 := ST0.ext E82
                have F_rn_value_82 : Fld Z h82 rn "java/lang/String" "value" "[B" .null := by rw [grn]; exact D82 (Or.inr (hw _ (List.mem_of_getElem? (i := 4) rfl))) (ty := (.array .byte)) (by decide)
                have F_rn_coder_82 : Fld Z h82 rn "java/lang/String" "coder" "B" (.int (0 : Int32)) := by rw [grn]; exact D82 (Or.inr (hw _ (List.mem_of_getElem? (i := 5) rfl))) (ty := .byte) (by decide)
                have HB := CHx.fresh hC0 E82 (Nat.le_of_eq grn.symm) (A82).lt
                have KB := Keep.refl h82 []
                show Owes _ _ _ _ (T82.setTop (mkF m 242 #[.val (.ref r0), .val (.int p1)] [(.ref rn)]))
                refine Owes.go ?_ fun t₀ k₀ => XS.dup X82.here hx rfl (hb hby d8_242) rfl rfl k₀
                show Owes _ _ _ _ (T82.setTop (mkF m 243 #[.val (.ref r0), .val (.int p1)] [(.ref rn), (.ref rn)]))
                refine Owes.go ?_ fun t₀ k₀ => XS.bipush X82.here hx rfl (hb hby d8_243) k₀
                show Owes _ _ _ _ (T82.setTop (mkF m 245 #[.val (.ref r0), .val (.int p1)] [(.int (7 : Int32)), (.ref rn), (.ref rn)]))
                refine Owes.newArr X82 hx hZ (aty := .char) (hw _ (List.mem_of_getElem? (i := 14) rfl)) e82 (n := 7) rfl (by omega) (by decide) (by decide) (ad := "[C") (by decide) (hb hby d8_245) ?_
                intro T83 h83 X83 e83 E83 G83 EX83
                obtain ⟨xa, gxa⟩ : ∃ z, z = h82.size := ⟨_, rfl⟩
                rw [← gxa] at G83 EX83 ⊢
                have lt_rn_xa : rn < xa := by rw [gxa]; exact (A82).lt
                have lt_r0_xa : r0 < xa := by rw [gxa]; exact (G_r0_82).lt
                have ge_xa : h0.size ≤ xa := by rw [gxa]; exact K_82.1
                have gn_xa : n0 ≤ xa := Nat.le_trans Z0 ge_xa
                have E_rn_83 := (A82).ext E83
                have F_rn_value_83 := (F_rn_value_82).ext E83
                have F_rn_coder_83 := (F_rn_coder_82).ext E83
                have G_r0_83 := GA.ext G_r0_82 E83
                have K_83 := K_82.ext E83
                have ST_83 := ST_82.ext E83
                have G83 : GA Z h83 xa .char 7 (fun _ => .int 0) := G83
                have ge1 := Nat.le_of_eq gxa.symm
                have KB_83 := KB.ext E83
                show Owes _ _ _ _ (T83.setTop (mkF m 247 #[.val (.ref r0), .val (.int p1)] [(.ref xa), (.ref rn), (.ref rn)]))
                refine Owes.go ?_ fun t₀ k₀ => XS.dup X83.here hx rfl (hb hby d8_247) rfl rfl k₀
                show Owes _ _ _ _ (T83.setTop (mkF m 248 #[.val (.ref r0), .val (.int p1)] [(.ref xa), (.ref xa), (.ref rn), (.ref rn)]))
                refine Owes.go ?_ fun t₀ k₀ => XS.iconst X83.here hx rfl (hb hby d8_248) k₀
                show Owes _ _ _ _ (T83.setTop (mkF m 249 #[.val (.ref r0), .val (.int p1)] [(.int (0 : Int32)), (.ref xa), (.ref xa), (.ref rn), (.ref rn)]))
                refine Owes.go ?_ fun t₀ k₀ => XS.aloadN X83.here hx rfl (hb hby d8_249) rfl rfl k₀
                show Owes _ _ _ _ (T83.setTop (mkF m 250 #[.val (.ref r0), .val (.int p1)] [(.ref r0), (.int (0 : Int32)), (.ref xa), (.ref xa), (.ref rn), (.ref rn)]))
                refine Owes.go ?_ fun t₀ k₀ => XS.iconst X83.here hx rfl (hb hby d8_250) k₀
                show Owes _ _ _ _ (T83.setTop (mkF m 251 #[.val (.ref r0), .val (.int p1)] [(.int (0 : Int32)), (.ref r0), (.int (0 : Int32)), (.ref xa), (.ref xa), (.ref rn), (.ref rn)]))
                refine Owes.gC X83 hx hZ e83 G_r0_83 (i := 0) rfl (by decide) (v := .int (c_ 0)) rfl (hb hby d8_251) ?_
                show Owes _ _ _ _ (T83.setTop (mkF m 252 #[.val (.ref r0), .val (.int p1)] [(.int (c_ 0)), (.int (0 : Int32)), (.ref xa), (.ref xa), (.ref rn), (.ref rn)]))
                refine Owes.sC X83 hx hZ e83 G83 (i := 0) rfl (by decide) (own_narC (hc8 0 (by decide))) (hb hby d8_252) ?_
                intro T84 h84 X84 e84 W84 G84
                have G_r0_84 := GA.other G_r0_83 W84 (Nat.ne_of_lt lt_r0_xa)
                have E_rn_84 := Exa.wr W84 E_rn_83
                have F_rn_value_84 := Fld.other W84 F_rn_value_83 (Or.inl (Nat.ne_of_lt lt_rn_xa))
                have F_rn_coder_84 := Fld.other W84 F_rn_coder_83 (Or.inl (Nat.ne_of_lt lt_rn_xa))
                have K_84 := K_83.wr W84 (Or.inr ge_xa)
                have ST_84 := ST_83.wr W84
                have KB_84 := KB_83.wr W84 (Or.inr ge1)
                have N84 := Fr.snoc X84 N0 gn_xa
                show Owes _ _ _ _ (T84.setTop (mkF m 253 #[.val (.ref r0), .val (.int p1)] [(.ref xa), (.ref rn), (.ref rn)]))
                refine Owes.go ?_ fun t₀ k₀ => XS.dup X84.here hx rfl (hb hby d8_253) rfl rfl k₀
                show Owes _ _ _ _ (T84.setTop (mkF m 254 #[.val (.ref r0), .val (.int p1)] [(.ref xa), (.ref xa), (.ref rn), (.ref rn)]))
                refine Owes.go ?_ fun t₀ k₀ => XS.iconst X84.here hx rfl (hb hby d8_254) k₀
                show Owes _ _ _ _ (T84.setTop (mkF m 255 #[.val (.ref r0), .val (.int p1)] [(.int (1 : Int32)), (.ref xa), (.ref xa), (.ref rn), (.ref rn)]))
                refine Owes.go ?_ fun t₀ k₀ => XS.aloadN X84.here hx rfl (hb hby d8_255) rfl rfl k₀
                show Owes _ _ _ _ (T84.setTop (mkF m 256 #[.val (.ref r0), .val (.int p1)] [(.ref r0), (.int (1 : Int32)), (.ref xa), (.ref xa), (.ref rn), (.ref rn)]))
                refine Owes.go ?_ fun t₀ k₀ => XS.iconst X84.here hx rfl (hb hby d8_256) k₀
                show Owes _ _ _ _ (T84.setTop (mkF m 257 #[.val (.ref r0), .val (.int p1)] [(.int (1 : Int32)), (.ref r0), (.int (1 : Int32)), (.ref xa), (.ref xa), (.ref rn), (.ref rn)]))
                refine Owes.gC X84 hx hZ e84 G_r0_84 (i := 1) rfl (by decide) (v := .int (c_ 1)) rfl (hb hby d8_257) ?_
                show Owes _ _ _ _ (T84.setTop (mkF m 258 #[.val (.ref r0), .val (.int p1)] [(.int (c_ 1)), (.int (1 : Int32)), (.ref xa), (.ref xa), (.ref rn), (.ref rn)]))
                refine Owes.sC X84 hx hZ e84 G84 (i := 1) rfl (by decide) (own_narC (hc8 1 (by decide))) (hb hby d8_258) ?_
                intro T85 h85 X85 e85 W85 G85
                have G_r0_85 := GA.other G_r0_84 W85 (Nat.ne_of_lt lt_r0_xa)
                have E_rn_85 := Exa.wr W85 E_rn_84
                have F_rn_value_85 := Fld.other W85 F_rn_value_84 (Or.inl (Nat.ne_of_lt lt_rn_xa))
                have F_rn_coder_85 := Fld.other W85 F_rn_coder_84 (Or.inl (Nat.ne_of_lt lt_rn_xa))
                have K_85 := K_84.wr W85 (Or.inr ge_xa)
                have ST_85 := ST_84.wr W85
                have KB_85 := KB_84.wr W85 (Or.inr ge1)
                have N85 := Fr.snoc X85 N84 gn_xa
                show Owes _ _ _ _ (T85.setTop (mkF m 259 #[.val (.ref r0), .val (.int p1)] [(.ref xa), (.ref rn), (.ref rn)]))
                refine Owes.go ?_ fun t₀ k₀ => XS.dup X85.here hx rfl (hb hby d8_259) rfl rfl k₀
                show Owes _ _ _ _ (T85.setTop (mkF m 260 #[.val (.ref r0), .val (.int p1)] [(.ref xa), (.ref xa), (.ref rn), (.ref rn)]))
                refine Owes.go ?_ fun t₀ k₀ => XS.iconst X85.here hx rfl (hb hby d8_260) k₀
                show Owes _ _ _ _ (T85.setTop (mkF m 261 #[.val (.ref r0), .val (.int p1)] [(.int (2 : Int32)), (.ref xa), (.ref xa), (.ref rn), (.ref rn)]))
                refine Owes.go ?_ fun t₀ k₀ => XS.aloadN X85.here hx rfl (hb hby d8_261) rfl rfl k₀
                show Owes _ _ _ _ (T85.setTop (mkF m 262 #[.val (.ref r0), .val (.int p1)] [(.ref r0), (.int (2 : Int32)), (.ref xa), (.ref xa), (.ref rn), (.ref rn)]))
                refine Owes.go ?_ fun t₀ k₀ => XS.iconst X85.here hx rfl (hb hby d8_262) k₀
                show Owes _ _ _ _ (T85.setTop (mkF m 263 #[.val (.ref r0), .val (.int p1)] [(.int (2 : Int32)), (.ref r0), (.int (2 : Int32)), (.ref xa), (.ref xa), (.ref rn), (.ref rn)]))
                refine Owes.gC X85 hx hZ e85 G_r0_85 (i := 2) rfl (by decide) (v := .int (c_ 2)) rfl (hb hby d8_263) ?_
                show Owes _ _ _ _ (T85.setTop (mkF m 264 #[.val (.ref r0), .val (.int p1)] [(.int (c_ 2)), (.int (2 : Int32)), (.ref xa), (.ref xa), (.ref rn), (.ref rn)]))
                refine Owes.sC X85 hx hZ e85 G85 (i := 2) rfl (by decide) (own_narC (hc8 2 (by decide))) (hb hby d8_264) ?_
                intro T86 h86 X86 e86 W86 G86
                have G_r0_86 := GA.other G_r0_85 W86 (Nat.ne_of_lt lt_r0_xa)
                have E_rn_86 := Exa.wr W86 E_rn_85
                have F_rn_value_86 := Fld.other W86 F_rn_value_85 (Or.inl (Nat.ne_of_lt lt_rn_xa))
                have F_rn_coder_86 := Fld.other W86 F_rn_coder_85 (Or.inl (Nat.ne_of_lt lt_rn_xa))
                have K_86 := K_85.wr W86 (Or.inr ge_xa)
                have ST_86 := ST_85.wr W86
                have KB_86 := KB_85.wr W86 (Or.inr ge1)
                have N86 := Fr.snoc X86 N85 gn_xa
                show Owes _ _ _ _ (T86.setTop (mkF m 265 #[.val (.ref r0), .val (.int p1)] [(.ref xa), (.ref rn), (.ref rn)]))
                refine Owes.go ?_ fun t₀ k₀ => XS.dup X86.here hx rfl (hb hby d8_265) rfl rfl k₀
                show Owes _ _ _ _ (T86.setTop (mkF m 266 #[.val (.ref r0), .val (.int p1)] [(.ref xa), (.ref xa), (.ref rn), (.ref rn)]))
                refine Owes.go ?_ fun t₀ k₀ => XS.iconst X86.here hx rfl (hb hby d8_266) k₀
                show Owes _ _ _ _ (T86.setTop (mkF m 267 #[.val (.ref r0), .val (.int p1)] [(.int (3 : Int32)), (.ref xa), (.ref xa), (.ref rn), (.ref rn)]))
                refine Owes.go ?_ fun t₀ k₀ => XS.aloadN X86.here hx rfl (hb hby d8_267) rfl rfl k₀
                show Owes _ _ _ _ (T86.setTop (mkF m 268 #[.val (.ref r0), .val (.int p1)] [(.ref r0), (.int (3 : Int32)), (.ref xa), (.ref xa), (.ref rn), (.ref rn)]))
                refine Owes.go ?_ fun t₀ k₀ => XS.iconst X86.here hx rfl (hb hby d8_268) k₀
                show Owes _ _ _ _ (T86.setTop (mkF m 269 #[.val (.ref r0), .val (.int p1)] [(.int (3 : Int32)), (.ref r0), (.int (3 : Int32)), (.ref xa), (.ref xa), (.ref rn), (.ref rn)]))
                refine Owes.gC X86 hx hZ e86 G_r0_86 (i := 3) rfl (by decide) (v := .int (c_ 3)) rfl (hb hby d8_269) ?_
                show Owes _ _ _ _ (T86.setTop (mkF m 270 #[.val (.ref r0), .val (.int p1)] [(.int (c_ 3)), (.int (3 : Int32)), (.ref xa), (.ref xa), (.ref rn), (.ref rn)]))
                refine Owes.sC X86 hx hZ e86 G86 (i := 3) rfl (by decide) (own_narC (hc8 3 (by decide))) (hb hby d8_270) ?_
                intro T87 h87 X87 e87 W87 G87
                have G_r0_87 := GA.other G_r0_86 W87 (Nat.ne_of_lt lt_r0_xa)
                have E_rn_87 := Exa.wr W87 E_rn_86
                have F_rn_value_87 := Fld.other W87 F_rn_value_86 (Or.inl (Nat.ne_of_lt lt_rn_xa))
                have F_rn_coder_87 := Fld.other W87 F_rn_coder_86 (Or.inl (Nat.ne_of_lt lt_rn_xa))
                have K_87 := K_86.wr W87 (Or.inr ge_xa)
                have ST_87 := ST_86.wr W87
                have KB_87 := KB_86.wr W87 (Or.inr ge1)
                have N87 := Fr.snoc X87 N86 gn_xa
                show Owes _ _ _ _ (T87.setTop (mkF m 271 #[.val (.ref r0), .val (.int p1)] [(.ref xa), (.ref rn), (.ref rn)]))
                refine Owes.go ?_ fun t₀ k₀ => XS.dup X87.here hx rfl (hb hby d8_271) rfl rfl k₀
                show Owes _ _ _ _ (T87.setTop (mkF m 272 #[.val (.ref r0), .val (.int p1)] [(.ref xa), (.ref xa), (.ref rn), (.ref rn)]))
                refine Owes.go ?_ fun t₀ k₀ => XS.iconst X87.here hx rfl (hb hby d8_272) k₀
                show Owes _ _ _ _ (T87.setTop (mkF m 273 #[.val (.ref r0), .val (.int p1)] [(.int (4 : Int32)), (.ref xa), (.ref xa), (.ref rn), (.ref rn)]))
                refine Owes.go ?_ fun t₀ k₀ => XS.aloadN X87.here hx rfl (hb hby d8_273) rfl rfl k₀
                show Owes _ _ _ _ (T87.setTop (mkF m 274 #[.val (.ref r0), .val (.int p1)] [(.ref r0), (.int (4 : Int32)), (.ref xa), (.ref xa), (.ref rn), (.ref rn)]))
                refine Owes.go ?_ fun t₀ k₀ => XS.iconst X87.here hx rfl (hb hby d8_274) k₀
                show Owes _ _ _ _ (T87.setTop (mkF m 275 #[.val (.ref r0), .val (.int p1)] [(.int (4 : Int32)), (.ref r0), (.int (4 : Int32)), (.ref xa), (.ref xa), (.ref rn), (.ref rn)]))
                refine Owes.gC X87 hx hZ e87 G_r0_87 (i := 4) rfl (by decide) (v := .int (c_ 4)) rfl (hb hby d8_275) ?_
                show Owes _ _ _ _ (T87.setTop (mkF m 276 #[.val (.ref r0), .val (.int p1)] [(.int (c_ 4)), (.int (4 : Int32)), (.ref xa), (.ref xa), (.ref rn), (.ref rn)]))
                refine Owes.sC X87 hx hZ e87 G87 (i := 4) rfl (by decide) (own_narC (hc8 4 (by decide))) (hb hby d8_276) ?_
                intro T88 h88 X88 e88 W88 G88
                have G_r0_88 := GA.other G_r0_87 W88 (Nat.ne_of_lt lt_r0_xa)
                have E_rn_88 := Exa.wr W88 E_rn_87
                have F_rn_value_88 := Fld.other W88 F_rn_value_87 (Or.inl (Nat.ne_of_lt lt_rn_xa))
                have F_rn_coder_88 := Fld.other W88 F_rn_coder_87 (Or.inl (Nat.ne_of_lt lt_rn_xa))
                have K_88 := K_87.wr W88 (Or.inr ge_xa)
                have ST_88 := ST_87.wr W88
                have KB_88 := KB_87.wr W88 (Or.inr ge1)
                have N88 := Fr.snoc X88 N87 gn_xa
                show Owes _ _ _ _ (T88.setTop (mkF m 277 #[.val (.ref r0), .val (.int p1)] [(.ref xa), (.ref rn), (.ref rn)]))
                refine Owes.go ?_ fun t₀ k₀ => XS.dup X88.here hx rfl (hb hby d8_277) rfl rfl k₀
                show Owes _ _ _ _ (T88.setTop (mkF m 278 #[.val (.ref r0), .val (.int p1)] [(.ref xa), (.ref xa), (.ref rn), (.ref rn)]))
                refine Owes.go ?_ fun t₀ k₀ => XS.iconst X88.here hx rfl (hb hby d8_278) k₀
                show Owes _ _ _ _ (T88.setTop (mkF m 279 #[.val (.ref r0), .val (.int p1)] [(.int (5 : Int32)), (.ref xa), (.ref xa), (.ref rn), (.ref rn)]))
                refine Owes.go ?_ fun t₀ k₀ => XS.aloadN X88.here hx rfl (hb hby d8_279) rfl rfl k₀
                show Owes _ _ _ _ (T88.setTop (mkF m 280 #[.val (.ref r0), .val (.int p1)] [(.ref r0), (.int (5 : Int32)), (.ref xa), (.ref xa), (.ref rn), (.ref rn)]))
                refine Owes.go ?_ fun t₀ k₀ => XS.iconst X88.here hx rfl (hb hby d8_280) k₀
                show Owes _ _ _ _ (T88.setTop (mkF m 281 #[.val (.ref r0), .val (.int p1)] [(.int (5 : Int32)), (.ref r0), (.int (5 : Int32)), (.ref xa), (.ref xa), (.ref rn), (.ref rn)]))
                refine Owes.gC X88 hx hZ e88 G_r0_88 (i := 5) rfl (by decide) (v := .int (c_ 5)) rfl (hb hby d8_281) ?_
                show Owes _ _ _ _ (T88.setTop (mkF m 282 #[.val (.ref r0), .val (.int p1)] [(.int (c_ 5)), (.int (5 : Int32)), (.ref xa), (.ref xa), (.ref rn), (.ref rn)]))
                refine Owes.sC X88 hx hZ e88 G88 (i := 5) rfl (by decide) (own_narC (hc8 5 (by decide))) (hb hby d8_282) ?_
                intro T89 h89 X89 e89 W89 G89
                have G_r0_89 := GA.other G_r0_88 W89 (Nat.ne_of_lt lt_r0_xa)
                have E_rn_89 := Exa.wr W89 E_rn_88
                have F_rn_value_89 := Fld.other W89 F_rn_value_88 (Or.inl (Nat.ne_of_lt lt_rn_xa))
                have F_rn_coder_89 := Fld.other W89 F_rn_coder_88 (Or.inl (Nat.ne_of_lt lt_rn_xa))
                have K_89 := K_88.wr W89 (Or.inr ge_xa)
                have ST_89 := ST_88.wr W89
                have KB_89 := KB_88.wr W89 (Or.inr ge1)
                have N89 := Fr.snoc X89 N88 gn_xa
                show Owes _ _ _ _ (T89.setTop (mkF m 283 #[.val (.ref r0), .val (.int p1)] [(.ref xa), (.ref rn), (.ref rn)]))
                refine Owes.go ?_ fun t₀ k₀ => XS.dup X89.here hx rfl (hb hby d8_283) rfl rfl k₀
                show Owes _ _ _ _ (T89.setTop (mkF m 284 #[.val (.ref r0), .val (.int p1)] [(.ref xa), (.ref xa), (.ref rn), (.ref rn)]))
                refine Owes.go ?_ fun t₀ k₀ => XS.bipush X89.here hx rfl (hb hby d8_284) k₀
                show Owes _ _ _ _ (T89.setTop (mkF m 286 #[.val (.ref r0), .val (.int p1)] [(.int (6 : Int32)), (.ref xa), (.ref xa), (.ref rn), (.ref rn)]))
                refine Owes.go ?_ fun t₀ k₀ => XS.aloadN X89.here hx rfl (hb hby d8_286) rfl rfl k₀
                show Owes _ _ _ _ (T89.setTop (mkF m 287 #[.val (.ref r0), .val (.int p1)] [(.ref r0), (.int (6 : Int32)), (.ref xa), (.ref xa), (.ref rn), (.ref rn)]))
                refine Owes.go ?_ fun t₀ k₀ => XS.bipush X89.here hx rfl (hb hby d8_287) k₀
                show Owes _ _ _ _ (T89.setTop (mkF m 289 #[.val (.ref r0), .val (.int p1)] [(.int (6 : Int32)), (.ref r0), (.int (6 : Int32)), (.ref xa), (.ref xa), (.ref rn), (.ref rn)]))
                refine Owes.gC X89 hx hZ e89 G_r0_89 (i := 6) rfl (by decide) (v := .int (c_ 6)) rfl (hb hby d8_289) ?_
                show Owes _ _ _ _ (T89.setTop (mkF m 290 #[.val (.ref r0), .val (.int p1)] [(.int (c_ 6)), (.int (6 : Int32)), (.ref xa), (.ref xa), (.ref rn), (.ref rn)]))
                refine Owes.sC X89 hx hZ e89 G89 (i := 6) rfl (by decide) (own_narC (hc8 6 (by decide))) (hb hby d8_290) ?_
                intro T90 h90 X90 e90 W90 G90
                have G_r0_90 := GA.other G_r0_89 W90 (Nat.ne_of_lt lt_r0_xa)
                have E_rn_90 := Exa.wr W90 E_rn_89
                have F_rn_value_90 := Fld.other W90 F_rn_value_89 (Or.inl (Nat.ne_of_lt lt_rn_xa))
                have F_rn_coder_90 := Fld.other W90 F_rn_coder_89 (Or.inl (Nat.ne_of_lt lt_rn_xa))
                have GF : GA Z h90 xa .char 7 (fun i => .int (c_ i)) := G90.congr fun i hi => by
                  rcases (show i = 0 ∨ i = 1 ∨ i = 2 ∨ i = 3 ∨ i = 4 ∨ i = 5 ∨ i = 6 by omega) with rfl | rfl | rfl | rfl | rfl | rfl | rfl <;> rfl
                have K_90 := K_89.wr W90 (Or.inr ge_xa)
                have ST_90 := ST_89.wr W90
                have KB_90 := KB_89.wr W90 (Or.inr ge1)
                have N90 := Fr.snoc X90 N89 gn_xa
                show Owes _ _ _ _ (T90.setTop (mkF m 291 #[.val (.ref r0), .val (.int p1)] [(.ref xa), (.ref rn), (.ref rn)]))
                have HB1 := HB.keep KB_90 (fun x hx => absurd hx List.not_mem_nil)
                have SC1 := ST_90 _ _ _ _ SC
                refine Owes.callCX (xs := [rn]) X90 hx hZ hEL HB1 (own_since s 0) (Nat.zero_le _) rfl hown (hw _ (List.mem_of_getElem? (i := 64) rfl)) (hw _ (List.mem_of_getElem? (i := 65) rfl)) (hw _ (List.mem_of_getElem? (i := 1) rfl)) (hw _ (List.mem_of_getElem? (i := 66) rfl)) (by decide) (a := rn) (argsL := [(.ref xa)]) (rest := [(.ref rn)]) (rm_in1 l Z a0 hw hEL [] rn xa h90 n0 (Nat.le_trans Z0 K_90.1) 7 c_ GF (7 : Int32) rfl (fun i hi => hc8 i (by omega)) (by decide) gn_rn E_rn_90 F_rn_coder_90 F_rn_value_90 cs SC1 hcs) e90 (by rw [hml]; rfl) pd_12 rfl rfl (hb hby d8_291) (by decide) (Nat.le_of_ble_eq_true rfl) (by decide) (by decide) ?_
                rintro T91 _ L91 X91 hS91 hg91 hZ hown hC91 ⟨rfl, N91, K91, ST91, bS, SP⟩
                have NF91 := Fr.app N90 N91
                have KK := K_90.trans K91 (fun x hx => Or.inr (by rw [List.mem_singleton.mp hx]; exact ge_rn))
                have STT := ST_90.trans ST91
                have HE : CHx Z EL0 [] T91.vm T91.heap := ⟨hC91.1, fun x hx => absurd hx List.not_mem_nil⟩
                show Owes _ _ _ _ (T91.setTop (mkF m 294 #[.val (.ref r0), .val (.int p1)] [(.ref rn)]))
                exact Owes.retAX X91 hZ hEL rfl HE hS91 (Nat.le_refl _) hx hlk hret rfl rfl rfl (hb hby d8_294) (by decide) (by decide) ⟨rn, bS, 7, rfl, NF91, KK, STT, SP, by decide⟩
theorem StK.of_keep {Z : State} {h h' : Heap} (K : Keep h h' []) : StK Z h h' := fun C n d v F => by
  obtain ⟨cf, i, k, f, st, cell, h1, h2, h3, h4, h5, r⟩ := F
  exact ⟨cf, i, k, f, st, cell, h1, h2, h3, h4, K.2.1 _ _ h5 List.not_mem_nil, r⟩
theorem d6_0 : decode prog_3_method_1_code 0 = .ok (.getstatic 13, 3) := by decide +kernel
theorem d6_3 : decode prog_3_method_1_code 3 = .ok (.invokevirtual 17, 3) := by decide +kernel
theorem d6_6 : decode prog_3_method_1_code 6 = .ok (.checkcast 18, 3) := by decide +kernel
theorem d6_9 : decode prog_3_method_1_code 9 = .ok (.areturn, 1) := by decide +kernel
theorem ef_val (m : MethodId)   : entryFrame m #[] 0 = mkF m 0 #[] [] := by (first | (simp [entryFrame, mkF, argsToLocals, Value.category]; done) | rfl)
theorem pn_6 : plainFor (⟨"com/example/herring/herring/acl/Scheme", "values", "()[Lcom/example/herring/herring/acl/Scheme;"⟩ : MethodName) = true := plainFor_of_name (by first | (simp [plainName, overriddenIn]; done) | decide +kernel)
set_option maxRecDepth 65536 in
set_option maxHeartbeats 40000000 in
theorem rm_val (l : Launch) (Z : State) (a0 : Array Value) (hw : ∀ d ∈ tables_1, d.before a0 Z = true) (ws : List Jvm.Cond)  (h0 : Heap) (n0 : Nat) (Z0 : n0 ≤ h0.size) (va : Addr) (vv : Nat → Addr) (SV : Sta Z h0 "com/example/herring/herring/acl/Scheme" "$VALUES" "[Lcom/example/herring/herring/acl/Scheme;" (.ref va)) (EV : Exa Z h0 va "[Lcom/example/herring/herring/acl/Scheme;") (GV : GA Z h0 va (.object "com/example/herring/herring/acl/Scheme") 3 (fun i => .ref (vv i))) :
    OMet l (⟨"com/example/herring/herring/acl/Scheme", "values", "()[Lcom/example/herring/herring/acl/Scheme;"⟩ : MethodName) prog_3_method_1_code 0 (some (.array (.object "com/example/herring/herring/acl/Scheme"))) ws ({ frames := 1, cells := 1, slots := 8, locals := 16 } : Room) #[] Z h0 (fun v h L => ∃ r : Addr, v = some (.ref r) ∧ Fr n0 L ∧ Keep h0 h [] ∧ GA Z h r (.object "com/example/herring/herring/acl/Scheme") 3 (fun i => .ref (vv i))) := by
  refine OMet.of pn_6 (fun m => ef_val m  ) ?_
  intro p e s m below meth c s₁ hx hby hml hown hnm hret hlk hZ X0 e0
  have N0 := Fr.nil n0
  have K0 := Keep.refl h0 []
  have ST0 := StK.refl Z h0
  obtain ⟨T92, X92, e92, st92⟩ := getS2 X0 hx hZ hown (host := "") (Or.inl (hw _ (List.mem_of_getElem? (i := 39) rfl))) Via.refl e0 SV (g := (mkF m 0 #[] [])) rfl (hb hby d6_0)
  refine Owes.go ?_ st92
  show Owes _ _ _ _ (T92.setTop (mkF m 3 #[] [(.ref va)]))
  refine Owes.cloneG X92 hx hZ hown (hw _ (List.mem_of_getElem? (i := 41) rfl)) (hw _ (List.mem_of_getElem? (i := 42) rfl)) (hw _ (List.mem_of_getElem? (i := 46) rfl)) (hw _ (List.mem_of_getElem? (i := 44) rfl)) (hw _ (List.mem_of_getElem? (i := 45) rfl)) (hw _ (List.mem_of_getElem? (i := 47) rfl)) e92 GV (fun i _ => rfl) EV (by rw [hml]; rfl) (hb hby d6_3) (by decide) (Nat.le_of_ble_eq_true rfl) (by decide) (by decide) ?_
  intro T93 h93 X93 e93 E93 G93 EX93
  obtain ⟨rc, grc⟩ : ∃ z, z = h0.size := ⟨_, rfl⟩
  rw [← grc] at G93 EX93 ⊢
  have ge_rc : h0.size ≤ rc := by rw [grc]; exact K0.1
  have gn_rc : n0 ≤ rc := Nat.le_trans Z0 ge_rc
  have K_93 := K0.ext E93
  have ST_93 := ST0.ext E93
  show Owes _ _ _ _ (T93.setTop (mkF m 6 #[] [(.ref rc)]))
  refine Owes.castR X93 hx hZ hown (hw _ (List.mem_of_getElem? (i := 49) rfl)) e93 EX93 (hb hby d6_6) ?_
  intro T94 X94 e94
  show Owes _ _ _ _ (T94.setTop (mkF m 9 #[] [(.ref rc)]))
  exact Owes.retA X94 hx hlk hret rfl rfl rfl (hb hby d6_9) (by decide) (by decide) (by rw [e94]; exact ⟨rc, rfl, N0, K_93, G93⟩)
theorem d5_0 : decode prog_3_method_5_code 0 = .ok (.invokestatic 36, 3) := by decide +kernel
theorem pd_13 : parseMethodDescriptor "()[Lcom/example/herring/herring/acl/Scheme;" = some ⟨[], some (.array (.object "com/example/herring/herring/acl/Scheme"))⟩ := by decide +kernel
theorem d5_3 : decode prog_3_method_5_code 3 = .ok (.astore_n 1, 1) := by decide +kernel
theorem d5_4 : decode prog_3_method_5_code 4 = .ok (.aload_n 1, 1) := by decide +kernel
theorem d5_5 : decode prog_3_method_5_code 5 = .ok (.arraylength, 1) := by decide +kernel
theorem d5_6 : decode prog_3_method_5_code 6 = .ok (.istore_n 2, 1) := by decide +kernel
theorem d5_7 : decode prog_3_method_5_code 7 = .ok (.iconst 0, 1) := by decide +kernel
theorem d5_8 : decode prog_3_method_5_code 8 = .ok (.istore_n 3, 1) := by decide +kernel
theorem d5_9 : decode prog_3_method_5_code 9 = .ok (.iload_n 3, 1) := by decide +kernel
theorem d5_10 : decode prog_3_method_5_code 10 = .ok (.iload_n 2, 1) := by decide +kernel
theorem d5_11 : decode prog_3_method_5_code 11 = .ok (.if_icmp .ge 29, 3) := by decide +kernel
theorem d5_14 : decode prog_3_method_5_code 14 = .ok (.aload_n 1, 1) := by decide +kernel
theorem d5_15 : decode prog_3_method_5_code 15 = .ok (.iload_n 3, 1) := by decide +kernel
theorem d5_16 : decode prog_3_method_5_code 16 = .ok (.aaload, 1) := by decide +kernel
theorem d5_17 : decode prog_3_method_5_code 17 = .ok (.astore 4, 2) := by decide +kernel
theorem d5_19 : decode prog_3_method_5_code 19 = .ok (.aload 4, 2) := by decide +kernel
theorem d5_21 : decode prog_3_method_5_code 21 = .ok (.getfield 32, 3) := by decide +kernel
theorem d5_24 : decode prog_3_method_5_code 24 = .ok (.aload_n 0, 1) := by decide +kernel
theorem d5_25 : decode prog_3_method_5_code 25 = .ok (.invokevirtual 40, 3) := by decide +kernel
theorem pd_14 : parseMethodDescriptor "(Ljava/lang/Object;)Z" = some ⟨[(.object "java/lang/Object")], some .boolean⟩ := by decide +kernel
theorem d5_28 : decode prog_3_method_5_code 28 = .ok (.ifCond .eq 6, 3) := by decide +kernel
theorem d5_34 : decode prog_3_method_5_code 34 = .ok (.iinc 3 1, 3) := by decide +kernel
theorem d5_37 : decode prog_3_method_5_code 37 = .ok (.goto (-28), 3) := by decide +kernel
theorem d5_40 : decode prog_3_method_5_code 40 = .ok (.aconst_null, 1) := by decide +kernel
theorem d5_41 : decode prog_3_method_5_code 41 = .ok (.areturn, 1) := by decide +kernel
theorem d5_31 : decode prog_3_method_5_code 31 = .ok (.aload 4, 2) := by decide +kernel
theorem d5_33 : decode prog_3_method_5_code 33 = .ok (.areturn, 1) := by decide +kernel
theorem ef_nms (m : MethodId) (r0 : Addr)  : entryFrame m #[(.ref r0)] 5 = mkF m 0 #[.val (.ref r0), .unset, .unset, .unset, .unset] [] := by (first | (simp [entryFrame, mkF, argsToLocals, Value.category]; done) | rfl)
theorem pn_5 : plainFor (⟨"com/example/herring/herring/acl/Scheme", "named", "(Ljava/lang/String;)Lcom/example/herring/herring/acl/Scheme;"⟩ : MethodName) = true := plainFor_of_name (by first | (simp [plainName, overriddenIn]; done) | decide +kernel)
set_option maxRecDepth 65536 in
set_option maxHeartbeats 40000000 in
theorem rm_nms (l : Launch) (Z : State) (a0 : Array Value) (hw : ∀ d ∈ tables_1, d.before a0 Z = true) (ws : List Jvm.Cond) (r0 : Addr) (h0 : Heap) (n0 : Nat) (Z0 : n0 ≤ h0.size) (va : Addr) (vv : Nat → Addr) (SV : Sta Z h0 "com/example/herring/herring/acl/Scheme" "$VALUES" "[Lcom/example/herring/herring/acl/Scheme;" (.ref va)) (EV : Exa Z h0 va "[Lcom/example/herring/herring/acl/Scheme;") (GV : GA Z h0 va (.object "com/example/herring/herring/acl/Scheme") 3 (fun i => .ref (vv i))) (wn wb : Nat → Addr) (wl : Nat → Nat) (wc : Nat → Nat → Int32) (wz : Nat → Int32) (hwz : ∀ i, i < 3 → (wz i).toInt = (wl i : Int)) (hwl : ∀ i, i < 3 → wl i ≤ 16) (FW : ∀ i, i < 3 → Fld Z h0 (vv i) "com/example/herring/herring/acl/Scheme" "wireName" "Ljava/lang/String;" (.ref (wn i))) (SW : ∀ i, i < 3 → STR Z h0 (wn i) (wb i) (wl i) (wc i)) (cs : Int32) (SC : Sta Z h0 "java/lang/String" "COMPACT_STRINGS" "Z" (.int cs)) (hcs : ¬ cs = (0 : Int32)) (b2 : Addr) (n : Nat) (c_ : Nat → Int32) (S2 : STR Z h0 r0 b2 n c_) (z2 : Int32) (hz2 : z2.toInt = (n : Int)) :
    OMet l (⟨"com/example/herring/herring/acl/Scheme", "named", "(Ljava/lang/String;)Lcom/example/herring/herring/acl/Scheme;"⟩ : MethodName) prog_3_method_5_code 5 (some (.object "com/example/herring/herring/acl/Scheme")) ws ({ frames := 2, cells := 1, slots := 8, locals := 48 } : Room) #[(.ref r0)] Z h0 (fun v h L => v = some (nmd (eqv (wl 0) n (by8 (wc 0)) (by8 c_)) (eqv (wl 1) n (by8 (wc 1)) (by8 c_)) (eqv (wl 2) n (by8 (wc 2)) (by8 c_)) (vv 0) (vv 1) (vv 2)) ∧ Fr n0 L ∧ Keep h0 h []) := by
  refine OMet.of pn_5 (fun m => ef_nms m r0 ) ?_
  intro p e s m below meth c s₁ hx hby hml hown hnm hret hlk hZ X0 e0
  have N0 := Fr.nil n0
  refine Owes.callS X0 hx hZ hown (hw _ (List.mem_of_getElem? (i := 36) rfl)) (hw _ (List.mem_of_getElem? (i := 37) rfl)) (hw _ (List.mem_of_getElem? (i := 34) rfl)) (hw _ (List.mem_of_getElem? (i := 38) rfl)) (by decide) (argsL := []) (rest := []) (rm_val l Z a0 hw [] h0 n0 Z0 va vv SV EV GV) e0 (by rw [hml]; rfl) pd_13 rfl rfl (hb hby d5_0) (by decide) (Nat.le_of_ble_eq_true rfl) (by decide) (by decide) ?_
  rintro T95 v95 L95 X95 ⟨rv, rfl, N95, KV, GR⟩
  have NF95 := Fr.app N0 N95
  have SC1 := StK.of_keep KV _ _ _ _ SC
  show Owes _ _ _ _ (T95.setTop (mkF m 3 #[.val (.ref r0), .unset, .unset, .unset, .unset] [(.ref rv)]))
  refine Owes.go ?_ fun t₀ k₀ => XS.astoreN X95.here hx rfl (hb hby d5_3) rfl rfl (l' := #[.val (.ref r0), .val (.ref rv), .unset, .unset, .unset]) rfl k₀
  show Owes _ _ _ _ (T95.setTop (mkF m 4 #[.val (.ref r0), .val (.ref rv), .unset, .unset, .unset] []))
  refine Owes.go ?_ fun t₀ k₀ => XS.aloadN X95.here hx rfl (hb hby d5_4) rfl rfl k₀
  show Owes _ _ _ _ (T95.setTop (mkF m 5 #[.val (.ref r0), .val (.ref rv), .unset, .unset, .unset] [(.ref rv)]))
  refine Owes.glen X95 hx hZ rfl GR (z := (3 : Int32)) rfl (hb hby d5_5) ?_
  show Owes _ _ _ _ (T95.setTop (mkF m 6 #[.val (.ref r0), .val (.ref rv), .unset, .unset, .unset] [(.int (3 : Int32))]))
  refine Owes.go ?_ fun t₀ k₀ => XS.istoreN X95.here hx rfl (hb hby d5_6) rfl (l' := #[.val (.ref r0), .val (.ref rv), .val (.int (3 : Int32)), .unset, .unset]) rfl k₀
  show Owes _ _ _ _ (T95.setTop (mkF m 7 #[.val (.ref r0), .val (.ref rv), .val (.int (3 : Int32)), .unset, .unset] []))
  refine Owes.go ?_ fun t₀ k₀ => XS.iconst X95.here hx rfl (hb hby d5_7) k₀
  show Owes _ _ _ _ (T95.setTop (mkF m 8 #[.val (.ref r0), .val (.ref rv), .val (.int (3 : Int32)), .unset, .unset] [(.int (0 : Int32))]))
  refine Owes.go ?_ fun t₀ k₀ => XS.istoreN X95.here hx rfl (hb hby d5_8) rfl (l' := #[.val (.ref r0), .val (.ref rv), .val (.int (3 : Int32)), .val (.int (0 : Int32)), .unset]) rfl k₀
  show Owes _ _ _ _ (T95.setTop (mkF m 9 #[.val (.ref r0), .val (.ref rv), .val (.int (3 : Int32)), .val (.int (0 : Int32)), .unset] []))
  refine Owes.go ?_ fun t₀ k₀ => XS.iloadN X95.here hx rfl (hb hby d5_9) rfl k₀
  show Owes _ _ _ _ (T95.setTop (mkF m 10 #[.val (.ref r0), .val (.ref rv), .val (.int (3 : Int32)), .val (.int (0 : Int32)), .unset] [(.int (0 : Int32))]))
  refine Owes.go ?_ fun t₀ k₀ => XS.iloadN X95.here hx rfl (hb hby d5_10) rfl k₀
  show Owes _ _ _ _ (T95.setTop (mkF m 11 #[.val (.ref r0), .val (.ref rv), .val (.int (3 : Int32)), .val (.int (0 : Int32)), .unset] [(.int (3 : Int32)), (.int (0 : Int32))]))
  refine Owes.go ?_ fun t₀ k₀ => XS.icmpNo X95.here hx rfl (hb hby d5_11) rfl (tlt (by decide : ((0 : Int32) < (3 : Int32)))).2.1 k₀
  show Owes _ _ _ _ (T95.setTop (mkF m 14 #[.val (.ref r0), .val (.ref rv), .val (.int (3 : Int32)), .val (.int (0 : Int32)), .unset] []))
  refine Owes.go ?_ fun t₀ k₀ => XS.aloadN X95.here hx rfl (hb hby d5_14) rfl rfl k₀
  show Owes _ _ _ _ (T95.setTop (mkF m 15 #[.val (.ref r0), .val (.ref rv), .val (.int (3 : Int32)), .val (.int (0 : Int32)), .unset] [(.ref rv)]))
  refine Owes.go ?_ fun t₀ k₀ => XS.iloadN X95.here hx rfl (hb hby d5_15) rfl k₀
  show Owes _ _ _ _ (T95.setTop (mkF m 16 #[.val (.ref r0), .val (.ref rv), .val (.int (3 : Int32)), .val (.int (0 : Int32)), .unset] [(.int (0 : Int32)), (.ref rv)]))
  refine Owes.gR X95 hx hZ rfl GR rfl (i := 0) (by decide) (by decide) (v := .ref (vv 0)) rfl (hb hby d5_16) ?_
  show Owes _ _ _ _ (T95.setTop (mkF m 17 #[.val (.ref r0), .val (.ref rv), .val (.int (3 : Int32)), .val (.int (0 : Int32)), .unset] [(.ref (vv 0))]))
  refine Owes.go ?_ fun t₀ k₀ => XS.astore X95.here hx rfl (hb hby d5_17) rfl rfl (l' := #[.val (.ref r0), .val (.ref rv), .val (.int (3 : Int32)), .val (.int (0 : Int32)), .val (.ref (vv 0))]) rfl k₀
  show Owes _ _ _ _ (T95.setTop (mkF m 19 #[.val (.ref r0), .val (.ref rv), .val (.int (3 : Int32)), .val (.int (0 : Int32)), .val (.ref (vv 0))] []))
  refine Owes.go ?_ fun t₀ k₀ => XS.aload X95.here hx rfl (hb hby d5_19) rfl rfl k₀
  show Owes _ _ _ _ (T95.setTop (mkF m 21 #[.val (.ref r0), .val (.ref rv), .val (.int (3 : Int32)), .val (.int (0 : Int32)), .val (.ref (vv 0))] [(.ref (vv 0))]))
  obtain ⟨T96, X96, e96, st96⟩ := getF X95 hx hZ hown (host := "") (Or.inl (hw _ (List.mem_of_getElem? (i := 51) rfl))) Via.refl rfl (Fld.keep (FW 0 (by decide)) KV List.not_mem_nil) (g := (mkF m 21 #[.val (.ref r0), .val (.ref rv), .val (.int (3 : Int32)), .val (.int (0 : Int32)), .val (.ref (vv 0))] [(.ref (vv 0))])) rfl rfl (hb hby d5_21)
  refine Owes.go ?_ st96
  show Owes _ _ _ _ (T96.setTop (mkF m 24 #[.val (.ref r0), .val (.ref rv), .val (.int (3 : Int32)), .val (.int (0 : Int32)), .val (.ref (vv 0))] [(.ref (wn 0))]))
  refine Owes.go ?_ fun t₀ k₀ => XS.aloadN X96.here hx rfl (hb hby d5_24) rfl rfl k₀
  show Owes _ _ _ _ (T96.setTop (mkF m 25 #[.val (.ref r0), .val (.ref rv), .val (.int (3 : Int32)), .val (.int (0 : Int32)), .val (.ref (vv 0))] [(.ref r0), (.ref (wn 0))]))
  refine Owes.callV X96 hx hZ hown (hw _ (List.mem_of_getElem? (i := 53) rfl)) (hw _ (List.mem_of_getElem? (i := 54) rfl)) (notFace_of_selects (args := #[]) (mvT hZ (hw _ (List.mem_of_getElem? (i := 56) rfl)))) (hw _ (List.mem_of_getElem? (i := 56) rfl)) (hw _ (List.mem_of_getElem? (i := 55) rfl)) (hw _ (List.mem_of_getElem? (i := 1) rfl)) (hw _ (List.mem_of_getElem? (i := 57) rfl)) (by decide) (a := (wn 0)) (argsL := [(.ref r0)]) (rest := []) (rm_eqs l Z a0 hw [] (wn 0) r0 T95.heap (wb 0) (wl 0) (wc 0) ((SW 0 (by decide)).keep0 KV) (wz 0) (hwz 0 (by decide)) cs SC1 hcs b2 n c_ (S2.keep0 KV) z2 hz2 (hwl 0 (by decide))) e96 ((SW 0 (by decide)).keep0 KV).1 (by rw [hml]; rfl) pd_14 rfl rfl (hb hby d5_25) (by decide) (Nat.le_of_ble_eq_true rfl) (by decide) (by decide) ?_
  rintro T97 _ _ X97 ⟨rfl, rfl, e97⟩
  rw [List.append_nil] at X97
  show Owes _ _ _ _ (T97.setTop (mkF m 28 #[.val (.ref r0), .val (.ref rv), .val (.int (3 : Int32)), .val (.int (0 : Int32)), .val (.ref (vv 0))] [(.int (eqv (wl 0) n (by8 (wc 0)) (by8 c_)))]))
  by_cases hc1 : (eqv (wl 0) n (by8 (wc 0)) (by8 c_)) = (0 : Int32)
  · skip
    refine Owes.go ?_ fun t₀ k₀ => XS.ifYes X97.here hx rfl (pc0 := 28) (pc' := 34) rfl (hb hby d5_28) rfl ((if0 _ _).trans (teq hc1).1) (by decide) (by decide) k₀
    show Owes _ _ _ _ (T97.setTop (mkF m 34 #[.val (.ref r0), .val (.ref rv), .val (.int (3 : Int32)), .val (.int (0 : Int32)), .val (.ref (vv 0))] []))
    refine Owes.go ?_ fun t₀ k₀ => XS.iinc X97.here hx rfl (hb hby d5_34) rfl (l' := #[.val (.ref r0), .val (.ref rv), .val (.int (3 : Int32)), .val (.int ((0 : Int32) + (1 : Int32))), .val (.ref (vv 0))]) rfl k₀
    show Owes _ _ _ _ (T97.setTop (mkF m 37 #[.val (.ref r0), .val (.ref rv), .val (.int (3 : Int32)), .val (.int ((0 : Int32) + (1 : Int32))), .val (.ref (vv 0))] []))
    refine Owes.go ?_ fun t₀ k₀ => XS.goto X97.here hx rfl (pc0 := 37) (pc' := 9) rfl (hb hby d5_37) (by decide) (by decide) k₀
    show Owes _ _ _ _ (T97.setTop (mkF m 9 #[.val (.ref r0), .val (.ref rv), .val (.int (3 : Int32)), .val (.int ((0 : Int32) + (1 : Int32))), .val (.ref (vv 0))] []))
    refine Owes.go ?_ fun t₀ k₀ => XS.iloadN X97.here hx rfl (hb hby d5_9) rfl k₀
    show Owes _ _ _ _ (T97.setTop (mkF m 10 #[.val (.ref r0), .val (.ref rv), .val (.int (3 : Int32)), .val (.int ((0 : Int32) + (1 : Int32))), .val (.ref (vv 0))] [(.int ((0 : Int32) + (1 : Int32)))]))
    refine Owes.go ?_ fun t₀ k₀ => XS.iloadN X97.here hx rfl (hb hby d5_10) rfl k₀
    show Owes _ _ _ _ (T97.setTop (mkF m 11 #[.val (.ref r0), .val (.ref rv), .val (.int (3 : Int32)), .val (.int ((0 : Int32) + (1 : Int32))), .val (.ref (vv 0))] [(.int (3 : Int32)), (.int ((0 : Int32) + (1 : Int32)))]))
    refine Owes.go ?_ fun t₀ k₀ => XS.icmpNo X97.here hx rfl (hb hby d5_11) rfl (tlt (by decide : (((0 : Int32) + (1 : Int32)) < (3 : Int32)))).2.1 k₀
    show Owes _ _ _ _ (T97.setTop (mkF m 14 #[.val (.ref r0), .val (.ref rv), .val (.int (3 : Int32)), .val (.int ((0 : Int32) + (1 : Int32))), .val (.ref (vv 0))] []))
    refine Owes.go ?_ fun t₀ k₀ => XS.aloadN X97.here hx rfl (hb hby d5_14) rfl rfl k₀
    show Owes _ _ _ _ (T97.setTop (mkF m 15 #[.val (.ref r0), .val (.ref rv), .val (.int (3 : Int32)), .val (.int ((0 : Int32) + (1 : Int32))), .val (.ref (vv 0))] [(.ref rv)]))
    refine Owes.go ?_ fun t₀ k₀ => XS.iloadN X97.here hx rfl (hb hby d5_15) rfl k₀
    show Owes _ _ _ _ (T97.setTop (mkF m 16 #[.val (.ref r0), .val (.ref rv), .val (.int (3 : Int32)), .val (.int ((0 : Int32) + (1 : Int32))), .val (.ref (vv 0))] [(.int ((0 : Int32) + (1 : Int32))), (.ref rv)]))
    refine Owes.gR X97 hx hZ e97 GR rfl (i := 1) (by decide) (by decide) (v := .ref (vv 1)) rfl (hb hby d5_16) ?_
    show Owes _ _ _ _ (T97.setTop (mkF m 17 #[.val (.ref r0), .val (.ref rv), .val (.int (3 : Int32)), .val (.int ((0 : Int32) + (1 : Int32))), .val (.ref (vv 0))] [(.ref (vv 1))]))
    refine Owes.go ?_ fun t₀ k₀ => XS.astore X97.here hx rfl (hb hby d5_17) rfl rfl (l' := #[.val (.ref r0), .val (.ref rv), .val (.int (3 : Int32)), .val (.int ((0 : Int32) + (1 : Int32))), .val (.ref (vv 1))]) rfl k₀
    show Owes _ _ _ _ (T97.setTop (mkF m 19 #[.val (.ref r0), .val (.ref rv), .val (.int (3 : Int32)), .val (.int ((0 : Int32) + (1 : Int32))), .val (.ref (vv 1))] []))
    refine Owes.go ?_ fun t₀ k₀ => XS.aload X97.here hx rfl (hb hby d5_19) rfl rfl k₀
    show Owes _ _ _ _ (T97.setTop (mkF m 21 #[.val (.ref r0), .val (.ref rv), .val (.int (3 : Int32)), .val (.int ((0 : Int32) + (1 : Int32))), .val (.ref (vv 1))] [(.ref (vv 1))]))
    obtain ⟨T98, X98, e98, st98⟩ := getF X97 hx hZ hown (host := "") (Or.inl (hw _ (List.mem_of_getElem? (i := 51) rfl))) Via.refl e97 (Fld.keep (FW 1 (by decide)) KV List.not_mem_nil) (g := (mkF m 21 #[.val (.ref r0), .val (.ref rv), .val (.int (3 : Int32)), .val (.int ((0 : Int32) + (1 : Int32))), .val (.ref (vv 1))] [(.ref (vv 1))])) rfl rfl (hb hby d5_21)
    refine Owes.go ?_ st98
    show Owes _ _ _ _ (T98.setTop (mkF m 24 #[.val (.ref r0), .val (.ref rv), .val (.int (3 : Int32)), .val (.int ((0 : Int32) + (1 : Int32))), .val (.ref (vv 1))] [(.ref (wn 1))]))
    refine Owes.go ?_ fun t₀ k₀ => XS.aloadN X98.here hx rfl (hb hby d5_24) rfl rfl k₀
    show Owes _ _ _ _ (T98.setTop (mkF m 25 #[.val (.ref r0), .val (.ref rv), .val (.int (3 : Int32)), .val (.int ((0 : Int32) + (1 : Int32))), .val (.ref (vv 1))] [(.ref r0), (.ref (wn 1))]))
    refine Owes.callV X98 hx hZ hown (hw _ (List.mem_of_getElem? (i := 53) rfl)) (hw _ (List.mem_of_getElem? (i := 54) rfl)) (notFace_of_selects (args := #[]) (mvT hZ (hw _ (List.mem_of_getElem? (i := 56) rfl)))) (hw _ (List.mem_of_getElem? (i := 56) rfl)) (hw _ (List.mem_of_getElem? (i := 55) rfl)) (hw _ (List.mem_of_getElem? (i := 1) rfl)) (hw _ (List.mem_of_getElem? (i := 57) rfl)) (by decide) (a := (wn 1)) (argsL := [(.ref r0)]) (rest := []) (rm_eqs l Z a0 hw [] (wn 1) r0 T95.heap (wb 1) (wl 1) (wc 1) ((SW 1 (by decide)).keep0 KV) (wz 1) (hwz 1 (by decide)) cs SC1 hcs b2 n c_ (S2.keep0 KV) z2 hz2 (hwl 1 (by decide))) e98 ((SW 1 (by decide)).keep0 KV).1 (by rw [hml]; rfl) pd_14 rfl rfl (hb hby d5_25) (by decide) (Nat.le_of_ble_eq_true rfl) (by decide) (by decide) ?_
    rintro T99 _ _ X99 ⟨rfl, rfl, e99⟩
    rw [List.append_nil] at X99
    show Owes _ _ _ _ (T99.setTop (mkF m 28 #[.val (.ref r0), .val (.ref rv), .val (.int (3 : Int32)), .val (.int ((0 : Int32) + (1 : Int32))), .val (.ref (vv 1))] [(.int (eqv (wl 1) n (by8 (wc 1)) (by8 c_)))]))
    by_cases hc2 : (eqv (wl 1) n (by8 (wc 1)) (by8 c_)) = (0 : Int32)
    · skip
      refine Owes.go ?_ fun t₀ k₀ => XS.ifYes X99.here hx rfl (pc0 := 28) (pc' := 34) rfl (hb hby d5_28) rfl ((if0 _ _).trans (teq hc2).1) (by decide) (by decide) k₀
      show Owes _ _ _ _ (T99.setTop (mkF m 34 #[.val (.ref r0), .val (.ref rv), .val (.int (3 : Int32)), .val (.int ((0 : Int32) + (1 : Int32))), .val (.ref (vv 1))] []))
      refine Owes.go ?_ fun t₀ k₀ => XS.iinc X99.here hx rfl (hb hby d5_34) rfl (l' := #[.val (.ref r0), .val (.ref rv), .val (.int (3 : Int32)), .val (.int (((0 : Int32) + (1 : Int32)) + (1 : Int32))), .val (.ref (vv 1))]) rfl k₀
      show Owes _ _ _ _ (T99.setTop (mkF m 37 #[.val (.ref r0), .val (.ref rv), .val (.int (3 : Int32)), .val (.int (((0 : Int32) + (1 : Int32)) + (1 : Int32))), .val (.ref (vv 1))] []))
      refine Owes.go ?_ fun t₀ k₀ => XS.goto X99.here hx rfl (pc0 := 37) (pc' := 9) rfl (hb hby d5_37) (by decide) (by decide) k₀
      show Owes _ _ _ _ (T99.setTop (mkF m 9 #[.val (.ref r0), .val (.ref rv), .val (.int (3 : Int32)), .val (.int (((0 : Int32) + (1 : Int32)) + (1 : Int32))), .val (.ref (vv 1))] []))
      refine Owes.go ?_ fun t₀ k₀ => XS.iloadN X99.here hx rfl (hb hby d5_9) rfl k₀
      show Owes _ _ _ _ (T99.setTop (mkF m 10 #[.val (.ref r0), .val (.ref rv), .val (.int (3 : Int32)), .val (.int (((0 : Int32) + (1 : Int32)) + (1 : Int32))), .val (.ref (vv 1))] [(.int (((0 : Int32) + (1 : Int32)) + (1 : Int32)))]))
      refine Owes.go ?_ fun t₀ k₀ => XS.iloadN X99.here hx rfl (hb hby d5_10) rfl k₀
      show Owes _ _ _ _ (T99.setTop (mkF m 11 #[.val (.ref r0), .val (.ref rv), .val (.int (3 : Int32)), .val (.int (((0 : Int32) + (1 : Int32)) + (1 : Int32))), .val (.ref (vv 1))] [(.int (3 : Int32)), (.int (((0 : Int32) + (1 : Int32)) + (1 : Int32)))]))
      refine Owes.go ?_ fun t₀ k₀ => XS.icmpNo X99.here hx rfl (hb hby d5_11) rfl (tlt (by decide : ((((0 : Int32) + (1 : Int32)) + (1 : Int32)) < (3 : Int32)))).2.1 k₀
      show Owes _ _ _ _ (T99.setTop (mkF m 14 #[.val (.ref r0), .val (.ref rv), .val (.int (3 : Int32)), .val (.int (((0 : Int32) + (1 : Int32)) + (1 : Int32))), .val (.ref (vv 1))] []))
      refine Owes.go ?_ fun t₀ k₀ => XS.aloadN X99.here hx rfl (hb hby d5_14) rfl rfl k₀
      show Owes _ _ _ _ (T99.setTop (mkF m 15 #[.val (.ref r0), .val (.ref rv), .val (.int (3 : Int32)), .val (.int (((0 : Int32) + (1 : Int32)) + (1 : Int32))), .val (.ref (vv 1))] [(.ref rv)]))
      refine Owes.go ?_ fun t₀ k₀ => XS.iloadN X99.here hx rfl (hb hby d5_15) rfl k₀
      show Owes _ _ _ _ (T99.setTop (mkF m 16 #[.val (.ref r0), .val (.ref rv), .val (.int (3 : Int32)), .val (.int (((0 : Int32) + (1 : Int32)) + (1 : Int32))), .val (.ref (vv 1))] [(.int (((0 : Int32) + (1 : Int32)) + (1 : Int32))), (.ref rv)]))
      refine Owes.gR X99 hx hZ e99 GR rfl (i := 2) (by decide) (by decide) (v := .ref (vv 2)) rfl (hb hby d5_16) ?_
      show Owes _ _ _ _ (T99.setTop (mkF m 17 #[.val (.ref r0), .val (.ref rv), .val (.int (3 : Int32)), .val (.int (((0 : Int32) + (1 : Int32)) + (1 : Int32))), .val (.ref (vv 1))] [(.ref (vv 2))]))
      refine Owes.go ?_ fun t₀ k₀ => XS.astore X99.here hx rfl (hb hby d5_17) rfl rfl (l' := #[.val (.ref r0), .val (.ref rv), .val (.int (3 : Int32)), .val (.int (((0 : Int32) + (1 : Int32)) + (1 : Int32))), .val (.ref (vv 2))]) rfl k₀
      show Owes _ _ _ _ (T99.setTop (mkF m 19 #[.val (.ref r0), .val (.ref rv), .val (.int (3 : Int32)), .val (.int (((0 : Int32) + (1 : Int32)) + (1 : Int32))), .val (.ref (vv 2))] []))
      refine Owes.go ?_ fun t₀ k₀ => XS.aload X99.here hx rfl (hb hby d5_19) rfl rfl k₀
      show Owes _ _ _ _ (T99.setTop (mkF m 21 #[.val (.ref r0), .val (.ref rv), .val (.int (3 : Int32)), .val (.int (((0 : Int32) + (1 : Int32)) + (1 : Int32))), .val (.ref (vv 2))] [(.ref (vv 2))]))
      obtain ⟨T100, X100, e100, st100⟩ := getF X99 hx hZ hown (host := "") (Or.inl (hw _ (List.mem_of_getElem? (i := 51) rfl))) Via.refl e99 (Fld.keep (FW 2 (by decide)) KV List.not_mem_nil) (g := (mkF m 21 #[.val (.ref r0), .val (.ref rv), .val (.int (3 : Int32)), .val (.int (((0 : Int32) + (1 : Int32)) + (1 : Int32))), .val (.ref (vv 2))] [(.ref (vv 2))])) rfl rfl (hb hby d5_21)
      refine Owes.go ?_ st100
      show Owes _ _ _ _ (T100.setTop (mkF m 24 #[.val (.ref r0), .val (.ref rv), .val (.int (3 : Int32)), .val (.int (((0 : Int32) + (1 : Int32)) + (1 : Int32))), .val (.ref (vv 2))] [(.ref (wn 2))]))
      refine Owes.go ?_ fun t₀ k₀ => XS.aloadN X100.here hx rfl (hb hby d5_24) rfl rfl k₀
      show Owes _ _ _ _ (T100.setTop (mkF m 25 #[.val (.ref r0), .val (.ref rv), .val (.int (3 : Int32)), .val (.int (((0 : Int32) + (1 : Int32)) + (1 : Int32))), .val (.ref (vv 2))] [(.ref r0), (.ref (wn 2))]))
      refine Owes.callV X100 hx hZ hown (hw _ (List.mem_of_getElem? (i := 53) rfl)) (hw _ (List.mem_of_getElem? (i := 54) rfl)) (notFace_of_selects (args := #[]) (mvT hZ (hw _ (List.mem_of_getElem? (i := 56) rfl)))) (hw _ (List.mem_of_getElem? (i := 56) rfl)) (hw _ (List.mem_of_getElem? (i := 55) rfl)) (hw _ (List.mem_of_getElem? (i := 1) rfl)) (hw _ (List.mem_of_getElem? (i := 57) rfl)) (by decide) (a := (wn 2)) (argsL := [(.ref r0)]) (rest := []) (rm_eqs l Z a0 hw [] (wn 2) r0 T95.heap (wb 2) (wl 2) (wc 2) ((SW 2 (by decide)).keep0 KV) (wz 2) (hwz 2 (by decide)) cs SC1 hcs b2 n c_ (S2.keep0 KV) z2 hz2 (hwl 2 (by decide))) e100 ((SW 2 (by decide)).keep0 KV).1 (by rw [hml]; rfl) pd_14 rfl rfl (hb hby d5_25) (by decide) (Nat.le_of_ble_eq_true rfl) (by decide) (by decide) ?_
      rintro T101 _ _ X101 ⟨rfl, rfl, e101⟩
      rw [List.append_nil] at X101
      show Owes _ _ _ _ (T101.setTop (mkF m 28 #[.val (.ref r0), .val (.ref rv), .val (.int (3 : Int32)), .val (.int (((0 : Int32) + (1 : Int32)) + (1 : Int32))), .val (.ref (vv 2))] [(.int (eqv (wl 2) n (by8 (wc 2)) (by8 c_)))]))
      by_cases hc3 : (eqv (wl 2) n (by8 (wc 2)) (by8 c_)) = (0 : Int32)
      · skip
        refine Owes.go ?_ fun t₀ k₀ => XS.ifYes X101.here hx rfl (pc0 := 28) (pc' := 34) rfl (hb hby d5_28) rfl ((if0 _ _).trans (teq hc3).1) (by decide) (by decide) k₀
        show Owes _ _ _ _ (T101.setTop (mkF m 34 #[.val (.ref r0), .val (.ref rv), .val (.int (3 : Int32)), .val (.int (((0 : Int32) + (1 : Int32)) + (1 : Int32))), .val (.ref (vv 2))] []))
        refine Owes.go ?_ fun t₀ k₀ => XS.iinc X101.here hx rfl (hb hby d5_34) rfl (l' := #[.val (.ref r0), .val (.ref rv), .val (.int (3 : Int32)), .val (.int ((((0 : Int32) + (1 : Int32)) + (1 : Int32)) + (1 : Int32))), .val (.ref (vv 2))]) rfl k₀
        show Owes _ _ _ _ (T101.setTop (mkF m 37 #[.val (.ref r0), .val (.ref rv), .val (.int (3 : Int32)), .val (.int ((((0 : Int32) + (1 : Int32)) + (1 : Int32)) + (1 : Int32))), .val (.ref (vv 2))] []))
        refine Owes.go ?_ fun t₀ k₀ => XS.goto X101.here hx rfl (pc0 := 37) (pc' := 9) rfl (hb hby d5_37) (by decide) (by decide) k₀
        show Owes _ _ _ _ (T101.setTop (mkF m 9 #[.val (.ref r0), .val (.ref rv), .val (.int (3 : Int32)), .val (.int ((((0 : Int32) + (1 : Int32)) + (1 : Int32)) + (1 : Int32))), .val (.ref (vv 2))] []))
        refine Owes.go ?_ fun t₀ k₀ => XS.iloadN X101.here hx rfl (hb hby d5_9) rfl k₀
        show Owes _ _ _ _ (T101.setTop (mkF m 10 #[.val (.ref r0), .val (.ref rv), .val (.int (3 : Int32)), .val (.int ((((0 : Int32) + (1 : Int32)) + (1 : Int32)) + (1 : Int32))), .val (.ref (vv 2))] [(.int ((((0 : Int32) + (1 : Int32)) + (1 : Int32)) + (1 : Int32)))]))
        refine Owes.go ?_ fun t₀ k₀ => XS.iloadN X101.here hx rfl (hb hby d5_10) rfl k₀
        show Owes _ _ _ _ (T101.setTop (mkF m 11 #[.val (.ref r0), .val (.ref rv), .val (.int (3 : Int32)), .val (.int ((((0 : Int32) + (1 : Int32)) + (1 : Int32)) + (1 : Int32))), .val (.ref (vv 2))] [(.int (3 : Int32)), (.int ((((0 : Int32) + (1 : Int32)) + (1 : Int32)) + (1 : Int32)))]))
        refine Owes.go ?_ fun t₀ k₀ => XS.icmpYes X101.here hx rfl (pc0 := 11) (pc' := 40) rfl (hb hby d5_11) rfl (flt (by decide : ¬ (((((0 : Int32) + (1 : Int32)) + (1 : Int32)) + (1 : Int32)) < (3 : Int32)))).2.1 (by decide) (by decide) k₀
        show Owes _ _ _ _ (T101.setTop (mkF m 40 #[.val (.ref r0), .val (.ref rv), .val (.int (3 : Int32)), .val (.int ((((0 : Int32) + (1 : Int32)) + (1 : Int32)) + (1 : Int32))), .val (.ref (vv 2))] []))
        refine Owes.go ?_ fun t₀ k₀ => XS.aconstNull X101.here hx rfl (hb hby d5_40) k₀
        show Owes _ _ _ _ (T101.setTop (mkF m 41 #[.val (.ref r0), .val (.ref rv), .val (.int (3 : Int32)), .val (.int ((((0 : Int32) + (1 : Int32)) + (1 : Int32)) + (1 : Int32))), .val (.ref (vv 2))] [.null]))
        exact Owes.retA X101 hx hlk hret rfl rfl rfl (hb hby d5_41) (by decide) (by decide) (by rw [e101]; exact ⟨by unfold nmd; rw [if_pos hc1, if_pos hc2, if_pos hc3], NF95, KV⟩)
      · skip
        refine Owes.go ?_ fun t₀ k₀ => XS.ifNo X101.here hx rfl (hb hby d5_28) rfl ((if0 _ _).trans (feq hc3).1) k₀
        show Owes _ _ _ _ (T101.setTop (mkF m 31 #[.val (.ref r0), .val (.ref rv), .val (.int (3 : Int32)), .val (.int (((0 : Int32) + (1 : Int32)) + (1 : Int32))), .val (.ref (vv 2))] []))
        refine Owes.go ?_ fun t₀ k₀ => XS.aload X101.here hx rfl (hb hby d5_31) rfl rfl k₀
        show Owes _ _ _ _ (T101.setTop (mkF m 33 #[.val (.ref r0), .val (.ref rv), .val (.int (3 : Int32)), .val (.int (((0 : Int32) + (1 : Int32)) + (1 : Int32))), .val (.ref (vv 2))] [(.ref (vv 2))]))
        exact Owes.retA X101 hx hlk hret rfl rfl rfl (hb hby d5_33) (by decide) (by decide) (by rw [e101]; exact ⟨by unfold nmd; rw [if_pos hc1, if_pos hc2, if_neg hc3], NF95, KV⟩)
    · skip
      refine Owes.go ?_ fun t₀ k₀ => XS.ifNo X99.here hx rfl (hb hby d5_28) rfl ((if0 _ _).trans (feq hc2).1) k₀
      show Owes _ _ _ _ (T99.setTop (mkF m 31 #[.val (.ref r0), .val (.ref rv), .val (.int (3 : Int32)), .val (.int ((0 : Int32) + (1 : Int32))), .val (.ref (vv 1))] []))
      refine Owes.go ?_ fun t₀ k₀ => XS.aload X99.here hx rfl (hb hby d5_31) rfl rfl k₀
      show Owes _ _ _ _ (T99.setTop (mkF m 33 #[.val (.ref r0), .val (.ref rv), .val (.int (3 : Int32)), .val (.int ((0 : Int32) + (1 : Int32))), .val (.ref (vv 1))] [(.ref (vv 1))]))
      exact Owes.retA X99 hx hlk hret rfl rfl rfl (hb hby d5_33) (by decide) (by decide) (by rw [e99]; exact ⟨by unfold nmd; rw [if_pos hc1, if_neg hc2], NF95, KV⟩)
  · skip
    refine Owes.go ?_ fun t₀ k₀ => XS.ifNo X97.here hx rfl (hb hby d5_28) rfl ((if0 _ _).trans (feq hc1).1) k₀
    show Owes _ _ _ _ (T97.setTop (mkF m 31 #[.val (.ref r0), .val (.ref rv), .val (.int (3 : Int32)), .val (.int (0 : Int32)), .val (.ref (vv 0))] []))
    refine Owes.go ?_ fun t₀ k₀ => XS.aload X97.here hx rfl (hb hby d5_31) rfl rfl k₀
    show Owes _ _ _ _ (T97.setTop (mkF m 33 #[.val (.ref r0), .val (.ref rv), .val (.int (3 : Int32)), .val (.int (0 : Int32)), .val (.ref (vv 0))] [(.ref (vv 0))]))
    exact Owes.retA X97 hx hlk hret rfl rfl rfl (hb hby d5_33) (by decide) (by decide) (by rw [e97]; exact ⟨by unfold nmd; rw [if_neg hc1], NF95, KV⟩)
theorem ef_nmn (m : MethodId)   : entryFrame m #[.null] 5 = mkF m 0 #[.val .null, .unset, .unset, .unset, .unset] [] := by (first | (simp [entryFrame, mkF, argsToLocals, Value.category]; done) | rfl)
set_option maxRecDepth 65536 in
set_option maxHeartbeats 40000000 in
theorem rm_nmn (l : Launch) (Z : State) (a0 : Array Value) (hw : ∀ d ∈ tables_1, d.before a0 Z = true) (ws : List Jvm.Cond)  (h0 : Heap) (n0 : Nat) (Z0 : n0 ≤ h0.size) (va : Addr) (vv : Nat → Addr) (SV : Sta Z h0 "com/example/herring/herring/acl/Scheme" "$VALUES" "[Lcom/example/herring/herring/acl/Scheme;" (.ref va)) (EV : Exa Z h0 va "[Lcom/example/herring/herring/acl/Scheme;") (GV : GA Z h0 va (.object "com/example/herring/herring/acl/Scheme") 3 (fun i => .ref (vv i))) (wn wb : Nat → Addr) (wl : Nat → Nat) (wc : Nat → Nat → Int32) (wz : Nat → Int32) (hwz : ∀ i, i < 3 → (wz i).toInt = (wl i : Int)) (hwl : ∀ i, i < 3 → wl i ≤ 16) (FW : ∀ i, i < 3 → Fld Z h0 (vv i) "com/example/herring/herring/acl/Scheme" "wireName" "Ljava/lang/String;" (.ref (wn i))) (SW : ∀ i, i < 3 → STR Z h0 (wn i) (wb i) (wl i) (wc i)) (cs : Int32) (SC : Sta Z h0 "java/lang/String" "COMPACT_STRINGS" "Z" (.int cs)) (hcs : ¬ cs = (0 : Int32)) :
    OMet l (⟨"com/example/herring/herring/acl/Scheme", "named", "(Ljava/lang/String;)Lcom/example/herring/herring/acl/Scheme;"⟩ : MethodName) prog_3_method_5_code 5 (some (.object "com/example/herring/herring/acl/Scheme")) ws ({ frames := 2, cells := 1, slots := 8, locals := 48 } : Room) #[.null] Z h0 (fun v h L => v = some (.null) ∧ Fr n0 L ∧ Keep h0 h []) := by
  refine OMet.of pn_5 (fun m => ef_nmn m  ) ?_
  intro p e s m below meth c s₁ hx hby hml hown hnm hret hlk hZ X0 e0
  have N0 := Fr.nil n0
  refine Owes.callS X0 hx hZ hown (hw _ (List.mem_of_getElem? (i := 36) rfl)) (hw _ (List.mem_of_getElem? (i := 37) rfl)) (hw _ (List.mem_of_getElem? (i := 34) rfl)) (hw _ (List.mem_of_getElem? (i := 38) rfl)) (by decide) (argsL := []) (rest := []) (rm_val l Z a0 hw [] h0 n0 Z0 va vv SV EV GV) e0 (by rw [hml]; rfl) pd_13 rfl rfl (hb hby d5_0) (by decide) (Nat.le_of_ble_eq_true rfl) (by decide) (by decide) ?_
  rintro T102 v102 L102 X102 ⟨rv, rfl, N102, KV, GR⟩
  have NF102 := Fr.app N0 N102
  have SC1 := StK.of_keep KV _ _ _ _ SC
  show Owes _ _ _ _ (T102.setTop (mkF m 3 #[.val .null, .unset, .unset, .unset, .unset] [(.ref rv)]))
  refine Owes.go ?_ fun t₀ k₀ => XS.astoreN X102.here hx rfl (hb hby d5_3) rfl rfl (l' := #[.val .null, .val (.ref rv), .unset, .unset, .unset]) rfl k₀
  show Owes _ _ _ _ (T102.setTop (mkF m 4 #[.val .null, .val (.ref rv), .unset, .unset, .unset] []))
  refine Owes.go ?_ fun t₀ k₀ => XS.aloadN X102.here hx rfl (hb hby d5_4) rfl rfl k₀
  show Owes _ _ _ _ (T102.setTop (mkF m 5 #[.val .null, .val (.ref rv), .unset, .unset, .unset] [(.ref rv)]))
  refine Owes.glen X102 hx hZ rfl GR (z := (3 : Int32)) rfl (hb hby d5_5) ?_
  show Owes _ _ _ _ (T102.setTop (mkF m 6 #[.val .null, .val (.ref rv), .unset, .unset, .unset] [(.int (3 : Int32))]))
  refine Owes.go ?_ fun t₀ k₀ => XS.istoreN X102.here hx rfl (hb hby d5_6) rfl (l' := #[.val .null, .val (.ref rv), .val (.int (3 : Int32)), .unset, .unset]) rfl k₀
  show Owes _ _ _ _ (T102.setTop (mkF m 7 #[.val .null, .val (.ref rv), .val (.int (3 : Int32)), .unset, .unset] []))
  refine Owes.go ?_ fun t₀ k₀ => XS.iconst X102.here hx rfl (hb hby d5_7) k₀
  show Owes _ _ _ _ (T102.setTop (mkF m 8 #[.val .null, .val (.ref rv), .val (.int (3 : Int32)), .unset, .unset] [(.int (0 : Int32))]))
  refine Owes.go ?_ fun t₀ k₀ => XS.istoreN X102.here hx rfl (hb hby d5_8) rfl (l' := #[.val .null, .val (.ref rv), .val (.int (3 : Int32)), .val (.int (0 : Int32)), .unset]) rfl k₀
  show Owes _ _ _ _ (T102.setTop (mkF m 9 #[.val .null, .val (.ref rv), .val (.int (3 : Int32)), .val (.int (0 : Int32)), .unset] []))
  refine Owes.go ?_ fun t₀ k₀ => XS.iloadN X102.here hx rfl (hb hby d5_9) rfl k₀
  show Owes _ _ _ _ (T102.setTop (mkF m 10 #[.val .null, .val (.ref rv), .val (.int (3 : Int32)), .val (.int (0 : Int32)), .unset] [(.int (0 : Int32))]))
  refine Owes.go ?_ fun t₀ k₀ => XS.iloadN X102.here hx rfl (hb hby d5_10) rfl k₀
  show Owes _ _ _ _ (T102.setTop (mkF m 11 #[.val .null, .val (.ref rv), .val (.int (3 : Int32)), .val (.int (0 : Int32)), .unset] [(.int (3 : Int32)), (.int (0 : Int32))]))
  refine Owes.go ?_ fun t₀ k₀ => XS.icmpNo X102.here hx rfl (hb hby d5_11) rfl (tlt (by decide : ((0 : Int32) < (3 : Int32)))).2.1 k₀
  show Owes _ _ _ _ (T102.setTop (mkF m 14 #[.val .null, .val (.ref rv), .val (.int (3 : Int32)), .val (.int (0 : Int32)), .unset] []))
  refine Owes.go ?_ fun t₀ k₀ => XS.aloadN X102.here hx rfl (hb hby d5_14) rfl rfl k₀
  show Owes _ _ _ _ (T102.setTop (mkF m 15 #[.val .null, .val (.ref rv), .val (.int (3 : Int32)), .val (.int (0 : Int32)), .unset] [(.ref rv)]))
  refine Owes.go ?_ fun t₀ k₀ => XS.iloadN X102.here hx rfl (hb hby d5_15) rfl k₀
  show Owes _ _ _ _ (T102.setTop (mkF m 16 #[.val .null, .val (.ref rv), .val (.int (3 : Int32)), .val (.int (0 : Int32)), .unset] [(.int (0 : Int32)), (.ref rv)]))
  refine Owes.gR X102 hx hZ rfl GR rfl (i := 0) (by decide) (by decide) (v := .ref (vv 0)) rfl (hb hby d5_16) ?_
  show Owes _ _ _ _ (T102.setTop (mkF m 17 #[.val .null, .val (.ref rv), .val (.int (3 : Int32)), .val (.int (0 : Int32)), .unset] [(.ref (vv 0))]))
  refine Owes.go ?_ fun t₀ k₀ => XS.astore X102.here hx rfl (hb hby d5_17) rfl rfl (l' := #[.val .null, .val (.ref rv), .val (.int (3 : Int32)), .val (.int (0 : Int32)), .val (.ref (vv 0))]) rfl k₀
  show Owes _ _ _ _ (T102.setTop (mkF m 19 #[.val .null, .val (.ref rv), .val (.int (3 : Int32)), .val (.int (0 : Int32)), .val (.ref (vv 0))] []))
  refine Owes.go ?_ fun t₀ k₀ => XS.aload X102.here hx rfl (hb hby d5_19) rfl rfl k₀
  show Owes _ _ _ _ (T102.setTop (mkF m 21 #[.val .null, .val (.ref rv), .val (.int (3 : Int32)), .val (.int (0 : Int32)), .val (.ref (vv 0))] [(.ref (vv 0))]))
  obtain ⟨T103, X103, e103, st103⟩ := getF X102 hx hZ hown (host := "") (Or.inl (hw _ (List.mem_of_getElem? (i := 51) rfl))) Via.refl rfl (Fld.keep (FW 0 (by decide)) KV List.not_mem_nil) (g := (mkF m 21 #[.val .null, .val (.ref rv), .val (.int (3 : Int32)), .val (.int (0 : Int32)), .val (.ref (vv 0))] [(.ref (vv 0))])) rfl rfl (hb hby d5_21)
  refine Owes.go ?_ st103
  show Owes _ _ _ _ (T103.setTop (mkF m 24 #[.val .null, .val (.ref rv), .val (.int (3 : Int32)), .val (.int (0 : Int32)), .val (.ref (vv 0))] [(.ref (wn 0))]))
  refine Owes.go ?_ fun t₀ k₀ => XS.aloadN X103.here hx rfl (hb hby d5_24) rfl rfl k₀
  show Owes _ _ _ _ (T103.setTop (mkF m 25 #[.val .null, .val (.ref rv), .val (.int (3 : Int32)), .val (.int (0 : Int32)), .val (.ref (vv 0))] [.null, (.ref (wn 0))]))
  refine Owes.callV X103 hx hZ hown (hw _ (List.mem_of_getElem? (i := 53) rfl)) (hw _ (List.mem_of_getElem? (i := 54) rfl)) (notFace_of_selects (args := #[]) (mvT hZ (hw _ (List.mem_of_getElem? (i := 56) rfl)))) (hw _ (List.mem_of_getElem? (i := 56) rfl)) (hw _ (List.mem_of_getElem? (i := 55) rfl)) (hw _ (List.mem_of_getElem? (i := 1) rfl)) (hw _ (List.mem_of_getElem? (i := 57) rfl)) (by decide) (a := (wn 0)) (argsL := [.null]) (rest := []) (rm_eqn l Z a0 hw [] (wn 0) T102.heap) e103 ((SW 0 (by decide)).keep0 KV).1 (by rw [hml]; rfl) pd_14 rfl rfl (hb hby d5_25) (by decide) (Nat.le_of_ble_eq_true rfl) (by decide) (by decide) ?_
  rintro T104 _ _ X104 ⟨rfl, rfl, e104⟩
  rw [List.append_nil] at X104
  show Owes _ _ _ _ (T104.setTop (mkF m 28 #[.val .null, .val (.ref rv), .val (.int (3 : Int32)), .val (.int (0 : Int32)), .val (.ref (vv 0))] [(.int (0 : Int32))]))
  refine Owes.go ?_ fun t₀ k₀ => XS.ifYes X104.here hx rfl (pc0 := 28) (pc' := 34) rfl (hb hby d5_28) rfl ((if0 _ _).trans (teq (by decide : ((0 : Int32) = (0 : Int32)))).1) (by decide) (by decide) k₀
  show Owes _ _ _ _ (T104.setTop (mkF m 34 #[.val .null, .val (.ref rv), .val (.int (3 : Int32)), .val (.int (0 : Int32)), .val (.ref (vv 0))] []))
  refine Owes.go ?_ fun t₀ k₀ => XS.iinc X104.here hx rfl (hb hby d5_34) rfl (l' := #[.val .null, .val (.ref rv), .val (.int (3 : Int32)), .val (.int ((0 : Int32) + (1 : Int32))), .val (.ref (vv 0))]) rfl k₀
  show Owes _ _ _ _ (T104.setTop (mkF m 37 #[.val .null, .val (.ref rv), .val (.int (3 : Int32)), .val (.int ((0 : Int32) + (1 : Int32))), .val (.ref (vv 0))] []))
  refine Owes.go ?_ fun t₀ k₀ => XS.goto X104.here hx rfl (pc0 := 37) (pc' := 9) rfl (hb hby d5_37) (by decide) (by decide) k₀
  show Owes _ _ _ _ (T104.setTop (mkF m 9 #[.val .null, .val (.ref rv), .val (.int (3 : Int32)), .val (.int ((0 : Int32) + (1 : Int32))), .val (.ref (vv 0))] []))
  refine Owes.go ?_ fun t₀ k₀ => XS.iloadN X104.here hx rfl (hb hby d5_9) rfl k₀
  show Owes _ _ _ _ (T104.setTop (mkF m 10 #[.val .null, .val (.ref rv), .val (.int (3 : Int32)), .val (.int ((0 : Int32) + (1 : Int32))), .val (.ref (vv 0))] [(.int ((0 : Int32) + (1 : Int32)))]))
  refine Owes.go ?_ fun t₀ k₀ => XS.iloadN X104.here hx rfl (hb hby d5_10) rfl k₀
  show Owes _ _ _ _ (T104.setTop (mkF m 11 #[.val .null, .val (.ref rv), .val (.int (3 : Int32)), .val (.int ((0 : Int32) + (1 : Int32))), .val (.ref (vv 0))] [(.int (3 : Int32)), (.int ((0 : Int32) + (1 : Int32)))]))
  refine Owes.go ?_ fun t₀ k₀ => XS.icmpNo X104.here hx rfl (hb hby d5_11) rfl (tlt (by decide : (((0 : Int32) + (1 : Int32)) < (3 : Int32)))).2.1 k₀
  show Owes _ _ _ _ (T104.setTop (mkF m 14 #[.val .null, .val (.ref rv), .val (.int (3 : Int32)), .val (.int ((0 : Int32) + (1 : Int32))), .val (.ref (vv 0))] []))
  refine Owes.go ?_ fun t₀ k₀ => XS.aloadN X104.here hx rfl (hb hby d5_14) rfl rfl k₀
  show Owes _ _ _ _ (T104.setTop (mkF m 15 #[.val .null, .val (.ref rv), .val (.int (3 : Int32)), .val (.int ((0 : Int32) + (1 : Int32))), .val (.ref (vv 0))] [(.ref rv)]))
  refine Owes.go ?_ fun t₀ k₀ => XS.iloadN X104.here hx rfl (hb hby d5_15) rfl k₀
  show Owes _ _ _ _ (T104.setTop (mkF m 16 #[.val .null, .val (.ref rv), .val (.int (3 : Int32)), .val (.int ((0 : Int32) + (1 : Int32))), .val (.ref (vv 0))] [(.int ((0 : Int32) + (1 : Int32))), (.ref rv)]))
  refine Owes.gR X104 hx hZ e104 GR rfl (i := 1) (by decide) (by decide) (v := .ref (vv 1)) rfl (hb hby d5_16) ?_
  show Owes _ _ _ _ (T104.setTop (mkF m 17 #[.val .null, .val (.ref rv), .val (.int (3 : Int32)), .val (.int ((0 : Int32) + (1 : Int32))), .val (.ref (vv 0))] [(.ref (vv 1))]))
  refine Owes.go ?_ fun t₀ k₀ => XS.astore X104.here hx rfl (hb hby d5_17) rfl rfl (l' := #[.val .null, .val (.ref rv), .val (.int (3 : Int32)), .val (.int ((0 : Int32) + (1 : Int32))), .val (.ref (vv 1))]) rfl k₀
  show Owes _ _ _ _ (T104.setTop (mkF m 19 #[.val .null, .val (.ref rv), .val (.int (3 : Int32)), .val (.int ((0 : Int32) + (1 : Int32))), .val (.ref (vv 1))] []))
  refine Owes.go ?_ fun t₀ k₀ => XS.aload X104.here hx rfl (hb hby d5_19) rfl rfl k₀
  show Owes _ _ _ _ (T104.setTop (mkF m 21 #[.val .null, .val (.ref rv), .val (.int (3 : Int32)), .val (.int ((0 : Int32) + (1 : Int32))), .val (.ref (vv 1))] [(.ref (vv 1))]))
  obtain ⟨T105, X105, e105, st105⟩ := getF X104 hx hZ hown (host := "") (Or.inl (hw _ (List.mem_of_getElem? (i := 51) rfl))) Via.refl e104 (Fld.keep (FW 1 (by decide)) KV List.not_mem_nil) (g := (mkF m 21 #[.val .null, .val (.ref rv), .val (.int (3 : Int32)), .val (.int ((0 : Int32) + (1 : Int32))), .val (.ref (vv 1))] [(.ref (vv 1))])) rfl rfl (hb hby d5_21)
  refine Owes.go ?_ st105
  show Owes _ _ _ _ (T105.setTop (mkF m 24 #[.val .null, .val (.ref rv), .val (.int (3 : Int32)), .val (.int ((0 : Int32) + (1 : Int32))), .val (.ref (vv 1))] [(.ref (wn 1))]))
  refine Owes.go ?_ fun t₀ k₀ => XS.aloadN X105.here hx rfl (hb hby d5_24) rfl rfl k₀
  show Owes _ _ _ _ (T105.setTop (mkF m 25 #[.val .null, .val (.ref rv), .val (.int (3 : Int32)), .val (.int ((0 : Int32) + (1 : Int32))), .val (.ref (vv 1))] [.null, (.ref (wn 1))]))
  refine Owes.callV X105 hx hZ hown (hw _ (List.mem_of_getElem? (i := 53) rfl)) (hw _ (List.mem_of_getElem? (i := 54) rfl)) (notFace_of_selects (args := #[]) (mvT hZ (hw _ (List.mem_of_getElem? (i := 56) rfl)))) (hw _ (List.mem_of_getElem? (i := 56) rfl)) (hw _ (List.mem_of_getElem? (i := 55) rfl)) (hw _ (List.mem_of_getElem? (i := 1) rfl)) (hw _ (List.mem_of_getElem? (i := 57) rfl)) (by decide) (a := (wn 1)) (argsL := [.null]) (rest := []) (rm_eqn l Z a0 hw [] (wn 1) T102.heap) e105 ((SW 1 (by decide)).keep0 KV).1 (by rw [hml]; rfl) pd_14 rfl rfl (hb hby d5_25) (by decide) (Nat.le_of_ble_eq_true rfl) (by decide) (by decide) ?_
  rintro T106 _ _ X106 ⟨rfl, rfl, e106⟩
  rw [List.append_nil] at X106
  show Owes _ _ _ _ (T106.setTop (mkF m 28 #[.val .null, .val (.ref rv), .val (.int (3 : Int32)), .val (.int ((0 : Int32) + (1 : Int32))), .val (.ref (vv 1))] [(.int (0 : Int32))]))
  refine Owes.go ?_ fun t₀ k₀ => XS.ifYes X106.here hx rfl (pc0 := 28) (pc' := 34) rfl (hb hby d5_28) rfl ((if0 _ _).trans (teq (by decide : ((0 : Int32) = (0 : Int32)))).1) (by decide) (by decide) k₀
  show Owes _ _ _ _ (T106.setTop (mkF m 34 #[.val .null, .val (.ref rv), .val (.int (3 : Int32)), .val (.int ((0 : Int32) + (1 : Int32))), .val (.ref (vv 1))] []))
  refine Owes.go ?_ fun t₀ k₀ => XS.iinc X106.here hx rfl (hb hby d5_34) rfl (l' := #[.val .null, .val (.ref rv), .val (.int (3 : Int32)), .val (.int (((0 : Int32) + (1 : Int32)) + (1 : Int32))), .val (.ref (vv 1))]) rfl k₀
  show Owes _ _ _ _ (T106.setTop (mkF m 37 #[.val .null, .val (.ref rv), .val (.int (3 : Int32)), .val (.int (((0 : Int32) + (1 : Int32)) + (1 : Int32))), .val (.ref (vv 1))] []))
  refine Owes.go ?_ fun t₀ k₀ => XS.goto X106.here hx rfl (pc0 := 37) (pc' := 9) rfl (hb hby d5_37) (by decide) (by decide) k₀
  show Owes _ _ _ _ (T106.setTop (mkF m 9 #[.val .null, .val (.ref rv), .val (.int (3 : Int32)), .val (.int (((0 : Int32) + (1 : Int32)) + (1 : Int32))), .val (.ref (vv 1))] []))
  refine Owes.go ?_ fun t₀ k₀ => XS.iloadN X106.here hx rfl (hb hby d5_9) rfl k₀
  show Owes _ _ _ _ (T106.setTop (mkF m 10 #[.val .null, .val (.ref rv), .val (.int (3 : Int32)), .val (.int (((0 : Int32) + (1 : Int32)) + (1 : Int32))), .val (.ref (vv 1))] [(.int (((0 : Int32) + (1 : Int32)) + (1 : Int32)))]))
  refine Owes.go ?_ fun t₀ k₀ => XS.iloadN X106.here hx rfl (hb hby d5_10) rfl k₀
  show Owes _ _ _ _ (T106.setTop (mkF m 11 #[.val .null, .val (.ref rv), .val (.int (3 : Int32)), .val (.int (((0 : Int32) + (1 : Int32)) + (1 : Int32))), .val (.ref (vv 1))] [(.int (3 : Int32)), (.int (((0 : Int32) + (1 : Int32)) + (1 : Int32)))]))
  refine Owes.go ?_ fun t₀ k₀ => XS.icmpNo X106.here hx rfl (hb hby d5_11) rfl (tlt (by decide : ((((0 : Int32) + (1 : Int32)) + (1 : Int32)) < (3 : Int32)))).2.1 k₀
  show Owes _ _ _ _ (T106.setTop (mkF m 14 #[.val .null, .val (.ref rv), .val (.int (3 : Int32)), .val (.int (((0 : Int32) + (1 : Int32)) + (1 : Int32))), .val (.ref (vv 1))] []))
  refine Owes.go ?_ fun t₀ k₀ => XS.aloadN X106.here hx rfl (hb hby d5_14) rfl rfl k₀
  show Owes _ _ _ _ (T106.setTop (mkF m 15 #[.val .null, .val (.ref rv), .val (.int (3 : Int32)), .val (.int (((0 : Int32) + (1 : Int32)) + (1 : Int32))), .val (.ref (vv 1))] [(.ref rv)]))
  refine Owes.go ?_ fun t₀ k₀ => XS.iloadN X106.here hx rfl (hb hby d5_15) rfl k₀
  show Owes _ _ _ _ (T106.setTop (mkF m 16 #[.val .null, .val (.ref rv), .val (.int (3 : Int32)), .val (.int (((0 : Int32) + (1 : Int32)) + (1 : Int32))), .val (.ref (vv 1))] [(.int (((0 : Int32) + (1 : Int32)) + (1 : Int32))), (.ref rv)]))
  refine Owes.gR X106 hx hZ e106 GR rfl (i := 2) (by decide) (by decide) (v := .ref (vv 2)) rfl (hb hby d5_16) ?_
  show Owes _ _ _ _ (T106.setTop (mkF m 17 #[.val .null, .val (.ref rv), .val (.int (3 : Int32)), .val (.int (((0 : Int32) + (1 : Int32)) + (1 : Int32))), .val (.ref (vv 1))] [(.ref (vv 2))]))
  refine Owes.go ?_ fun t₀ k₀ => XS.astore X106.here hx rfl (hb hby d5_17) rfl rfl (l' := #[.val .null, .val (.ref rv), .val (.int (3 : Int32)), .val (.int (((0 : Int32) + (1 : Int32)) + (1 : Int32))), .val (.ref (vv 2))]) rfl k₀
  show Owes _ _ _ _ (T106.setTop (mkF m 19 #[.val .null, .val (.ref rv), .val (.int (3 : Int32)), .val (.int (((0 : Int32) + (1 : Int32)) + (1 : Int32))), .val (.ref (vv 2))] []))
  refine Owes.go ?_ fun t₀ k₀ => XS.aload X106.here hx rfl (hb hby d5_19) rfl rfl k₀
  show Owes _ _ _ _ (T106.setTop (mkF m 21 #[.val .null, .val (.ref rv), .val (.int (3 : Int32)), .val (.int (((0 : Int32) + (1 : Int32)) + (1 : Int32))), .val (.ref (vv 2))] [(.ref (vv 2))]))
  obtain ⟨T107, X107, e107, st107⟩ := getF X106 hx hZ hown (host := "") (Or.inl (hw _ (List.mem_of_getElem? (i := 51) rfl))) Via.refl e106 (Fld.keep (FW 2 (by decide)) KV List.not_mem_nil) (g := (mkF m 21 #[.val .null, .val (.ref rv), .val (.int (3 : Int32)), .val (.int (((0 : Int32) + (1 : Int32)) + (1 : Int32))), .val (.ref (vv 2))] [(.ref (vv 2))])) rfl rfl (hb hby d5_21)
  refine Owes.go ?_ st107
  show Owes _ _ _ _ (T107.setTop (mkF m 24 #[.val .null, .val (.ref rv), .val (.int (3 : Int32)), .val (.int (((0 : Int32) + (1 : Int32)) + (1 : Int32))), .val (.ref (vv 2))] [(.ref (wn 2))]))
  refine Owes.go ?_ fun t₀ k₀ => XS.aloadN X107.here hx rfl (hb hby d5_24) rfl rfl k₀
  show Owes _ _ _ _ (T107.setTop (mkF m 25 #[.val .null, .val (.ref rv), .val (.int (3 : Int32)), .val (.int (((0 : Int32) + (1 : Int32)) + (1 : Int32))), .val (.ref (vv 2))] [.null, (.ref (wn 2))]))
  refine Owes.callV X107 hx hZ hown (hw _ (List.mem_of_getElem? (i := 53) rfl)) (hw _ (List.mem_of_getElem? (i := 54) rfl)) (notFace_of_selects (args := #[]) (mvT hZ (hw _ (List.mem_of_getElem? (i := 56) rfl)))) (hw _ (List.mem_of_getElem? (i := 56) rfl)) (hw _ (List.mem_of_getElem? (i := 55) rfl)) (hw _ (List.mem_of_getElem? (i := 1) rfl)) (hw _ (List.mem_of_getElem? (i := 57) rfl)) (by decide) (a := (wn 2)) (argsL := [.null]) (rest := []) (rm_eqn l Z a0 hw [] (wn 2) T102.heap) e107 ((SW 2 (by decide)).keep0 KV).1 (by rw [hml]; rfl) pd_14 rfl rfl (hb hby d5_25) (by decide) (Nat.le_of_ble_eq_true rfl) (by decide) (by decide) ?_
  rintro T108 _ _ X108 ⟨rfl, rfl, e108⟩
  rw [List.append_nil] at X108
  show Owes _ _ _ _ (T108.setTop (mkF m 28 #[.val .null, .val (.ref rv), .val (.int (3 : Int32)), .val (.int (((0 : Int32) + (1 : Int32)) + (1 : Int32))), .val (.ref (vv 2))] [(.int (0 : Int32))]))
  refine Owes.go ?_ fun t₀ k₀ => XS.ifYes X108.here hx rfl (pc0 := 28) (pc' := 34) rfl (hb hby d5_28) rfl ((if0 _ _).trans (teq (by decide : ((0 : Int32) = (0 : Int32)))).1) (by decide) (by decide) k₀
  show Owes _ _ _ _ (T108.setTop (mkF m 34 #[.val .null, .val (.ref rv), .val (.int (3 : Int32)), .val (.int (((0 : Int32) + (1 : Int32)) + (1 : Int32))), .val (.ref (vv 2))] []))
  refine Owes.go ?_ fun t₀ k₀ => XS.iinc X108.here hx rfl (hb hby d5_34) rfl (l' := #[.val .null, .val (.ref rv), .val (.int (3 : Int32)), .val (.int ((((0 : Int32) + (1 : Int32)) + (1 : Int32)) + (1 : Int32))), .val (.ref (vv 2))]) rfl k₀
  show Owes _ _ _ _ (T108.setTop (mkF m 37 #[.val .null, .val (.ref rv), .val (.int (3 : Int32)), .val (.int ((((0 : Int32) + (1 : Int32)) + (1 : Int32)) + (1 : Int32))), .val (.ref (vv 2))] []))
  refine Owes.go ?_ fun t₀ k₀ => XS.goto X108.here hx rfl (pc0 := 37) (pc' := 9) rfl (hb hby d5_37) (by decide) (by decide) k₀
  show Owes _ _ _ _ (T108.setTop (mkF m 9 #[.val .null, .val (.ref rv), .val (.int (3 : Int32)), .val (.int ((((0 : Int32) + (1 : Int32)) + (1 : Int32)) + (1 : Int32))), .val (.ref (vv 2))] []))
  refine Owes.go ?_ fun t₀ k₀ => XS.iloadN X108.here hx rfl (hb hby d5_9) rfl k₀
  show Owes _ _ _ _ (T108.setTop (mkF m 10 #[.val .null, .val (.ref rv), .val (.int (3 : Int32)), .val (.int ((((0 : Int32) + (1 : Int32)) + (1 : Int32)) + (1 : Int32))), .val (.ref (vv 2))] [(.int ((((0 : Int32) + (1 : Int32)) + (1 : Int32)) + (1 : Int32)))]))
  refine Owes.go ?_ fun t₀ k₀ => XS.iloadN X108.here hx rfl (hb hby d5_10) rfl k₀
  show Owes _ _ _ _ (T108.setTop (mkF m 11 #[.val .null, .val (.ref rv), .val (.int (3 : Int32)), .val (.int ((((0 : Int32) + (1 : Int32)) + (1 : Int32)) + (1 : Int32))), .val (.ref (vv 2))] [(.int (3 : Int32)), (.int ((((0 : Int32) + (1 : Int32)) + (1 : Int32)) + (1 : Int32)))]))
  refine Owes.go ?_ fun t₀ k₀ => XS.icmpYes X108.here hx rfl (pc0 := 11) (pc' := 40) rfl (hb hby d5_11) rfl (flt (by decide : ¬ (((((0 : Int32) + (1 : Int32)) + (1 : Int32)) + (1 : Int32)) < (3 : Int32)))).2.1 (by decide) (by decide) k₀
  show Owes _ _ _ _ (T108.setTop (mkF m 40 #[.val .null, .val (.ref rv), .val (.int (3 : Int32)), .val (.int ((((0 : Int32) + (1 : Int32)) + (1 : Int32)) + (1 : Int32))), .val (.ref (vv 2))] []))
  refine Owes.go ?_ fun t₀ k₀ => XS.aconstNull X108.here hx rfl (hb hby d5_40) k₀
  show Owes _ _ _ _ (T108.setTop (mkF m 41 #[.val .null, .val (.ref rv), .val (.int (3 : Int32)), .val (.int ((((0 : Int32) + (1 : Int32)) + (1 : Int32)) + (1 : Int32))), .val (.ref (vv 2))] [.null]))
  exact Owes.retA X108 hx hlk hret rfl rfl rfl (hb hby d5_41) (by decide) (by decide) (by rw [e108]; exact ⟨rfl, NF102, KV⟩)
def cW (i : Nat) : Int32 := [119, 111, 114, 108, 100].getD i 0
def cI (i : Nat) : Int32 := [105, 112].getD i 0
def cD (i : Nat) : Int32 := [100, 105, 103, 101, 115, 116].getD i 0
def cE (_ : Nat) : Int32 := 0
def wlF (i : Nat) : Nat := if i = 0 then 5 else if i = 1 then 2 else 6
def wcF (i : Nat) : Nat → Int32 := if i = 0 then cW else if i = 1 then cI else cD
def wzF (i : Nat) : Int32 := if i = 0 then 5 else if i = 1 then 2 else 6
theorem own_8W : C8 5 cW := fun i hi => by
  rcases (show i = 0 ∨ i = 1 ∨ i = 2 ∨ i = 3 ∨ i = 4 by omega) with rfl | rfl | rfl | rfl | rfl <;> decide
theorem own_8I : C8 2 cI := fun i hi => by
  rcases (show i = 0 ∨ i = 1 by omega) with rfl | rfl <;> decide
theorem own_8D : C8 6 cD := fun i hi => by
  rcases (show i = 0 ∨ i = 1 ∨ i = 2 ∨ i = 3 ∨ i = 4 ∨ i = 5 by omega) with rfl | rfl | rfl | rfl | rfl | rfl <;> decide
theorem own_8E : C8 0 cE := fun i hi => absurd hi (Nat.not_lt_zero _)
theorem eqv_sym (n n' : Nat) (b b' : Nat → Int32) : eqv n n' b b' = eqv n' n b' b := by
  by_cases q : EQB n n' b b'
  · rw [eqv_y q, eqv_y ⟨q.1.symm, fun i hi => (q.2 i (by have := q.1; omega)).symm⟩]
  · rw [eqv_n q, eqv_n (fun z => q ⟨z.1.symm, fun i hi => (z.2 i (by have := z.1; omega)).symm⟩)]
theorem C8.upd {n i : Nat} {w : Nat → Int32} {x : Int32} (H : C8 n w) (h : 0 ≤ x.toInt ∧ x.toInt < 256) : C8 n (upd w i x) := fun k hk => by
  by_cases q : k = i
  · rw [q, upd_same]; exact h
  · rw [upd_ne _ _ q]; exact H k hk
theorem own_setC {Z : State} {h : Heap} {a : Addr} {n k : Nat} {w : Nat → Int32} {x : Int32} (A : GA Z h a .char n (upd (fun i => Value.int (w i)) k (.int x))) (H : C8 n w) (hx : 0 ≤ x.toInt ∧ x.toInt < 256) : ∃ w' : Nat → Int32, GA Z h a .char n (fun i => .int (w' i)) ∧ C8 n w' :=
  ⟨upd w k x, A.congr fun i _ => by
    by_cases q : i = k
    · rw [q, upd_same, upd_same]
    · rw [upd_ne _ _ q, upd_ne _ _ q], H.upd hx⟩
theorem own_wz : ∀ i, i < 3 → (wzF i).toInt = (wlF i : Int) := fun i hi => by
  rcases (show i = 0 ∨ i = 1 ∨ i = 2 by omega) with rfl | rfl | rfl <;> rfl
theorem own_wl : ∀ i, i < 3 → wlF i ≤ 16 := fun i hi => by
  rcases (show i = 0 ∨ i = 1 ∨ i = 2 by omega) with rfl | rfl | rfl <;> decide
theorem own_nm0 {kn : Nat} {w : Nat → Int32} {v0 v1 v2 : Addr} (a0 : ¬ eqv kn 5 (by8 w) (by8 cW) = 0) : nmd (eqv (wlF 0) kn (by8 (wcF 0)) (by8 w)) (eqv (wlF 1) kn (by8 (wcF 1)) (by8 w)) (eqv (wlF 2) kn (by8 (wcF 2)) (by8 w)) v0 v1 v2 = .ref v0 := by
  show nmd (eqv 5 kn (by8 cW) (by8 w)) (eqv 2 kn (by8 cI) (by8 w)) (eqv 6 kn (by8 cD) (by8 w)) v0 v1 v2 = _
  unfold nmd
  rw [if_neg (fun q => a0 ((eqv_sym _ _ _ _).trans q))]
theorem own_nm1 {kn : Nat} {w : Nat → Int32} {v0 v1 v2 : Addr} (a0 :  eqv kn 5 (by8 w) (by8 cW) = 0) (a1 : ¬ eqv kn 2 (by8 w) (by8 cI) = 0) : nmd (eqv (wlF 0) kn (by8 (wcF 0)) (by8 w)) (eqv (wlF 1) kn (by8 (wcF 1)) (by8 w)) (eqv (wlF 2) kn (by8 (wcF 2)) (by8 w)) v0 v1 v2 = .ref v1 := by
  show nmd (eqv 5 kn (by8 cW) (by8 w)) (eqv 2 kn (by8 cI) (by8 w)) (eqv 6 kn (by8 cD) (by8 w)) v0 v1 v2 = _
  unfold nmd
  rw [if_pos ((eqv_sym _ _ _ _).trans a0), if_neg (fun q => a1 ((eqv_sym _ _ _ _).trans q))]
theorem own_nm2 {kn : Nat} {w : Nat → Int32} {v0 v1 v2 : Addr} (a0 :  eqv kn 5 (by8 w) (by8 cW) = 0) (a1 :  eqv kn 2 (by8 w) (by8 cI) = 0) (a2 : ¬ eqv kn 6 (by8 w) (by8 cD) = 0) : nmd (eqv (wlF 0) kn (by8 (wcF 0)) (by8 w)) (eqv (wlF 1) kn (by8 (wcF 1)) (by8 w)) (eqv (wlF 2) kn (by8 (wcF 2)) (by8 w)) v0 v1 v2 = .ref v2 := by
  show nmd (eqv 5 kn (by8 cW) (by8 w)) (eqv 2 kn (by8 cI) (by8 w)) (eqv 6 kn (by8 cD) (by8 w)) v0 v1 v2 = _
  unfold nmd
  rw [if_pos ((eqv_sym _ _ _ _).trans a0), if_pos ((eqv_sym _ _ _ _).trans a1), if_neg (fun q => a2 ((eqv_sym _ _ _ _).trans q))]
theorem own_nm3 {kn : Nat} {w : Nat → Int32} {v0 v1 v2 : Addr} (a0 :  eqv kn 5 (by8 w) (by8 cW) = 0) (a1 :  eqv kn 2 (by8 w) (by8 cI) = 0) (a2 :  eqv kn 6 (by8 w) (by8 cD) = 0) : nmd (eqv (wlF 0) kn (by8 (wcF 0)) (by8 w)) (eqv (wlF 1) kn (by8 (wcF 1)) (by8 w)) (eqv (wlF 2) kn (by8 (wcF 2)) (by8 w)) v0 v1 v2 = .null := by
  show nmd (eqv 5 kn (by8 cW) (by8 w)) (eqv 2 kn (by8 cI) (by8 w)) (eqv 6 kn (by8 cD) (by8 w)) v0 v1 v2 = _
  unfold nmd
  rw [if_pos ((eqv_sym _ _ _ _).trans a0), if_pos ((eqv_sym _ _ _ _).trans a1), if_pos ((eqv_sym _ _ _ _).trans a2)]
theorem pd_15 : parseMethodDescriptor "(Ljava/lang/String;IIJ)C" = some ⟨[(.object "java/lang/String"), .int, .int, .long], some .char⟩ := by decide +kernel
theorem pd_16 : parseMethodDescriptor "(Ljava/lang/String;)Lcom/example/herring/herring/acl/Scheme;" = some ⟨[(.object "java/lang/String")], some (.object "com/example/herring/herring/acl/Scheme")⟩ := by decide +kernel
theorem pd_17 : parseMethodDescriptor "([CI)Ljava/lang/String;" = some ⟨[(.array .char), .int], some (.object "java/lang/String")⟩ := by decide +kernel
def QL (n0 : Nat) (v : Option Value) (h : Heap) (L : List Loc) : Prop := v = some (.int 1) ∧ Fr n0 L
theorem ef_0 (m : MethodId) (p0 : Int32) (p1 : Int32) (p2 : Int32) (q3 : Int64) : entryFrame m #[(.int p0), (.int p1), (.int p2), (.long q3)] maxLocals = mkF m 0 #[.val (.int p0), .val (.int p1), .val (.int p2), .val (.long q3), .second, .unset, .unset, .unset, .unset, .unset, .unset, .unset] [] := by first | (simp [entryFrame, mkF, argsToLocals, Value.category, maxLocals]; done) | rfl
theorem pn_0 : plainFor (⟨"com/example/herring/herring/acl/SchemeNamedPinLaw", "law", "(IIIJ)Z"⟩ : MethodName) = true := plainFor_of_name (by first | (simp [plainName, overriddenIn]; done) | decide +kernel)
set_option maxRecDepth 65536 in
set_option maxHeartbeats 40000000 in
theorem rm0 (l : Launch) (Z : State) (a0 : Array Value) (hw : ∀ d ∈ tables_1, d.before a0 Z = true) (hEL : EW Z a0 EL0) (ws : List Jvm.Cond) (p0 : Int32) (p1 : Int32) (p2 : Int32) (q3 : Int64) (h0 : Heap) (n0 : Nat) (Z0 : n0 ≤ h0.size) (cs : Int32) (SC : Sta Z h0 "java/lang/String" "COMPACT_STRINGS" "Z" (.int cs)) (hcs : ¬ cs = (0 : Int32)) (vf : Value) (hcat_vf : vf.category = 1) (SF : Sta Z h0 "jdk/internal/util/Preconditions" "SIOOBE_FORMATTER" "Ljava/util/function/BiFunction;" vf) (va : Addr) (vv : Nat → Addr) (SV : Sta Z h0 "com/example/herring/herring/acl/Scheme" "$VALUES" "[Lcom/example/herring/herring/acl/Scheme;" (.ref va)) (EV : Exa Z h0 va "[Lcom/example/herring/herring/acl/Scheme;") (GV : GA Z h0 va (.object "com/example/herring/herring/acl/Scheme") 3 (fun i => .ref (vv i))) (wn wb : Nat → Addr) (FW : ∀ i, i < 3 → Fld Z h0 (vv i) "com/example/herring/herring/acl/Scheme" "wireName" "Ljava/lang/String;" (.ref (wn i))) (SW : ∀ i, i < 3 → STR Z h0 (wn i) (wb i) (wlF i) (wcF i)) (S_0 : Sta Z h0 "com/example/herring/herring/acl/Scheme" "WORLD" "Lcom/example/herring/herring/acl/Scheme;" (.ref (vv 0))) (S_1 : Sta Z h0 "com/example/herring/herring/acl/Scheme" "IP" "Lcom/example/herring/herring/acl/Scheme;" (.ref (vv 1))) (S_2 : Sta Z h0 "com/example/herring/herring/acl/Scheme" "DIGEST" "Lcom/example/herring/herring/acl/Scheme;" (.ref (vv 2))) :
    OMetX l x code maxLocals ret ws room_1 #[(.int p0), (.int p1), (.int p2), (.long q3)] Z EL0 [] h0 (QL n0) := by
  have N0 := Fr.nil n0
  refine OMetX.of pn_0 (fun m => ef_0 m p0 p1 p2 q3) ?_
  intro p e s m below meth c s₁ hx hby hml hown hnm hret hlk hZ X0 e0 hC0
  refine Owes.go ?_ fun t₀ k₀ => XS.iloadN X0.here hx rfl (hb hby at_0) rfl k₀
  show Owes _ _ _ _ (s₁.setTop (mkF m 1 #[.val (.int p0), .val (.int p1), .val (.int p2), .val (.long q3), .second, .unset, .unset, .unset, .unset, .unset, .unset, .unset] [(.int p0)]))
  refine Owes.go ?_ fun t₀ k₀ => XS.bipush X0.here hx rfl (hb hby at_1) k₀
  show Owes _ _ _ _ (s₁.setTop (mkF m 3 #[.val (.int p0), .val (.int p1), .val (.int p2), .val (.long q3), .second, .unset, .unset, .unset, .unset, .unset, .unset, .unset] [(.int (7 : Int32)), (.int p0)]))
  refine Owes.go ?_ fun t₀ k₀ => XS.iand X0.here hx rfl (hb hby at_3) rfl k₀
  show Owes _ _ _ _ (s₁.setTop (mkF m 4 #[.val (.int p0), .val (.int p1), .val (.int p2), .val (.long q3), .second, .unset, .unset, .unset, .unset, .unset, .unset, .unset] [(.int (p0 &&& (7 : Int32)))]))
  refine Owes.go ?_ fun t₀ k₀ => XS.istore X0.here hx rfl (hb hby at_4) rfl (l' := #[.val (.int p0), .val (.int p1), .val (.int p2), .val (.long q3), .second, .val (.int (p0 &&& (7 : Int32))), .unset, .unset, .unset, .unset, .unset, .unset]) rfl k₀
  show Owes _ _ _ _ (s₁.setTop (mkF m 6 #[.val (.int p0), .val (.int p1), .val (.int p2), .val (.long q3), .second, .val (.int (p0 &&& (7 : Int32))), .unset, .unset, .unset, .unset, .unset, .unset] []))
  generalize (p0 &&& (7 : Int32)) = kd at *
  have J41 : ∀ (ta tb : Addr) (tn : Nat) (tc : Nat → Int32) (tz : Int32) (T1 : State) (h1 : Heap) (k1 : Nat), Stand p l e room_1 (s.setVm T1.vm) m #[(.int p0), (.int p1), (.int p2), (.long q3)] below meth c T1 [] (0 + 2) (0 + (24 + 4)) → T1.heap = h1 → Ext h0 h1 → s.Since T1.vm k1 → k1 ≤ h1.size → Z.Warmed39 (s.setVm T1.vm).vm → (s.setVm T1.vm).vm.findClass x.cls = some m.cls → CHx Z EL0 [] T1.vm h1 → STR Z h1 ta tb tn tc → C8 tn tc → tz.toInt = (tn : Int) → tn ≤ 16 → Owes p e below (EndX Z EL0 [] s (QL n0) room_1.cells room_1.slots) (T1.setTop (mkF m 41 #[.val (.int p0), .val (.int p1), .val (.int p2), .val (.long q3), .second, .val (.int kd), .unset, .unset, .unset, .unset, .unset, .unset] [.ref ta])) := by
    intro ta tb tn tc tz T1 h1 k1 X1 e1 E1 hS1 hk1 hZ hown hC1 S1 ht8 htz ht16
    have K1t : Keep h0 h1 [] := (Keep.refl h0 []).ext E1
    have ST1 := StK.of_keep (Z := Z) K1t
    have KB1 := Keep.refl h1 []
    refine Owes.go ?_ fun t₀ k₀ => XS.astore X1.here hx rfl (hb hby at_41) rfl rfl (l' := #[.val (.int p0), .val (.int p1), .val (.int p2), .val (.long q3), .second, .val (.int kd), .val (.ref ta), .unset, .unset, .unset, .unset, .unset]) rfl k₀
    show Owes _ _ _ _ (T1.setTop (mkF m 43 #[.val (.int p0), .val (.int p1), .val (.int p2), .val (.long q3), .second, .val (.int kd), .val (.ref ta), .unset, .unset, .unset, .unset, .unset] []))
    have J56_109 : ∀ (mk : Int32), Owes p e below (EndX Z EL0 [] s (QL n0) room_1.cells room_1.slots) (T1.setTop (mkF m 56 #[.val (.int p0), .val (.int p1), .val (.int p2), .val (.long q3), .second, .val (.int kd), .val (.ref ta), .unset, .unset, .unset, .unset, .unset] [(.int mk)])) := by
      intro mk
      refine Owes.go ?_ fun t₀ k₀ => XS.istore X1.here hx rfl (hb hby at_56) rfl (l' := #[.val (.int p0), .val (.int p1), .val (.int p2), .val (.long q3), .second, .val (.int kd), .val (.ref ta), .val (.int mk), .unset, .unset, .unset, .unset]) rfl k₀
      show Owes _ _ _ _ (T1.setTop (mkF m 58 #[.val (.int p0), .val (.int p1), .val (.int p2), .val (.long q3), .second, .val (.int kd), .val (.ref ta), .val (.int mk), .unset, .unset, .unset, .unset] []))
      have J86_112 : ∀ (T113 : State), Stand p l e room_1 (s.setVm T1.vm) m #[(.int p0), (.int p1), (.int p2), (.long q3)] below meth c T113 [] (0 + 2) (0 + (24 + 4)) → T113.heap = h1 → ∀ (nI : Int32), Owes p e below (EndX Z EL0 [] s (QL n0) room_1.cells room_1.slots) (T113.setTop (mkF m 86 #[.val (.int p0), .val (.int p1), .val (.int p2), .val (.long q3), .second, .val (.int kd), .val (.ref ta), .val (.int mk), .unset, .unset, .unset, .unset] [(.int nI)])) := by
        intro T113 X113 e113 nI
        refine Owes.go ?_ fun t₀ k₀ => XS.istore X113.here hx rfl (hb hby at_86) rfl (l' := #[.val (.int p0), .val (.int p1), .val (.int p2), .val (.long q3), .second, .val (.int kd), .val (.ref ta), .val (.int mk), .val (.int nI), .unset, .unset, .unset]) rfl k₀
        show Owes _ _ _ _ (T113.setTop (mkF m 88 #[.val (.int p0), .val (.int p1), .val (.int p2), .val (.long q3), .second, .val (.int kd), .val (.ref ta), .val (.int mk), .val (.int nI), .unset, .unset, .unset] []))
        refine Owes.go ?_ fun t₀ k₀ => XS.bipush X113.here hx rfl (hb hby at_88) k₀
        show Owes _ _ _ _ (T113.setTop (mkF m 90 #[.val (.int p0), .val (.int p1), .val (.int p2), .val (.long q3), .second, .val (.int kd), .val (.ref ta), .val (.int mk), .val (.int nI), .unset, .unset, .unset] [(.int (7 : Int32))]))
        refine Owes.newArr X113 hx hZ (aty := .char) (hw _ (List.mem_of_getElem? (i := 14) rfl)) e113 (n := 7) rfl (by omega) (by decide) (by decide) (ad := "[C") (by decide) (hb hby at_90) ?_
        intro T114 h114 X114 e114 E114 G114 EX114
        obtain ⟨xc, gxc⟩ : ∃ z, z = h1.size := ⟨_, rfl⟩
        rw [← gxc] at G114 EX114 ⊢
        have ge_xc : h0.size ≤ xc := by rw [gxc]; exact K1t.1
        have gn_xc : n0 ≤ xc := Nat.le_trans Z0 ge_xc
        have K_114 := K1t.ext E114
        have ST_114 := ST1.ext E114
        have G114 : GA Z h114 xc .char 7 (fun i => .int ((fun _ => (0 : Int32)) i)) := G114
        have ge1 : h1.size ≤ xc := Nat.le_of_eq gxc.symm
        have KB_114 := KB1.ext E114
        have h8_114 : C8 7 (fun _ => (0 : Int32)) := fun _ _ => by show 0 ≤ (0 : Int32).toInt ∧ (0 : Int32).toInt < 256; decide
        show Owes _ _ _ _ (T114.setTop (mkF m 92 #[.val (.int p0), .val (.int p1), .val (.int p2), .val (.long q3), .second, .val (.int kd), .val (.ref ta), .val (.int mk), .val (.int nI), .unset, .unset, .unset] [(.ref xc)]))
        refine Owes.go ?_ fun t₀ k₀ => XS.astore X114.here hx rfl (hb hby at_92) rfl rfl (l' := #[.val (.int p0), .val (.int p1), .val (.int p2), .val (.long q3), .second, .val (.int kd), .val (.ref ta), .val (.int mk), .val (.int nI), .val (.ref xc), .unset, .unset]) rfl k₀
        show Owes _ _ _ _ (T114.setTop (mkF m 94 #[.val (.int p0), .val (.int p1), .val (.int p2), .val (.long q3), .second, .val (.int kd), .val (.ref ta), .val (.int mk), .val (.int nI), .val (.ref xc), .unset, .unset] []))
        refine Owes.go ?_ fun t₀ k₀ => XS.aload X114.here hx rfl (hb hby at_94) rfl rfl k₀
        show Owes _ _ _ _ (T114.setTop (mkF m 96 #[.val (.int p0), .val (.int p1), .val (.int p2), .val (.long q3), .second, .val (.int kd), .val (.ref ta), .val (.int mk), .val (.int nI), .val (.ref xc), .unset, .unset] [(.ref xc)]))
        refine Owes.go ?_ fun t₀ k₀ => XS.iconst X114.here hx rfl (hb hby at_96) k₀
        show Owes _ _ _ _ (T114.setTop (mkF m 97 #[.val (.int p0), .val (.int p1), .val (.int p2), .val (.long q3), .second, .val (.int kd), .val (.ref ta), .val (.int mk), .val (.int nI), .val (.ref xc), .unset, .unset] [(.int (0 : Int32)), (.ref xc)]))
        refine Owes.go ?_ fun t₀ k₀ => XS.aload X114.here hx rfl (hb hby at_97) rfl rfl k₀
        show Owes _ _ _ _ (T114.setTop (mkF m 99 #[.val (.int p0), .val (.int p1), .val (.int p2), .val (.long q3), .second, .val (.int kd), .val (.ref ta), .val (.int mk), .val (.int nI), .val (.ref xc), .unset, .unset] [(.ref ta), (.int (0 : Int32)), (.ref xc)]))
        refine Owes.go ?_ fun t₀ k₀ => XS.iconst X114.here hx rfl (hb hby at_99) k₀
        show Owes _ _ _ _ (T114.setTop (mkF m 100 #[.val (.int p0), .val (.int p1), .val (.int p2), .val (.long q3), .second, .val (.int kd), .val (.ref ta), .val (.int mk), .val (.int nI), .val (.ref xc), .unset, .unset] [(.int (0 : Int32)), (.ref ta), (.int (0 : Int32)), (.ref xc)]))
        refine Owes.go ?_ fun t₀ k₀ => XS.iload X114.here hx rfl (hb hby at_100) rfl k₀
        show Owes _ _ _ _ (T114.setTop (mkF m 102 #[.val (.int p0), .val (.int p1), .val (.int p2), .val (.long q3), .second, .val (.int kd), .val (.ref ta), .val (.int mk), .val (.int nI), .val (.ref xc), .unset, .unset] [(.int mk), (.int (0 : Int32)), (.ref ta), (.int (0 : Int32)), (.ref xc)]))
        refine Owes.go ?_ fun t₀ k₀ => XS.lloadN X114.here hx rfl (hb hby at_102) rfl k₀
        show Owes _ _ _ _ (T114.setTop (mkF m 103 #[.val (.int p0), .val (.int p1), .val (.int p2), .val (.long q3), .second, .val (.int kd), .val (.ref ta), .val (.int mk), .val (.int nI), .val (.ref xc), .unset, .unset] [(.long q3), (.int mk), (.int (0 : Int32)), (.ref ta), (.int (0 : Int32)), (.ref xc)]))
        refine Owes.callS X114 hx hZ hown (hw _ (List.mem_of_getElem? (i := 15) rfl)) (hw _ (List.mem_of_getElem? (i := 16) rfl)) (hw _ (List.mem_of_getElem? (i := 17) rfl)) (hw _ (List.mem_of_getElem? (i := 18) rfl)) (by decide) (argsL := [(.ref ta), (.int (0 : Int32)), (.int mk), (.long q3)]) (rest := [(.int (0 : Int32)), (.ref xc)]) (rm_ch l Z a0 hw [] ta (0 : Int32) mk q3 h114 tb tn tc (S1.keep0 KB_114) tz htz cs (ST_114 _ _ _ _ SC) hcs vf hcat_vf (ST_114 _ _ _ _ SF) ht8 0 rfl) e114 (by rw [hml]; rfl) pd_15 rfl rfl (hb hby at_103) (by decide) (Nat.le_of_ble_eq_true rfl) (by decide) (by decide) ?_
        rintro T115 v115 L115 X115 ⟨x115, rfl, rfl, e115, hb115⟩
        rw [List.append_nil] at X115
        show Owes _ _ _ _ (T115.setTop (mkF m 106 #[.val (.int p0), .val (.int p1), .val (.int p2), .val (.long q3), .second, .val (.int kd), .val (.ref ta), .val (.int mk), .val (.int nI), .val (.ref xc), .unset, .unset] [(.int x115), (.int (0 : Int32)), (.ref xc)]))
        refine Owes.sC X115 hx hZ e115 G114 (i := 0) rfl (by decide) (own_narC hb115) (hb hby at_106) ?_
        intro T116 h116 X116 e116 W116 G116
        obtain ⟨w116, GC116, h8_116⟩ := own_setC G116 h8_114 hb115
        have K_116 := K_114.wr W116 (Or.inr ge_xc)
        have ST_116 := ST_114.wr W116
        have KB_116 := KB_114.wr W116 (Or.inr ge1)
        have N116 := Fr.snoc X116 N0 gn_xc
        show Owes _ _ _ _ (T116.setTop (mkF m 107 #[.val (.int p0), .val (.int p1), .val (.int p2), .val (.long q3), .second, .val (.int kd), .val (.ref ta), .val (.int mk), .val (.int nI), .val (.ref xc), .unset, .unset] []))
        refine Owes.go ?_ fun t₀ k₀ => XS.aload X116.here hx rfl (hb hby at_107) rfl rfl k₀
        show Owes _ _ _ _ (T116.setTop (mkF m 109 #[.val (.int p0), .val (.int p1), .val (.int p2), .val (.long q3), .second, .val (.int kd), .val (.ref ta), .val (.int mk), .val (.int nI), .val (.ref xc), .unset, .unset] [(.ref xc)]))
        refine Owes.go ?_ fun t₀ k₀ => XS.iconst X116.here hx rfl (hb hby at_109) k₀
        show Owes _ _ _ _ (T116.setTop (mkF m 110 #[.val (.int p0), .val (.int p1), .val (.int p2), .val (.long q3), .second, .val (.int kd), .val (.ref ta), .val (.int mk), .val (.int nI), .val (.ref xc), .unset, .unset] [(.int (1 : Int32)), (.ref xc)]))
        refine Owes.go ?_ fun t₀ k₀ => XS.aload X116.here hx rfl (hb hby at_110) rfl rfl k₀
        show Owes _ _ _ _ (T116.setTop (mkF m 112 #[.val (.int p0), .val (.int p1), .val (.int p2), .val (.long q3), .second, .val (.int kd), .val (.ref ta), .val (.int mk), .val (.int nI), .val (.ref xc), .unset, .unset] [(.ref ta), (.int (1 : Int32)), (.ref xc)]))
        refine Owes.go ?_ fun t₀ k₀ => XS.iconst X116.here hx rfl (hb hby at_112) k₀
        show Owes _ _ _ _ (T116.setTop (mkF m 113 #[.val (.int p0), .val (.int p1), .val (.int p2), .val (.long q3), .second, .val (.int kd), .val (.ref ta), .val (.int mk), .val (.int nI), .val (.ref xc), .unset, .unset] [(.int (1 : Int32)), (.ref ta), (.int (1 : Int32)), (.ref xc)]))
        refine Owes.go ?_ fun t₀ k₀ => XS.iload X116.here hx rfl (hb hby at_113) rfl k₀
        show Owes _ _ _ _ (T116.setTop (mkF m 115 #[.val (.int p0), .val (.int p1), .val (.int p2), .val (.long q3), .second, .val (.int kd), .val (.ref ta), .val (.int mk), .val (.int nI), .val (.ref xc), .unset, .unset] [(.int mk), (.int (1 : Int32)), (.ref ta), (.int (1 : Int32)), (.ref xc)]))
        refine Owes.go ?_ fun t₀ k₀ => XS.lloadN X116.here hx rfl (hb hby at_115) rfl k₀
        show Owes _ _ _ _ (T116.setTop (mkF m 116 #[.val (.int p0), .val (.int p1), .val (.int p2), .val (.long q3), .second, .val (.int kd), .val (.ref ta), .val (.int mk), .val (.int nI), .val (.ref xc), .unset, .unset] [(.long q3), (.int mk), (.int (1 : Int32)), (.ref ta), (.int (1 : Int32)), (.ref xc)]))
        refine Owes.callS X116 hx hZ hown (hw _ (List.mem_of_getElem? (i := 15) rfl)) (hw _ (List.mem_of_getElem? (i := 16) rfl)) (hw _ (List.mem_of_getElem? (i := 17) rfl)) (hw _ (List.mem_of_getElem? (i := 18) rfl)) (by decide) (argsL := [(.ref ta), (.int (1 : Int32)), (.int mk), (.long q3)]) (rest := [(.int (1 : Int32)), (.ref xc)]) (rm_ch l Z a0 hw [] ta (1 : Int32) mk q3 h116 tb tn tc (S1.keep0 KB_116) tz htz cs (ST_116 _ _ _ _ SC) hcs vf hcat_vf (ST_116 _ _ _ _ SF) ht8 1 rfl) e116 (by rw [hml]; rfl) pd_15 rfl rfl (hb hby at_116) (by decide) (Nat.le_of_ble_eq_true rfl) (by decide) (by decide) ?_
        rintro T117 v117 L117 X117 ⟨x117, rfl, rfl, e117, hb117⟩
        rw [List.append_nil] at X117
        show Owes _ _ _ _ (T117.setTop (mkF m 119 #[.val (.int p0), .val (.int p1), .val (.int p2), .val (.long q3), .second, .val (.int kd), .val (.ref ta), .val (.int mk), .val (.int nI), .val (.ref xc), .unset, .unset] [(.int x117), (.int (1 : Int32)), (.ref xc)]))
        refine Owes.sC X117 hx hZ e117 GC116 (i := 1) rfl (by decide) (own_narC hb117) (hb hby at_119) ?_
        intro T118 h118 X118 e118 W118 G118
        obtain ⟨w118, GC118, h8_118⟩ := own_setC G118 h8_116 hb117
        have K_118 := K_116.wr W118 (Or.inr ge_xc)
        have ST_118 := ST_116.wr W118
        have KB_118 := KB_116.wr W118 (Or.inr ge1)
        have N118 := Fr.snoc X118 N116 gn_xc
        show Owes _ _ _ _ (T118.setTop (mkF m 120 #[.val (.int p0), .val (.int p1), .val (.int p2), .val (.long q3), .second, .val (.int kd), .val (.ref ta), .val (.int mk), .val (.int nI), .val (.ref xc), .unset, .unset] []))
        refine Owes.go ?_ fun t₀ k₀ => XS.aload X118.here hx rfl (hb hby at_120) rfl rfl k₀
        show Owes _ _ _ _ (T118.setTop (mkF m 122 #[.val (.int p0), .val (.int p1), .val (.int p2), .val (.long q3), .second, .val (.int kd), .val (.ref ta), .val (.int mk), .val (.int nI), .val (.ref xc), .unset, .unset] [(.ref xc)]))
        refine Owes.go ?_ fun t₀ k₀ => XS.iconst X118.here hx rfl (hb hby at_122) k₀
        show Owes _ _ _ _ (T118.setTop (mkF m 123 #[.val (.int p0), .val (.int p1), .val (.int p2), .val (.long q3), .second, .val (.int kd), .val (.ref ta), .val (.int mk), .val (.int nI), .val (.ref xc), .unset, .unset] [(.int (2 : Int32)), (.ref xc)]))
        refine Owes.go ?_ fun t₀ k₀ => XS.aload X118.here hx rfl (hb hby at_123) rfl rfl k₀
        show Owes _ _ _ _ (T118.setTop (mkF m 125 #[.val (.int p0), .val (.int p1), .val (.int p2), .val (.long q3), .second, .val (.int kd), .val (.ref ta), .val (.int mk), .val (.int nI), .val (.ref xc), .unset, .unset] [(.ref ta), (.int (2 : Int32)), (.ref xc)]))
        refine Owes.go ?_ fun t₀ k₀ => XS.iconst X118.here hx rfl (hb hby at_125) k₀
        show Owes _ _ _ _ (T118.setTop (mkF m 126 #[.val (.int p0), .val (.int p1), .val (.int p2), .val (.long q3), .second, .val (.int kd), .val (.ref ta), .val (.int mk), .val (.int nI), .val (.ref xc), .unset, .unset] [(.int (2 : Int32)), (.ref ta), (.int (2 : Int32)), (.ref xc)]))
        refine Owes.go ?_ fun t₀ k₀ => XS.iload X118.here hx rfl (hb hby at_126) rfl k₀
        show Owes _ _ _ _ (T118.setTop (mkF m 128 #[.val (.int p0), .val (.int p1), .val (.int p2), .val (.long q3), .second, .val (.int kd), .val (.ref ta), .val (.int mk), .val (.int nI), .val (.ref xc), .unset, .unset] [(.int mk), (.int (2 : Int32)), (.ref ta), (.int (2 : Int32)), (.ref xc)]))
        refine Owes.go ?_ fun t₀ k₀ => XS.lloadN X118.here hx rfl (hb hby at_128) rfl k₀
        show Owes _ _ _ _ (T118.setTop (mkF m 129 #[.val (.int p0), .val (.int p1), .val (.int p2), .val (.long q3), .second, .val (.int kd), .val (.ref ta), .val (.int mk), .val (.int nI), .val (.ref xc), .unset, .unset] [(.long q3), (.int mk), (.int (2 : Int32)), (.ref ta), (.int (2 : Int32)), (.ref xc)]))
        refine Owes.callS X118 hx hZ hown (hw _ (List.mem_of_getElem? (i := 15) rfl)) (hw _ (List.mem_of_getElem? (i := 16) rfl)) (hw _ (List.mem_of_getElem? (i := 17) rfl)) (hw _ (List.mem_of_getElem? (i := 18) rfl)) (by decide) (argsL := [(.ref ta), (.int (2 : Int32)), (.int mk), (.long q3)]) (rest := [(.int (2 : Int32)), (.ref xc)]) (rm_ch l Z a0 hw [] ta (2 : Int32) mk q3 h118 tb tn tc (S1.keep0 KB_118) tz htz cs (ST_118 _ _ _ _ SC) hcs vf hcat_vf (ST_118 _ _ _ _ SF) ht8 2 rfl) e118 (by rw [hml]; rfl) pd_15 rfl rfl (hb hby at_129) (by decide) (Nat.le_of_ble_eq_true rfl) (by decide) (by decide) ?_
        rintro T119 v119 L119 X119 ⟨x119, rfl, rfl, e119, hb119⟩
        rw [List.append_nil] at X119
        show Owes _ _ _ _ (T119.setTop (mkF m 132 #[.val (.int p0), .val (.int p1), .val (.int p2), .val (.long q3), .second, .val (.int kd), .val (.ref ta), .val (.int mk), .val (.int nI), .val (.ref xc), .unset, .unset] [(.int x119), (.int (2 : Int32)), (.ref xc)]))
        refine Owes.sC X119 hx hZ e119 GC118 (i := 2) rfl (by decide) (own_narC hb119) (hb hby at_132) ?_
        intro T120 h120 X120 e120 W120 G120
        obtain ⟨w120, GC120, h8_120⟩ := own_setC G120 h8_118 hb119
        have K_120 := K_118.wr W120 (Or.inr ge_xc)
        have ST_120 := ST_118.wr W120
        have KB_120 := KB_118.wr W120 (Or.inr ge1)
        have N120 := Fr.snoc X120 N118 gn_xc
        show Owes _ _ _ _ (T120.setTop (mkF m 133 #[.val (.int p0), .val (.int p1), .val (.int p2), .val (.long q3), .second, .val (.int kd), .val (.ref ta), .val (.int mk), .val (.int nI), .val (.ref xc), .unset, .unset] []))
        refine Owes.go ?_ fun t₀ k₀ => XS.aload X120.here hx rfl (hb hby at_133) rfl rfl k₀
        show Owes _ _ _ _ (T120.setTop (mkF m 135 #[.val (.int p0), .val (.int p1), .val (.int p2), .val (.long q3), .second, .val (.int kd), .val (.ref ta), .val (.int mk), .val (.int nI), .val (.ref xc), .unset, .unset] [(.ref xc)]))
        refine Owes.go ?_ fun t₀ k₀ => XS.iconst X120.here hx rfl (hb hby at_135) k₀
        show Owes _ _ _ _ (T120.setTop (mkF m 136 #[.val (.int p0), .val (.int p1), .val (.int p2), .val (.long q3), .second, .val (.int kd), .val (.ref ta), .val (.int mk), .val (.int nI), .val (.ref xc), .unset, .unset] [(.int (3 : Int32)), (.ref xc)]))
        refine Owes.go ?_ fun t₀ k₀ => XS.aload X120.here hx rfl (hb hby at_136) rfl rfl k₀
        show Owes _ _ _ _ (T120.setTop (mkF m 138 #[.val (.int p0), .val (.int p1), .val (.int p2), .val (.long q3), .second, .val (.int kd), .val (.ref ta), .val (.int mk), .val (.int nI), .val (.ref xc), .unset, .unset] [(.ref ta), (.int (3 : Int32)), (.ref xc)]))
        refine Owes.go ?_ fun t₀ k₀ => XS.iconst X120.here hx rfl (hb hby at_138) k₀
        show Owes _ _ _ _ (T120.setTop (mkF m 139 #[.val (.int p0), .val (.int p1), .val (.int p2), .val (.long q3), .second, .val (.int kd), .val (.ref ta), .val (.int mk), .val (.int nI), .val (.ref xc), .unset, .unset] [(.int (3 : Int32)), (.ref ta), (.int (3 : Int32)), (.ref xc)]))
        refine Owes.go ?_ fun t₀ k₀ => XS.iload X120.here hx rfl (hb hby at_139) rfl k₀
        show Owes _ _ _ _ (T120.setTop (mkF m 141 #[.val (.int p0), .val (.int p1), .val (.int p2), .val (.long q3), .second, .val (.int kd), .val (.ref ta), .val (.int mk), .val (.int nI), .val (.ref xc), .unset, .unset] [(.int mk), (.int (3 : Int32)), (.ref ta), (.int (3 : Int32)), (.ref xc)]))
        refine Owes.go ?_ fun t₀ k₀ => XS.lloadN X120.here hx rfl (hb hby at_141) rfl k₀
        show Owes _ _ _ _ (T120.setTop (mkF m 142 #[.val (.int p0), .val (.int p1), .val (.int p2), .val (.long q3), .second, .val (.int kd), .val (.ref ta), .val (.int mk), .val (.int nI), .val (.ref xc), .unset, .unset] [(.long q3), (.int mk), (.int (3 : Int32)), (.ref ta), (.int (3 : Int32)), (.ref xc)]))
        refine Owes.callS X120 hx hZ hown (hw _ (List.mem_of_getElem? (i := 15) rfl)) (hw _ (List.mem_of_getElem? (i := 16) rfl)) (hw _ (List.mem_of_getElem? (i := 17) rfl)) (hw _ (List.mem_of_getElem? (i := 18) rfl)) (by decide) (argsL := [(.ref ta), (.int (3 : Int32)), (.int mk), (.long q3)]) (rest := [(.int (3 : Int32)), (.ref xc)]) (rm_ch l Z a0 hw [] ta (3 : Int32) mk q3 h120 tb tn tc (S1.keep0 KB_120) tz htz cs (ST_120 _ _ _ _ SC) hcs vf hcat_vf (ST_120 _ _ _ _ SF) ht8 3 rfl) e120 (by rw [hml]; rfl) pd_15 rfl rfl (hb hby at_142) (by decide) (Nat.le_of_ble_eq_true rfl) (by decide) (by decide) ?_
        rintro T121 v121 L121 X121 ⟨x121, rfl, rfl, e121, hb121⟩
        rw [List.append_nil] at X121
        show Owes _ _ _ _ (T121.setTop (mkF m 145 #[.val (.int p0), .val (.int p1), .val (.int p2), .val (.long q3), .second, .val (.int kd), .val (.ref ta), .val (.int mk), .val (.int nI), .val (.ref xc), .unset, .unset] [(.int x121), (.int (3 : Int32)), (.ref xc)]))
        refine Owes.sC X121 hx hZ e121 GC120 (i := 3) rfl (by decide) (own_narC hb121) (hb hby at_145) ?_
        intro T122 h122 X122 e122 W122 G122
        obtain ⟨w122, GC122, h8_122⟩ := own_setC G122 h8_120 hb121
        have K_122 := K_120.wr W122 (Or.inr ge_xc)
        have ST_122 := ST_120.wr W122
        have KB_122 := KB_120.wr W122 (Or.inr ge1)
        have N122 := Fr.snoc X122 N120 gn_xc
        show Owes _ _ _ _ (T122.setTop (mkF m 146 #[.val (.int p0), .val (.int p1), .val (.int p2), .val (.long q3), .second, .val (.int kd), .val (.ref ta), .val (.int mk), .val (.int nI), .val (.ref xc), .unset, .unset] []))
        refine Owes.go ?_ fun t₀ k₀ => XS.aload X122.here hx rfl (hb hby at_146) rfl rfl k₀
        show Owes _ _ _ _ (T122.setTop (mkF m 148 #[.val (.int p0), .val (.int p1), .val (.int p2), .val (.long q3), .second, .val (.int kd), .val (.ref ta), .val (.int mk), .val (.int nI), .val (.ref xc), .unset, .unset] [(.ref xc)]))
        refine Owes.go ?_ fun t₀ k₀ => XS.iconst X122.here hx rfl (hb hby at_148) k₀
        show Owes _ _ _ _ (T122.setTop (mkF m 149 #[.val (.int p0), .val (.int p1), .val (.int p2), .val (.long q3), .second, .val (.int kd), .val (.ref ta), .val (.int mk), .val (.int nI), .val (.ref xc), .unset, .unset] [(.int (4 : Int32)), (.ref xc)]))
        refine Owes.go ?_ fun t₀ k₀ => XS.aload X122.here hx rfl (hb hby at_149) rfl rfl k₀
        show Owes _ _ _ _ (T122.setTop (mkF m 151 #[.val (.int p0), .val (.int p1), .val (.int p2), .val (.long q3), .second, .val (.int kd), .val (.ref ta), .val (.int mk), .val (.int nI), .val (.ref xc), .unset, .unset] [(.ref ta), (.int (4 : Int32)), (.ref xc)]))
        refine Owes.go ?_ fun t₀ k₀ => XS.iconst X122.here hx rfl (hb hby at_151) k₀
        show Owes _ _ _ _ (T122.setTop (mkF m 152 #[.val (.int p0), .val (.int p1), .val (.int p2), .val (.long q3), .second, .val (.int kd), .val (.ref ta), .val (.int mk), .val (.int nI), .val (.ref xc), .unset, .unset] [(.int (4 : Int32)), (.ref ta), (.int (4 : Int32)), (.ref xc)]))
        refine Owes.go ?_ fun t₀ k₀ => XS.iload X122.here hx rfl (hb hby at_152) rfl k₀
        show Owes _ _ _ _ (T122.setTop (mkF m 154 #[.val (.int p0), .val (.int p1), .val (.int p2), .val (.long q3), .second, .val (.int kd), .val (.ref ta), .val (.int mk), .val (.int nI), .val (.ref xc), .unset, .unset] [(.int mk), (.int (4 : Int32)), (.ref ta), (.int (4 : Int32)), (.ref xc)]))
        refine Owes.go ?_ fun t₀ k₀ => XS.lloadN X122.here hx rfl (hb hby at_154) rfl k₀
        show Owes _ _ _ _ (T122.setTop (mkF m 155 #[.val (.int p0), .val (.int p1), .val (.int p2), .val (.long q3), .second, .val (.int kd), .val (.ref ta), .val (.int mk), .val (.int nI), .val (.ref xc), .unset, .unset] [(.long q3), (.int mk), (.int (4 : Int32)), (.ref ta), (.int (4 : Int32)), (.ref xc)]))
        refine Owes.callS X122 hx hZ hown (hw _ (List.mem_of_getElem? (i := 15) rfl)) (hw _ (List.mem_of_getElem? (i := 16) rfl)) (hw _ (List.mem_of_getElem? (i := 17) rfl)) (hw _ (List.mem_of_getElem? (i := 18) rfl)) (by decide) (argsL := [(.ref ta), (.int (4 : Int32)), (.int mk), (.long q3)]) (rest := [(.int (4 : Int32)), (.ref xc)]) (rm_ch l Z a0 hw [] ta (4 : Int32) mk q3 h122 tb tn tc (S1.keep0 KB_122) tz htz cs (ST_122 _ _ _ _ SC) hcs vf hcat_vf (ST_122 _ _ _ _ SF) ht8 4 rfl) e122 (by rw [hml]; rfl) pd_15 rfl rfl (hb hby at_155) (by decide) (Nat.le_of_ble_eq_true rfl) (by decide) (by decide) ?_
        rintro T123 v123 L123 X123 ⟨x123, rfl, rfl, e123, hb123⟩
        rw [List.append_nil] at X123
        show Owes _ _ _ _ (T123.setTop (mkF m 158 #[.val (.int p0), .val (.int p1), .val (.int p2), .val (.long q3), .second, .val (.int kd), .val (.ref ta), .val (.int mk), .val (.int nI), .val (.ref xc), .unset, .unset] [(.int x123), (.int (4 : Int32)), (.ref xc)]))
        refine Owes.sC X123 hx hZ e123 GC122 (i := 4) rfl (by decide) (own_narC hb123) (hb hby at_158) ?_
        intro T124 h124 X124 e124 W124 G124
        obtain ⟨w124, GC124, h8_124⟩ := own_setC G124 h8_122 hb123
        have K_124 := K_122.wr W124 (Or.inr ge_xc)
        have ST_124 := ST_122.wr W124
        have KB_124 := KB_122.wr W124 (Or.inr ge1)
        have N124 := Fr.snoc X124 N122 gn_xc
        show Owes _ _ _ _ (T124.setTop (mkF m 159 #[.val (.int p0), .val (.int p1), .val (.int p2), .val (.long q3), .second, .val (.int kd), .val (.ref ta), .val (.int mk), .val (.int nI), .val (.ref xc), .unset, .unset] []))
        refine Owes.go ?_ fun t₀ k₀ => XS.aload X124.here hx rfl (hb hby at_159) rfl rfl k₀
        show Owes _ _ _ _ (T124.setTop (mkF m 161 #[.val (.int p0), .val (.int p1), .val (.int p2), .val (.long q3), .second, .val (.int kd), .val (.ref ta), .val (.int mk), .val (.int nI), .val (.ref xc), .unset, .unset] [(.ref xc)]))
        refine Owes.go ?_ fun t₀ k₀ => XS.iconst X124.here hx rfl (hb hby at_161) k₀
        show Owes _ _ _ _ (T124.setTop (mkF m 162 #[.val (.int p0), .val (.int p1), .val (.int p2), .val (.long q3), .second, .val (.int kd), .val (.ref ta), .val (.int mk), .val (.int nI), .val (.ref xc), .unset, .unset] [(.int (5 : Int32)), (.ref xc)]))
        refine Owes.go ?_ fun t₀ k₀ => XS.aload X124.here hx rfl (hb hby at_162) rfl rfl k₀
        show Owes _ _ _ _ (T124.setTop (mkF m 164 #[.val (.int p0), .val (.int p1), .val (.int p2), .val (.long q3), .second, .val (.int kd), .val (.ref ta), .val (.int mk), .val (.int nI), .val (.ref xc), .unset, .unset] [(.ref ta), (.int (5 : Int32)), (.ref xc)]))
        refine Owes.go ?_ fun t₀ k₀ => XS.iconst X124.here hx rfl (hb hby at_164) k₀
        show Owes _ _ _ _ (T124.setTop (mkF m 165 #[.val (.int p0), .val (.int p1), .val (.int p2), .val (.long q3), .second, .val (.int kd), .val (.ref ta), .val (.int mk), .val (.int nI), .val (.ref xc), .unset, .unset] [(.int (5 : Int32)), (.ref ta), (.int (5 : Int32)), (.ref xc)]))
        refine Owes.go ?_ fun t₀ k₀ => XS.iload X124.here hx rfl (hb hby at_165) rfl k₀
        show Owes _ _ _ _ (T124.setTop (mkF m 167 #[.val (.int p0), .val (.int p1), .val (.int p2), .val (.long q3), .second, .val (.int kd), .val (.ref ta), .val (.int mk), .val (.int nI), .val (.ref xc), .unset, .unset] [(.int mk), (.int (5 : Int32)), (.ref ta), (.int (5 : Int32)), (.ref xc)]))
        refine Owes.go ?_ fun t₀ k₀ => XS.lloadN X124.here hx rfl (hb hby at_167) rfl k₀
        show Owes _ _ _ _ (T124.setTop (mkF m 168 #[.val (.int p0), .val (.int p1), .val (.int p2), .val (.long q3), .second, .val (.int kd), .val (.ref ta), .val (.int mk), .val (.int nI), .val (.ref xc), .unset, .unset] [(.long q3), (.int mk), (.int (5 : Int32)), (.ref ta), (.int (5 : Int32)), (.ref xc)]))
        refine Owes.callS X124 hx hZ hown (hw _ (List.mem_of_getElem? (i := 15) rfl)) (hw _ (List.mem_of_getElem? (i := 16) rfl)) (hw _ (List.mem_of_getElem? (i := 17) rfl)) (hw _ (List.mem_of_getElem? (i := 18) rfl)) (by decide) (argsL := [(.ref ta), (.int (5 : Int32)), (.int mk), (.long q3)]) (rest := [(.int (5 : Int32)), (.ref xc)]) (rm_ch l Z a0 hw [] ta (5 : Int32) mk q3 h124 tb tn tc (S1.keep0 KB_124) tz htz cs (ST_124 _ _ _ _ SC) hcs vf hcat_vf (ST_124 _ _ _ _ SF) ht8 5 rfl) e124 (by rw [hml]; rfl) pd_15 rfl rfl (hb hby at_168) (by decide) (Nat.le_of_ble_eq_true rfl) (by decide) (by decide) ?_
        rintro T125 v125 L125 X125 ⟨x125, rfl, rfl, e125, hb125⟩
        rw [List.append_nil] at X125
        show Owes _ _ _ _ (T125.setTop (mkF m 171 #[.val (.int p0), .val (.int p1), .val (.int p2), .val (.long q3), .second, .val (.int kd), .val (.ref ta), .val (.int mk), .val (.int nI), .val (.ref xc), .unset, .unset] [(.int x125), (.int (5 : Int32)), (.ref xc)]))
        refine Owes.sC X125 hx hZ e125 GC124 (i := 5) rfl (by decide) (own_narC hb125) (hb hby at_171) ?_
        intro T126 h126 X126 e126 W126 G126
        obtain ⟨w126, GC126, h8_126⟩ := own_setC G126 h8_124 hb125
        have K_126 := K_124.wr W126 (Or.inr ge_xc)
        have ST_126 := ST_124.wr W126
        have KB_126 := KB_124.wr W126 (Or.inr ge1)
        have N126 := Fr.snoc X126 N124 gn_xc
        show Owes _ _ _ _ (T126.setTop (mkF m 172 #[.val (.int p0), .val (.int p1), .val (.int p2), .val (.long q3), .second, .val (.int kd), .val (.ref ta), .val (.int mk), .val (.int nI), .val (.ref xc), .unset, .unset] []))
        refine Owes.go ?_ fun t₀ k₀ => XS.aload X126.here hx rfl (hb hby at_172) rfl rfl k₀
        show Owes _ _ _ _ (T126.setTop (mkF m 174 #[.val (.int p0), .val (.int p1), .val (.int p2), .val (.long q3), .second, .val (.int kd), .val (.ref ta), .val (.int mk), .val (.int nI), .val (.ref xc), .unset, .unset] [(.ref xc)]))
        refine Owes.go ?_ fun t₀ k₀ => XS.bipush X126.here hx rfl (hb hby at_174) k₀
        show Owes _ _ _ _ (T126.setTop (mkF m 176 #[.val (.int p0), .val (.int p1), .val (.int p2), .val (.long q3), .second, .val (.int kd), .val (.ref ta), .val (.int mk), .val (.int nI), .val (.ref xc), .unset, .unset] [(.int (6 : Int32)), (.ref xc)]))
        refine Owes.go ?_ fun t₀ k₀ => XS.aload X126.here hx rfl (hb hby at_176) rfl rfl k₀
        show Owes _ _ _ _ (T126.setTop (mkF m 178 #[.val (.int p0), .val (.int p1), .val (.int p2), .val (.long q3), .second, .val (.int kd), .val (.ref ta), .val (.int mk), .val (.int nI), .val (.ref xc), .unset, .unset] [(.ref ta), (.int (6 : Int32)), (.ref xc)]))
        refine Owes.go ?_ fun t₀ k₀ => XS.bipush X126.here hx rfl (hb hby at_178) k₀
        show Owes _ _ _ _ (T126.setTop (mkF m 180 #[.val (.int p0), .val (.int p1), .val (.int p2), .val (.long q3), .second, .val (.int kd), .val (.ref ta), .val (.int mk), .val (.int nI), .val (.ref xc), .unset, .unset] [(.int (6 : Int32)), (.ref ta), (.int (6 : Int32)), (.ref xc)]))
        refine Owes.go ?_ fun t₀ k₀ => XS.iload X126.here hx rfl (hb hby at_180) rfl k₀
        show Owes _ _ _ _ (T126.setTop (mkF m 182 #[.val (.int p0), .val (.int p1), .val (.int p2), .val (.long q3), .second, .val (.int kd), .val (.ref ta), .val (.int mk), .val (.int nI), .val (.ref xc), .unset, .unset] [(.int mk), (.int (6 : Int32)), (.ref ta), (.int (6 : Int32)), (.ref xc)]))
        refine Owes.go ?_ fun t₀ k₀ => XS.lloadN X126.here hx rfl (hb hby at_182) rfl k₀
        show Owes _ _ _ _ (T126.setTop (mkF m 183 #[.val (.int p0), .val (.int p1), .val (.int p2), .val (.long q3), .second, .val (.int kd), .val (.ref ta), .val (.int mk), .val (.int nI), .val (.ref xc), .unset, .unset] [(.long q3), (.int mk), (.int (6 : Int32)), (.ref ta), (.int (6 : Int32)), (.ref xc)]))
        refine Owes.callS X126 hx hZ hown (hw _ (List.mem_of_getElem? (i := 15) rfl)) (hw _ (List.mem_of_getElem? (i := 16) rfl)) (hw _ (List.mem_of_getElem? (i := 17) rfl)) (hw _ (List.mem_of_getElem? (i := 18) rfl)) (by decide) (argsL := [(.ref ta), (.int (6 : Int32)), (.int mk), (.long q3)]) (rest := [(.int (6 : Int32)), (.ref xc)]) (rm_ch l Z a0 hw [] ta (6 : Int32) mk q3 h126 tb tn tc (S1.keep0 KB_126) tz htz cs (ST_126 _ _ _ _ SC) hcs vf hcat_vf (ST_126 _ _ _ _ SF) ht8 6 rfl) e126 (by rw [hml]; rfl) pd_15 rfl rfl (hb hby at_183) (by decide) (Nat.le_of_ble_eq_true rfl) (by decide) (by decide) ?_
        rintro T127 v127 L127 X127 ⟨x127, rfl, rfl, e127, hb127⟩
        rw [List.append_nil] at X127
        show Owes _ _ _ _ (T127.setTop (mkF m 186 #[.val (.int p0), .val (.int p1), .val (.int p2), .val (.long q3), .second, .val (.int kd), .val (.ref ta), .val (.int mk), .val (.int nI), .val (.ref xc), .unset, .unset] [(.int x127), (.int (6 : Int32)), (.ref xc)]))
        refine Owes.sC X127 hx hZ e127 GC126 (i := 6) rfl (by decide) (own_narC hb127) (hb hby at_186) ?_
        intro T128 h128 X128 e128 W128 G128
        obtain ⟨w128, GC128, h8_128⟩ := own_setC G128 h8_126 hb127
        have K_128 := K_126.wr W128 (Or.inr ge_xc)
        have ST_128 := ST_126.wr W128
        have KB_128 := KB_126.wr W128 (Or.inr ge1)
        have N128 := Fr.snoc X128 N126 gn_xc
        show Owes _ _ _ _ (T128.setTop (mkF m 187 #[.val (.int p0), .val (.int p1), .val (.int p2), .val (.long q3), .second, .val (.int kd), .val (.ref ta), .val (.int mk), .val (.int nI), .val (.ref xc), .unset, .unset] []))
        refine Owes.go ?_ fun t₀ k₀ => XS.iload X128.here hx rfl (hb hby at_187) rfl k₀
        show Owes _ _ _ _ (T128.setTop (mkF m 189 #[.val (.int p0), .val (.int p1), .val (.int p2), .val (.long q3), .second, .val (.int kd), .val (.ref ta), .val (.int mk), .val (.int nI), .val (.ref xc), .unset, .unset] [(.int kd)]))
        by_cases hc1 : kd = (0 : Int32)
        · skip
          refine Owes.go ?_ fun t₀ k₀ => XS.ifNo X128.here hx rfl (hb hby at_189) rfl ((if0 _ _).trans (teq hc1).2) k₀
          show Owes _ _ _ _ (T128.setTop (mkF m 192 #[.val (.int p0), .val (.int p1), .val (.int p2), .val (.long q3), .second, .val (.int kd), .val (.ref ta), .val (.int mk), .val (.int nI), .val (.ref xc), .unset, .unset] []))
          refine Owes.go ?_ fun t₀ k₀ => XS.aconstNull X128.here hx rfl (hb hby at_192) k₀
          show Owes _ _ _ _ (T128.setTop (mkF m 193 #[.val (.int p0), .val (.int p1), .val (.int p2), .val (.long q3), .second, .val (.int kd), .val (.ref ta), .val (.int mk), .val (.int nI), .val (.ref xc), .unset, .unset] [.null]))
          refine Owes.go ?_ fun t₀ k₀ => XS.goto X128.here hx rfl (pc0 := 193) (pc' := 203) rfl (hb hby at_193) (by decide) (by decide) k₀
          show Owes _ _ _ _ (T128.setTop (mkF m 203 #[.val (.int p0), .val (.int p1), .val (.int p2), .val (.long q3), .second, .val (.int kd), .val (.ref ta), .val (.int mk), .val (.int nI), .val (.ref xc), .unset, .unset] [.null]))
          refine Owes.go ?_ fun t₀ k₀ => XS.astore X128.here hx rfl (hb hby at_203) rfl rfl (l' := #[.val (.int p0), .val (.int p1), .val (.int p2), .val (.long q3), .second, .val (.int kd), .val (.ref ta), .val (.int mk), .val (.int nI), .val (.ref xc), .val .null, .unset]) rfl k₀
          show Owes _ _ _ _ (T128.setTop (mkF m 205 #[.val (.int p0), .val (.int p1), .val (.int p2), .val (.long q3), .second, .val (.int kd), .val (.ref ta), .val (.int mk), .val (.int nI), .val (.ref xc), .val .null, .unset] []))
          refine Owes.go ?_ fun t₀ k₀ => XS.aload X128.here hx rfl (hb hby at_205) rfl rfl k₀
          show Owes _ _ _ _ (T128.setTop (mkF m 207 #[.val (.int p0), .val (.int p1), .val (.int p2), .val (.long q3), .second, .val (.int kd), .val (.ref ta), .val (.int mk), .val (.int nI), .val (.ref xc), .val .null, .unset] [.null]))
          refine Owes.go ?_ fun t₀ k₀ => XS.ifnonnullNo X128.here hx rfl (hb hby at_207) rfl k₀
          show Owes _ _ _ _ (T128.setTop (mkF m 210 #[.val (.int p0), .val (.int p1), .val (.int p2), .val (.long q3), .second, .val (.int kd), .val (.ref ta), .val (.int mk), .val (.int nI), .val (.ref xc), .val .null, .unset] []))
          refine Owes.go ?_ fun t₀ k₀ => XS.aconstNull X128.here hx rfl (hb hby at_210) k₀
          show Owes _ _ _ _ (T128.setTop (mkF m 211 #[.val (.int p0), .val (.int p1), .val (.int p2), .val (.long q3), .second, .val (.int kd), .val (.ref ta), .val (.int mk), .val (.int nI), .val (.ref xc), .val .null, .unset] [.null]))
          refine Owes.go ?_ fun t₀ k₀ => XS.astore X128.here hx rfl (hb hby at_211) rfl rfl (l' := #[.val (.int p0), .val (.int p1), .val (.int p2), .val (.long q3), .second, .val (.int kd), .val (.ref ta), .val (.int mk), .val (.int nI), .val (.ref xc), .val .null, .val .null]) rfl k₀
          show Owes _ _ _ _ (T128.setTop (mkF m 213 #[.val (.int p0), .val (.int p1), .val (.int p2), .val (.long q3), .second, .val (.int kd), .val (.ref ta), .val (.int mk), .val (.int nI), .val (.ref xc), .val .null, .val .null] []))
          refine Owes.go ?_ fun t₀ k₀ => XS.goto X128.here hx rfl (pc0 := 213) (pc' := 273) rfl (hb hby at_213) (by decide) (by decide) k₀
          show Owes _ _ _ _ (T128.setTop (mkF m 273 #[.val (.int p0), .val (.int p1), .val (.int p2), .val (.long q3), .second, .val (.int kd), .val (.ref ta), .val (.int mk), .val (.int nI), .val (.ref xc), .val .null, .val .null] []))
          refine Owes.go ?_ fun t₀ k₀ => XS.aload X128.here hx rfl (hb hby at_273) rfl rfl k₀
          show Owes _ _ _ _ (T128.setTop (mkF m 275 #[.val (.int p0), .val (.int p1), .val (.int p2), .val (.long q3), .second, .val (.int kd), .val (.ref ta), .val (.int mk), .val (.int nI), .val (.ref xc), .val .null, .val .null] [.null]))
          refine Owes.callS X128 hx hZ hown (hw _ (List.mem_of_getElem? (i := 32) rfl)) (hw _ (List.mem_of_getElem? (i := 33) rfl)) (hw _ (List.mem_of_getElem? (i := 34) rfl)) (hw _ (List.mem_of_getElem? (i := 35) rfl)) (by decide) (argsL := [.null]) (rest := []) (rm_nmn l Z a0 hw [] h128 n0 (Nat.le_trans Z0 K_128.1) va vv (StK.of_keep K_128 _ _ _ _ SV) (EV.keep K_128) (GV.keep K_128 List.not_mem_nil) wn wb wlF wcF wzF own_wz own_wl (fun i hi => (FW i hi).keep K_128 List.not_mem_nil) (fun i hi => (SW i hi).keep0 K_128) cs (StK.of_keep K_128 _ _ _ _ SC) hcs) e128 (by rw [hml]; rfl) pd_16 rfl rfl (hb hby at_275) (by decide) (Nat.le_of_ble_eq_true rfl) (by decide) (by decide) ?_
          rintro T129 v129 L129 X129 ⟨rfl, N129, K129⟩
          have NF129 := Fr.app N128 N129
          show Owes _ _ _ _ (T129.setTop (mkF m 278 #[.val (.int p0), .val (.int p1), .val (.int p2), .val (.long q3), .second, .val (.int kd), .val (.ref ta), .val (.int mk), .val (.int nI), .val (.ref xc), .val .null, .val .null] [.null]))
          refine Owes.go ?_ fun t₀ k₀ => XS.aload X129.here hx rfl (hb hby at_278) rfl rfl k₀
          show Owes _ _ _ _ (T129.setTop (mkF m 280 #[.val (.int p0), .val (.int p1), .val (.int p2), .val (.long q3), .second, .val (.int kd), .val (.ref ta), .val (.int mk), .val (.int nI), .val (.ref xc), .val .null, .val .null] [.null, .null]))
          refine Owes.go ?_ fun t₀ k₀ => Jvm.RoadKit.acmp (g := (mkF m 280 #[.val (.int p0), .val (.int p1), .val (.int p2), .val (.long q3), .second, .val (.int kd), .val (.ref ta), .val (.int mk), .val (.int nI), .val (.ref xc), .val .null, .val .null] [.null, .null])) X129 hx rfl rfl rfl (pc0 := 280) (pc' := 283) (same := true) rfl (hb hby at_280) rfl (decide_eq_true rfl) (by decide) (by decide) k₀
          show Owes _ _ _ _ (T129.setTop (mkF m 283 #[.val (.int p0), .val (.int p1), .val (.int p2), .val (.long q3), .second, .val (.int kd), .val (.ref ta), .val (.int mk), .val (.int nI), .val (.ref xc), .val .null, .val .null] []))
          refine Owes.go ?_ fun t₀ k₀ => XS.iconst X129.here hx rfl (hb hby at_283) k₀
          show Owes _ _ _ _ (T129.setTop (mkF m 284 #[.val (.int p0), .val (.int p1), .val (.int p2), .val (.long q3), .second, .val (.int kd), .val (.ref ta), .val (.int mk), .val (.int nI), .val (.ref xc), .val .null, .val .null] [(.int (1 : Int32))]))
          refine Owes.go ?_ fun t₀ k₀ => XS.goto X129.here hx rfl (pc0 := 284) (pc' := 288) rfl (hb hby at_284) (by decide) (by decide) k₀
          show Owes _ _ _ _ (T129.setTop (mkF m 288 #[.val (.int p0), .val (.int p1), .val (.int p2), .val (.long q3), .second, .val (.int kd), .val (.ref ta), .val (.int mk), .val (.int nI), .val (.ref xc), .val .null, .val .null] [(.int (1 : Int32))]))
          exact Owes.retNX X129 hZ hEL rfl (((hC1.keep KB_128 (fun x hx => absurd hx List.not_mem_nil))).keep K129 (fun x hx => absurd hx List.not_mem_nil)) hS1 (Nat.le_trans (Nat.le_trans hk1 KB_128.1) K129.1) hx hlk hret (by simp) (hb hby at_288) (by decide) (by decide) ⟨rfl, NF129⟩
        · skip
          refine Owes.go ?_ fun t₀ k₀ => XS.ifYes X128.here hx rfl (pc0 := 189) (pc' := 196) rfl (hb hby at_189) rfl ((if0 _ _).trans (feq hc1).2) (by decide) (by decide) k₀
          show Owes _ _ _ _ (T128.setTop (mkF m 196 #[.val (.int p0), .val (.int p1), .val (.int p2), .val (.long q3), .second, .val (.int kd), .val (.ref ta), .val (.int mk), .val (.int nI), .val (.ref xc), .unset, .unset] []))
          refine Owes.go ?_ fun t₀ k₀ => XS.aload X128.here hx rfl (hb hby at_196) rfl rfl k₀
          show Owes _ _ _ _ (T128.setTop (mkF m 198 #[.val (.int p0), .val (.int p1), .val (.int p2), .val (.long q3), .second, .val (.int kd), .val (.ref ta), .val (.int mk), .val (.int nI), .val (.ref xc), .unset, .unset] [(.ref xc)]))
          refine Owes.go ?_ fun t₀ k₀ => XS.iload X128.here hx rfl (hb hby at_198) rfl k₀
          show Owes _ _ _ _ (T128.setTop (mkF m 200 #[.val (.int p0), .val (.int p1), .val (.int p2), .val (.long q3), .second, .val (.int kd), .val (.ref ta), .val (.int mk), .val (.int nI), .val (.ref xc), .unset, .unset] [(.int nI), (.ref xc)]))
          refine Owes.callSX (xs := []) X128 hx hZ hEL (hC1.keep KB_128 (fun x hx => absurd hx List.not_mem_nil)) hS1 (Nat.le_trans hk1 KB_128.1) hown (hw _ (List.mem_of_getElem? (i := 60) rfl)) (hw _ (List.mem_of_getElem? (i := 61) rfl)) (hw _ (List.mem_of_getElem? (i := 17) rfl)) (hw _ (List.mem_of_getElem? (i := 62) rfl)) (by decide) (argsL := [(.ref xc), (.int nI)]) (rest := []) (rm_cut l Z a0 hw hEL [] xc nI h128 n0 (Nat.le_trans Z0 K_128.1) w128 GC128 h8_128 cs (ST_128 _ _ _ _ SC) hcs) e128 (by rw [hml]; rfl) pd_17 rfl rfl (hb hby at_200) (by decide) (Nat.le_of_ble_eq_true rfl) (by decide) (by decide) ?_
          rintro T130 _ L130 X130 hS130 hg130 hZ hown hC130 ⟨rn, bn, kn, rfl, N130, Kc, STc, SP, hk7⟩
          have NF130 := Fr.app N128 N130
          have K_130 := K_128.trans Kc (fun x hx => absurd hx List.not_mem_nil)
          have hkz : (Int32.ofNat kn).toInt = (kn : Int) := own_ofNat (by omega)
          show Owes _ _ _ _ (T130.setTop (mkF m 203 #[.val (.int p0), .val (.int p1), .val (.int p2), .val (.long q3), .second, .val (.int kd), .val (.ref ta), .val (.int mk), .val (.int nI), .val (.ref xc), .unset, .unset] [(.ref rn)]))
          refine Owes.go ?_ fun t₀ k₀ => XS.astore X130.here hx rfl (hb hby at_203) rfl rfl (l' := #[.val (.int p0), .val (.int p1), .val (.int p2), .val (.long q3), .second, .val (.int kd), .val (.ref ta), .val (.int mk), .val (.int nI), .val (.ref xc), .val (.ref rn), .unset]) rfl k₀
          show Owes _ _ _ _ (T130.setTop (mkF m 205 #[.val (.int p0), .val (.int p1), .val (.int p2), .val (.long q3), .second, .val (.int kd), .val (.ref ta), .val (.int mk), .val (.int nI), .val (.ref xc), .val (.ref rn), .unset] []))
          refine Owes.go ?_ fun t₀ k₀ => XS.aload X130.here hx rfl (hb hby at_205) rfl rfl k₀
          show Owes _ _ _ _ (T130.setTop (mkF m 207 #[.val (.int p0), .val (.int p1), .val (.int p2), .val (.long q3), .second, .val (.int kd), .val (.ref ta), .val (.int mk), .val (.int nI), .val (.ref xc), .val (.ref rn), .unset] [(.ref rn)]))
          refine Owes.go ?_ fun t₀ k₀ => XS.ifnonnullYes X130.here hx rfl (pc0 := 207) (pc' := 216) rfl (hb hby at_207) rfl (by decide) (by decide) k₀
          show Owes _ _ _ _ (T130.setTop (mkF m 216 #[.val (.int p0), .val (.int p1), .val (.int p2), .val (.long q3), .second, .val (.int kd), .val (.ref ta), .val (.int mk), .val (.int nI), .val (.ref xc), .val (.ref rn), .unset] []))
          refine Owes.go ?_ fun t₀ k₀ => XS.aload X130.here hx rfl (hb hby at_216) rfl rfl k₀
          show Owes _ _ _ _ (T130.setTop (mkF m 218 #[.val (.int p0), .val (.int p1), .val (.int p2), .val (.long q3), .second, .val (.int kd), .val (.ref ta), .val (.int mk), .val (.int nI), .val (.ref xc), .val (.ref rn), .unset] [(.ref rn)]))
          refine Owes.ldcX X130 hx hZ hown (hw _ (List.mem_of_getElem? (i := 84) rfl)) (own_wS Z a0 hw) rfl hS130 (Nat.le_refl _) hEL (List.mem_of_getElem? (i := 0) rfl) hC130 (z := 5) ⟨by decide, rfl⟩ (by decide) (by decide) (hb hby at_218) (n := 24) (by decide) (by decide) (by decide) (by decide) ?_
          intro aS131 T131 h131 k131 bS131 kc131 X131 e131 ES131 hS131 hk131 hZ hown EA131 FCo131 FVa131 AV131 hC131
          have SS131 : STR Z h131 aS131 bS131 5 cW := ⟨EA131, FCo131, FVa131, GA.congr (own_arvga (n := 5) AV131 rfl) fun i hi => by
            rcases (show i = 0 ∨ i = 1 ∨ i = 2 ∨ i = 3 ∨ i = 4 by omega) with rfl | rfl | rfl | rfl | rfl <;> decide +kernel⟩
          have K_131 := K_130.ext ES131
          have SP131 := SP.ext ES131
          show Owes _ _ _ _ (T131.setTop (mkF m 220 #[.val (.int p0), .val (.int p1), .val (.int p2), .val (.long q3), .second, .val (.int kd), .val (.ref ta), .val (.int mk), .val (.int nI), .val (.ref xc), .val (.ref rn), .unset] [(.ref aS131), (.ref rn)]))
          refine Owes.callV X131 hx hZ hown (hw _ (List.mem_of_getElem? (i := 85) rfl)) (hw _ (List.mem_of_getElem? (i := 54) rfl)) (notFace_of_selects (args := #[]) (mvT hZ (hw _ (List.mem_of_getElem? (i := 56) rfl)))) (hw _ (List.mem_of_getElem? (i := 56) rfl)) (hw _ (List.mem_of_getElem? (i := 55) rfl)) (hw _ (List.mem_of_getElem? (i := 1) rfl)) (hw _ (List.mem_of_getElem? (i := 57) rfl)) (by decide) (a := rn) (argsL := [(.ref aS131)]) (rest := []) (rm_eqs l Z a0 hw [] rn aS131 h131 bn kn w128 SP131 (Int32.ofNat kn) hkz cs (StK.of_keep K_131 _ _ _ _ SC) hcs bS131 5 cW SS131 5 rfl (by omega)) e131 SP131.1 (by rw [hml]; rfl) pd_14 rfl rfl (hb hby at_220) (by decide) (Nat.le_of_ble_eq_true rfl) (by decide) (by decide) ?_
          rintro T132 _ _ X132 ⟨rfl, rfl, e132⟩
          rw [List.append_nil] at X132
          show Owes _ _ _ _ (T132.setTop (mkF m 223 #[.val (.int p0), .val (.int p1), .val (.int p2), .val (.long q3), .second, .val (.int kd), .val (.ref ta), .val (.int mk), .val (.int nI), .val (.ref xc), .val (.ref rn), .unset] [(.int (eqv kn 5 (by8 w128) (by8 cW)))]))
          by_cases hc2 : (eqv kn 5 (by8 w128) (by8 cW)) = (0 : Int32)
          · skip
            refine Owes.go ?_ fun t₀ k₀ => XS.ifYes X132.here hx rfl (pc0 := 223) (pc' := 234) rfl (hb hby at_223) rfl ((if0 _ _).trans (teq hc2).1) (by decide) (by decide) k₀
            show Owes _ _ _ _ (T132.setTop (mkF m 234 #[.val (.int p0), .val (.int p1), .val (.int p2), .val (.long q3), .second, .val (.int kd), .val (.ref ta), .val (.int mk), .val (.int nI), .val (.ref xc), .val (.ref rn), .unset] []))
            refine Owes.go ?_ fun t₀ k₀ => XS.aload X132.here hx rfl (hb hby at_234) rfl rfl k₀
            show Owes _ _ _ _ (T132.setTop (mkF m 236 #[.val (.int p0), .val (.int p1), .val (.int p2), .val (.long q3), .second, .val (.int kd), .val (.ref ta), .val (.int mk), .val (.int nI), .val (.ref xc), .val (.ref rn), .unset] [(.ref rn)]))
            refine Owes.ldcX X132 hx hZ hown (hw _ (List.mem_of_getElem? (i := 91) rfl)) (own_wS Z a0 hw) e132 hS131 hk131 hEL (List.mem_of_getElem? (i := 1) rfl) hC131 (z := 2) ⟨by decide, rfl⟩ (by decide) (by decide) (hb hby at_236) (n := 24) (by decide) (by decide) (by decide) (by decide) ?_
            intro aS133 T133 h133 k133 bS133 kc133 X133 e133 ES133 hS133 hk133 hZ hown EA133 FCo133 FVa133 AV133 hC133
            have SS133 : STR Z h133 aS133 bS133 2 cI := ⟨EA133, FCo133, FVa133, GA.congr (own_arvga (n := 2) AV133 rfl) fun i hi => by
              rcases (show i = 0 ∨ i = 1 by omega) with rfl | rfl <;> decide +kernel⟩
            have K_133 := K_131.ext ES133
            have SP133 := SP131.ext ES133
            show Owes _ _ _ _ (T133.setTop (mkF m 238 #[.val (.int p0), .val (.int p1), .val (.int p2), .val (.long q3), .second, .val (.int kd), .val (.ref ta), .val (.int mk), .val (.int nI), .val (.ref xc), .val (.ref rn), .unset] [(.ref aS133), (.ref rn)]))
            refine Owes.callV X133 hx hZ hown (hw _ (List.mem_of_getElem? (i := 85) rfl)) (hw _ (List.mem_of_getElem? (i := 54) rfl)) (notFace_of_selects (args := #[]) (mvT hZ (hw _ (List.mem_of_getElem? (i := 56) rfl)))) (hw _ (List.mem_of_getElem? (i := 56) rfl)) (hw _ (List.mem_of_getElem? (i := 55) rfl)) (hw _ (List.mem_of_getElem? (i := 1) rfl)) (hw _ (List.mem_of_getElem? (i := 57) rfl)) (by decide) (a := rn) (argsL := [(.ref aS133)]) (rest := []) (rm_eqs l Z a0 hw [] rn aS133 h133 bn kn w128 SP133 (Int32.ofNat kn) hkz cs (StK.of_keep K_133 _ _ _ _ SC) hcs bS133 2 cI SS133 2 rfl (by omega)) e133 SP133.1 (by rw [hml]; rfl) pd_14 rfl rfl (hb hby at_238) (by decide) (Nat.le_of_ble_eq_true rfl) (by decide) (by decide) ?_
            rintro T134 _ _ X134 ⟨rfl, rfl, e134⟩
            rw [List.append_nil] at X134
            show Owes _ _ _ _ (T134.setTop (mkF m 241 #[.val (.int p0), .val (.int p1), .val (.int p2), .val (.long q3), .second, .val (.int kd), .val (.ref ta), .val (.int mk), .val (.int nI), .val (.ref xc), .val (.ref rn), .unset] [(.int (eqv kn 2 (by8 w128) (by8 cI)))]))
            by_cases hc3 : (eqv kn 2 (by8 w128) (by8 cI)) = (0 : Int32)
            · skip
              refine Owes.go ?_ fun t₀ k₀ => XS.ifYes X134.here hx rfl (pc0 := 241) (pc' := 252) rfl (hb hby at_241) rfl ((if0 _ _).trans (teq hc3).1) (by decide) (by decide) k₀
              show Owes _ _ _ _ (T134.setTop (mkF m 252 #[.val (.int p0), .val (.int p1), .val (.int p2), .val (.long q3), .second, .val (.int kd), .val (.ref ta), .val (.int mk), .val (.int nI), .val (.ref xc), .val (.ref rn), .unset] []))
              refine Owes.go ?_ fun t₀ k₀ => XS.aload X134.here hx rfl (hb hby at_252) rfl rfl k₀
              show Owes _ _ _ _ (T134.setTop (mkF m 254 #[.val (.int p0), .val (.int p1), .val (.int p2), .val (.long q3), .second, .val (.int kd), .val (.ref ta), .val (.int mk), .val (.int nI), .val (.ref xc), .val (.ref rn), .unset] [(.ref rn)]))
              refine Owes.ldcX X134 hx hZ hown (hw _ (List.mem_of_getElem? (i := 92) rfl)) (own_wS Z a0 hw) e134 hS133 hk133 hEL (List.mem_of_getElem? (i := 2) rfl) hC133 (z := 6) ⟨by decide, rfl⟩ (by decide) (by decide) (hb hby at_254) (n := 24) (by decide) (by decide) (by decide) (by decide) ?_
              intro aS135 T135 h135 k135 bS135 kc135 X135 e135 ES135 hS135 hk135 hZ hown EA135 FCo135 FVa135 AV135 hC135
              have SS135 : STR Z h135 aS135 bS135 6 cD := ⟨EA135, FCo135, FVa135, GA.congr (own_arvga (n := 6) AV135 rfl) fun i hi => by
                rcases (show i = 0 ∨ i = 1 ∨ i = 2 ∨ i = 3 ∨ i = 4 ∨ i = 5 by omega) with rfl | rfl | rfl | rfl | rfl | rfl <;> decide +kernel⟩
              have K_135 := K_133.ext ES135
              have SP135 := SP133.ext ES135
              show Owes _ _ _ _ (T135.setTop (mkF m 256 #[.val (.int p0), .val (.int p1), .val (.int p2), .val (.long q3), .second, .val (.int kd), .val (.ref ta), .val (.int mk), .val (.int nI), .val (.ref xc), .val (.ref rn), .unset] [(.ref aS135), (.ref rn)]))
              refine Owes.callV X135 hx hZ hown (hw _ (List.mem_of_getElem? (i := 85) rfl)) (hw _ (List.mem_of_getElem? (i := 54) rfl)) (notFace_of_selects (args := #[]) (mvT hZ (hw _ (List.mem_of_getElem? (i := 56) rfl)))) (hw _ (List.mem_of_getElem? (i := 56) rfl)) (hw _ (List.mem_of_getElem? (i := 55) rfl)) (hw _ (List.mem_of_getElem? (i := 1) rfl)) (hw _ (List.mem_of_getElem? (i := 57) rfl)) (by decide) (a := rn) (argsL := [(.ref aS135)]) (rest := []) (rm_eqs l Z a0 hw [] rn aS135 h135 bn kn w128 SP135 (Int32.ofNat kn) hkz cs (StK.of_keep K_135 _ _ _ _ SC) hcs bS135 6 cD SS135 6 rfl (by omega)) e135 SP135.1 (by rw [hml]; rfl) pd_14 rfl rfl (hb hby at_256) (by decide) (Nat.le_of_ble_eq_true rfl) (by decide) (by decide) ?_
              rintro T136 _ _ X136 ⟨rfl, rfl, e136⟩
              rw [List.append_nil] at X136
              show Owes _ _ _ _ (T136.setTop (mkF m 259 #[.val (.int p0), .val (.int p1), .val (.int p2), .val (.long q3), .second, .val (.int kd), .val (.ref ta), .val (.int mk), .val (.int nI), .val (.ref xc), .val (.ref rn), .unset] [(.int (eqv kn 6 (by8 w128) (by8 cD)))]))
              by_cases hc4 : (eqv kn 6 (by8 w128) (by8 cD)) = (0 : Int32)
              · skip
                refine Owes.go ?_ fun t₀ k₀ => XS.ifYes X136.here hx rfl (pc0 := 259) (pc' := 270) rfl (hb hby at_259) rfl ((if0 _ _).trans (teq hc4).1) (by decide) (by decide) k₀
                show Owes _ _ _ _ (T136.setTop (mkF m 270 #[.val (.int p0), .val (.int p1), .val (.int p2), .val (.long q3), .second, .val (.int kd), .val (.ref ta), .val (.int mk), .val (.int nI), .val (.ref xc), .val (.ref rn), .unset] []))
                refine Owes.go ?_ fun t₀ k₀ => XS.aconstNull X136.here hx rfl (hb hby at_270) k₀
                show Owes _ _ _ _ (T136.setTop (mkF m 271 #[.val (.int p0), .val (.int p1), .val (.int p2), .val (.long q3), .second, .val (.int kd), .val (.ref ta), .val (.int mk), .val (.int nI), .val (.ref xc), .val (.ref rn), .unset] [.null]))
                refine Owes.go ?_ fun t₀ k₀ => XS.astore X136.here hx rfl (hb hby at_271) rfl rfl (l' := #[.val (.int p0), .val (.int p1), .val (.int p2), .val (.long q3), .second, .val (.int kd), .val (.ref ta), .val (.int mk), .val (.int nI), .val (.ref xc), .val (.ref rn), .val .null]) rfl k₀
                show Owes _ _ _ _ (T136.setTop (mkF m 273 #[.val (.int p0), .val (.int p1), .val (.int p2), .val (.long q3), .second, .val (.int kd), .val (.ref ta), .val (.int mk), .val (.int nI), .val (.ref xc), .val (.ref rn), .val .null] []))
                refine Owes.go ?_ fun t₀ k₀ => XS.aload X136.here hx rfl (hb hby at_273) rfl rfl k₀
                show Owes _ _ _ _ (T136.setTop (mkF m 275 #[.val (.int p0), .val (.int p1), .val (.int p2), .val (.long q3), .second, .val (.int kd), .val (.ref ta), .val (.int mk), .val (.int nI), .val (.ref xc), .val (.ref rn), .val .null] [(.ref rn)]))
                refine Owes.callS X136 hx hZ hown (hw _ (List.mem_of_getElem? (i := 32) rfl)) (hw _ (List.mem_of_getElem? (i := 33) rfl)) (hw _ (List.mem_of_getElem? (i := 34) rfl)) (hw _ (List.mem_of_getElem? (i := 35) rfl)) (by decide) (argsL := [(.ref rn)]) (rest := []) (rm_nms l Z a0 hw [] rn h135 n0 (Nat.le_trans Z0 K_135.1) va vv (StK.of_keep K_135 _ _ _ _ SV) (EV.keep K_135) (GV.keep K_135 List.not_mem_nil) wn wb wlF wcF wzF own_wz own_wl (fun i hi => (FW i hi).keep K_135 List.not_mem_nil) (fun i hi => (SW i hi).keep0 K_135) cs (StK.of_keep K_135 _ _ _ _ SC) hcs bn kn w128 SP135 (Int32.ofNat kn) hkz) e136 (by rw [hml]; rfl) pd_16 rfl rfl (hb hby at_275) (by decide) (Nat.le_of_ble_eq_true rfl) (by decide) (by decide) ?_
                rintro T137 v137 L137 X137 ⟨rfl, N137, K137⟩
                have NF137 := Fr.app NF130 N137
                show Owes _ _ _ _ (T137.setTop (mkF m 278 #[.val (.int p0), .val (.int p1), .val (.int p2), .val (.long q3), .second, .val (.int kd), .val (.ref ta), .val (.int mk), .val (.int nI), .val (.ref xc), .val (.ref rn), .val .null] [(nmd (eqv (wlF 0) kn (by8 (wcF 0)) (by8 w128)) (eqv (wlF 1) kn (by8 (wcF 1)) (by8 w128)) (eqv (wlF 2) kn (by8 (wcF 2)) (by8 w128)) (vv 0) (vv 1) (vv 2))]))
                rw [own_nm3 hc2 hc3 hc4]
                show Owes _ _ _ _ (T137.setTop (mkF m 278 #[.val (.int p0), .val (.int p1), .val (.int p2), .val (.long q3), .second, .val (.int kd), .val (.ref ta), .val (.int mk), .val (.int nI), .val (.ref xc), .val (.ref rn), .val .null] [.null]))
                refine Owes.go ?_ fun t₀ k₀ => XS.aload X137.here hx rfl (hb hby at_278) rfl rfl k₀
                show Owes _ _ _ _ (T137.setTop (mkF m 280 #[.val (.int p0), .val (.int p1), .val (.int p2), .val (.long q3), .second, .val (.int kd), .val (.ref ta), .val (.int mk), .val (.int nI), .val (.ref xc), .val (.ref rn), .val .null] [.null, .null]))
                refine Owes.go ?_ fun t₀ k₀ => Jvm.RoadKit.acmp (g := (mkF m 280 #[.val (.int p0), .val (.int p1), .val (.int p2), .val (.long q3), .second, .val (.int kd), .val (.ref ta), .val (.int mk), .val (.int nI), .val (.ref xc), .val (.ref rn), .val .null] [.null, .null])) X137 hx rfl rfl rfl (pc0 := 280) (pc' := 283) (same := true) rfl (hb hby at_280) rfl (decide_eq_true rfl) (by decide) (by decide) k₀
                show Owes _ _ _ _ (T137.setTop (mkF m 283 #[.val (.int p0), .val (.int p1), .val (.int p2), .val (.long q3), .second, .val (.int kd), .val (.ref ta), .val (.int mk), .val (.int nI), .val (.ref xc), .val (.ref rn), .val .null] []))
                refine Owes.go ?_ fun t₀ k₀ => XS.iconst X137.here hx rfl (hb hby at_283) k₀
                show Owes _ _ _ _ (T137.setTop (mkF m 284 #[.val (.int p0), .val (.int p1), .val (.int p2), .val (.long q3), .second, .val (.int kd), .val (.ref ta), .val (.int mk), .val (.int nI), .val (.ref xc), .val (.ref rn), .val .null] [(.int (1 : Int32))]))
                refine Owes.go ?_ fun t₀ k₀ => XS.goto X137.here hx rfl (pc0 := 284) (pc' := 288) rfl (hb hby at_284) (by decide) (by decide) k₀
                show Owes _ _ _ _ (T137.setTop (mkF m 288 #[.val (.int p0), .val (.int p1), .val (.int p2), .val (.long q3), .second, .val (.int kd), .val (.ref ta), .val (.int mk), .val (.int nI), .val (.ref xc), .val (.ref rn), .val .null] [(.int (1 : Int32))]))
                exact Owes.retNX X137 hZ hEL rfl ((hC135).keep K137 (fun x hx => absurd hx List.not_mem_nil)) hS135 (Nat.le_trans hk135 K137.1) hx hlk hret (by simp) (hb hby at_288) (by decide) (by decide) ⟨rfl, NF137⟩
              · skip
                refine Owes.go ?_ fun t₀ k₀ => XS.ifNo X136.here hx rfl (hb hby at_259) rfl ((if0 _ _).trans (feq hc4).1) k₀
                show Owes _ _ _ _ (T136.setTop (mkF m 262 #[.val (.int p0), .val (.int p1), .val (.int p2), .val (.long q3), .second, .val (.int kd), .val (.ref ta), .val (.int mk), .val (.int nI), .val (.ref xc), .val (.ref rn), .unset] []))
                obtain ⟨T138, X138, e138, st138⟩ := getS2 X136 hx hZ hown (host := "") (Or.inl (hw _ (List.mem_of_getElem? (i := 116) rfl))) Via.refl e136 (StK.of_keep K_135 _ _ _ _ S_2) (g := (mkF m 262 #[.val (.int p0), .val (.int p1), .val (.int p2), .val (.long q3), .second, .val (.int kd), .val (.ref ta), .val (.int mk), .val (.int nI), .val (.ref xc), .val (.ref rn), .unset] [])) rfl (hb hby at_262)
                refine Owes.go ?_ st138
                show Owes _ _ _ _ (T138.setTop (mkF m 265 #[.val (.int p0), .val (.int p1), .val (.int p2), .val (.long q3), .second, .val (.int kd), .val (.ref ta), .val (.int mk), .val (.int nI), .val (.ref xc), .val (.ref rn), .unset] [(.ref (vv 2))]))
                refine Owes.go ?_ fun t₀ k₀ => XS.astore X138.here hx rfl (hb hby at_265) rfl rfl (l' := #[.val (.int p0), .val (.int p1), .val (.int p2), .val (.long q3), .second, .val (.int kd), .val (.ref ta), .val (.int mk), .val (.int nI), .val (.ref xc), .val (.ref rn), .val (.ref (vv 2))]) rfl k₀
                show Owes _ _ _ _ (T138.setTop (mkF m 267 #[.val (.int p0), .val (.int p1), .val (.int p2), .val (.long q3), .second, .val (.int kd), .val (.ref ta), .val (.int mk), .val (.int nI), .val (.ref xc), .val (.ref rn), .val (.ref (vv 2))] []))
                refine Owes.go ?_ fun t₀ k₀ => XS.goto X138.here hx rfl (pc0 := 267) (pc' := 273) rfl (hb hby at_267) (by decide) (by decide) k₀
                show Owes _ _ _ _ (T138.setTop (mkF m 273 #[.val (.int p0), .val (.int p1), .val (.int p2), .val (.long q3), .second, .val (.int kd), .val (.ref ta), .val (.int mk), .val (.int nI), .val (.ref xc), .val (.ref rn), .val (.ref (vv 2))] []))
                refine Owes.go ?_ fun t₀ k₀ => XS.aload X138.here hx rfl (hb hby at_273) rfl rfl k₀
                show Owes _ _ _ _ (T138.setTop (mkF m 275 #[.val (.int p0), .val (.int p1), .val (.int p2), .val (.long q3), .second, .val (.int kd), .val (.ref ta), .val (.int mk), .val (.int nI), .val (.ref xc), .val (.ref rn), .val (.ref (vv 2))] [(.ref rn)]))
                refine Owes.callS X138 hx hZ hown (hw _ (List.mem_of_getElem? (i := 32) rfl)) (hw _ (List.mem_of_getElem? (i := 33) rfl)) (hw _ (List.mem_of_getElem? (i := 34) rfl)) (hw _ (List.mem_of_getElem? (i := 35) rfl)) (by decide) (argsL := [(.ref rn)]) (rest := []) (rm_nms l Z a0 hw [] rn h135 n0 (Nat.le_trans Z0 K_135.1) va vv (StK.of_keep K_135 _ _ _ _ SV) (EV.keep K_135) (GV.keep K_135 List.not_mem_nil) wn wb wlF wcF wzF own_wz own_wl (fun i hi => (FW i hi).keep K_135 List.not_mem_nil) (fun i hi => (SW i hi).keep0 K_135) cs (StK.of_keep K_135 _ _ _ _ SC) hcs bn kn w128 SP135 (Int32.ofNat kn) hkz) e138 (by rw [hml]; rfl) pd_16 rfl rfl (hb hby at_275) (by decide) (Nat.le_of_ble_eq_true rfl) (by decide) (by decide) ?_
                rintro T139 v139 L139 X139 ⟨rfl, N139, K139⟩
                have NF139 := Fr.app NF130 N139
                show Owes _ _ _ _ (T139.setTop (mkF m 278 #[.val (.int p0), .val (.int p1), .val (.int p2), .val (.long q3), .second, .val (.int kd), .val (.ref ta), .val (.int mk), .val (.int nI), .val (.ref xc), .val (.ref rn), .val (.ref (vv 2))] [(nmd (eqv (wlF 0) kn (by8 (wcF 0)) (by8 w128)) (eqv (wlF 1) kn (by8 (wcF 1)) (by8 w128)) (eqv (wlF 2) kn (by8 (wcF 2)) (by8 w128)) (vv 0) (vv 1) (vv 2))]))
                rw [own_nm2 hc2 hc3 hc4]
                show Owes _ _ _ _ (T139.setTop (mkF m 278 #[.val (.int p0), .val (.int p1), .val (.int p2), .val (.long q3), .second, .val (.int kd), .val (.ref ta), .val (.int mk), .val (.int nI), .val (.ref xc), .val (.ref rn), .val (.ref (vv 2))] [(.ref (vv 2))]))
                refine Owes.go ?_ fun t₀ k₀ => XS.aload X139.here hx rfl (hb hby at_278) rfl rfl k₀
                show Owes _ _ _ _ (T139.setTop (mkF m 280 #[.val (.int p0), .val (.int p1), .val (.int p2), .val (.long q3), .second, .val (.int kd), .val (.ref ta), .val (.int mk), .val (.int nI), .val (.ref xc), .val (.ref rn), .val (.ref (vv 2))] [(.ref (vv 2)), (.ref (vv 2))]))
                refine Owes.go ?_ fun t₀ k₀ => Jvm.RoadKit.acmp (g := (mkF m 280 #[.val (.int p0), .val (.int p1), .val (.int p2), .val (.long q3), .second, .val (.int kd), .val (.ref ta), .val (.int mk), .val (.int nI), .val (.ref xc), .val (.ref rn), .val (.ref (vv 2))] [(.ref (vv 2)), (.ref (vv 2))])) X139 hx rfl rfl rfl (pc0 := 280) (pc' := 283) (same := true) rfl (hb hby at_280) rfl (decide_eq_true rfl) (by decide) (by decide) k₀
                show Owes _ _ _ _ (T139.setTop (mkF m 283 #[.val (.int p0), .val (.int p1), .val (.int p2), .val (.long q3), .second, .val (.int kd), .val (.ref ta), .val (.int mk), .val (.int nI), .val (.ref xc), .val (.ref rn), .val (.ref (vv 2))] []))
                refine Owes.go ?_ fun t₀ k₀ => XS.iconst X139.here hx rfl (hb hby at_283) k₀
                show Owes _ _ _ _ (T139.setTop (mkF m 284 #[.val (.int p0), .val (.int p1), .val (.int p2), .val (.long q3), .second, .val (.int kd), .val (.ref ta), .val (.int mk), .val (.int nI), .val (.ref xc), .val (.ref rn), .val (.ref (vv 2))] [(.int (1 : Int32))]))
                refine Owes.go ?_ fun t₀ k₀ => XS.goto X139.here hx rfl (pc0 := 284) (pc' := 288) rfl (hb hby at_284) (by decide) (by decide) k₀
                show Owes _ _ _ _ (T139.setTop (mkF m 288 #[.val (.int p0), .val (.int p1), .val (.int p2), .val (.long q3), .second, .val (.int kd), .val (.ref ta), .val (.int mk), .val (.int nI), .val (.ref xc), .val (.ref rn), .val (.ref (vv 2))] [(.int (1 : Int32))]))
                exact Owes.retNX X139 hZ hEL rfl ((hC135).keep K139 (fun x hx => absurd hx List.not_mem_nil)) hS135 (Nat.le_trans hk135 K139.1) hx hlk hret (by simp) (hb hby at_288) (by decide) (by decide) ⟨rfl, NF139⟩
            · skip
              refine Owes.go ?_ fun t₀ k₀ => XS.ifNo X134.here hx rfl (hb hby at_241) rfl ((if0 _ _).trans (feq hc3).1) k₀
              show Owes _ _ _ _ (T134.setTop (mkF m 244 #[.val (.int p0), .val (.int p1), .val (.int p2), .val (.long q3), .second, .val (.int kd), .val (.ref ta), .val (.int mk), .val (.int nI), .val (.ref xc), .val (.ref rn), .unset] []))
              obtain ⟨T140, X140, e140, st140⟩ := getS2 X134 hx hZ hown (host := "") (Or.inl (hw _ (List.mem_of_getElem? (i := 114) rfl))) Via.refl e134 (StK.of_keep K_133 _ _ _ _ S_1) (g := (mkF m 244 #[.val (.int p0), .val (.int p1), .val (.int p2), .val (.long q3), .second, .val (.int kd), .val (.ref ta), .val (.int mk), .val (.int nI), .val (.ref xc), .val (.ref rn), .unset] [])) rfl (hb hby at_244)
              refine Owes.go ?_ st140
              show Owes _ _ _ _ (T140.setTop (mkF m 247 #[.val (.int p0), .val (.int p1), .val (.int p2), .val (.long q3), .second, .val (.int kd), .val (.ref ta), .val (.int mk), .val (.int nI), .val (.ref xc), .val (.ref rn), .unset] [(.ref (vv 1))]))
              refine Owes.go ?_ fun t₀ k₀ => XS.astore X140.here hx rfl (hb hby at_247) rfl rfl (l' := #[.val (.int p0), .val (.int p1), .val (.int p2), .val (.long q3), .second, .val (.int kd), .val (.ref ta), .val (.int mk), .val (.int nI), .val (.ref xc), .val (.ref rn), .val (.ref (vv 1))]) rfl k₀
              show Owes _ _ _ _ (T140.setTop (mkF m 249 #[.val (.int p0), .val (.int p1), .val (.int p2), .val (.long q3), .second, .val (.int kd), .val (.ref ta), .val (.int mk), .val (.int nI), .val (.ref xc), .val (.ref rn), .val (.ref (vv 1))] []))
              refine Owes.go ?_ fun t₀ k₀ => XS.goto X140.here hx rfl (pc0 := 249) (pc' := 273) rfl (hb hby at_249) (by decide) (by decide) k₀
              show Owes _ _ _ _ (T140.setTop (mkF m 273 #[.val (.int p0), .val (.int p1), .val (.int p2), .val (.long q3), .second, .val (.int kd), .val (.ref ta), .val (.int mk), .val (.int nI), .val (.ref xc), .val (.ref rn), .val (.ref (vv 1))] []))
              refine Owes.go ?_ fun t₀ k₀ => XS.aload X140.here hx rfl (hb hby at_273) rfl rfl k₀
              show Owes _ _ _ _ (T140.setTop (mkF m 275 #[.val (.int p0), .val (.int p1), .val (.int p2), .val (.long q3), .second, .val (.int kd), .val (.ref ta), .val (.int mk), .val (.int nI), .val (.ref xc), .val (.ref rn), .val (.ref (vv 1))] [(.ref rn)]))
              refine Owes.callS X140 hx hZ hown (hw _ (List.mem_of_getElem? (i := 32) rfl)) (hw _ (List.mem_of_getElem? (i := 33) rfl)) (hw _ (List.mem_of_getElem? (i := 34) rfl)) (hw _ (List.mem_of_getElem? (i := 35) rfl)) (by decide) (argsL := [(.ref rn)]) (rest := []) (rm_nms l Z a0 hw [] rn h133 n0 (Nat.le_trans Z0 K_133.1) va vv (StK.of_keep K_133 _ _ _ _ SV) (EV.keep K_133) (GV.keep K_133 List.not_mem_nil) wn wb wlF wcF wzF own_wz own_wl (fun i hi => (FW i hi).keep K_133 List.not_mem_nil) (fun i hi => (SW i hi).keep0 K_133) cs (StK.of_keep K_133 _ _ _ _ SC) hcs bn kn w128 SP133 (Int32.ofNat kn) hkz) e140 (by rw [hml]; rfl) pd_16 rfl rfl (hb hby at_275) (by decide) (Nat.le_of_ble_eq_true rfl) (by decide) (by decide) ?_
              rintro T141 v141 L141 X141 ⟨rfl, N141, K141⟩
              have NF141 := Fr.app NF130 N141
              show Owes _ _ _ _ (T141.setTop (mkF m 278 #[.val (.int p0), .val (.int p1), .val (.int p2), .val (.long q3), .second, .val (.int kd), .val (.ref ta), .val (.int mk), .val (.int nI), .val (.ref xc), .val (.ref rn), .val (.ref (vv 1))] [(nmd (eqv (wlF 0) kn (by8 (wcF 0)) (by8 w128)) (eqv (wlF 1) kn (by8 (wcF 1)) (by8 w128)) (eqv (wlF 2) kn (by8 (wcF 2)) (by8 w128)) (vv 0) (vv 1) (vv 2))]))
              rw [own_nm1 hc2 hc3]
              show Owes _ _ _ _ (T141.setTop (mkF m 278 #[.val (.int p0), .val (.int p1), .val (.int p2), .val (.long q3), .second, .val (.int kd), .val (.ref ta), .val (.int mk), .val (.int nI), .val (.ref xc), .val (.ref rn), .val (.ref (vv 1))] [(.ref (vv 1))]))
              refine Owes.go ?_ fun t₀ k₀ => XS.aload X141.here hx rfl (hb hby at_278) rfl rfl k₀
              show Owes _ _ _ _ (T141.setTop (mkF m 280 #[.val (.int p0), .val (.int p1), .val (.int p2), .val (.long q3), .second, .val (.int kd), .val (.ref ta), .val (.int mk), .val (.int nI), .val (.ref xc), .val (.ref rn), .val (.ref (vv 1))] [(.ref (vv 1)), (.ref (vv 1))]))
              refine Owes.go ?_ fun t₀ k₀ => Jvm.RoadKit.acmp (g := (mkF m 280 #[.val (.int p0), .val (.int p1), .val (.int p2), .val (.long q3), .second, .val (.int kd), .val (.ref ta), .val (.int mk), .val (.int nI), .val (.ref xc), .val (.ref rn), .val (.ref (vv 1))] [(.ref (vv 1)), (.ref (vv 1))])) X141 hx rfl rfl rfl (pc0 := 280) (pc' := 283) (same := true) rfl (hb hby at_280) rfl (decide_eq_true rfl) (by decide) (by decide) k₀
              show Owes _ _ _ _ (T141.setTop (mkF m 283 #[.val (.int p0), .val (.int p1), .val (.int p2), .val (.long q3), .second, .val (.int kd), .val (.ref ta), .val (.int mk), .val (.int nI), .val (.ref xc), .val (.ref rn), .val (.ref (vv 1))] []))
              refine Owes.go ?_ fun t₀ k₀ => XS.iconst X141.here hx rfl (hb hby at_283) k₀
              show Owes _ _ _ _ (T141.setTop (mkF m 284 #[.val (.int p0), .val (.int p1), .val (.int p2), .val (.long q3), .second, .val (.int kd), .val (.ref ta), .val (.int mk), .val (.int nI), .val (.ref xc), .val (.ref rn), .val (.ref (vv 1))] [(.int (1 : Int32))]))
              refine Owes.go ?_ fun t₀ k₀ => XS.goto X141.here hx rfl (pc0 := 284) (pc' := 288) rfl (hb hby at_284) (by decide) (by decide) k₀
              show Owes _ _ _ _ (T141.setTop (mkF m 288 #[.val (.int p0), .val (.int p1), .val (.int p2), .val (.long q3), .second, .val (.int kd), .val (.ref ta), .val (.int mk), .val (.int nI), .val (.ref xc), .val (.ref rn), .val (.ref (vv 1))] [(.int (1 : Int32))]))
              exact Owes.retNX X141 hZ hEL rfl ((hC133).keep K141 (fun x hx => absurd hx List.not_mem_nil)) hS133 (Nat.le_trans hk133 K141.1) hx hlk hret (by simp) (hb hby at_288) (by decide) (by decide) ⟨rfl, NF141⟩
          · skip
            refine Owes.go ?_ fun t₀ k₀ => XS.ifNo X132.here hx rfl (hb hby at_223) rfl ((if0 _ _).trans (feq hc2).1) k₀
            show Owes _ _ _ _ (T132.setTop (mkF m 226 #[.val (.int p0), .val (.int p1), .val (.int p2), .val (.long q3), .second, .val (.int kd), .val (.ref ta), .val (.int mk), .val (.int nI), .val (.ref xc), .val (.ref rn), .unset] []))
            obtain ⟨T142, X142, e142, st142⟩ := getS2 X132 hx hZ hown (host := "") (Or.inl (hw _ (List.mem_of_getElem? (i := 119) rfl))) Via.refl e132 (StK.of_keep K_131 _ _ _ _ S_0) (g := (mkF m 226 #[.val (.int p0), .val (.int p1), .val (.int p2), .val (.long q3), .second, .val (.int kd), .val (.ref ta), .val (.int mk), .val (.int nI), .val (.ref xc), .val (.ref rn), .unset] [])) rfl (hb hby at_226)
            refine Owes.go ?_ st142
            show Owes _ _ _ _ (T142.setTop (mkF m 229 #[.val (.int p0), .val (.int p1), .val (.int p2), .val (.long q3), .second, .val (.int kd), .val (.ref ta), .val (.int mk), .val (.int nI), .val (.ref xc), .val (.ref rn), .unset] [(.ref (vv 0))]))
            refine Owes.go ?_ fun t₀ k₀ => XS.astore X142.here hx rfl (hb hby at_229) rfl rfl (l' := #[.val (.int p0), .val (.int p1), .val (.int p2), .val (.long q3), .second, .val (.int kd), .val (.ref ta), .val (.int mk), .val (.int nI), .val (.ref xc), .val (.ref rn), .val (.ref (vv 0))]) rfl k₀
            show Owes _ _ _ _ (T142.setTop (mkF m 231 #[.val (.int p0), .val (.int p1), .val (.int p2), .val (.long q3), .second, .val (.int kd), .val (.ref ta), .val (.int mk), .val (.int nI), .val (.ref xc), .val (.ref rn), .val (.ref (vv 0))] []))
            refine Owes.go ?_ fun t₀ k₀ => XS.goto X142.here hx rfl (pc0 := 231) (pc' := 273) rfl (hb hby at_231) (by decide) (by decide) k₀
            show Owes _ _ _ _ (T142.setTop (mkF m 273 #[.val (.int p0), .val (.int p1), .val (.int p2), .val (.long q3), .second, .val (.int kd), .val (.ref ta), .val (.int mk), .val (.int nI), .val (.ref xc), .val (.ref rn), .val (.ref (vv 0))] []))
            refine Owes.go ?_ fun t₀ k₀ => XS.aload X142.here hx rfl (hb hby at_273) rfl rfl k₀
            show Owes _ _ _ _ (T142.setTop (mkF m 275 #[.val (.int p0), .val (.int p1), .val (.int p2), .val (.long q3), .second, .val (.int kd), .val (.ref ta), .val (.int mk), .val (.int nI), .val (.ref xc), .val (.ref rn), .val (.ref (vv 0))] [(.ref rn)]))
            refine Owes.callS X142 hx hZ hown (hw _ (List.mem_of_getElem? (i := 32) rfl)) (hw _ (List.mem_of_getElem? (i := 33) rfl)) (hw _ (List.mem_of_getElem? (i := 34) rfl)) (hw _ (List.mem_of_getElem? (i := 35) rfl)) (by decide) (argsL := [(.ref rn)]) (rest := []) (rm_nms l Z a0 hw [] rn h131 n0 (Nat.le_trans Z0 K_131.1) va vv (StK.of_keep K_131 _ _ _ _ SV) (EV.keep K_131) (GV.keep K_131 List.not_mem_nil) wn wb wlF wcF wzF own_wz own_wl (fun i hi => (FW i hi).keep K_131 List.not_mem_nil) (fun i hi => (SW i hi).keep0 K_131) cs (StK.of_keep K_131 _ _ _ _ SC) hcs bn kn w128 SP131 (Int32.ofNat kn) hkz) e142 (by rw [hml]; rfl) pd_16 rfl rfl (hb hby at_275) (by decide) (Nat.le_of_ble_eq_true rfl) (by decide) (by decide) ?_
            rintro T143 v143 L143 X143 ⟨rfl, N143, K143⟩
            have NF143 := Fr.app NF130 N143
            show Owes _ _ _ _ (T143.setTop (mkF m 278 #[.val (.int p0), .val (.int p1), .val (.int p2), .val (.long q3), .second, .val (.int kd), .val (.ref ta), .val (.int mk), .val (.int nI), .val (.ref xc), .val (.ref rn), .val (.ref (vv 0))] [(nmd (eqv (wlF 0) kn (by8 (wcF 0)) (by8 w128)) (eqv (wlF 1) kn (by8 (wcF 1)) (by8 w128)) (eqv (wlF 2) kn (by8 (wcF 2)) (by8 w128)) (vv 0) (vv 1) (vv 2))]))
            rw [own_nm0 hc2]
            show Owes _ _ _ _ (T143.setTop (mkF m 278 #[.val (.int p0), .val (.int p1), .val (.int p2), .val (.long q3), .second, .val (.int kd), .val (.ref ta), .val (.int mk), .val (.int nI), .val (.ref xc), .val (.ref rn), .val (.ref (vv 0))] [(.ref (vv 0))]))
            refine Owes.go ?_ fun t₀ k₀ => XS.aload X143.here hx rfl (hb hby at_278) rfl rfl k₀
            show Owes _ _ _ _ (T143.setTop (mkF m 280 #[.val (.int p0), .val (.int p1), .val (.int p2), .val (.long q3), .second, .val (.int kd), .val (.ref ta), .val (.int mk), .val (.int nI), .val (.ref xc), .val (.ref rn), .val (.ref (vv 0))] [(.ref (vv 0)), (.ref (vv 0))]))
            refine Owes.go ?_ fun t₀ k₀ => Jvm.RoadKit.acmp (g := (mkF m 280 #[.val (.int p0), .val (.int p1), .val (.int p2), .val (.long q3), .second, .val (.int kd), .val (.ref ta), .val (.int mk), .val (.int nI), .val (.ref xc), .val (.ref rn), .val (.ref (vv 0))] [(.ref (vv 0)), (.ref (vv 0))])) X143 hx rfl rfl rfl (pc0 := 280) (pc' := 283) (same := true) rfl (hb hby at_280) rfl (decide_eq_true rfl) (by decide) (by decide) k₀
            show Owes _ _ _ _ (T143.setTop (mkF m 283 #[.val (.int p0), .val (.int p1), .val (.int p2), .val (.long q3), .second, .val (.int kd), .val (.ref ta), .val (.int mk), .val (.int nI), .val (.ref xc), .val (.ref rn), .val (.ref (vv 0))] []))
            refine Owes.go ?_ fun t₀ k₀ => XS.iconst X143.here hx rfl (hb hby at_283) k₀
            show Owes _ _ _ _ (T143.setTop (mkF m 284 #[.val (.int p0), .val (.int p1), .val (.int p2), .val (.long q3), .second, .val (.int kd), .val (.ref ta), .val (.int mk), .val (.int nI), .val (.ref xc), .val (.ref rn), .val (.ref (vv 0))] [(.int (1 : Int32))]))
            refine Owes.go ?_ fun t₀ k₀ => XS.goto X143.here hx rfl (pc0 := 284) (pc' := 288) rfl (hb hby at_284) (by decide) (by decide) k₀
            show Owes _ _ _ _ (T143.setTop (mkF m 288 #[.val (.int p0), .val (.int p1), .val (.int p2), .val (.long q3), .second, .val (.int kd), .val (.ref ta), .val (.int mk), .val (.int nI), .val (.ref xc), .val (.ref rn), .val (.ref (vv 0))] [(.int (1 : Int32))]))
            exact Owes.retNX X143 hZ hEL rfl ((hC131).keep K143 (fun x hx => absurd hx List.not_mem_nil)) hS131 (Nat.le_trans hk131 K143.1) hx hlk hret (by simp) (hb hby at_288) (by decide) (by decide) ⟨rfl, NF143⟩
      refine Owes.go ?_ fun t₀ k₀ => XS.aload X1.here hx rfl (hb hby at_58) rfl rfl k₀
      show Owes _ _ _ _ (T1.setTop (mkF m 60 #[.val (.int p0), .val (.int p1), .val (.int p2), .val (.long q3), .second, .val (.int kd), .val (.ref ta), .val (.int mk), .unset, .unset, .unset, .unset] [(.ref ta)]))
      refine Owes.callV X1 hx hZ hown (hw _ (List.mem_of_getElem? (i := 8) rfl)) (hw _ (List.mem_of_getElem? (i := 9) rfl)) (notFace_of_selects (args := #[]) (mvT hZ (hw _ (List.mem_of_getElem? (i := 11) rfl)))) (hw _ (List.mem_of_getElem? (i := 11) rfl)) (hw _ (List.mem_of_getElem? (i := 10) rfl)) (hw _ (List.mem_of_getElem? (i := 1) rfl)) (hw _ (List.mem_of_getElem? (i := 12) rfl)) (by decide) (a := ta) (argsL := []) (rest := []) (rm_emp l Z a0 hw [] ta h1 tb tn tc (S1.keep0 KB1) tz htz cs (ST1 _ _ _ _ SC) hcs) e1 S1.1 (by rw [hml]; rfl) pd_3 rfl rfl (hb hby at_60) (by decide) (Nat.le_of_ble_eq_true rfl) (by decide) (by decide) ?_
      rintro T144 _ _ X144 ⟨rfl, rfl, e144⟩
      rw [List.append_nil] at X144
      show Owes _ _ _ _ (T144.setTop (mkF m 63 #[.val (.int p0), .val (.int p1), .val (.int p2), .val (.long q3), .second, .val (.int kd), .val (.ref ta), .val (.int mk), .unset, .unset, .unset, .unset] [(.int (if tn = 0 then (1 : Int32) else 0))]))
      by_cases hc5 : (if tn = 0 then (1 : Int32) else 0) = (0 : Int32)
      · skip
        refine Owes.go ?_ fun t₀ k₀ => XS.ifNo X144.here hx rfl (hb hby at_63) rfl ((if0 _ _).trans (teq hc5).2) k₀
        show Owes _ _ _ _ (T144.setTop (mkF m 66 #[.val (.int p0), .val (.int p1), .val (.int p2), .val (.long q3), .second, .val (.int kd), .val (.ref ta), .val (.int mk), .unset, .unset, .unset, .unset] []))
        refine Owes.go ?_ fun t₀ k₀ => XS.iloadN X144.here hx rfl (hb hby at_66) rfl k₀
        show Owes _ _ _ _ (T144.setTop (mkF m 67 #[.val (.int p0), .val (.int p1), .val (.int p2), .val (.long q3), .second, .val (.int kd), .val (.ref ta), .val (.int mk), .unset, .unset, .unset, .unset] [(.int p0)]))
        refine Owes.go ?_ fun t₀ k₀ => XS.iconst X144.here hx rfl (hb hby at_67) k₀
        show Owes _ _ _ _ (T144.setTop (mkF m 68 #[.val (.int p0), .val (.int p1), .val (.int p2), .val (.long q3), .second, .val (.int kd), .val (.ref ta), .val (.int mk), .unset, .unset, .unset, .unset] [(.int (4 : Int32)), (.int p0)]))
        refine Owes.go ?_ fun t₀ k₀ => XS.iushr X144.here hx rfl (hb hby at_68) rfl k₀
        show Owes _ _ _ _ (T144.setTop (mkF m 69 #[.val (.int p0), .val (.int p1), .val (.int p2), .val (.long q3), .second, .val (.int kd), .val (.ref ta), .val (.int mk), .unset, .unset, .unset, .unset] [(.int ((p0.toUInt32 >>> ((4 : Int32) &&& 31).toUInt32).toInt32))]))
        refine Owes.go ?_ fun t₀ k₀ => XS.iconst X144.here hx rfl (hb hby at_69) k₀
        show Owes _ _ _ _ (T144.setTop (mkF m 70 #[.val (.int p0), .val (.int p1), .val (.int p2), .val (.long q3), .second, .val (.int kd), .val (.ref ta), .val (.int mk), .unset, .unset, .unset, .unset] [(.int (1 : Int32)), (.int ((p0.toUInt32 >>> ((4 : Int32) &&& 31).toUInt32).toInt32))]))
        refine Owes.go ?_ fun t₀ k₀ => XS.iand X144.here hx rfl (hb hby at_70) rfl k₀
        show Owes _ _ _ _ (T144.setTop (mkF m 71 #[.val (.int p0), .val (.int p1), .val (.int p2), .val (.long q3), .second, .val (.int kd), .val (.ref ta), .val (.int mk), .unset, .unset, .unset, .unset] [(.int (((p0.toUInt32 >>> ((4 : Int32) &&& 31).toUInt32).toInt32) &&& (1 : Int32)))]))
        by_cases hc6 : (((p0.toUInt32 >>> ((4 : Int32) &&& 31).toUInt32).toInt32) &&& (1 : Int32)) = (0 : Int32)
        · skip
          refine Owes.go ?_ fun t₀ k₀ => XS.ifYes X144.here hx rfl (pc0 := 71) (pc' := 81) rfl (hb hby at_71) rfl ((if0 _ _).trans (teq hc6).1) (by decide) (by decide) k₀
          show Owes _ _ _ _ (T144.setTop (mkF m 81 #[.val (.int p0), .val (.int p1), .val (.int p2), .val (.long q3), .second, .val (.int kd), .val (.ref ta), .val (.int mk), .unset, .unset, .unset, .unset] []))
          refine Owes.go ?_ fun t₀ k₀ => XS.aload X144.here hx rfl (hb hby at_81) rfl rfl k₀
          show Owes _ _ _ _ (T144.setTop (mkF m 83 #[.val (.int p0), .val (.int p1), .val (.int p2), .val (.long q3), .second, .val (.int kd), .val (.ref ta), .val (.int mk), .unset, .unset, .unset, .unset] [(.ref ta)]))
          refine Owes.callV X144 hx hZ hown (hw _ (List.mem_of_getElem? (i := 19) rfl)) (hw _ (List.mem_of_getElem? (i := 20) rfl)) (notFace_of_selects (args := #[]) (mvT hZ (hw _ (List.mem_of_getElem? (i := 22) rfl)))) (hw _ (List.mem_of_getElem? (i := 22) rfl)) (hw _ (List.mem_of_getElem? (i := 21) rfl)) (hw _ (List.mem_of_getElem? (i := 1) rfl)) (hw _ (List.mem_of_getElem? (i := 23) rfl)) (by decide) (a := ta) (argsL := []) (rest := []) (rm_len l Z a0 hw [] ta h1 tb tn tc (S1.keep0 KB1) tz htz cs (ST1 _ _ _ _ SC) hcs) e144 S1.1 (by rw [hml]; rfl) pd_6 rfl rfl (hb hby at_83) (by decide) (Nat.le_of_ble_eq_true rfl) (by decide) (by decide) ?_
          rintro T145 _ _ X145 ⟨rfl, rfl, e145⟩
          rw [List.append_nil] at X145
          show Owes _ _ _ _ (T145.setTop (mkF m 86 #[.val (.int p0), .val (.int p1), .val (.int p2), .val (.long q3), .second, .val (.int kd), .val (.ref ta), .val (.int mk), .unset, .unset, .unset, .unset] [(.int tz)]))
          exact J86_112 T145 X145 e145 tz
        · skip
          refine Owes.go ?_ fun t₀ k₀ => XS.ifNo X144.here hx rfl (hb hby at_71) rfl ((if0 _ _).trans (feq hc6).1) k₀
          show Owes _ _ _ _ (T144.setTop (mkF m 74 #[.val (.int p0), .val (.int p1), .val (.int p2), .val (.long q3), .second, .val (.int kd), .val (.ref ta), .val (.int mk), .unset, .unset, .unset, .unset] []))
          refine Owes.go ?_ fun t₀ k₀ => XS.iloadN X144.here hx rfl (hb hby at_74) rfl k₀
          show Owes _ _ _ _ (T144.setTop (mkF m 75 #[.val (.int p0), .val (.int p1), .val (.int p2), .val (.long q3), .second, .val (.int kd), .val (.ref ta), .val (.int mk), .unset, .unset, .unset, .unset] [(.int p1)]))
          refine Owes.go ?_ fun t₀ k₀ => XS.bipush X144.here hx rfl (hb hby at_75) k₀
          show Owes _ _ _ _ (T144.setTop (mkF m 77 #[.val (.int p0), .val (.int p1), .val (.int p2), .val (.long q3), .second, .val (.int kd), .val (.ref ta), .val (.int mk), .unset, .unset, .unset, .unset] [(.int (7 : Int32)), (.int p1)]))
          refine Owes.go ?_ fun t₀ k₀ => XS.iand X144.here hx rfl (hb hby at_77) rfl k₀
          show Owes _ _ _ _ (T144.setTop (mkF m 78 #[.val (.int p0), .val (.int p1), .val (.int p2), .val (.long q3), .second, .val (.int kd), .val (.ref ta), .val (.int mk), .unset, .unset, .unset, .unset] [(.int (p1 &&& (7 : Int32)))]))
          refine Owes.go ?_ fun t₀ k₀ => XS.goto X144.here hx rfl (pc0 := 78) (pc' := 86) rfl (hb hby at_78) (by decide) (by decide) k₀
          show Owes _ _ _ _ (T144.setTop (mkF m 86 #[.val (.int p0), .val (.int p1), .val (.int p2), .val (.long q3), .second, .val (.int kd), .val (.ref ta), .val (.int mk), .unset, .unset, .unset, .unset] [(.int (p1 &&& (7 : Int32)))]))
          exact J86_112 T144 X144 e144 (p1 &&& (7 : Int32))
      · skip
        refine Owes.go ?_ fun t₀ k₀ => XS.ifYes X144.here hx rfl (pc0 := 63) (pc' := 74) rfl (hb hby at_63) rfl ((if0 _ _).trans (feq hc5).2) (by decide) (by decide) k₀
        show Owes _ _ _ _ (T144.setTop (mkF m 74 #[.val (.int p0), .val (.int p1), .val (.int p2), .val (.long q3), .second, .val (.int kd), .val (.ref ta), .val (.int mk), .unset, .unset, .unset, .unset] []))
        refine Owes.go ?_ fun t₀ k₀ => XS.iloadN X144.here hx rfl (hb hby at_74) rfl k₀
        show Owes _ _ _ _ (T144.setTop (mkF m 75 #[.val (.int p0), .val (.int p1), .val (.int p2), .val (.long q3), .second, .val (.int kd), .val (.ref ta), .val (.int mk), .unset, .unset, .unset, .unset] [(.int p1)]))
        refine Owes.go ?_ fun t₀ k₀ => XS.bipush X144.here hx rfl (hb hby at_75) k₀
        show Owes _ _ _ _ (T144.setTop (mkF m 77 #[.val (.int p0), .val (.int p1), .val (.int p2), .val (.long q3), .second, .val (.int kd), .val (.ref ta), .val (.int mk), .unset, .unset, .unset, .unset] [(.int (7 : Int32)), (.int p1)]))
        refine Owes.go ?_ fun t₀ k₀ => XS.iand X144.here hx rfl (hb hby at_77) rfl k₀
        show Owes _ _ _ _ (T144.setTop (mkF m 78 #[.val (.int p0), .val (.int p1), .val (.int p2), .val (.long q3), .second, .val (.int kd), .val (.ref ta), .val (.int mk), .unset, .unset, .unset, .unset] [(.int (p1 &&& (7 : Int32)))]))
        refine Owes.go ?_ fun t₀ k₀ => XS.goto X144.here hx rfl (pc0 := 78) (pc' := 86) rfl (hb hby at_78) (by decide) (by decide) k₀
        show Owes _ _ _ _ (T144.setTop (mkF m 86 #[.val (.int p0), .val (.int p1), .val (.int p2), .val (.long q3), .second, .val (.int kd), .val (.ref ta), .val (.int mk), .unset, .unset, .unset, .unset] [(.int (p1 &&& (7 : Int32)))]))
        exact J86_112 T144 X144 e144 (p1 &&& (7 : Int32))
    refine Owes.go ?_ fun t₀ k₀ => XS.iloadN X1.here hx rfl (hb hby at_43) rfl k₀
    show Owes _ _ _ _ (T1.setTop (mkF m 44 #[.val (.int p0), .val (.int p1), .val (.int p2), .val (.long q3), .second, .val (.int kd), .val (.ref ta), .unset, .unset, .unset, .unset, .unset] [(.int p0)]))
    refine Owes.go ?_ fun t₀ k₀ => XS.iconst X1.here hx rfl (hb hby at_44) k₀
    show Owes _ _ _ _ (T1.setTop (mkF m 45 #[.val (.int p0), .val (.int p1), .val (.int p2), .val (.long q3), .second, .val (.int kd), .val (.ref ta), .unset, .unset, .unset, .unset, .unset] [(.int (3 : Int32)), (.int p0)]))
    refine Owes.go ?_ fun t₀ k₀ => XS.iushr X1.here hx rfl (hb hby at_45) rfl k₀
    show Owes _ _ _ _ (T1.setTop (mkF m 46 #[.val (.int p0), .val (.int p1), .val (.int p2), .val (.long q3), .second, .val (.int kd), .val (.ref ta), .unset, .unset, .unset, .unset, .unset] [(.int ((p0.toUInt32 >>> ((3 : Int32) &&& 31).toUInt32).toInt32))]))
    refine Owes.go ?_ fun t₀ k₀ => XS.iconst X1.here hx rfl (hb hby at_46) k₀
    show Owes _ _ _ _ (T1.setTop (mkF m 47 #[.val (.int p0), .val (.int p1), .val (.int p2), .val (.long q3), .second, .val (.int kd), .val (.ref ta), .unset, .unset, .unset, .unset, .unset] [(.int (1 : Int32)), (.int ((p0.toUInt32 >>> ((3 : Int32) &&& 31).toUInt32).toInt32))]))
    refine Owes.go ?_ fun t₀ k₀ => XS.iand X1.here hx rfl (hb hby at_47) rfl k₀
    show Owes _ _ _ _ (T1.setTop (mkF m 48 #[.val (.int p0), .val (.int p1), .val (.int p2), .val (.long q3), .second, .val (.int kd), .val (.ref ta), .unset, .unset, .unset, .unset, .unset] [(.int (((p0.toUInt32 >>> ((3 : Int32) &&& 31).toUInt32).toInt32) &&& (1 : Int32)))]))
    by_cases hc7 : (((p0.toUInt32 >>> ((3 : Int32) &&& 31).toUInt32).toInt32) &&& (1 : Int32)) = (0 : Int32)
    · skip
      refine Owes.go ?_ fun t₀ k₀ => XS.ifYes X1.here hx rfl (pc0 := 48) (pc' := 55) rfl (hb hby at_48) rfl ((if0 _ _).trans (teq hc7).1) (by decide) (by decide) k₀
      show Owes _ _ _ _ (T1.setTop (mkF m 55 #[.val (.int p0), .val (.int p1), .val (.int p2), .val (.long q3), .second, .val (.int kd), .val (.ref ta), .unset, .unset, .unset, .unset, .unset] []))
      refine Owes.go ?_ fun t₀ k₀ => XS.iconst X1.here hx rfl (hb hby at_55) k₀
      show Owes _ _ _ _ (T1.setTop (mkF m 56 #[.val (.int p0), .val (.int p1), .val (.int p2), .val (.long q3), .second, .val (.int kd), .val (.ref ta), .unset, .unset, .unset, .unset, .unset] [(.int (0 : Int32))]))
      exact J56_109 (0 : Int32)
    · skip
      refine Owes.go ?_ fun t₀ k₀ => XS.ifNo X1.here hx rfl (hb hby at_48) rfl ((if0 _ _).trans (feq hc7).1) k₀
      show Owes _ _ _ _ (T1.setTop (mkF m 51 #[.val (.int p0), .val (.int p1), .val (.int p2), .val (.long q3), .second, .val (.int kd), .val (.ref ta), .unset, .unset, .unset, .unset, .unset] []))
      refine Owes.go ?_ fun t₀ k₀ => XS.iloadN X1.here hx rfl (hb hby at_51) rfl k₀
      show Owes _ _ _ _ (T1.setTop (mkF m 52 #[.val (.int p0), .val (.int p1), .val (.int p2), .val (.long q3), .second, .val (.int kd), .val (.ref ta), .unset, .unset, .unset, .unset, .unset] [(.int p2)]))
      refine Owes.go ?_ fun t₀ k₀ => XS.goto X1.here hx rfl (pc0 := 52) (pc' := 56) rfl (hb hby at_52) (by decide) (by decide) k₀
      show Owes _ _ _ _ (T1.setTop (mkF m 56 #[.val (.int p0), .val (.int p1), .val (.int p2), .val (.long q3), .second, .val (.int kd), .val (.ref ta), .unset, .unset, .unset, .unset, .unset] [(.int p2)]))
      exact J56_109 p2
  refine Owes.go ?_ fun t₀ k₀ => XS.iload X0.here hx rfl (hb hby at_6) rfl k₀
  show Owes _ _ _ _ (s₁.setTop (mkF m 8 #[.val (.int p0), .val (.int p1), .val (.int p2), .val (.long q3), .second, .val (.int kd), .unset, .unset, .unset, .unset, .unset, .unset] [(.int kd)]))
  refine Owes.go ?_ fun t₀ k₀ => XS.iconst X0.here hx rfl (hb hby at_8) k₀
  show Owes _ _ _ _ (s₁.setTop (mkF m 9 #[.val (.int p0), .val (.int p1), .val (.int p2), .val (.long q3), .second, .val (.int kd), .unset, .unset, .unset, .unset, .unset, .unset] [(.int (1 : Int32)), (.int kd)]))
  by_cases hc8 : kd = (1 : Int32)
  · skip
    refine Owes.go ?_ fun t₀ k₀ => XS.icmpNo X0.here hx rfl (hb hby at_9) rfl (teq hc8).2 k₀
    show Owes _ _ _ _ (s₁.setTop (mkF m 12 #[.val (.int p0), .val (.int p1), .val (.int p2), .val (.long q3), .second, .val (.int kd), .unset, .unset, .unset, .unset, .unset, .unset] []))
    refine Owes.ldcX X0 hx hZ hown (hw _ (List.mem_of_getElem? (i := 84) rfl)) (own_wS Z a0 hw) e0 (own_since s 0) (Nat.zero_le _) hEL (List.mem_of_getElem? (i := 0) rfl) hC0 (z := 5) ⟨by decide, rfl⟩ (by decide) (by decide) (hb hby at_12) (n := 24) (by decide) (by decide) (by decide) (by decide) ?_
    intro aS146 T146 h146 k146 bS146 kc146 X146 e146 ES146 hS146 hk146 hZ hown EA146 FCo146 FVa146 AV146 hC146
    have SS146 : STR Z h146 aS146 bS146 5 cW := ⟨EA146, FCo146, FVa146, GA.congr (own_arvga (n := 5) AV146 rfl) fun i hi => by
      rcases (show i = 0 ∨ i = 1 ∨ i = 2 ∨ i = 3 ∨ i = 4 by omega) with rfl | rfl | rfl | rfl | rfl <;> decide +kernel⟩
    show Owes _ _ _ _ (T146.setTop (mkF m 14 #[.val (.int p0), .val (.int p1), .val (.int p2), .val (.long q3), .second, .val (.int kd), .unset, .unset, .unset, .unset, .unset, .unset] [(.ref aS146)]))
    refine Owes.go ?_ fun t₀ k₀ => XS.goto X146.here hx rfl (pc0 := 14) (pc' := 41) rfl (hb hby at_14) (by decide) (by decide) k₀
    show Owes _ _ _ _ (T146.setTop (mkF m 41 #[.val (.int p0), .val (.int p1), .val (.int p2), .val (.long q3), .second, .val (.int kd), .unset, .unset, .unset, .unset, .unset, .unset] [(.ref aS146)]))
    exact J41 aS146 bS146 5 cW 5 _ _ _ X146 e146 ES146 hS146 hk146 hZ hown hC146 SS146 own_8W rfl (by decide)
  · skip
    refine Owes.go ?_ fun t₀ k₀ => XS.icmpYes X0.here hx rfl (pc0 := 9) (pc' := 17) rfl (hb hby at_9) rfl (feq hc8).2 (by decide) (by decide) k₀
    show Owes _ _ _ _ (s₁.setTop (mkF m 17 #[.val (.int p0), .val (.int p1), .val (.int p2), .val (.long q3), .second, .val (.int kd), .unset, .unset, .unset, .unset, .unset, .unset] []))
    refine Owes.go ?_ fun t₀ k₀ => XS.iload X0.here hx rfl (hb hby at_17) rfl k₀
    show Owes _ _ _ _ (s₁.setTop (mkF m 19 #[.val (.int p0), .val (.int p1), .val (.int p2), .val (.long q3), .second, .val (.int kd), .unset, .unset, .unset, .unset, .unset, .unset] [(.int kd)]))
    refine Owes.go ?_ fun t₀ k₀ => XS.iconst X0.here hx rfl (hb hby at_19) k₀
    show Owes _ _ _ _ (s₁.setTop (mkF m 20 #[.val (.int p0), .val (.int p1), .val (.int p2), .val (.long q3), .second, .val (.int kd), .unset, .unset, .unset, .unset, .unset, .unset] [(.int (2 : Int32)), (.int kd)]))
    by_cases hc9 : kd = (2 : Int32)
    · skip
      refine Owes.go ?_ fun t₀ k₀ => XS.icmpNo X0.here hx rfl (hb hby at_20) rfl (teq hc9).2 k₀
      show Owes _ _ _ _ (s₁.setTop (mkF m 23 #[.val (.int p0), .val (.int p1), .val (.int p2), .val (.long q3), .second, .val (.int kd), .unset, .unset, .unset, .unset, .unset, .unset] []))
      refine Owes.ldcX X0 hx hZ hown (hw _ (List.mem_of_getElem? (i := 91) rfl)) (own_wS Z a0 hw) e0 (own_since s 0) (Nat.zero_le _) hEL (List.mem_of_getElem? (i := 1) rfl) hC0 (z := 2) ⟨by decide, rfl⟩ (by decide) (by decide) (hb hby at_23) (n := 24) (by decide) (by decide) (by decide) (by decide) ?_
      intro aS147 T147 h147 k147 bS147 kc147 X147 e147 ES147 hS147 hk147 hZ hown EA147 FCo147 FVa147 AV147 hC147
      have SS147 : STR Z h147 aS147 bS147 2 cI := ⟨EA147, FCo147, FVa147, GA.congr (own_arvga (n := 2) AV147 rfl) fun i hi => by
        rcases (show i = 0 ∨ i = 1 by omega) with rfl | rfl <;> decide +kernel⟩
      show Owes _ _ _ _ (T147.setTop (mkF m 25 #[.val (.int p0), .val (.int p1), .val (.int p2), .val (.long q3), .second, .val (.int kd), .unset, .unset, .unset, .unset, .unset, .unset] [(.ref aS147)]))
      refine Owes.go ?_ fun t₀ k₀ => XS.goto X147.here hx rfl (pc0 := 25) (pc' := 41) rfl (hb hby at_25) (by decide) (by decide) k₀
      show Owes _ _ _ _ (T147.setTop (mkF m 41 #[.val (.int p0), .val (.int p1), .val (.int p2), .val (.long q3), .second, .val (.int kd), .unset, .unset, .unset, .unset, .unset, .unset] [(.ref aS147)]))
      exact J41 aS147 bS147 2 cI 2 _ _ _ X147 e147 ES147 hS147 hk147 hZ hown hC147 SS147 own_8I rfl (by decide)
    · skip
      refine Owes.go ?_ fun t₀ k₀ => XS.icmpYes X0.here hx rfl (pc0 := 20) (pc' := 28) rfl (hb hby at_20) rfl (feq hc9).2 (by decide) (by decide) k₀
      show Owes _ _ _ _ (s₁.setTop (mkF m 28 #[.val (.int p0), .val (.int p1), .val (.int p2), .val (.long q3), .second, .val (.int kd), .unset, .unset, .unset, .unset, .unset, .unset] []))
      refine Owes.go ?_ fun t₀ k₀ => XS.iload X0.here hx rfl (hb hby at_28) rfl k₀
      show Owes _ _ _ _ (s₁.setTop (mkF m 30 #[.val (.int p0), .val (.int p1), .val (.int p2), .val (.long q3), .second, .val (.int kd), .unset, .unset, .unset, .unset, .unset, .unset] [(.int kd)]))
      refine Owes.go ?_ fun t₀ k₀ => XS.iconst X0.here hx rfl (hb hby at_30) k₀
      show Owes _ _ _ _ (s₁.setTop (mkF m 31 #[.val (.int p0), .val (.int p1), .val (.int p2), .val (.long q3), .second, .val (.int kd), .unset, .unset, .unset, .unset, .unset, .unset] [(.int (3 : Int32)), (.int kd)]))
      by_cases hc10 : kd = (3 : Int32)
      · skip
        refine Owes.go ?_ fun t₀ k₀ => XS.icmpNo X0.here hx rfl (hb hby at_31) rfl (teq hc10).2 k₀
        show Owes _ _ _ _ (s₁.setTop (mkF m 34 #[.val (.int p0), .val (.int p1), .val (.int p2), .val (.long q3), .second, .val (.int kd), .unset, .unset, .unset, .unset, .unset, .unset] []))
        refine Owes.ldcX X0 hx hZ hown (hw _ (List.mem_of_getElem? (i := 92) rfl)) (own_wS Z a0 hw) e0 (own_since s 0) (Nat.zero_le _) hEL (List.mem_of_getElem? (i := 2) rfl) hC0 (z := 6) ⟨by decide, rfl⟩ (by decide) (by decide) (hb hby at_34) (n := 24) (by decide) (by decide) (by decide) (by decide) ?_
        intro aS148 T148 h148 k148 bS148 kc148 X148 e148 ES148 hS148 hk148 hZ hown EA148 FCo148 FVa148 AV148 hC148
        have SS148 : STR Z h148 aS148 bS148 6 cD := ⟨EA148, FCo148, FVa148, GA.congr (own_arvga (n := 6) AV148 rfl) fun i hi => by
          rcases (show i = 0 ∨ i = 1 ∨ i = 2 ∨ i = 3 ∨ i = 4 ∨ i = 5 by omega) with rfl | rfl | rfl | rfl | rfl | rfl <;> decide +kernel⟩
        show Owes _ _ _ _ (T148.setTop (mkF m 36 #[.val (.int p0), .val (.int p1), .val (.int p2), .val (.long q3), .second, .val (.int kd), .unset, .unset, .unset, .unset, .unset, .unset] [(.ref aS148)]))
        refine Owes.go ?_ fun t₀ k₀ => XS.goto X148.here hx rfl (pc0 := 36) (pc' := 41) rfl (hb hby at_36) (by decide) (by decide) k₀
        show Owes _ _ _ _ (T148.setTop (mkF m 41 #[.val (.int p0), .val (.int p1), .val (.int p2), .val (.long q3), .second, .val (.int kd), .unset, .unset, .unset, .unset, .unset, .unset] [(.ref aS148)]))
        exact J41 aS148 bS148 6 cD 6 _ _ _ X148 e148 ES148 hS148 hk148 hZ hown hC148 SS148 own_8D rfl (by decide)
      · skip
        refine Owes.go ?_ fun t₀ k₀ => XS.icmpYes X0.here hx rfl (pc0 := 31) (pc' := 39) rfl (hb hby at_31) rfl (feq hc10).2 (by decide) (by decide) k₀
        show Owes _ _ _ _ (s₁.setTop (mkF m 39 #[.val (.int p0), .val (.int p1), .val (.int p2), .val (.long q3), .second, .val (.int kd), .unset, .unset, .unset, .unset, .unset, .unset] []))
        refine Owes.ldcX X0 hx hZ hown (hw _ (List.mem_of_getElem? (i := 0) rfl)) (own_wS Z a0 hw) e0 (own_since s 0) (Nat.zero_le _) hEL (List.mem_of_getElem? (i := 3) rfl) hC0 (z := 0) ⟨by decide, rfl⟩ (by decide) (by decide) (hb hby at_39) (n := 24) (by decide) (by decide) (by decide) (by decide) ?_
        intro aS149 T149 h149 k149 bS149 kc149 X149 e149 ES149 hS149 hk149 hZ hown EA149 FCo149 FVa149 AV149 hC149
        have SS149 : STR Z h149 aS149 bS149 0 cE := ⟨EA149, FCo149, FVa149, GA.congr (own_arvga (n := 0) AV149 rfl) fun i hi => by
          exact absurd hi (Nat.not_lt_zero _)⟩
        show Owes _ _ _ _ (T149.setTop (mkF m 41 #[.val (.int p0), .val (.int p1), .val (.int p2), .val (.long q3), .second, .val (.int kd), .unset, .unset, .unset, .unset, .unset, .unset] [(.ref aS149)]))
        exact J41 aS149 bS149 0 cE 0 _ _ _ X149 e149 ES149 hS149 hk149 hZ hown hC149 SS149 own_8E rfl (by decide)
theorem own_n0 {args : Array Value} {first s : State} {o : Option Outcome} {idx : List Nat} {t : Term} {x : Int32} (e : t.eval args first o idx s = some (.int x)) (h : (Cond.eq t (.int (0 : Int32))).value args first o s idx = some (!true)) : ¬ x = (0 : Int32) := fun q => by
  subst q
  simp only [Cond.value, Term.eval, e] at h
  simp at h
theorem own_eqR {args : Array Value} {first s : State} {o : Option Outcome} {idx : List Nat} {t u : Term} {x : Addr} (h : (Cond.eq t u).value args first o s idx = some true) (e : u.eval args first o idx s = some (.ref x)) : t.eval args first o idx s = some (.ref x) := by
  simp only [Cond.value, e] at h
  cases ht : t.eval args first o idx s with
  | none => simp [ht] at h
  | some y => cases y <;> simp [ht] at h ⊢ <;> exact h
theorem own_lenS1 {args : Array Value} {first s : State} {o : Option Outcome} {idx : List Nat} {t : Term} {v : Value} (h : (Term.length t).eval args first o idx s = some v) : ∃ (a : Addr) (cell : Cell), t.eval args first o idx s = some (.ref a) ∧ s.arrayAt? a = some cell ∧ cell.slots.size < 2 ^ 31 ∧ v = .int cell.slots.size.toInt32 := by
  simp only [Term.eval, Option.bind_eq_bind] at h
  cases ht : t.eval args first o idx s with
  | none => simp [ht] at h
  | some x =>
    cases x with
    | ref a =>
      cases ha : s.arrayAt? a with
      | none => simp [ht, ha] at h
      | some cell =>
        by_cases hl : cell.slots.size < 2 ^ 31
        · simp [ht, ha, hl] at h
          exact ⟨a, cell, rfl, ha, hl, h.symm⟩
        · simp [ht, ha, hl] at h
    | _ => simp [ht] at h
theorem own_gaStart {args : Array Value} {Z : State} {t : Term} {a : Addr} {ty : FieldType} {n : Nat} {z : Int32} {w : Nat → Value} (ev : t.eval args Z none [] Z = some (.ref a)) (hx : (Cond.arrayOf t ty).value args Z none Z [] = some true) (hl : (Cond.eq (.length t) (.int z)).value args Z none Z [] = some true) (hz : z.toInt = (n : Int))
    (hw : ∀ i, i < n → (Term.elem t (.int (Int32.ofNat i))).eval args Z none [] Z = some (w i)) : GA Z Z.heap a ty n w := by
  obtain ⟨c, A⟩ := Arr.start ev hx
  obtain ⟨b, c', e1, e2, e3, e4⟩ := own_lenS1 (own_eqI hl)
  cases ev.symm.trans e1
  cases (A.fin (Vm.Alike.refl _)).symm.trans e2
  have hn : c.slots.size = n := by
    have h5 := len_toInt e3
    have h6 : z = c.slots.size.toInt32 := Value.int.inj e4
    rw [← h6, hz] at h5
    omega
  refine ⟨c, A, hn, fun i hi => ?_⟩
  have hs := (elem_in (hw i hi) ev (Term.int_eval _) A.1).2
  rwa [(own_nat (own_ofNat (by omega))).2] at hs
theorem own_strStart {args : Array Value} {Z : State} {t : Term} {n : Nat} {z : Int32} {c : Nat → Int32} (h1 : (Cond.exactly t "java/lang/String").value args Z none Z [] = some true) (h2 : (Cond.eq (.field t "java/lang/String" "coder" "B") (.int (0 : Int32))).value args Z none Z [] = some true)
    (h3 : (Cond.arrayOf (.field t "java/lang/String" "value" "[B") .byte).value args Z none Z [] = some true) (h4 : (Cond.eq (.length (.field t "java/lang/String" "value" "[B")) (.int z)).value args Z none Z [] = some true) (hz : z.toInt = (n : Int))
    (h5 : ∀ i, i < n → (Cond.eq (.elem (.field t "java/lang/String" "value" "[B") (.int (Int32.ofNat i))) (.int (c i).toInt8.toInt32)).value args Z none Z [] = some true) : ∃ r b, t.eval args Z none [] Z = some (.ref r) ∧ STR Z Z.heap r b n c := by
  obtain ⟨r, er⟩ := exa_v h1
  obtain ⟨b, eb⟩ := arr_v h3
  exact ⟨r, b, er, Exa.start er h1, Fld.start ((fld_at er).symm.trans (own_eqI h2)), Fld.start ((fld_at er).symm.trans eb), own_gaStart eb h3 h4 hz fun i hi => own_eqI (h5 i hi)⟩
def pick3 (a b c : Addr) (i : Nat) : Addr := if i = 0 then a else if i = 1 then b else c
set_option maxRecDepth 65536 in
set_option maxHeartbeats 40000000 in
theorem comes_1 {Post : Tables → Env → Array Value → State → Outcome → State → Prop} (hpost : ∀ tb e args s v u, (limb_1_1.after args s (.returned v) u = true ∧ limb_1_2.after args s (.returned v) u = true ∧ True) → ReturnedEndW s (.returned v) u (Jvm.fieldLocs frame_1_writes args s ++ Jvm.arrayLocs frame_1_arrays args s ++ Jvm.staticLocs frame_1_statics s) 32 5312 → Post tb e args s (.returned v) u) :
    ArmFor flags0 classFile x code maxLocals ret World_1 tables_1 room_1 Calls_1 rest_1 Pre_1 Post := by
  intro l hfl _ _ p e ha hc hk s m args below hf hA hF happ hP
  obtain ⟨hcalls, hrest, hpre⟩ := hP
  obtain ⟨-, -, -, hnamed, -, -, -, hat⟩ := (Spec.applies_iff hf).mp happ
  obtain ⟨hg, hn⟩ := and_e (Cond.before_iff.mp (show (Jvm.Cond.and given_1 narrow_1).before args s = true from hpre))
  obtain ⟨g1, g2⟩ := and_e hg
  obtain ⟨g3, g4⟩ := and_e g2
  obtain ⟨g5, g6⟩ := and_e g4
  obtain ⟨g7, g8⟩ := and_e g6
  obtain ⟨w0, w1, w2, w3, rfl⟩ : ∃ w0 w1 w2 w3 : Value, args = #[w0, w1, w2, w3] := by
    have hs : args.size = 4 := by simpa [Cond.value, given_1] using g1
    obtain ⟨L⟩ := args
    match L, hs with
    | [w0, w1, w2, w3], _ => exact ⟨w0, w1, w2, w3, rfl⟩
  have hw := fun d (hd : d ∈ tables_1) => atoms_spec (ws := Jvm.Cond.code x code maxLocals ret :: tables_1) hat d (List.mem_cons_of_mem _ hd)
  have hfit : Fit s := fun {y c} hc i hi => by
    obtain ⟨ha, rfl⟩ := Array.getElem?_eq_some_iff.mp hc
    have q := List.all_eq_true.mp ((Array.all_eq_true_iff_forall_mem.mp hF) _ (Array.getElem_mem ha)) i (List.mem_range.mpr hi)
    simpa [Array.getElem?_eq_getElem hi] using q
  obtain ⟨hsets, hown0⟩ := atoms_of _ (rest_1_c_eq ▸ (show rest_1_c.before _ s = true from hrest))
  have hr0 := Cond.before_iff.mp hown0
  obtain ⟨i0, ei0⟩ := is_v g3
  obtain rfl : w0 = (.int i0) := Option.some.inj ei0
  obtain ⟨i1, ei1⟩ := is_v g5
  obtain rfl : w1 = (.int i1) := Option.some.inj ei1
  obtain ⟨i2, ei2⟩ := is_v g7
  obtain rfl : w2 = (.int i2) := Option.some.inj ei2
  obtain ⟨i3, ei3⟩ := isL_v g8
  obtain rfl : w3 = (.long i3) := Option.some.inj ei3
  obtain ⟨n1, hn'⟩ := and_e hn
  obtain ⟨n2, hn'⟩ := and_e hn'
  obtain ⟨n3, hn'⟩ := and_e hn'
  obtain ⟨n4, hn'⟩ := and_e hn'
  obtain ⟨n5, hn'⟩ := and_e hn'
  obtain ⟨n6, hn'⟩ := and_e hn'
  obtain ⟨n7, hn'⟩ := and_e hn'
  obtain ⟨n8, hn'⟩ := and_e hn'
  obtain ⟨n9, hn'⟩ := and_e hn'
  obtain ⟨n10, hn'⟩ := and_e hn'
  obtain ⟨n11, hn'⟩ := and_e hn'
  obtain ⟨n12, hn'⟩ := and_e hn'
  obtain ⟨n13, hn'⟩ := and_e hn'
  obtain ⟨n14, hn'⟩ := and_e hn'
  obtain ⟨n15, hn'⟩ := and_e hn'
  obtain ⟨n16, hn'⟩ := and_e hn'
  obtain ⟨n17, hn'⟩ := and_e hn'
  obtain ⟨n18, hn'⟩ := and_e hn'
  obtain ⟨n19, hn'⟩ := and_e hn'
  obtain ⟨n20, hn'⟩ := and_e hn'
  obtain ⟨n21, hn'⟩ := and_e hn'
  obtain ⟨n22, hn'⟩ := and_e hn'
  obtain ⟨n23, hn'⟩ := and_e hn'
  obtain ⟨n24, hn'⟩ := and_e hn'
  obtain ⟨n25, hn'⟩ := and_e hn'
  obtain ⟨n26, hn'⟩ := and_e hn'
  obtain ⟨n27, hn'⟩ := and_e hn'
  obtain ⟨n28, hn'⟩ := and_e hn'
  obtain ⟨n29, hn'⟩ := and_e hn'
  obtain ⟨n30, hn'⟩ := and_e hn'
  obtain ⟨n31, hn'⟩ := and_e hn'
  obtain ⟨n32, hn'⟩ := and_e hn'
  obtain ⟨n33, n34⟩ := and_e hn'
  obtain ⟨va, eva⟩ := arr_v n1
  have SV := Sta.start eva (Or.inr ⟨(hw _ (List.mem_of_getElem? (i := 34) rfl)), (hw _ (List.mem_of_getElem? (i := 40) rfl))⟩)
  have EV := Exa.start eva n2
  obtain ⟨v0, ev0⟩ := exa_v n4
  obtain ⟨v1, ev1⟩ := exa_v n5
  obtain ⟨v2, ev2⟩ := exa_v n6
  have GV : GA s s.heap va (.object "com/example/herring/herring/acl/Scheme") 3 (fun i => .ref (pick3 v0 v1 v2 i)) := own_gaStart eva n1 n3 rfl (fun i hi => by
    match i, hi with
    | 0, _ => exact ev0
    | 1, _ => exact ev1
    | 2, _ => exact ev2)
  obtain ⟨wn0, wb0, ew0, SW0⟩ := own_strStart (c := wcF 0) n7 n10 n11 n12 rfl (n := 5) (fun i hi => by
    match i, hi with
    | 0, _ => exact n24
    | 1, _ => exact n25
    | 2, _ => exact n26
    | 3, _ => exact n27
    | 4, _ => exact n28)
  obtain ⟨wn1, wb1, ew1, SW1⟩ := own_strStart (c := wcF 1) n8 n13 n14 n15 rfl (n := 2) (fun i hi => by
    match i, hi with
    | 0, _ => exact n16
    | 1, _ => exact n21)
  obtain ⟨wn2, wb2, ew2, SW2⟩ := own_strStart (c := wcF 2) n9 n17 n18 n19 rfl (n := 6) (fun i hi => by
    match i, hi with
    | 0, _ => exact n29
    | 1, _ => exact n30
    | 2, _ => exact n31
    | 3, _ => exact n32
    | 4, _ => exact n33
    | 5, _ => exact n34)
  have FW : ∀ i, i < 3 → Fld s s.heap (pick3 v0 v1 v2 i) "com/example/herring/herring/acl/Scheme" "wireName" "Ljava/lang/String;" (.ref (pick3 wn0 wn1 wn2 i)) := fun i hi => by
    match i, hi with
    | 0, _ => exact Fld.start ((fld_at ev0).symm.trans ew0)
    | 1, _ => exact Fld.start ((fld_at ev1).symm.trans ew1)
    | 2, _ => exact Fld.start ((fld_at ev2).symm.trans ew2)
  have SW : ∀ i, i < 3 → STR s s.heap (pick3 wn0 wn1 wn2 i) (pick3 wb0 wb1 wb2 i) (wlF i) (wcF i) := fun i hi => by
    match i, hi with
    | 0, _ => exact SW0
    | 1, _ => exact SW1
    | 2, _ => exact SW2
  have S_0 : Sta s s.heap "com/example/herring/herring/acl/Scheme" "WORLD" "Lcom/example/herring/herring/acl/Scheme;" (.ref (pick3 v0 v1 v2 0)) := Sta.start (own_eqR n23 ev0) (Or.inr ⟨(hw _ (List.mem_of_getElem? (i := 34) rfl)), (hw _ (List.mem_of_getElem? (i := 120) rfl))⟩)
  have S_1 : Sta s s.heap "com/example/herring/herring/acl/Scheme" "IP" "Lcom/example/herring/herring/acl/Scheme;" (.ref (pick3 v0 v1 v2 1)) := Sta.start (own_eqR n20 ev1) (Or.inr ⟨(hw _ (List.mem_of_getElem? (i := 34) rfl)), (hw _ (List.mem_of_getElem? (i := 115) rfl))⟩)
  have S_2 : Sta s s.heap "com/example/herring/herring/acl/Scheme" "DIGEST" "Lcom/example/herring/herring/acl/Scheme;" (.ref (pick3 v0 v1 v2 2)) := Sta.start (own_eqR n22 ev2) (Or.inr ⟨(hw _ (List.mem_of_getElem? (i := 34) rfl)), (hw _ (List.mem_of_getElem? (i := 117) rfl))⟩)
  obtain ⟨cs, ecs⟩ := is_v (Cond.before_iff.mp (hsets _ (List.mem_of_getElem? (i := 1) rfl)))
  have SC : Sta s s.heap "java/lang/String" "COMPACT_STRINGS" "Z" (.int cs) := Sta.start ecs (Or.inl (hsets _ (List.mem_of_getElem? (i := 0) rfl)))
  have hcs : ¬ cs = (0 : Int32) := own_n0 ecs (not_v (Cond.before_iff.mp (hsets _ (List.mem_of_getElem? (i := 2) rfl))))
  obtain ⟨vf, evf, rvf⟩ := isR_v (Cond.before_iff.mp (hsets _ (List.mem_of_getElem? (i := 8) rfl)))
  have SF : Sta s s.heap "jdk/internal/util/Preconditions" "SIOOBE_FORMATTER" "Ljava/util/function/BiFunction;" vf := Sta.start evf (Or.inl (hsets _ (List.mem_of_getElem? (i := 7) rfl)))
  have hcat : vf.category = 1 := by rcases ref_cases rvf with rfl | ⟨_, rfl⟩ <;> rfl
  have hELs := own_EW s _ hw
  have hCs : CHx s EL0 [] s.vm s.heap := ⟨CHv.start hELs (fun p hp => hcalls.1 p hp) (hsets _ (List.mem_of_getElem? (i := 2) rfl)) (hw _ (List.mem_of_getElem? (i := 3) rfl)) (hw _ (List.mem_of_getElem? (i := 2) rfl)), fun x hx => absurd hx List.not_mem_nil⟩
  obtain ⟨n, o, h1, h2, h3, _, L, rfl, ⟨⟨rfl, N⟩, -⟩, hq⟩ := rm0 l s _ hw hELs tables_1 i0 i1 i2 i3 s.heap s.heap.size (Nat.le_refl _) cs SC hcs vf hcat SF va (pick3 v0 v1 v2) SV EV GV (pick3 wn0 wn1 wn2) (pick3 wb0 wb1 wb2) FW SW S_0 S_1 S_2 p e ha hc hk s m _ below hf ((Spec.applies_iff_loose hf).mp happ).1 ⟨rfl, State.Warmed39.refl s, rfl, hCs⟩ trivial
  refine ⟨n, _, h1, h2, h3, hpost _ _ _ _ _ _ ⟨Cond.after_iff.mpr rfl, Cond.after_iff.mpr (eq_i res_at (Term.int_eval (1)) rfl), trivial⟩ ⟨hq.1, hq.2.1, hq.2.2.1, (hq.2.2.2.sift fun y hy => Or.inr (N y hy)).mono (by decide) (by decide)⟩⟩
theorem main_1_1 : Claimed_1_1 := comes_1 fun _ _ _ _ _ _ h hF => ⟨h.1, hF⟩
theorem main_1_2 : Claimed_1_2 := comes_1 fun _ _ _ _ _ _ h hF => ⟨h.2.1, hF⟩
end Jvm.Pilot.@@N@@
namespace Jvm.Pilot.@@N@@
open Jvm Jvm.ClassFile Sem Op Lib Jvm.Free Jvm.Stand Jvm.Pilot.@@N@@.Jvm.D
/-! MADE BY PROGRAM (witnessworld.py) out of the Statement's table words and the real class files: 25 classes; the members and pool entries that the words name. The judged class is class 1, her method 1. -/
namespace start1
open Jvm.ClassFile
def u (s : String) : CpInfo := .utf8 (stringToUtf16 s)
/-- a pool by its gaps: so many unusable entries, then the entry; so many at the end -/
def gap : Nat → List CpInfo → List CpInfo
  | 0, r => r
  | n + 1, r => .unusable :: gap n r
def poolList (es : List (Nat × CpInfo)) (last : Nat) : List CpInfo := es.foldr (fun e r => gap e.1 (e.2 :: r)) (gap last [])
def pool (es : List (Nat × CpInfo)) (last : Nat) : Array CpInfo := ⟨poolList es last⟩
def fileOf (pool : Array CpInfo) (this : Nat) (attrs : Array Attribute := #[]) (ms : Array MethodInfo := #[]) (fl : Nat := 33) (sup : Nat := 0) (ifs : Array Nat := #[]) (fds : Array FieldInfo := #[]) : ClassFile where
  minorVersion := 0
  majorVersion := 65
  constantPool := pool
  accessFlags := fl
  thisClass := this
  superClass := sup
  interfaces := ifs
  fields := fds
  methods := ms
  attributes := attrs
def plain (name : String) (sup : Option ClassId) : Class where
  name := name
  kind := .ordinary
  loader := none
  accessFlags := 33
  super := sup
  interfaces := #[]
  cf := none
  fields := #[]
  methods := #[]
  instanceTypes := #[]
  staticTypes := #[]
  resolved := #[]
  callSites := []
  init := .initialized
  statics := none
  mirror := none

def pool0 : Array CpInfo := pool [(5, u "<init>"), (0, u "()V"), (1, .class_ 10), (1, u "java/lang/Object"), (85, u "clone"), (0, u "()Ljava/lang/Object;")] 26

def k0c0 : Code := { maxStack := 0, maxLocals := 1, code := object_method_1_code, exceptionTable := #[], attributes := #[] }
def k0m0 : Method := { name := "<init>", desc := "()V", sig := { parameters := [], returnType := none }, accessFlags := 1, code := some k0c0 }
def k0m1 : Method := { name := "clone", desc := "()Ljava/lang/Object;", sig := { parameters := [], returnType := some (.object "java/lang/Object") }, accessFlags := 260, code := none }
/-- java/lang/Object -/
def k0 : Class := { plain "java/lang/Object" none with
  accessFlags := 33
  interfaces := #[]
  cf := some (fileOf pool0 8 #[] #[{ accessFlags := 1, nameIndex := 5, descriptorIndex := 6, attributes := #[] }, { accessFlags := 260, nameIndex := 96, descriptorIndex := 97, attributes := #[] }] 33 0 #[] #[])
  fields := #[]
  methods := #[k0m0, k0m1]
  instanceTypes := #[]
  staticTypes := #[]
  resolved := Array.replicate 124 none
  statics := none }

def pool1 : Array CpInfo := pool [(2, .class_ 4), (1, u "java/lang/Object"), (0, u "<init>"), (0, u "()V"), (0, .string 8), (0, u "world"), (0, .string 10), (0, u "ip"), (0, .string 12), (0, u "digest"), (0, .string 14), (0, u ""), (0, .methodref 16 17), (0, .class_ 18), (0, .nameAndType 19 20), (0, u "java/lang/String"), (0, u "isEmpty"), (0, u "()Z"), (0, .methodref 16 22), (0, .nameAndType 23 24), (0, u "length"), (0, u "()I"), (0, .methodref 26 27), (0, .class_ 28), (0, .nameAndType 29 30), (0, u "com/example/herring/herring/acl/SchemeNamedPinLaw"), (0, u "ch"), (0, u "(Ljava/lang/String;IIJ)C"), (0, .methodref 26 32), (0, .nameAndType 33 34), (0, u "cut"), (0, u "([CI)Ljava/lang/String;"), (0, .methodref 16 36), (0, .nameAndType 37 38), (0, u "equals"), (0, u "(Ljava/lang/Object;)Z"), (0, .fieldref 40 41), (0, .class_ 42), (0, .nameAndType 43 44), (0, u "com/example/herring/herring/acl/Scheme"), (0, u "WORLD"), (0, u "Lcom/example/herring/herring/acl/Scheme;"), (0, .fieldref 40 46), (0, .nameAndType 47 44), (0, u "IP"), (0, .fieldref 40 49), (0, .nameAndType 50 44), (0, u "DIGEST"), (0, .methodref 40 52), (0, .nameAndType 53 54), (0, u "named"), (0, u "(Ljava/lang/String;)Lcom/example/herring/herring/acl/Scheme;"), (0, .methodref 16 56), (0, .nameAndType 57 58), (0, u "charAt"), (0, u "(I)C"), (0, .long 255), (1, .methodref 16 62), (0, .nameAndType 5 63), (0, u "([C)V"), (2, u "law"), (0, u "(IIIJ)Z")] 5

def k1m0 : Method := { name := "<init>", desc := "()V", sig := { parameters := [], returnType := none }, accessFlags := 1, code := none }
def k1c1 : Code := { maxStack := 7, maxLocals := 12, code := code, exceptionTable := #[], attributes := #[] }
def k1m1 : Method := { name := "law", desc := "(IIIJ)Z", sig := { parameters := [.int, .int, .int, .long], returnType := some .boolean }, accessFlags := 9, code := some k1c1 }
def k1c2 : Code := { maxStack := 4, maxLocals := 5, code := method_3_code, exceptionTable := #[], attributes := #[] }
def k1m2 : Method := { name := "ch", desc := "(Ljava/lang/String;IIJ)C", sig := { parameters := [(.object "java/lang/String"), .int, .int, .long], returnType := some .char }, accessFlags := 10, code := some k1c2 }
def k1c3 : Code := { maxStack := 7, maxLocals := 2, code := method_4_code, exceptionTable := #[], attributes := #[] }
def k1m3 : Method := { name := "cut", desc := "([CI)Ljava/lang/String;", sig := { parameters := [(.array .char), .int], returnType := some (.object "java/lang/String") }, accessFlags := 10, code := some k1c3 }
/-- com/example/herring/herring/acl/SchemeNamedPinLaw -/
def k1 : Class := { plain "com/example/herring/herring/acl/SchemeNamedPinLaw" (some 0) with
  accessFlags := 49
  interfaces := #[]
  cf := some (fileOf pool1 26 #[] #[{ accessFlags := 1, nameIndex := 5, descriptorIndex := 6, attributes := #[] }, { accessFlags := 9, nameIndex := 66, descriptorIndex := 67, attributes := #[] }, { accessFlags := 10, nameIndex := 29, descriptorIndex := 30, attributes := #[] }, { accessFlags := 10, nameIndex := 33, descriptorIndex := 34, attributes := #[] }] 49 2 #[] #[])
  fields := #[]
  methods := #[k1m0, k1m1, k1m2, k1m3]
  instanceTypes := #[]
  staticTypes := #[]
  resolved := Array.replicate 73 none
  statics := none }

def pool2 : Array CpInfo := pool [(1, .class_ 2), (0, u "java/io/Serializable"), (0, .class_ 4), (0, u "java/lang/Object")] 2

/-- java/io/Serializable -/
def k2 : Class := { plain "java/io/Serializable" (some 0) with
  accessFlags := 1537
  interfaces := #[]
  cf := some (fileOf pool2 1 #[] #[] 1537 3 #[] #[])
  fields := #[]
  methods := #[]
  instanceTypes := #[]
  staticTypes := #[]
  resolved := Array.replicate 7 none
  statics := none }

def pool3 : Array CpInfo := pool [(1, .class_ 2), (0, u "java/lang/Comparable"), (0, .class_ 4), (0, u "java/lang/Object")] 7

/-- java/lang/Comparable -/
def k3 : Class := { plain "java/lang/Comparable" (some 0) with
  accessFlags := 1537
  interfaces := #[]
  cf := some (fileOf pool3 1 #[] #[] 1537 3 #[] #[])
  fields := #[]
  methods := #[]
  instanceTypes := #[]
  staticTypes := #[]
  resolved := Array.replicate 12 none
  statics := none }

def pool4 : Array CpInfo := pool [(2, .class_ 4), (1, u "java/lang/CharSequence"), (42, .class_ 48), (0, u "java/lang/CharSequence$1CodePointIterator"), (10, .class_ 60), (0, u "java/lang/CharSequence$1CharIterator"), (5, .class_ 67), (0, u "java/lang/Object")] 63

/-- java/lang/CharSequence -/
def k4 : Class := { plain "java/lang/CharSequence" (some 0) with
  accessFlags := 1537
  interfaces := #[]
  cf := some (fileOf pool4 2 #[.nestMembers #[47, 59]] #[] 1537 66 #[] #[])
  fields := #[]
  methods := #[]
  instanceTypes := #[]
  staticTypes := #[]
  resolved := Array.replicate 131 none
  statics := none }

def pool5 : Array CpInfo := pool [(1, .class_ 2), (0, u "java/lang/constant/Constable"), (0, .class_ 4), (0, u "java/lang/Object")] 6

/-- java/lang/constant/Constable -/
def k5 : Class := { plain "java/lang/constant/Constable" (some 0) with
  accessFlags := 1537
  interfaces := #[]
  cf := some (fileOf pool5 1 #[] #[] 1537 3 #[] #[])
  fields := #[]
  methods := #[]
  instanceTypes := #[]
  staticTypes := #[]
  resolved := Array.replicate 11 none
  statics := none }

def pool6 : Array CpInfo := pool [(1, .class_ 2), (0, u "java/lang/constant/ConstantDesc"), (0, .class_ 4), (0, u "java/lang/Object")] 32

/-- java/lang/constant/ConstantDesc -/
def k6 : Class := { plain "java/lang/constant/ConstantDesc" (some 0) with
  accessFlags := 1537
  interfaces := #[]
  cf := some (fileOf pool6 1 #[] #[] 1537 3 #[] #[])
  fields := #[]
  methods := #[]
  instanceTypes := #[]
  staticTypes := #[]
  resolved := Array.replicate 37 none
  statics := none }

def pool7 : Array CpInfo := pool [(1, .methodref 2 3), (0, .class_ 4), (0, .nameAndType 5 6), (0, u "java/lang/Object"), (0, u "<init>"), (0, u "()V"), (0, .string 8), (0, u ""), (0, .fieldref 10 11), (0, .class_ 12), (0, .nameAndType 13 14), (0, u "java/lang/String"), (0, u "value"), (0, u "[B"), (0, .fieldref 10 16), (0, .nameAndType 17 18), (0, u "coder"), (0, u "B"), (2, u "hash"), (0, u "I"), (2, u "hashIsZero"), (0, u "Z"), (0, .methodref 10 28), (0, .nameAndType 5 29), (0, u "([CIILjava/lang/Void;)V"), (8, .fieldref 10 39), (0, .nameAndType 40 26), (0, u "COMPACT_STRINGS"), (1, .class_ 44), (1, u "java/lang/StringUTF16"), (0, u "compress"), (1, .methodref 42 48), (0, .nameAndType 49 50), (0, u "coderFromArrayLen"), (0, u "([BI)B"), (56, .class_ 109), (1, u "java/lang/StringLatin1"), (32, u "()Z"), (34, .methodref 42 178), (0, .nameAndType 45 179), (0, u "([CII)[B"), (154, u "()I"), (0, .methodref 10 336), (0, .nameAndType 17 337), (0, u "()B"), (25, u "([BI)C"), (27, u "(II)V"), (35, u "(I)C"), (64, .methodref 10 493), (0, .nameAndType 494 142), (0, u "isLatin1"), (0, .methodref 107 496), (0, .nameAndType 497 363), (0, u "charAt"), (3, u "checkIndex"), (5, u "length"), (33, .methodref 107 542), (0, .nameAndType 543 544), (0, u "equals"), (0, u "([B[B)Z"), (28, u "(Ljava/lang/Object;)Z"), (1, .class_ 576), (0, u "java/lang/CharSequence"), (22, u "CASE_INSENSITIVE_ORDER"), (0, u "Ljava/util/Comparator;"), (91, u "isEmpty"), (317, u "([C)V"), (42, .fieldref 1054 1055), (0, .class_ 1056), (0, .nameAndType 1057 1058), (0, u "jdk/internal/util/Preconditions"), (0, u "SIOOBE_FORMATTER"), (0, u "Ljava/util/function/BiFunction;"), (0, .methodref 1054 1060), (0, .nameAndType 501 1061), (0, u "(IILjava/util/function/BiFunction;)I"), (39, u "serialPersistentFields"), (0, u "[Ljava/io/ObjectStreamField;"), (0, .class_ 1104), (0, u "java/lang/String$CaseInsensitiveComparator"), (1, .class_ 1107), (0, u "java/io/Serializable"), (0, .class_ 1109), (0, u "java/lang/Comparable"), (0, .class_ 1111), (0, u "java/lang/constant/Constable"), (0, .class_ 1113), (0, u "java/lang/constant/ConstantDesc"), (2, u "serialVersionUID"), (0, u "J"), (3, u "REPL"), (0, u "C"), (2, u "LATIN1"), (1, u "UTF16")] 323

def k7m0 : Method := { name := "<init>", desc := "()V", sig := { parameters := [], returnType := none }, accessFlags := 1, code := none }
def k7c1 : Code := { maxStack := 5, maxLocals := 2, code := jdk_42_method_3_code, exceptionTable := #[], attributes := #[] }
def k7m1 : Method := { name := "<init>", desc := "([C)V", sig := { parameters := [(.array .char)], returnType := none }, accessFlags := 1, code := some k7c1 }
def k7c2 : Code := { maxStack := 2, maxLocals := 1, code := jdk_42_method_54_code, exceptionTable := #[], attributes := #[] }
def k7m2 : Method := { name := "length", desc := "()I", sig := { parameters := [], returnType := some .int }, accessFlags := 1, code := some k7c2 }
def k7c3 : Code := { maxStack := 1, maxLocals := 1, code := jdk_42_method_55_code, exceptionTable := #[], attributes := #[] }
def k7m3 : Method := { name := "isEmpty", desc := "()Z", sig := { parameters := [], returnType := some .boolean }, accessFlags := 1, code := some k7c3 }
def k7c4 : Code := { maxStack := 2, maxLocals := 2, code := jdk_42_method_56_code, exceptionTable := #[], attributes := #[] }
def k7m4 : Method := { name := "charAt", desc := "(I)C", sig := { parameters := [.int], returnType := some .char }, accessFlags := 1, code := some k7c4 }
def k7c5 : Code := { maxStack := 2, maxLocals := 3, code := jdk_42_method_66_code, exceptionTable := #[], attributes := #[] }
def k7m5 : Method := { name := "equals", desc := "(Ljava/lang/Object;)Z", sig := { parameters := [(.object "java/lang/Object")], returnType := some .boolean }, accessFlags := 1, code := some k7c5 }
def k7c6 : Code := { maxStack := 4, maxLocals := 6, code := jdk_42_method_149_code, exceptionTable := #[], attributes := #[] }
def k7m6 : Method := { name := "<init>", desc := "([CIILjava/lang/Void;)V", sig := { parameters := [(.array .char), .int, .int, (.object "java/lang/Void")], returnType := none }, accessFlags := 2, code := some k7c6 }
def k7c7 : Code := { maxStack := 1, maxLocals := 1, code := jdk_42_method_152_code, exceptionTable := #[], attributes := #[] }
def k7m7 : Method := { name := "coder", desc := "()B", sig := { parameters := [], returnType := some .byte }, accessFlags := 0, code := some k7c7 }
def k7c8 : Code := { maxStack := 1, maxLocals := 1, code := jdk_42_method_154_code, exceptionTable := #[], attributes := #[] }
def k7m8 : Method := { name := "isLatin1", desc := "()Z", sig := { parameters := [], returnType := some .boolean }, accessFlags := 0, code := some k7c8 }
def k7c9 : Code := { maxStack := 3, maxLocals := 2, code := jdk_42_method_155_code, exceptionTable := #[], attributes := #[] }
def k7m9 : Method := { name := "checkIndex", desc := "(II)V", sig := { parameters := [.int, .int], returnType := none }, accessFlags := 8, code := some k7c9 }
/-- java/lang/String -/
def k7 : Class := { plain "java/lang/String" (some 0) with
  accessFlags := 49
  interfaces := #[2, 3, 4, 5, 6]
  cf := some (fileOf pool7 10 #[.nestMembers #[1103]] #[{ accessFlags := 1, nameIndex := 5, descriptorIndex := 6, attributes := #[] }, { accessFlags := 1, nameIndex := 5, descriptorIndex := 1010, attributes := #[] }, { accessFlags := 1, nameIndex := 507, descriptorIndex := 334, attributes := #[] }, { accessFlags := 1, nameIndex := 692, descriptorIndex := 142, attributes := #[] }, { accessFlags := 1, nameIndex := 497, descriptorIndex := 427, attributes := #[] }, { accessFlags := 1, nameIndex := 543, descriptorIndex := 573, attributes := #[] }, { accessFlags := 2, nameIndex := 5, descriptorIndex := 29, attributes := #[] }, { accessFlags := 0, nameIndex := 17, descriptorIndex := 337, attributes := #[] }, { accessFlags := 0, nameIndex := 494, descriptorIndex := 142, attributes := #[] }, { accessFlags := 8, nameIndex := 501, descriptorIndex := 391, attributes := #[] }] 49 2 #[1106, 1108, 575, 1110, 1112] #[{ accessFlags := 18, nameIndex := 13, descriptorIndex := 14, attributes := #[] }, { accessFlags := 18, nameIndex := 17, descriptorIndex := 18, attributes := #[] }, { accessFlags := 2, nameIndex := 21, descriptorIndex := 22, attributes := #[] }, { accessFlags := 2, nameIndex := 25, descriptorIndex := 26, attributes := #[] }, { accessFlags := 26, nameIndex := 1116, descriptorIndex := 1117, attributes := #[] }, { accessFlags := 24, nameIndex := 40, descriptorIndex := 26, attributes := #[] }, { accessFlags := 26, nameIndex := 1101, descriptorIndex := 1102, attributes := #[] }, { accessFlags := 26, nameIndex := 1121, descriptorIndex := 1122, attributes := #[] }, { accessFlags := 25, nameIndex := 599, descriptorIndex := 600, attributes := #[] }, { accessFlags := 24, nameIndex := 1125, descriptorIndex := 18, attributes := #[] }, { accessFlags := 24, nameIndex := 1127, descriptorIndex := 18, attributes := #[] }])
  fields := #[{ name := "value", type := (.array .byte), accessFlags := 18, slot := 0, constantValue := 0 }, { name := "coder", type := .byte, accessFlags := 18, slot := 1, constantValue := 0 }, { name := "hash", type := .int, accessFlags := 2, slot := 2, constantValue := 0 }, { name := "hashIsZero", type := .boolean, accessFlags := 2, slot := 3, constantValue := 0 }, { name := "serialVersionUID", type := .long, accessFlags := 26, slot := 0, constantValue := 0 }, { name := "COMPACT_STRINGS", type := .boolean, accessFlags := 24, slot := 1, constantValue := 0 }, { name := "serialPersistentFields", type := (.array (.object "java/io/ObjectStreamField")), accessFlags := 26, slot := 2, constantValue := 0 }, { name := "REPL", type := .char, accessFlags := 26, slot := 3, constantValue := 0 }, { name := "CASE_INSENSITIVE_ORDER", type := (.object "java/util/Comparator"), accessFlags := 25, slot := 4, constantValue := 0 }, { name := "LATIN1", type := .byte, accessFlags := 24, slot := 5, constantValue := 0 }, { name := "UTF16", type := .byte, accessFlags := 24, slot := 6, constantValue := 0 }]
  methods := #[k7m0, k7m1, k7m2, k7m3, k7m4, k7m5, k7m6, k7m7, k7m8, k7m9]
  instanceTypes := #[(.array .byte), .byte, .int, .boolean]
  staticTypes := #[.long, .boolean, (.array (.object "java/io/ObjectStreamField")), .char, (.object "java/util/Comparator"), .byte, .byte]
  resolved := Array.replicate 1451 none
  statics := some 0 }

def pool8 : Array CpInfo := pool [(2, .class_ 4), (1, u "java/lang/Enum"), (0, u "name"), (0, u "Ljava/lang/String;"), (2, u "ordinal"), (0, u "I"), (1, .class_ 14), (1, u "java/lang/Object"), (4, u "hash"), (86, .class_ 108), (1, u "java/lang/Enum$EnumDesc"), (2, .class_ 112), (0, u "java/lang/constant/Constable"), (0, .class_ 114), (0, u "java/lang/Comparable"), (0, .class_ 116), (0, u "java/io/Serializable")] 87

/-- java/lang/Enum -/
def k8 : Class := { plain "java/lang/Enum" (some 0) with
  accessFlags := 1057
  interfaces := #[5, 3, 2]
  cf := some (fileOf pool8 2 #[.nestMembers #[106]] #[] 1057 12 #[111, 113, 115] #[{ accessFlags := 18, nameIndex := 5, descriptorIndex := 6, attributes := #[] }, { accessFlags := 18, nameIndex := 9, descriptorIndex := 10, attributes := #[] }, { accessFlags := 2, nameIndex := 19, descriptorIndex := 10, attributes := #[] }])
  fields := #[{ name := "name", type := (.object "java/lang/String"), accessFlags := 18, slot := 0, constantValue := 0 }, { name := "ordinal", type := .int, accessFlags := 18, slot := 1, constantValue := 0 }, { name := "hash", type := .int, accessFlags := 2, slot := 2, constantValue := 0 }]
  methods := #[]
  instanceTypes := #[(.object "java/lang/String"), .int, .int]
  staticTypes := #[]
  resolved := Array.replicate 204 none
  statics := none }

def pool9 : Array CpInfo := pool [(1, .class_ 2), (0, u "com/example/herring/herring/acl/Scheme"), (2, u "WORLD"), (0, u "Lcom/example/herring/herring/acl/Scheme;"), (2, u "IP"), (2, u "DIGEST"), (0, .fieldref 1 14), (0, .nameAndType 15 16), (0, u "$VALUES"), (0, u "[Lcom/example/herring/herring/acl/Scheme;"), (0, .methodref 18 19), (0, .class_ 16), (0, .nameAndType 20 21), (0, u "clone"), (0, u "()Ljava/lang/Object;"), (1, .class_ 25), (1, u "java/lang/Enum"), (6, .fieldref 1 33), (0, .nameAndType 34 35), (0, u "wireName"), (0, u "Ljava/lang/String;"), (0, .methodref 1 37), (0, .nameAndType 38 39), (0, u "values"), (0, u "()[Lcom/example/herring/herring/acl/Scheme;"), (0, .methodref 41 42), (0, .class_ 43), (0, .nameAndType 44 45), (0, u "java/lang/String"), (0, u "equals"), (0, u "(Ljava/lang/Object;)Z"), (2, u "named"), (0, u "(Ljava/lang/String;)Lcom/example/herring/herring/acl/Scheme;"), (72, .class_ 123), (0, u "com/example/herring/herring/acl/Scheme$1"), (6, .class_ 131), (0, u "com/example/herring/herring/acl/Scheme$2"), (4, .class_ 137), (0, u "com/example/herring/herring/acl/Scheme$3"), (6, u "ANYONE"), (3, u "SHA1_LENGTH"), (0, u "I")] 44

def k9c0 : Code := { maxStack := 1, maxLocals := 0, code := prog_3_method_1_code, exceptionTable := #[], attributes := #[] }
def k9m0 : Method := { name := "values", desc := "()[Lcom/example/herring/herring/acl/Scheme;", sig := { parameters := [], returnType := some (.array (.object "com/example/herring/herring/acl/Scheme")) }, accessFlags := 9, code := some k9c0 }
def k9c1 : Code := { maxStack := 2, maxLocals := 5, code := prog_3_method_5_code, exceptionTable := #[], attributes := #[] }
def k9m1 : Method := { name := "named", desc := "(Ljava/lang/String;)Lcom/example/herring/herring/acl/Scheme;", sig := { parameters := [(.object "java/lang/String")], returnType := some (.object "com/example/herring/herring/acl/Scheme") }, accessFlags := 8, code := some k9c1 }
/-- com/example/herring/herring/acl/Scheme -/
def k9 : Class := { plain "com/example/herring/herring/acl/Scheme" (some 8) with
  accessFlags := 17440
  interfaces := #[]
  cf := some (fileOf pool9 1 #[.nestMembers #[136, 130, 122]] #[{ accessFlags := 9, nameIndex := 38, descriptorIndex := 39, attributes := #[] }, { accessFlags := 8, nameIndex := 48, descriptorIndex := 49, attributes := #[] }] 17440 23 #[] #[{ accessFlags := 16409, nameIndex := 5, descriptorIndex := 6, attributes := #[] }, { accessFlags := 16409, nameIndex := 9, descriptorIndex := 6, attributes := #[] }, { accessFlags := 16409, nameIndex := 12, descriptorIndex := 6, attributes := #[] }, { accessFlags := 24, nameIndex := 144, descriptorIndex := 35, attributes := #[] }, { accessFlags := 26, nameIndex := 148, descriptorIndex := 149, attributes := #[] }, { accessFlags := 18, nameIndex := 34, descriptorIndex := 35, attributes := #[] }, { accessFlags := 4122, nameIndex := 15, descriptorIndex := 16, attributes := #[] }])
  fields := #[{ name := "WORLD", type := (.object "com/example/herring/herring/acl/Scheme"), accessFlags := 16409, slot := 0, constantValue := 0 }, { name := "IP", type := (.object "com/example/herring/herring/acl/Scheme"), accessFlags := 16409, slot := 1, constantValue := 0 }, { name := "DIGEST", type := (.object "com/example/herring/herring/acl/Scheme"), accessFlags := 16409, slot := 2, constantValue := 0 }, { name := "ANYONE", type := (.object "java/lang/String"), accessFlags := 24, slot := 3, constantValue := 0 }, { name := "SHA1_LENGTH", type := .int, accessFlags := 26, slot := 4, constantValue := 0 }, { name := "wireName", type := (.object "java/lang/String"), accessFlags := 18, slot := 3, constantValue := 0 }, { name := "$VALUES", type := (.array (.object "com/example/herring/herring/acl/Scheme")), accessFlags := 4122, slot := 5, constantValue := 0 }]
  methods := #[k9m0, k9m1]
  instanceTypes := #[(.object "java/lang/String"), .int, .int, (.object "java/lang/String")]
  staticTypes := #[(.object "com/example/herring/herring/acl/Scheme"), (.object "com/example/herring/herring/acl/Scheme"), (.object "com/example/herring/herring/acl/Scheme"), (.object "java/lang/String"), .int, (.array (.object "com/example/herring/herring/acl/Scheme"))]
  resolved := Array.replicate 194 none
  statics := some 1 }

def pool10 : Array CpInfo := pool [(1, .class_ 2), (0, u "java/lang/Cloneable"), (0, .class_ 4), (0, u "java/lang/Object")] 2

/-- java/lang/Cloneable -/
def k10 : Class := { plain "java/lang/Cloneable" (some 0) with
  accessFlags := 1537
  interfaces := #[]
  cf := some (fileOf pool10 1 #[] #[] 1537 3 #[] #[])
  fields := #[]
  methods := #[]
  instanceTypes := #[]
  staticTypes := #[]
  resolved := Array.replicate 7 none
  statics := none }

def pool11 : Array CpInfo := pool [(2, .class_ 4), (1, u "com/example/herring/herring/acl/Scheme"), (23, .class_ 29), (0, u "com/example/herring/herring/acl/Scheme$1")] 15

/-- com/example/herring/herring/acl/Scheme$1 -/
def k11 : Class := { plain "com/example/herring/herring/acl/Scheme$1" (some 9) with
  accessFlags := 16432
  interfaces := #[]
  cf := some (fileOf pool11 28 #[.nestHost 2] #[] 16432 2 #[] #[])
  fields := #[]
  methods := #[]
  instanceTypes := #[(.object "java/lang/String"), .int, .int, (.object "java/lang/String")]
  staticTypes := #[]
  resolved := Array.replicate 45 none
  statics := none }

def pool12 : Array CpInfo := pool [(2, .class_ 4), (1, u "com/example/herring/herring/acl/Scheme"), (20, .class_ 26), (0, u "com/example/herring/herring/acl/Scheme$2")] 15

/-- com/example/herring/herring/acl/Scheme$2 -/
def k12 : Class := { plain "com/example/herring/herring/acl/Scheme$2" (some 9) with
  accessFlags := 16432
  interfaces := #[]
  cf := some (fileOf pool12 25 #[.nestHost 2] #[] 16432 2 #[] #[])
  fields := #[]
  methods := #[]
  instanceTypes := #[(.object "java/lang/String"), .int, .int, (.object "java/lang/String")]
  staticTypes := #[]
  resolved := Array.replicate 42 none
  statics := none }

def pool13 : Array CpInfo := pool [(1, .class_ 2), (0, u "com/example/herring/herring/acl/Scheme"), (55, .class_ 59), (0, u "com/example/herring/herring/acl/Scheme$3")] 21

/-- com/example/herring/herring/acl/Scheme$3 -/
def k13 : Class := { plain "com/example/herring/herring/acl/Scheme$3" (some 9) with
  accessFlags := 16432
  interfaces := #[]
  cf := some (fileOf pool13 58 #[.nestHost 1] #[] 16432 1 #[] #[])
  fields := #[]
  methods := #[]
  instanceTypes := #[(.object "java/lang/String"), .int, .int, (.object "java/lang/String")]
  staticTypes := #[]
  resolved := Array.replicate 81 none
  statics := none }

def pool14 : Array CpInfo := pool [(6, .class_ 8), (1, u "java/lang/Object"), (0, u "<init>"), (0, u "()V"), (1, .class_ 14), (1, u "java/lang/StringUTF16"), (31, u "$assertionsDisabled"), (0, u "Z"), (13, u "HI_BYTE_SHIFT"), (0, u "I"), (2, u "LO_BYTE_SHIFT"), (49, .methodref 12 116), (0, .nameAndType 117 118), (0, u "compress"), (0, u "([CI[BII)I"), (3, u "([CII)[B"), (138, u "coderFromArrayLen"), (0, u "([BI)B"), (106, .class_ 371), (1, u "java/lang/StringUTF16$LinesSpliterator"), (58, u "MAX_LENGTH"), (196, .class_ 628), (0, u "java/lang/StringUTF16$CodePointsSpliterator"), (0, .class_ 630), (0, u "java/lang/StringUTF16$CharsSpliterator")] 4

def k14m0 : Method := { name := "<init>", desc := "()V", sig := { parameters := [], returnType := none }, accessFlags := 0, code := none }
def k14c1 : Code := { maxStack := 2, maxLocals := 2, code := jdk_52_method_15_code, exceptionTable := #[], attributes := #[] }
def k14m1 : Method := { name := "coderFromArrayLen", desc := "([BI)B", sig := { parameters := [(.array .byte), .int], returnType := some .byte }, accessFlags := 8, code := some k14c1 }
def k14c2 : Code := { maxStack := 5, maxLocals := 6, code := jdk_52_method_16_code, exceptionTable := #[], attributes := #[] }
def k14m2 : Method := { name := "compress", desc := "([CII)[B", sig := { parameters := [(.array .char), .int, .int], returnType := some (.array .byte) }, accessFlags := 9, code := some k14c2 }
def k14c3 : Code := { maxStack := 3, maxLocals := 7, code := jdk_52_method_21_code, exceptionTable := #[], attributes := #[] }
def k14m3 : Method := { name := "compress", desc := "([CI[BII)I", sig := { parameters := [(.array .char), .int, (.array .byte), .int, .int], returnType := some .int }, accessFlags := 9, code := some k14c3 }
/-- java/lang/StringUTF16 -/
def k14 : Class := { plain "java/lang/StringUTF16" (some 0) with
  accessFlags := 48
  interfaces := #[]
  cf := some (fileOf pool14 12 #[.nestMembers #[627, 629, 369]] #[{ accessFlags := 0, nameIndex := 9, descriptorIndex := 10, attributes := #[] }, { accessFlags := 8, nameIndex := 261, descriptorIndex := 262, attributes := #[] }, { accessFlags := 9, nameIndex := 117, descriptorIndex := 122, attributes := #[] }, { accessFlags := 9, nameIndex := 117, descriptorIndex := 118, attributes := #[] }] 48 6 #[] #[{ accessFlags := 26, nameIndex := 61, descriptorIndex := 62, attributes := #[] }, { accessFlags := 26, nameIndex := 65, descriptorIndex := 62, attributes := #[] }, { accessFlags := 24, nameIndex := 430, descriptorIndex := 62, attributes := #[] }, { accessFlags := 4120, nameIndex := 46, descriptorIndex := 47, attributes := #[] }])
  fields := #[{ name := "HI_BYTE_SHIFT", type := .int, accessFlags := 26, slot := 0, constantValue := 0 }, { name := "LO_BYTE_SHIFT", type := .int, accessFlags := 26, slot := 1, constantValue := 0 }, { name := "MAX_LENGTH", type := .int, accessFlags := 24, slot := 2, constantValue := 0 }, { name := "$assertionsDisabled", type := .boolean, accessFlags := 4120, slot := 3, constantValue := 0 }]
  methods := #[k14m0, k14m1, k14m2, k14m3]
  instanceTypes := #[]
  staticTypes := #[.int, .int, .int, .boolean]
  resolved := Array.replicate 635 none
  statics := none }

def pool15 : Array CpInfo := pool [(1, .class_ 2), (0, u "java/lang/String"), (1, .class_ 6), (1, u "java/lang/Object"), (0, u "<init>"), (0, u "()V"), (0, .methodref 1 10), (0, .nameAndType 11 12), (0, u "checkIndex"), (0, u "(II)V"), (1, .class_ 16), (1, u "java/lang/StringLatin1"), (36, u "([BI)C"), (67, u "$assertionsDisabled"), (0, u "Z"), (98, .class_ 223), (1, u "java/lang/StringLatin1$LinesSpliterator"), (28, u "charAt"), (28, u "equals"), (0, u "([B[B)Z"), (107, .class_ 391), (0, u "java/lang/StringLatin1$CharsSpliterator")] 3

def k15m0 : Method := { name := "<init>", desc := "()V", sig := { parameters := [], returnType := none }, accessFlags := 0, code := none }
def k15c1 : Code := { maxStack := 2, maxLocals := 2, code := jdk_43_method_2_code, exceptionTable := #[], attributes := #[] }
def k15m1 : Method := { name := "charAt", desc := "([BI)C", sig := { parameters := [(.array .byte), .int], returnType := some .char }, accessFlags := 9, code := some k15c1 }
def k15c2 : Code := { maxStack := 3, maxLocals := 3, code := jdk_43_method_13_code, exceptionTable := #[], attributes := #[] }
def k15m2 : Method := { name := "equals", desc := "([B[B)Z", sig := { parameters := [(.array .byte), (.array .byte)], returnType := some .boolean }, accessFlags := 9, code := some k15c2 }
/-- java/lang/StringLatin1 -/
def k15 : Class := { plain "java/lang/StringLatin1" (some 0) with
  accessFlags := 48
  interfaces := #[]
  cf := some (fileOf pool15 14 #[.nestMembers #[390, 221]] #[{ accessFlags := 0, nameIndex := 7, descriptorIndex := 8, attributes := #[] }, { accessFlags := 9, nameIndex := 252, descriptorIndex := 53, attributes := #[] }, { accessFlags := 9, nameIndex := 281, descriptorIndex := 282, attributes := #[] }] 48 4 #[] #[{ accessFlags := 4120, nameIndex := 121, descriptorIndex := 122, attributes := #[] }])
  fields := #[{ name := "$assertionsDisabled", type := .boolean, accessFlags := 4120, slot := 0, constantValue := 0 }]
  methods := #[k15m0, k15m1, k15m2]
  instanceTypes := #[]
  staticTypes := #[.boolean]
  resolved := Array.replicate 395 none
  statics := none }

def pool16 : Array CpInfo := pool [(2, .class_ 4), (1, u "java/lang/Object"), (0, u "<init>"), (0, u "()V"), (17, .class_ 26), (1, u "jdk/internal/util/Preconditions"), (6, u "checkIndex"), (21, .class_ 56), (0, u "jdk/internal/util/Preconditions$4"), (57, .class_ 115), (0, u "jdk/internal/util/Preconditions$1"), (7, u "SIOOBE_FORMATTER"), (0, u "Ljava/util/function/BiFunction;"), (0, .class_ 126), (0, u "jdk/internal/util/Preconditions$2"), (3, u "AIOOBE_FORMATTER"), (0, .class_ 132), (0, u "jdk/internal/util/Preconditions$3"), (3, u "IOOBE_FORMATTER"), (41, u "(IILjava/util/function/BiFunction;)I")] 15

def k16m0 : Method := { name := "<init>", desc := "()V", sig := { parameters := [], returnType := none }, accessFlags := 1, code := none }
def k16c1 : Code := { maxStack := 3, maxLocals := 3, code := jdk_41_method_11_code, exceptionTable := #[], attributes := #[] }
def k16m1 : Method := { name := "checkIndex", desc := "(IILjava/util/function/BiFunction;)I", sig := { parameters := [.int, .int, (.object "java/util/function/BiFunction")], returnType := some .int }, accessFlags := 9, code := some k16c1 }
/-- jdk/internal/util/Preconditions -/
def k16 : Class := { plain "jdk/internal/util/Preconditions" (some 0) with
  accessFlags := 33
  interfaces := #[]
  cf := some (fileOf pool16 24 #[.nestMembers #[55, 131, 125, 114]] #[{ accessFlags := 1, nameIndex := 5, descriptorIndex := 6, attributes := #[] }, { accessFlags := 9, nameIndex := 33, descriptorIndex := 178, attributes := #[] }] 33 2 #[] #[{ accessFlags := 25, nameIndex := 123, descriptorIndex := 124, attributes := #[] }, { accessFlags := 25, nameIndex := 130, descriptorIndex := 124, attributes := #[] }, { accessFlags := 25, nameIndex := 136, descriptorIndex := 124, attributes := #[] }])
  fields := #[{ name := "SIOOBE_FORMATTER", type := (.object "java/util/function/BiFunction"), accessFlags := 25, slot := 0, constantValue := 0 }, { name := "AIOOBE_FORMATTER", type := (.object "java/util/function/BiFunction"), accessFlags := 25, slot := 1, constantValue := 0 }, { name := "IOOBE_FORMATTER", type := (.object "java/util/function/BiFunction"), accessFlags := 25, slot := 2, constantValue := 0 }]
  methods := #[k16m0, k16m1]
  instanceTypes := #[]
  staticTypes := #[(.object "java/util/function/BiFunction"), (.object "java/util/function/BiFunction"), (.object "java/util/function/BiFunction")]
  resolved := Array.replicate 194 none
  statics := some 2 }

def pool17 : Array CpInfo := pool [(9, u "<init>"), (6, .class_ 18), (1, u "java/lang/Object"), (0, u "()V"), (1, .class_ 23), (1, u "jdk/internal/util/ArraysSupport"), (0, u "LOG2_ARRAY_LONG_INDEX_SCALE"), (0, u "I"), (2, u "U"), (0, u "Ljdk/internal/misc/Unsafe;"), (8, u "BIG_ENDIAN"), (0, u "Z"), (8, u "LOG2_BYTE_BIT_SIZE"), (4, u "LOG2_ARRAY_INT_INDEX_SCALE"), (54, u "JLA"), (0, u "Ljdk/internal/access/JavaLangAccess;"), (11, u "LOG2_ARRAY_BOOLEAN_INDEX_SCALE"), (9, u "LOG2_ARRAY_BYTE_INDEX_SCALE"), (5, u "LOG2_ARRAY_CHAR_INDEX_SCALE"), (5, u "LOG2_ARRAY_SHORT_INDEX_SCALE"), (18, u "LOG2_ARRAY_FLOAT_INDEX_SCALE"), (24, u "LOG2_ARRAY_DOUBLE_INDEX_SCALE"), (89, u "T_BOOLEAN"), (2, u "T_CHAR"), (1, u "T_FLOAT"), (1, u "T_DOUBLE"), (1, u "T_BYTE"), (1, u "T_SHORT"), (1, u "T_INT"), (1, u "T_LONG"), (1, u "SOFT_MAX_ARRAY_LENGTH")] 83

def k17m0 : Method := { name := "<init>", desc := "()V", sig := { parameters := [], returnType := none }, accessFlags := 2, code := none }
/-- jdk/internal/util/ArraysSupport -/
def k17 : Class := { plain "jdk/internal/util/ArraysSupport" (some 0) with
  accessFlags := 33
  interfaces := #[]
  cf := some (fileOf pool17 21 #[] #[{ accessFlags := 2, nameIndex := 9, descriptorIndex := 19, attributes := #[] }] 33 16 #[] #[{ accessFlags := 24, nameIndex := 28, descriptorIndex := 29, attributes := #[] }, { accessFlags := 26, nameIndex := 38, descriptorIndex := 39, attributes := #[] }, { accessFlags := 25, nameIndex := 121, descriptorIndex := 25, attributes := #[] }, { accessFlags := 25, nameIndex := 131, descriptorIndex := 25, attributes := #[] }, { accessFlags := 25, nameIndex := 137, descriptorIndex := 25, attributes := #[] }, { accessFlags := 25, nameIndex := 143, descriptorIndex := 25, attributes := #[] }, { accessFlags := 25, nameIndex := 53, descriptorIndex := 25, attributes := #[] }, { accessFlags := 25, nameIndex := 24, descriptorIndex := 25, attributes := #[] }, { accessFlags := 25, nameIndex := 162, descriptorIndex := 25, attributes := #[] }, { accessFlags := 25, nameIndex := 187, descriptorIndex := 25, attributes := #[] }, { accessFlags := 26, nameIndex := 48, descriptorIndex := 25, attributes := #[] }, { accessFlags := 25, nameIndex := 277, descriptorIndex := 25, attributes := #[] }, { accessFlags := 25, nameIndex := 280, descriptorIndex := 25, attributes := #[] }, { accessFlags := 25, nameIndex := 282, descriptorIndex := 25, attributes := #[] }, { accessFlags := 25, nameIndex := 284, descriptorIndex := 25, attributes := #[] }, { accessFlags := 25, nameIndex := 286, descriptorIndex := 25, attributes := #[] }, { accessFlags := 25, nameIndex := 288, descriptorIndex := 25, attributes := #[] }, { accessFlags := 25, nameIndex := 290, descriptorIndex := 25, attributes := #[] }, { accessFlags := 25, nameIndex := 292, descriptorIndex := 25, attributes := #[] }, { accessFlags := 26, nameIndex := 108, descriptorIndex := 109, attributes := #[] }, { accessFlags := 25, nameIndex := 294, descriptorIndex := 25, attributes := #[] }])
  fields := #[{ name := "U", type := (.object "jdk/internal/misc/Unsafe"), accessFlags := 24, slot := 0, constantValue := 0 }, { name := "BIG_ENDIAN", type := .boolean, accessFlags := 26, slot := 1, constantValue := 0 }, { name := "LOG2_ARRAY_BOOLEAN_INDEX_SCALE", type := .int, accessFlags := 25, slot := 2, constantValue := 0 }, { name := "LOG2_ARRAY_BYTE_INDEX_SCALE", type := .int, accessFlags := 25, slot := 3, constantValue := 0 }, { name := "LOG2_ARRAY_CHAR_INDEX_SCALE", type := .int, accessFlags := 25, slot := 4, constantValue := 0 }, { name := "LOG2_ARRAY_SHORT_INDEX_SCALE", type := .int, accessFlags := 25, slot := 5, constantValue := 0 }, { name := "LOG2_ARRAY_INT_INDEX_SCALE", type := .int, accessFlags := 25, slot := 6, constantValue := 0 }, { name := "LOG2_ARRAY_LONG_INDEX_SCALE", type := .int, accessFlags := 25, slot := 7, constantValue := 0 }, { name := "LOG2_ARRAY_FLOAT_INDEX_SCALE", type := .int, accessFlags := 25, slot := 8, constantValue := 0 }, { name := "LOG2_ARRAY_DOUBLE_INDEX_SCALE", type := .int, accessFlags := 25, slot := 9, constantValue := 0 }, { name := "LOG2_BYTE_BIT_SIZE", type := .int, accessFlags := 26, slot := 10, constantValue := 0 }, { name := "T_BOOLEAN", type := .int, accessFlags := 25, slot := 11, constantValue := 0 }, { name := "T_CHAR", type := .int, accessFlags := 25, slot := 12, constantValue := 0 }, { name := "T_FLOAT", type := .int, accessFlags := 25, slot := 13, constantValue := 0 }, { name := "T_DOUBLE", type := .int, accessFlags := 25, slot := 14, constantValue := 0 }, { name := "T_BYTE", type := .int, accessFlags := 25, slot := 15, constantValue := 0 }, { name := "T_SHORT", type := .int, accessFlags := 25, slot := 16, constantValue := 0 }, { name := "T_INT", type := .int, accessFlags := 25, slot := 17, constantValue := 0 }, { name := "T_LONG", type := .int, accessFlags := 25, slot := 18, constantValue := 0 }, { name := "JLA", type := (.object "jdk/internal/access/JavaLangAccess"), accessFlags := 26, slot := 19, constantValue := 0 }, { name := "SOFT_MAX_ARRAY_LENGTH", type := .int, accessFlags := 25, slot := 20, constantValue := 0 }]
  methods := #[k17m0]
  instanceTypes := #[]
  staticTypes := #[(.object "jdk/internal/misc/Unsafe"), .boolean, .int, .int, .int, .int, .int, .int, .int, .int, .int, .int, .int, .int, .int, .int, .int, .int, .int, (.object "jdk/internal/access/JavaLangAccess"), .int]
  resolved := Array.replicate 378 none
  statics := none }

/-- the primitive byte -/
def k18 : Class := { plain "byte" none with kind := .primitive 'B', accessFlags := 0x411 }
/-- [B -/
def k19 : Class := { plain "[B" (some 0) with kind := .array 18 .byte, interfaces := #[10, 2], accessFlags := 1041 }

/-- the primitive char -/
def k20 : Class := { plain "char" none with kind := .primitive 'C', accessFlags := 0x411 }
/-- [C -/
def k21 : Class := { plain "[C" (some 0) with kind := .array 20 .char, interfaces := #[10, 2], accessFlags := 1041 }

/-- the primitive int -/
def k22 : Class := { plain "int" none with kind := .primitive 'I', accessFlags := 0x411 }
/-- [I -/
def k23 : Class := { plain "[I" (some 0) with kind := .array 22 .int, interfaces := #[10, 2], accessFlags := 1041 }

/-- [Lcom/example/herring/herring/acl/Scheme; -/
def k24 : Class := { plain "[Lcom/example/herring/herring/acl/Scheme;" (some 0) with kind := .array 9 (.object "com/example/herring/herring/acl/Scheme"), interfaces := #[10, 2], accessFlags := 1041 }

def heap : Heap := #[{ cls := 7, slots := #[.long 0, .int 1, .null, .int 0, .null, .int 0, .int 0], vm := .statics 7 },
  { cls := 9, slots := #[.ref 4, .ref 5, .ref 6, .null, .int 0, .ref 3], vm := .statics 9 },
  { cls := 16, slots := #[.null, .null, .null], vm := .statics 16 },
  { cls := 24, slots := #[.ref 4, .ref 5, .ref 6], vm := .none },
  { cls := 11, slots := #[.null, .int 0, .int 0, .ref 7], vm := .none },
  { cls := 12, slots := #[.null, .int 1, .int 0, .ref 8], vm := .none },
  { cls := 13, slots := #[.null, .int 2, .int 0, .ref 9], vm := .none },
  { cls := 7, slots := #[.ref 10, .int 0, .int 0, .int 0], vm := .none },
  { cls := 7, slots := #[.ref 11, .int 0, .int 0, .int 0], vm := .none },
  { cls := 7, slots := #[.ref 12, .int 0, .int 0, .int 0], vm := .none },
  { cls := 19, slots := #[.int 119, .int 111, .int 114, .int 108, .int 100], vm := .none },
  { cls := 19, slots := #[.int 105, .int 112], vm := .none },
  { cls := 19, slots := #[.int 100, .int 105, .int 103, .int 101, .int 115, .int 116], vm := .none }]
def classes : Array Class := #[k0, k1, k2, k3, k4, k5, k6, k7, k8, k9, k10, k11, k12, k13, k14, k15, k16, k17, k18, k19, k20, k21, k22, k23, k24]
def interned : List (Array UInt16 × Addr) := []
def slotsUsed : Nat := 56
def theMethod : MethodId := ⟨1, 1⟩
def args0 : Array Value := #[.int 1, .int 2, .int 3, .long 5]
def aboutOver (below : List Frame) : State where
  vm := { classes := classes, interned := interned.toArray }
  heap := heap
  slotsUsed := slotsUsed
  threads := #[{ frames := .invoking theMethod args0 :: below }]
def below0 : List Frame := [.native { method := ⟨0, 0⟩, args := #[] }]
def about1 : State := aboutOver below0
def p0 : Program := .bare "" "" ""
def e0 : Env := launch0.env 0 0 0
theorem w_frames : about1.frames = Frame.invoking theMethod args0 :: below0 := rfl
set_option maxRecDepth 65536 in
theorem w_args : argsFit about1.vm theMethod args0 = true := by decide +kernel
set_option maxRecDepth 65536 in
theorem w_heap : heapFits about1 = true := by decide +kernel
set_option maxRecDepth 65536 in
theorem w_runnable : about1.curStatus? = some .runnable := by decide +kernel
set_option maxRecDepth 65536 in
theorem w_alone : about1.alone = true := by decide +kernel
set_option maxRecDepth 65536 in
theorem w_named : about1.methodNamed? x = some theMethod := by decide +kernel
set_option maxRecDepth 65536 in
theorem w_hears : about1.hears theMethod below0 = true := by decide +kernel
set_option maxRecDepth 65536 in
theorem w_ripe : about1.ripe theMethod args0 below0 = true := by decide +kernel
theorem w_running : about1.status = .running := rfl
set_option maxRecDepth 65536 in
theorem w_room : about1.hasRoom e0.platform room_1 = true :=
  launch0.hasRoom_least _ room_1 (by decide +kernel) (by decide +kernel) (by decide +kernel) (by decide +kernel) (by decide +kernel) (by decide +kernel)
theorem allAtoms_all (ts : List Jvm.Cond) (a : Array Jvm.Value) (st : Jvm.State) : (allAtoms ts).before a st = ts.all (fun c => c.before a st) := by
  induction ts with
  | nil => rfl
  | cons c t ih =>
    show (Jvm.Cond.and c (allAtoms t)).before a st = _
    rw [Jvm.Cond.before_and, ih, List.all_cons]
def words1 : List Jvm.Cond := Jvm.Cond.code x code maxLocals ret :: tables_1
/-- a 'code' word, met by the world's own term for the bytes: nothing is compared byte by byte -/
theorem code_word {y : MethodName} {bytes : ByteArray} {mx : Nat} {rt : Option FieldType} {a : Array Value} {s : State} {m : MethodId} {meth : Method} {c : Code} (h1 : s.methodNamed? y = some m) (h2 : s.vm.method? m = some meth) (h3 : meth.code = some c) (h4 : c.code = bytes)
    (h5 : (c.maxLocals == mx && c.exceptionTable.isEmpty && decide (c.maxStack ≤ mostOperands) && decide (meth.sig.returnType = rt) && !meth.locks && decide (parseMethodDescriptor y.desc = some meth.sig)) = true) : (Jvm.Cond.code y bytes mx rt).before a s = true := by
  simp only [Bool.and_eq_true, beq_iff_eq, Bool.not_eq_true', decide_eq_true_eq] at h5
  obtain ⟨⟨⟨⟨⟨g1, g2⟩, g3⟩, g4⟩, g5⟩, g6⟩ := h5
  simp [Cond.before, Cond.holds, Cond.value, h1, h2, h3, h4, g1, g2, g3, g4, g5, g6]
def isCode : Jvm.Cond → Bool
  | .code _ _ _ _ => true
  | _ => false
theorem all_split {L : List Jvm.Cond} {P : Jvm.Cond → Bool} (h1 : L.all (fun c => isCode c || P c) = true) (h2 : ∀ c ∈ L.filter isCode, P c = true) : L.all P = true := by
  refine List.all_eq_true.mpr fun c hc => ?_
  have h := List.all_eq_true.mp h1 c hc
  rcases Bool.eq_false_or_eq_true (isCode c) with hi | hi
  · exact h2 c (List.mem_filter.mpr ⟨hc, hi⟩)
  · simpa [hi] using h
set_option maxRecDepth 65536 in
theorem w_c0 : (Jvm.Cond.code x code maxLocals ret).before args0 about1 = true := code_word (m := ⟨1, 1⟩) (meth := k1m1) (c := k1c1) (by decide +kernel) rfl rfl rfl (by decide +kernel)
set_option maxRecDepth 65536 in
theorem w_c1 : (Jvm.Cond.code ({ cls := "java/lang/String", name := "isEmpty", desc := "()Z" } : Jvm.MethodName) jdk_42_method_55_code (1 : Nat) (Option.some Jvm.ClassFile.FieldType.boolean)).before args0 about1 = true := code_word (m := ⟨7, 3⟩) (meth := k7m3) (c := k7c3) (by decide +kernel) rfl rfl rfl (by decide +kernel)
set_option maxRecDepth 65536 in
theorem w_c2 : (Jvm.Cond.code ({ cls := "com/example/herring/herring/acl/SchemeNamedPinLaw", name := "ch", desc := "(Ljava/lang/String;IIJ)C" } : Jvm.MethodName) method_3_code (5 : Nat) (Option.some Jvm.ClassFile.FieldType.char)).before args0 about1 = true := code_word (m := ⟨1, 2⟩) (meth := k1m2) (c := k1c2) (by decide +kernel) rfl rfl rfl (by decide +kernel)
set_option maxRecDepth 65536 in
theorem w_c3 : (Jvm.Cond.code ({ cls := "java/lang/String", name := "length", desc := "()I" } : Jvm.MethodName) jdk_42_method_54_code (1 : Nat) (Option.some Jvm.ClassFile.FieldType.int)).before args0 about1 = true := code_word (m := ⟨7, 2⟩) (meth := k7m2) (c := k7c2) (by decide +kernel) rfl rfl rfl (by decide +kernel)
set_option maxRecDepth 65536 in
theorem w_c4 : (Jvm.Cond.code ({ cls := "java/lang/String", name := "coder", desc := "()B" } : Jvm.MethodName) jdk_42_method_152_code (1 : Nat) (Option.some Jvm.ClassFile.FieldType.byte)).before args0 about1 = true := code_word (m := ⟨7, 7⟩) (meth := k7m7) (c := k7c7) (by decide +kernel) rfl rfl rfl (by decide +kernel)
set_option maxRecDepth 65536 in
theorem w_c5 : (Jvm.Cond.code ({ cls := "com/example/herring/herring/acl/Scheme", name := "named", desc := "(Ljava/lang/String;)Lcom/example/herring/herring/acl/Scheme;" } : Jvm.MethodName) prog_3_method_5_code (5 : Nat) (Option.some (Jvm.ClassFile.FieldType.object "com/example/herring/herring/acl/Scheme"))).before args0 about1 = true := code_word (m := ⟨9, 1⟩) (meth := k9m1) (c := k9c1) (by decide +kernel) rfl rfl rfl (by decide +kernel)
set_option maxRecDepth 65536 in
theorem w_c6 : (Jvm.Cond.code ({ cls := "com/example/herring/herring/acl/Scheme", name := "values", desc := "()[Lcom/example/herring/herring/acl/Scheme;" } : Jvm.MethodName) prog_3_method_1_code (0 : Nat) (Option.some (Jvm.ClassFile.FieldType.array (Jvm.ClassFile.FieldType.object "com/example/herring/herring/acl/Scheme")))).before args0 about1 = true := code_word (m := ⟨9, 0⟩) (meth := k9m0) (c := k9c0) (by decide +kernel) rfl rfl rfl (by decide +kernel)
set_option maxRecDepth 65536 in
theorem w_c7 : (Jvm.Cond.code ({ cls := "java/lang/String", name := "equals", desc := "(Ljava/lang/Object;)Z" } : Jvm.MethodName) jdk_42_method_66_code (3 : Nat) (Option.some Jvm.ClassFile.FieldType.boolean)).before args0 about1 = true := code_word (m := ⟨7, 5⟩) (meth := k7m5) (c := k7c5) (by decide +kernel) rfl rfl rfl (by decide +kernel)
set_option maxRecDepth 65536 in
theorem w_c8 : (Jvm.Cond.code ({ cls := "com/example/herring/herring/acl/SchemeNamedPinLaw", name := "cut", desc := "([CI)Ljava/lang/String;" } : Jvm.MethodName) method_4_code (2 : Nat) (Option.some (Jvm.ClassFile.FieldType.object "java/lang/String"))).before args0 about1 = true := code_word (m := ⟨1, 3⟩) (meth := k1m3) (c := k1c3) (by decide +kernel) rfl rfl rfl (by decide +kernel)
set_option maxRecDepth 65536 in
theorem w_c9 : (Jvm.Cond.code ({ cls := "java/lang/String", name := "<init>", desc := "([C)V" } : Jvm.MethodName) jdk_42_method_3_code (2 : Nat) (Option.none : Option Jvm.ClassFile.FieldType)).before args0 about1 = true := code_word (m := ⟨7, 1⟩) (meth := k7m1) (c := k7c1) (by decide +kernel) rfl rfl rfl (by decide +kernel)
set_option maxRecDepth 65536 in
theorem w_c10 : (Jvm.Cond.code ({ cls := "java/lang/String", name := "<init>", desc := "([CIILjava/lang/Void;)V" } : Jvm.MethodName) jdk_42_method_149_code (6 : Nat) (Option.none : Option Jvm.ClassFile.FieldType)).before args0 about1 = true := code_word (m := ⟨7, 6⟩) (meth := k7m6) (c := k7c6) (by decide +kernel) rfl rfl rfl (by decide +kernel)
set_option maxRecDepth 65536 in
theorem w_c11 : (Jvm.Cond.code ({ cls := "java/lang/Object", name := "<init>", desc := "()V" } : Jvm.MethodName) object_method_1_code (1 : Nat) (Option.none : Option Jvm.ClassFile.FieldType)).before args0 about1 = true := code_word (m := ⟨0, 0⟩) (meth := k0m0) (c := k0c0) (by decide +kernel) rfl rfl rfl (by decide +kernel)
set_option maxRecDepth 65536 in
theorem w_c12 : (Jvm.Cond.code ({ cls := "java/lang/StringUTF16", name := "compress", desc := "([CII)[B" } : Jvm.MethodName) jdk_52_method_16_code (6 : Nat) (Option.some (Jvm.ClassFile.FieldType.array Jvm.ClassFile.FieldType.byte))).before args0 about1 = true := code_word (m := ⟨14, 2⟩) (meth := k14m2) (c := k14c2) (by decide +kernel) rfl rfl rfl (by decide +kernel)
set_option maxRecDepth 65536 in
theorem w_c13 : (Jvm.Cond.code ({ cls := "java/lang/StringUTF16", name := "compress", desc := "([CI[BII)I" } : Jvm.MethodName) jdk_52_method_21_code (7 : Nat) (Option.some Jvm.ClassFile.FieldType.int)).before args0 about1 = true := code_word (m := ⟨14, 3⟩) (meth := k14m3) (c := k14c3) (by decide +kernel) rfl rfl rfl (by decide +kernel)
set_option maxRecDepth 65536 in
theorem w_c14 : (Jvm.Cond.code ({ cls := "java/lang/StringUTF16", name := "coderFromArrayLen", desc := "([BI)B" } : Jvm.MethodName) jdk_52_method_15_code (2 : Nat) (Option.some Jvm.ClassFile.FieldType.byte)).before args0 about1 = true := code_word (m := ⟨14, 1⟩) (meth := k14m1) (c := k14c1) (by decide +kernel) rfl rfl rfl (by decide +kernel)
set_option maxRecDepth 65536 in
theorem w_c15 : (Jvm.Cond.code ({ cls := "java/lang/StringLatin1", name := "equals", desc := "([B[B)Z" } : Jvm.MethodName) jdk_43_method_13_code (3 : Nat) (Option.some Jvm.ClassFile.FieldType.boolean)).before args0 about1 = true := code_word (m := ⟨15, 2⟩) (meth := k15m2) (c := k15c2) (by decide +kernel) rfl rfl rfl (by decide +kernel)
set_option maxRecDepth 65536 in
theorem w_c16 : (Jvm.Cond.code ({ cls := "java/lang/String", name := "charAt", desc := "(I)C" } : Jvm.MethodName) jdk_42_method_56_code (2 : Nat) (Option.some Jvm.ClassFile.FieldType.char)).before args0 about1 = true := code_word (m := ⟨7, 4⟩) (meth := k7m4) (c := k7c4) (by decide +kernel) rfl rfl rfl (by decide +kernel)
set_option maxRecDepth 65536 in
theorem w_c17 : (Jvm.Cond.code ({ cls := "java/lang/String", name := "isLatin1", desc := "()Z" } : Jvm.MethodName) jdk_42_method_154_code (1 : Nat) (Option.some Jvm.ClassFile.FieldType.boolean)).before args0 about1 = true := code_word (m := ⟨7, 8⟩) (meth := k7m8) (c := k7c8) (by decide +kernel) rfl rfl rfl (by decide +kernel)
set_option maxRecDepth 65536 in
theorem w_c18 : (Jvm.Cond.code ({ cls := "java/lang/StringLatin1", name := "charAt", desc := "([BI)C" } : Jvm.MethodName) jdk_43_method_2_code (2 : Nat) (Option.some Jvm.ClassFile.FieldType.char)).before args0 about1 = true := code_word (m := ⟨15, 1⟩) (meth := k15m1) (c := k15c1) (by decide +kernel) rfl rfl rfl (by decide +kernel)
set_option maxRecDepth 65536 in
theorem w_c19 : (Jvm.Cond.code ({ cls := "java/lang/String", name := "checkIndex", desc := "(II)V" } : Jvm.MethodName) jdk_42_method_155_code (2 : Nat) (Option.none : Option Jvm.ClassFile.FieldType)).before args0 about1 = true := code_word (m := ⟨7, 9⟩) (meth := k7m9) (c := k7c9) (by decide +kernel) rfl rfl rfl (by decide +kernel)
set_option maxRecDepth 65536 in
theorem w_c20 : (Jvm.Cond.code ({ cls := "jdk/internal/util/Preconditions", name := "checkIndex", desc := "(IILjava/util/function/BiFunction;)I" } : Jvm.MethodName) jdk_41_method_11_code (3 : Nat) (Option.some Jvm.ClassFile.FieldType.int)).before args0 about1 = true := code_word (m := ⟨16, 1⟩) (meth := k16m1) (c := k16c1) (by decide +kernel) rfl rfl rfl (by decide +kernel)
def codes1 : List Jvm.Cond := [Jvm.Cond.code x code maxLocals ret, Jvm.Cond.code ({ cls := "java/lang/String", name := "isEmpty", desc := "()Z" } : Jvm.MethodName) jdk_42_method_55_code (1 : Nat) (Option.some Jvm.ClassFile.FieldType.boolean), Jvm.Cond.code ({ cls := "com/example/herring/herring/acl/SchemeNamedPinLaw", name := "ch", desc := "(Ljava/lang/String;IIJ)C" } : Jvm.MethodName) method_3_code (5 : Nat) (Option.some Jvm.ClassFile.FieldType.char), Jvm.Cond.code ({ cls := "java/lang/String", name := "length", desc := "()I" } : Jvm.MethodName) jdk_42_method_54_code (1 : Nat) (Option.some Jvm.ClassFile.FieldType.int), Jvm.Cond.code ({ cls := "java/lang/String", name := "coder", desc := "()B" } : Jvm.MethodName) jdk_42_method_152_code (1 : Nat) (Option.some Jvm.ClassFile.FieldType.byte), Jvm.Cond.code ({ cls := "com/example/herring/herring/acl/Scheme", name := "named", desc := "(Ljava/lang/String;)Lcom/example/herring/herring/acl/Scheme;" } : Jvm.MethodName) prog_3_method_5_code (5 : Nat) (Option.some (Jvm.ClassFile.FieldType.object "com/example/herring/herring/acl/Scheme")), Jvm.Cond.code ({ cls := "com/example/herring/herring/acl/Scheme", name := "values", desc := "()[Lcom/example/herring/herring/acl/Scheme;" } : Jvm.MethodName) prog_3_method_1_code (0 : Nat) (Option.some (Jvm.ClassFile.FieldType.array (Jvm.ClassFile.FieldType.object "com/example/herring/herring/acl/Scheme"))), Jvm.Cond.code ({ cls := "java/lang/String", name := "equals", desc := "(Ljava/lang/Object;)Z" } : Jvm.MethodName) jdk_42_method_66_code (3 : Nat) (Option.some Jvm.ClassFile.FieldType.boolean), Jvm.Cond.code ({ cls := "com/example/herring/herring/acl/SchemeNamedPinLaw", name := "cut", desc := "([CI)Ljava/lang/String;" } : Jvm.MethodName) method_4_code (2 : Nat) (Option.some (Jvm.ClassFile.FieldType.object "java/lang/String")), Jvm.Cond.code ({ cls := "java/lang/String", name := "<init>", desc := "([C)V" } : Jvm.MethodName) jdk_42_method_3_code (2 : Nat) (Option.none : Option Jvm.ClassFile.FieldType), Jvm.Cond.code ({ cls := "java/lang/String", name := "<init>", desc := "([CIILjava/lang/Void;)V" } : Jvm.MethodName) jdk_42_method_149_code (6 : Nat) (Option.none : Option Jvm.ClassFile.FieldType), Jvm.Cond.code ({ cls := "java/lang/Object", name := "<init>", desc := "()V" } : Jvm.MethodName) object_method_1_code (1 : Nat) (Option.none : Option Jvm.ClassFile.FieldType), Jvm.Cond.code ({ cls := "java/lang/StringUTF16", name := "compress", desc := "([CII)[B" } : Jvm.MethodName) jdk_52_method_16_code (6 : Nat) (Option.some (Jvm.ClassFile.FieldType.array Jvm.ClassFile.FieldType.byte)), Jvm.Cond.code ({ cls := "java/lang/StringUTF16", name := "compress", desc := "([CI[BII)I" } : Jvm.MethodName) jdk_52_method_21_code (7 : Nat) (Option.some Jvm.ClassFile.FieldType.int), Jvm.Cond.code ({ cls := "java/lang/StringUTF16", name := "coderFromArrayLen", desc := "([BI)B" } : Jvm.MethodName) jdk_52_method_15_code (2 : Nat) (Option.some Jvm.ClassFile.FieldType.byte), Jvm.Cond.code ({ cls := "java/lang/StringLatin1", name := "equals", desc := "([B[B)Z" } : Jvm.MethodName) jdk_43_method_13_code (3 : Nat) (Option.some Jvm.ClassFile.FieldType.boolean), Jvm.Cond.code ({ cls := "java/lang/String", name := "charAt", desc := "(I)C" } : Jvm.MethodName) jdk_42_method_56_code (2 : Nat) (Option.some Jvm.ClassFile.FieldType.char), Jvm.Cond.code ({ cls := "java/lang/String", name := "isLatin1", desc := "()Z" } : Jvm.MethodName) jdk_42_method_154_code (1 : Nat) (Option.some Jvm.ClassFile.FieldType.boolean), Jvm.Cond.code ({ cls := "java/lang/StringLatin1", name := "charAt", desc := "([BI)C" } : Jvm.MethodName) jdk_43_method_2_code (2 : Nat) (Option.some Jvm.ClassFile.FieldType.char), Jvm.Cond.code ({ cls := "java/lang/String", name := "checkIndex", desc := "(II)V" } : Jvm.MethodName) jdk_42_method_155_code (2 : Nat) (Option.none : Option Jvm.ClassFile.FieldType), Jvm.Cond.code ({ cls := "jdk/internal/util/Preconditions", name := "checkIndex", desc := "(IILjava/util/function/BiFunction;)I" } : Jvm.MethodName) jdk_41_method_11_code (3 : Nat) (Option.some Jvm.ClassFile.FieldType.int)]
set_option maxRecDepth 65536 in
theorem codes_eq : words1.filter isCode = codes1 := rfl
theorem w_codes : ∀ c ∈ words1.filter isCode, c.before args0 about1 = true := by
  rw [codes_eq]
  intro c hc
  simp only [codes1, List.mem_cons, List.not_mem_nil, or_false] at hc
  rcases hc with rfl | rfl | rfl | rfl | rfl | rfl | rfl | rfl | rfl | rfl | rfl | rfl | rfl | rfl | rfl | rfl | rfl | rfl | rfl | rfl | rfl
  · exact w_c0
  · exact w_c1
  · exact w_c2
  · exact w_c3
  · exact w_c4
  · exact w_c5
  · exact w_c6
  · exact w_c7
  · exact w_c8
  · exact w_c9
  · exact w_c10
  · exact w_c11
  · exact w_c12
  · exact w_c13
  · exact w_c14
  · exact w_c15
  · exact w_c16
  · exact w_c17
  · exact w_c18
  · exact w_c19
  · exact w_c20
set_option maxRecDepth 65536 in
theorem w_t1 : (words1.take 24).all (fun c => isCode c || c.before args0 about1) = true := by decide +kernel
set_option maxRecDepth 65536 in
theorem w_t2 : ((words1.drop 24).take 24).all (fun c => isCode c || c.before args0 about1) = true := by decide +kernel
set_option maxRecDepth 65536 in
theorem w_t3 : (((words1.drop 24).drop 24).take 24).all (fun c => isCode c || c.before args0 about1) = true := by decide +kernel
set_option maxRecDepth 65536 in
theorem w_t4 : ((((words1.drop 24).drop 24).drop 24).take 24).all (fun c => isCode c || c.before args0 about1) = true := by decide +kernel
set_option maxRecDepth 65536 in
theorem w_t5 : (((((words1.drop 24).drop 24).drop 24).drop 24).take 24).all (fun c => isCode c || c.before args0 about1) = true := by decide +kernel
set_option maxRecDepth 65536 in
theorem w_t6 : (((((words1.drop 24).drop 24).drop 24).drop 24).drop 24).all (fun c => isCode c || c.before args0 about1) = true := by decide +kernel
theorem w_tables : (allAtoms (Jvm.Cond.code x code maxLocals ret :: tables_1)).before args0 about1 = true := by
  rw [allAtoms_all]
  show words1.all (fun c => c.before args0 about1) = true
  refine all_split ?_ w_codes
  rw [← List.take_append_drop 24 words1, List.all_append, w_t1, ← List.take_append_drop 24 (words1.drop 24), List.all_append, w_t2, ← List.take_append_drop 24 ((words1.drop 24).drop 24), List.all_append, w_t3, ← List.take_append_drop 24 (((words1.drop 24).drop 24).drop 24), List.all_append, w_t4, ← List.take_append_drop 24 ((((words1.drop 24).drop 24).drop 24).drop 24), List.all_append, w_t5, w_t6]
  rfl
set_option maxRecDepth 65536 in
theorem w_rest : rest_1_c.before args0 about1 = true := by decide +kernel
set_option maxRecDepth 65536 in
theorem w_case : (Jvm.Cond.and given_1 narrow_1).before args0 about1 = true := by decide +kernel
set_option maxRecDepth 65536 in
theorem w_consts : constsHeld consts_1 about1 := Jvm.Lit.constsHeldB_iff.mp (by decide +kernel)
theorem w_applies : (headSpec (Jvm.Cond.code x code maxLocals ret :: tables_1) room_1).applies x e0.platform about1 = true :=
  (Spec.applies_iff w_frames).mpr ⟨w_running, w_runnable, w_alone, w_named, w_hears, w_ripe, w_room, w_tables⟩
theorem atStart : AtStart classFile x code maxLocals ret World_1 tables_1 room_1 Calls_1 rest_1 Pre_1 launch0 p0 e0 about1 theMethod args0 below0 :=
  ⟨lists_1, trivial, launch0.admits_env _ _ _, launch0.least_env, fairChoices_fair.cas, fairChoices_fair.clock, w_frames, w_args, w_heap, w_applies, ⟨w_consts, trivial⟩, w_rest, w_case⟩
end start1
theorem witness_1 : WitnessClaimed_1 := ⟨start1.p0, start1.e0, start1.about1, start1.theMethod, start1.args0, start1.below0, start1.atStart⟩
end Jvm.Pilot.@@N@@
