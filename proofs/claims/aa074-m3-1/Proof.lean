import JvmDerived
import JvmDerived.Pilot.@@N@@Statement
import JvmDerived.Pilot.@@N@@Code
set_option linter.unusedVariables false
set_option linter.unusedSimpArgs false
set_option maxRecDepth 65536
namespace Jvm.Pilot.@@N@@
open Jvm Jvm.ClassFile Sem Op Lib Jvm.Free Jvm.Stand Jvm.LawKit Jvm.RoadKit Bundle Jvm.Pilot.@@N@@.Jvm.D
section Own
variable {p : Program} {l : Launch} {e : Env} {R : Room} {s : State} {m : MethodId} {args : Array Value} {below : List Frame} {meth : Method} {c : Code} {T : State} {locs : List Loc} {cells slots : Nat} {Z : State} {a0 : Array Value} {h : Heap}
variable {Q : Option Value → Heap → List Loc → Prop} {F : Outcome → State → Prop} {C N : Nat} {A B : State}
/-- how a body ends: it returns v, Q holds of what it returned, of the heap and of the places written; nothing else is written (EndW: String constants may have been interned) -/
def EndN (s : State) (Q : Option Value → Heap → List Loc → Prop) (C N : Nat) (o : Outcome) (t : State) : Prop := ∃ v L, o = .returned v ∧ Q v t.heap L ∧ FrameEnd s o t L C N
/-- what a body owes from a point of its walk: it comes to its end, and F holds there -/
def Owes (p : Program) (e : Env) (below : List Frame) (F : Outcome → State → Prop) (A : State) : Prop :=
  ∃ s₂ o, Steps p.tables e below A s₂ ∧ s₂.status = .running ∧ Ended s₂ below o ∧ F o s₂
theorem Owes.go (k : Owes p e below F B) (f : ∀ t, Steps p.tables e below B t → Steps p.tables e below A t) : Owes p e below F A := by
  obtain ⟨s₂, o, h1, r⟩ := k
  exact ⟨s₂, o, f _ h1, r⟩
theorem Owes.tr (k : Owes p e below F B) (st : Steps p.tables e below A B) : Owes p e below F A := by
  obtain ⟨s₂, o, h1, r⟩ := k
  exact ⟨s₂, o, st.trans h1, r⟩
theorem Owes.mono {Q' : Option Value → Heap → List Loc → Prop} (k : Owes p e below (EndN s Q C N) A) (f : ∀ v h L, Q v h L → Q' v h L) : Owes p e below (EndN s Q' C N) A := by
  obtain ⟨s₂, o, h1, h2, h3, v, L, h4, h5, h6⟩ := k
  exact ⟨s₂, o, h1, h2, h3, v, L, h4, f _ _ _ h5, h6⟩
/-- a body's contract at given arguments and a given heap -/
def OMet (l : Launch) (y : MethodName) (bytes : ByteArray) (maxL : Nat) (ret : Option FieldType) (ws : List Jvm.Cond) (rm : Room) (as' : Array Value) (Z : State) (h0 : Heap) (Q : Option Value → Heap → List Loc → Prop) : Prop :=
  MetFree l y (head1 (Jvm.Cond.code y bytes maxL ret :: ws) rm) (fun a U => a = as' ∧ Z.Warmed39 U.vm ∧ U.heap = h0) (fun _ _ _ _ _ => True) (fun _ U o U' => ∃ v L, o = .returned v ∧ Q v U'.heap L ∧ FrameEnd U o U' L rm.cells rm.slots)
theorem OMet.of {y : MethodName} {bytes : ByteArray} {maxL : Nat} {ret : Option FieldType} {ws : List Jvm.Cond} {rm : Room} {as' : Array Value} {h0 : Heap} (hpl : plainFor y = true) {Ls : Array Slot} (ef : ∀ m, entryFrame m as' maxL = mkF m 0 Ls [])
    (body : ∀ (p : Program) (e : Env) (s : State) (m : MethodId) (below : List Frame) (meth : Method) (c : Code) (s₁ : State), p.tables.exec = Jvm.exec → c.code = bytes → c.maxLocals = maxL → s.vm.findClass y.cls = some m.cls → meth.name = y.name → meth.sig.returnType = ret → meth.locks = false → Z.Warmed39 s.vm →
      Stand p l e rm s m as' below meth c s₁ [] 0 0 → s₁.heap = h0 → Owes p e below (EndN s Q rm.cells rm.slots) (s₁.setTop (mkF m 0 Ls []))) : OMet l y bytes maxL ret ws rm as' Z h0 Q := by
  refine MetFree.of_bodySF hpl hisR ?_
  intro p e s m args below meth c s₁ Bd hml0 hP hK
  obtain ⟨rfl, hZ, hh⟩ := hP
  have hlk : meth.locks = false := BodyLoose.notSynchronized Bd
  have X0 : Stand p l e rm s m args below meth c s₁ [] 0 0 := Stand.of_body Bd
  have e0 : s₁.heap = h0 := by rw [← hh, Bd.state]; rfl
  obtain ⟨s₂, o, h1, h2, h3, h4⟩ := body p e s m below meth c s₁ Bd.exec Bd.bytes hml0 (findClass_of_methodNamed Bd.named) (name_of_methodNamed Bd.named Bd.method).1 Bd.returns hlk hZ X0 e0
  exact ⟨s₂, o, castTop (ef m) h1, h2, h3, h4⟩
theorem OMet.mono {y : MethodName} {bytes : ByteArray} {maxL : Nat} {ret : Option FieldType} {ws : List Jvm.Cond} {rm : Room} {as' : Array Value} {h0 : Heap} {Q' : Option Value → Heap → List Loc → Prop} (M : OMet l y bytes maxL ret ws rm as' Z h0 Q) (f : ∀ v h L, Q v h L → Q' v h L) : OMet l y bytes maxL ret ws rm as' Z h0 Q' := by
  intro p e ha hc hk s m args below hf happ hP hK
  obtain ⟨n, o, h1, h2, h3, v, L, h4, h5, h6⟩ := M p e ha hc hk s m args below hf happ hP hK
  exact ⟨n, o, h1, h2, h3, v, L, h4, f _ _ _ h5, h6⟩
theorem own_end (X : Stand p l e R s m args below meth c T locs cells slots) (hlk : meth.locks = false) {v : Option Value} (hv : meth.sig.returnType = none → v = none) (hc : cells ≤ C) (hs : slots ≤ N) (hq : Q v T.heap locs) {A : State}
    (hst : ∀ fs : List Frame, (∀ (f : JFrame) (acts : List Action), f.method = m → f.locked = none → f.entered = [] → (doReturn e (T.setTop f) acts v).1 = T.setFrames fs) → Steps p.tables e below A (T.setFrames fs)) : Owes p e below (EndN s Q C N) A := by
  obtain ⟨fs, hr, hrun, hended, hW, hsame⟩ := X.leave hv hlk
  exact ⟨_, _, hst fs hr, hrun, hended, v, locs, rfl, hq, ⟨_, rfl⟩, hW, hsame.mono hc hs⟩
theorem Owes.retN (X : Stand p l e R s m args below meth c T locs cells slots) (hx : p.tables.exec = Jvm.exec) (hlk : meth.locks = false) {pc : Nat} {Ls : Array Slot} {z : Int32} {t : FieldType} {rest : List Value} (hret : meth.sig.returnType = some t) (ht : t = .boolean ∨ t = .byte ∨ t = .char ∨ t = .short)
    (hd : decode c.code pc = .ok (.ireturn, 1)) (hc : cells ≤ C) (hs : slots ≤ N) (hq : Q (some (.int (nar t z))) T.heap locs) : Owes p e below (EndN s Q C N) (T.setTop (mkF m pc Ls (.int z :: rest))) :=
  own_end X hlk (fun h => by rw [hret] at h; cases h) hc hs hq fun fs hr => Jvm.RoadKit.retN X hx hret ht hd hr
theorem Owes.retI (X : Stand p l e R s m args below meth c T locs cells slots) (hx : p.tables.exec = Jvm.exec) (hlk : meth.locks = false) {pc : Nat} {Ls : Array Slot} {z : Int32} {rest : List Value} (hret : meth.sig.returnType = some .int)
    (hd : decode c.code pc = .ok (.ireturn, 1)) (hc : cells ≤ C) (hs : slots ≤ N) (hq : Q (some (.int z)) T.heap locs) : Owes p e below (EndN s Q C N) (T.setTop (mkF m pc Ls (.int z :: rest))) :=
  own_end X hlk (fun h => by rw [hret] at h; cases h) hc hs hq fun fs hr => Jvm.RoadKit.retOut X hx hret rfl (Or.inl ⟨rfl, Or.inl rfl, _, rfl⟩) hd hr
theorem Owes.retJ (X : Stand p l e R s m args below meth c T locs cells slots) (hx : p.tables.exec = Jvm.exec) (hlk : meth.locks = false) {pc : Nat} {Ls : Array Slot} {z : Int64} {rest : List Value} (hret : meth.sig.returnType = some .long)
    (hd : decode c.code pc = .ok (.lreturn, 1)) (hc : cells ≤ C) (hs : slots ≤ N) (hq : Q (some (.long z)) T.heap locs) : Owes p e below (EndN s Q C N) (T.setTop (mkF m pc Ls (.long z :: rest))) :=
  own_end X hlk (fun h => by rw [hret] at h; cases h) hc hs hq fun fs hr => Jvm.RoadKit.retOut X hx hret rfl (Or.inr (Or.inl ⟨rfl, rfl, _, rfl⟩)) hd hr
theorem Owes.retA (X : Stand p l e R s m args below meth c T locs cells slots) (hx : p.tables.exec = Jvm.exec) (hlk : meth.locks = false) {pc : Nat} {Ls : Array Slot} {w : Value} {t : FieldType} {rest : List Value} (hret : meth.sig.returnType = some t) (ht : t.isReference = true) (hn : narrow t w = w) (hw : w.isRef = true)
    (hd : decode c.code pc = .ok (.areturn, 1)) (hc : cells ≤ C) (hs : slots ≤ N) (hq : Q (some w) T.heap locs) : Owes p e below (EndN s Q C N) (T.setTop (mkF m pc Ls (w :: rest))) :=
  own_end X hlk (fun h => by rw [hret] at h; cases h) hc hs hq fun fs hr => Jvm.RoadKit.retOut X hx hret hn (Or.inr (Or.inr (Or.inr (Or.inr ⟨rfl, ht, hw⟩)))) hd hr
theorem Owes.retV (X : Stand p l e R s m args below meth c T locs cells slots) (hx : p.tables.exec = Jvm.exec) (hlk : meth.locks = false) {pc : Nat} {Ls : Array Slot} (hret : meth.sig.returnType = none)
    (hd : decode c.code pc = .ok (.return_, 1)) (hc : cells ≤ C) (hs : slots ≤ N) (hq : Q none T.heap locs) : Owes p e below (EndN s Q C N) (T.setTop (mkF m pc Ls [])) :=
  own_end X hlk (fun _ => rfl) hc hs hq fun fs hr => X.returnOut hx hret hd hr
/-- a static method by its contract -/
theorem Owes.callS (X : Stand p l e R s m args below meth c T locs cells slots) (hx : p.tables.exec = Jvm.exec) (hZ : Z.Warmed39 s.vm) {own : String} {index : Nat} {y : MethodName} {bytes : ByteArray} {maxL : Nat} {ret : Option FieldType} {rm : Room}
    (hown : s.vm.findClass own = some m.cls) (w1 : (Cond.methodLink own index y).before a0 Z = true) (w2 : (Cond.static y).before a0 Z = true) (w3 : (Cond.initialized y.cls).before a0 Z = true) (w4 : (Cond.code y bytes maxL ret).before a0 Z = true)
    (hy : y.cls ≠ "java/lang/invoke/MethodHandle" ∧ y.cls ≠ "java/lang/invoke/VarHandle") {pc : Nat} {Ls : Array Slot} {argsL rest : List Value} {Q' : Option Value → Heap → List Loc → Prop} (M : OMet l y bytes maxL ret [] rm argsL.toArray Z h Q') (eT : T.heap = h) (hsize : Ls.size = c.maxLocals)
    {ps : List FieldType} {rt : Option FieldType} (hpd : parseMethodDescriptor y.desc = some ⟨ps, rt⟩) (hln : argsL.length = ps.length) {st : List Value} (hst : st = argsL.reverse ++ rest) (hd : decode c.code pc = .ok (.invokestatic index, 3))
    (hf : rm.frames + 1 ≤ R.frames) (hl : (rest.map fun v => v.category).sum + (maxL + 11) + rm.locals ≤ R.locals) (hcl : cells + rm.cells ≤ R.cells) (hsl : slots + rm.slots ≤ R.slots)
    (k : ∀ (T' : State) (v : Option Value) (L : List Loc), Stand p l e R s m args below meth c T' (locs ++ L) (cells + rm.cells) (slots + rm.slots) → Q' v T'.heap L → Owes p e below F (T'.setTop (mkF m (pc + 3) Ls (v.toList ++ rest)))) :
    Owes p e below F (T.setTop (mkF m pc Ls st)) := by
  subst hst
  obtain ⟨v, _, ⟨T3, L3, k3, n3⟩, -, X3, ⟨Lc3, hQ3, l3, y3, z3⟩, st3⟩ := Jvm.LawKit.callS X hx (y := y) hown (mvT hZ w1) (mvT hZ w2) (mvT hZ w3) (mvT hZ w4) hy (backOf (W := (rest.map fun v => v.category).sum) M hZ w4 w3 hf hl) (g := mkF m pc Ls (argsL.reverse ++ rest)) rfl hsize (argsL := argsL) (rest := rest) (lenOf hpd hln) rfl (by show 2 * 0 + _ ≤ _; omega) hd (fun _ _ => ⟨rfl, eT, hcl, hsl⟩)
  dsimp only [Pt.U, Pt.locs, Pt.cells, Pt.slots] at X3 l3 y3 z3 st3 hQ3
  subst l3 y3 z3
  exact (k T3 v Lc3 X3 hQ3).go st3
/-- a constructor by its contract -/
theorem Owes.callC (X : Stand p l e R s m args below meth c T locs cells slots) (hx : p.tables.exec = Jvm.exec) (hZ : Z.Warmed39 s.vm) {own : String} {index : Nat} {y : MethodName} {bytes : ByteArray} {maxL : Nat} {rm : Room} (hy1 : y.name = "<init>")
    (hown : s.vm.findClass own = some m.cls) (w1 : (Cond.methodLink own index y).before a0 Z = true) (w2 : (Cond.instanceMethod y).before a0 Z = true) (w3 : (Cond.initialized y.cls).before a0 Z = true) (w4 : (Cond.code y bytes maxL none).before a0 Z = true)
    (hy : y.cls ≠ "java/lang/invoke/MethodHandle" ∧ y.cls ≠ "java/lang/invoke/VarHandle") {pc : Nat} {Ls : Array Slot} {a : Addr} {argsL rest : List Value} {Q' : Option Value → Heap → List Loc → Prop} (M : OMet l y bytes maxL none [] rm (.ref a :: argsL).toArray Z h Q') (eT : T.heap = h) (hsize : Ls.size = c.maxLocals)
    {ps : List FieldType} {rt : Option FieldType} (hpd : parseMethodDescriptor y.desc = some ⟨ps, rt⟩) (hln : argsL.length = ps.length) {st : List Value} (hst : st = argsL.reverse ++ .ref a :: rest) (hd : decode c.code pc = .ok (.invokespecial index, 3))
    (hf : rm.frames + 1 ≤ R.frames) (hl : (rest.map fun v => v.category).sum + (maxL + 11) + rm.locals ≤ R.locals) (hcl : cells + rm.cells ≤ R.cells) (hsl : slots + rm.slots ≤ R.slots)
    (k : ∀ (T' : State) (v : Option Value) (L : List Loc), Stand p l e R s m args below meth c T' (locs ++ L) (cells + rm.cells) (slots + rm.slots) → Q' v T'.heap L → Owes p e below F (T'.setTop (mkF m (pc + 3) Ls (v.toList ++ rest)))) :
    Owes p e below F (T.setTop (mkF m pc Ls st)) := by
  subst hst
  obtain ⟨v, _, ⟨T3, L3, k3, n3⟩, -, X3, ⟨Lc3, hQ3, l3, y3, z3⟩, st3⟩ := X.specialBack hx (y := y) hy1 hown (mvT hZ w1) (mvT hZ w2) (mvT hZ w4) hy (backOf (W := (rest.map fun v => v.category).sum) M hZ w4 w3 hf hl) (g := mkF m pc Ls (argsL.reverse ++ .ref a :: rest)) rfl hsize (Steps.refl _) (a := a) (argsL := argsL) (rest := rest) (lenOf hpd hln) rfl (by show 2 * 0 + _ ≤ _; omega) hd (fun _ _ => ⟨rfl, eT, hcl, hsl⟩)
  dsimp only [Pt.U, Pt.locs, Pt.cells, Pt.slots] at X3 l3 y3 z3 st3 hQ3
  subst l3 y3 z3
  exact (k T3 v Lc3 X3 hQ3).tr st3
/-- an instance method by the contract of the body that the receiver's class selects -/
theorem Owes.callV (X : Stand p l e R s m args below meth c T locs cells slots) (hx : p.tables.exec = Jvm.exec) (hZ : Z.Warmed39 s.vm) {own CR : String} {index : Nat} {y z : MethodName} {bytes : ByteArray} {maxL : Nat} {ret : Option FieldType} {rm : Room}
    (hown : s.vm.findClass own = some m.cls) (w1 : (Cond.methodLink own index y).before a0 Z = true) (w2 : (Cond.declares y).before a0 Z = true) (hnf : NotFace s y) (w5 : (Cond.selects CR y z).before a0 Z = true) (w6 : (Cond.instanceMethod z).before a0 Z = true) (w3 : (Cond.initialized z.cls).before a0 Z = true) (w4 : (Cond.code z bytes maxL ret).before a0 Z = true)
    (hy : y.cls ≠ "java/lang/invoke/MethodHandle" ∧ y.cls ≠ "java/lang/invoke/VarHandle") {pc : Nat} {Ls : Array Slot} {a : Addr} {argsL rest : List Value} {Q' : Option Value → Heap → List Loc → Prop} (M : OMet l z bytes maxL ret [] rm (.ref a :: argsL).toArray Z h Q') (eT : T.heap = h) (E : Exa Z h a CR) (hsize : Ls.size = c.maxLocals)
    {ps : List FieldType} {rt : Option FieldType} (hpd : parseMethodDescriptor y.desc = some ⟨ps, rt⟩) (hln : argsL.length = ps.length) {st : List Value} (hst : st = argsL.reverse ++ .ref a :: rest) (hd : decode c.code pc = .ok (.invokevirtual index, 3))
    (hf : rm.frames + 1 ≤ R.frames) (hl : (rest.map fun v => v.category).sum + (maxL + 11) + rm.locals ≤ R.locals) (hcl : cells + rm.cells ≤ R.cells) (hsl : slots + rm.slots ≤ R.slots)
    (k : ∀ (T' : State) (v : Option Value) (L : List Loc), Stand p l e R s m args below meth c T' (locs ++ L) (cells + rm.cells) (slots + rm.slots) → Q' v T'.heap L → Owes p e below F (T'.setTop (mkF m (pc + 3) Ls (v.toList ++ rest)))) :
    Owes p e below F (T.setTop (mkF m pc Ls st)) := by
  subst hst
  obtain ⟨cq, kq, qa, qb, qc⟩ := isOf hZ eT E
  obtain ⟨v, _, ⟨T3, L3, k3, n3⟩, -, X3, ⟨Lc3, hQ3, l3, y3, z3⟩, st3⟩ := X.virtualBack hx (y := y) (z := z) hown (mvT hZ w1) (mvT hZ w2) hnf (mvT hZ w5) (mvT hZ w6) hy (backOf (W := (rest.map fun v => v.category).sum) M hZ w4 w3 hf hl) qa qc (g := mkF m pc Ls (argsL.reverse ++ .ref a :: rest)) rfl hsize (Steps.refl _) (argsL := argsL) (rest := rest) (lenOf hpd hln) rfl (by show 2 * 0 + _ ≤ _; omega) hd (fun _ _ => ⟨rfl, eT, hcl, hsl⟩)
  dsimp only [Pt.U, Pt.locs, Pt.cells, Pt.slots] at X3 l3 y3 z3 st3 hQ3
  subst l3 y3 z3
  exact (k T3 v Lc3 X3 hQ3).tr st3
/-- a private method by its contract -/
theorem Owes.callP (X : Stand p l e R s m args below meth c T locs cells slots) (hx : p.tables.exec = Jvm.exec) (hZ : Z.Warmed39 s.vm) {own CR : String} {index : Nat} {y : MethodName} {bytes : ByteArray} {maxL : Nat} {ret : Option FieldType} {rm : Room}
    (hown : s.vm.findClass own = some m.cls) (w1 : (Cond.methodLink own index y).before a0 Z = true) (w2 : (Cond.instanceMethod y).before a0 Z = true) (w5 : (Cond.selects y.cls y y).before a0 Z = true) (w6 : (Cond.privateMethod y).before a0 Z = true) (w3 : (Cond.initialized y.cls).before a0 Z = true) (w4 : (Cond.code y bytes maxL ret).before a0 Z = true)
    (hy : y.cls ≠ "java/lang/invoke/MethodHandle" ∧ y.cls ≠ "java/lang/invoke/VarHandle") {pc : Nat} {Ls : Array Slot} {a : Addr} {argsL rest : List Value} {Q' : Option Value → Heap → List Loc → Prop} (M : OMet l y bytes maxL ret [] rm (.ref a :: argsL).toArray Z h Q') (eT : T.heap = h) (E : Exa Z h a CR) (hsize : Ls.size = c.maxLocals)
    {ps : List FieldType} {rt : Option FieldType} (hpd : parseMethodDescriptor y.desc = some ⟨ps, rt⟩) (hln : argsL.length = ps.length) {st : List Value} (hst : st = argsL.reverse ++ .ref a :: rest) (hd : decode c.code pc = .ok (.invokevirtual index, 3))
    (hf : rm.frames + 1 ≤ R.frames) (hl : (rest.map fun v => v.category).sum + (maxL + 11) + rm.locals ≤ R.locals) (hcl : cells + rm.cells ≤ R.cells) (hsl : slots + rm.slots ≤ R.slots)
    (k : ∀ (T' : State) (v : Option Value) (L : List Loc), Stand p l e R s m args below meth c T' (locs ++ L) (cells + rm.cells) (slots + rm.slots) → Q' v T'.heap L → Owes p e below F (T'.setTop (mkF m (pc + 3) Ls (v.toList ++ rest)))) :
    Owes p e below F (T.setTop (mkF m pc Ls st)) := by
  subst hst
  obtain ⟨cq, q1, q2⟩ := E.cell
  obtain ⟨v, _, ⟨T3, L3, k3, n3⟩, -, X3, ⟨Lc3, hQ3, l3, y3, z3⟩, st3⟩ := X.privateBack hx (y := y) hown (mvT hZ w1) (mvT hZ w2) (mvT hZ w5) (Cond.privateMethod_at (mvP hZ w6 (args := #[]))) (mvT hZ w4) hy (backOf (W := (rest.map fun v => v.category).sum) M hZ w4 w3 hf hl) (g := mkF m pc Ls (argsL.reverse ++ .ref a :: rest)) rfl hsize (Steps.refl _) (a := a) (by rw [eT]; exact q1) q2 (argsL := argsL) (rest := rest) (lenOf hpd hln) rfl (by show 2 * 0 + _ ≤ _; omega) hd (fun _ _ => ⟨rfl, eT, hcl, hsl⟩)
  dsimp only [Pt.U, Pt.locs, Pt.cells, Pt.slots] at X3 l3 y3 z3 st3 hQ3
  subst l3 y3 z3
  exact (k T3 v Lc3 X3 hQ3).tr st3
theorem own_st {c2 s2 : Nat} (X : Stand p l e R s m args below meth c T locs cells slots) (hc : cells = c2) (hs : slots = s2) : Stand p l e R s m args below meth c T locs c2 s2 := by subst hc hs; exact X
theorem Owes.initO (X : Stand p l e R s m args below meth c T locs cells slots) (hx : p.tables.exec = Jvm.exec) (hZ : Z.Warmed39 s.vm) {own : String} {index : Nat} (hown : s.vm.findClass own = some m.cls) (w1 : (Cond.methodLink own index Lib.objectInit).before a0 Z = true) (w2 : (Cond.instanceMethod Lib.objectInit).before a0 Z = true) (w3 : (Cond.code Lib.objectInit ⟨#[0xb1]⟩ 1 none).before a0 Z = true) (eT : T.heap = h)
    {pc : Nat} {Ls : Array Slot} {a : Addr} {rest : List Value} (hsize : Ls.size = c.maxLocals) (hd : decode c.code pc = .ok (.invokespecial index, 3)) (hf : 1 ≤ R.frames) (hl : (rest.map fun v => v.category).sum + 12 ≤ R.locals)
    (k : ∀ T' : State, Stand p l e R s m args below meth c T' locs cells slots → T'.heap = h → Owes p e below F (T'.setTop (mkF m (pc + 3) Ls rest))) : Owes p e below F (T.setTop (mkF m pc Ls (.ref a :: rest))) := by
  obtain ⟨T', X', e', st⟩ := Jvm.RoadKit.initO X hx hZ hown w1 w2 w3 eT (g := mkF m pc Ls (.ref a :: rest)) rfl hsize rfl hd hf (W := (rest.map fun v => v.category).sum) (by show 2 * 0 + _ ≤ _; omega) hl
  exact (k T' X' e').go st
theorem Owes.newO (X : Stand p l e R s m args below meth c T locs cells slots) (hx : p.tables.exec = Jvm.exec) (hZ : Z.Warmed39 s.vm) {own CC : String} {index n : Nat} (hown : s.vm.findClass own = some m.cls) (w : (Cond.classLink own index CC).before a0 Z = true) (wi : (Cond.instantiable CC n).before a0 Z = true) (wz : (Cond.initialized CC).before a0 Z = true) (eT : T.heap = h)
    {pc : Nat} {Ls : Array Slot} {rest : List Value} (hd : decode c.code pc = .ok (.new index, 3)) (hcl : cells + 1 ≤ R.cells) (hsl : slots + n ≤ R.slots)
    (k : ∀ (T' : State) (h' : Heap), Stand p l e R s m args below meth c T' locs (cells + 1) (slots + n) → T'.heap = h' → Ext h h' → Exa Z h' h.size CC → (∀ {O nm d : String} {ty : FieldType}, Laid Z a0 CC O nm d → parseFieldDescriptor d = some ty → Fld Z h' h.size O nm d (defaultValue ty)) → Owes p e below F (T'.setTop (mkF m (pc + 3) Ls (.ref h.size :: rest)))) : Owes p e below F (T.setTop (mkF m pc Ls rest)) := by
  obtain ⟨T', h', X', e', E, A, D, -, st⟩ := Jvm.RoadKit.newO X hx hZ hown w wi wz eT (g := mkF m pc Ls rest) rfl hd hcl hsl
  exact (k T' h' X' e' E A D).go st
theorem Owes.putF (X : Stand p l e R s m args below meth c T locs cells slots) (hx : p.tables.exec = Jvm.exec) (hZ : Z.Warmed39 s.vm) {own R0 O n d host CC : String} {index kk : Nat} {ty : FieldType} (hown : s.vm.findClass own = some m.cls) (w : (Cond.fieldLink own index R0 n d).before a0 Z = true ∨ (Cond.fieldLinkNest own index R0 n d host).before a0 Z = true) (via : Via Z R0 O n d) (eT : T.heap = h)
    {a : Addr} {v old : Value} (Fd : Fld Z h a O n d old) (E : Exa Z h a CC) (L : (Cond.lays CC O n d).before a0 Z = true ∨ ((Cond.laysFinal CC O n d).before a0 Z = true ∧ own = O ∧ meth.name = "<init>")) (wi : (Cond.instantiable CC kk).before a0 Z = true) (hty : parseFieldDescriptor d = some ty) (hn : narrow ty v = v) (hf : fits ty v = true)
    {pc : Nat} {Ls : Array Slot} {rest : List Value} (hd : decode c.code pc = .ok (.putfield index, 3))
    (k : ∀ (T' : State) (h' : Heap), Stand p l e R s m args below meth c T' (locs ++ [⟨a, Jvm.RoadKit.slotOf Z O n d⟩]) cells slots → T'.heap = h' → Wr h h' a (Jvm.RoadKit.slotOf Z O n d) v → Owes p e below F (T'.setTop (mkF m (pc + 3) Ls rest))) : Owes p e below F (T.setTop (mkF m pc Ls (v :: .ref a :: rest))) := by
  obtain ⟨T', h', X', e', W, st⟩ := Jvm.RoadKit.putF X hx hZ hown w via eT Fd E L wi hty hn hf (g := mkF m pc Ls (v :: .ref a :: rest)) rfl rfl hd
  exact (k T' h' X' e' W).go st
theorem Owes.alen (X : Stand p l e R s m args below meth c T locs cells slots) (hx : p.tables.exec = Jvm.exec) (hZ : Z.Warmed39 s.vm) (eT : T.heap = h) {a : Addr} {cl : Cell} {ty : FieldType} (A : Arr Z h a cl ty) {z : Int32} (hn : cl.slots.size.toInt32 = z) {pc : Nat} {Ls : Array Slot} {rest : List Value}
    (hd : decode c.code pc = .ok (.arraylength, 1)) (k : Owes p e below F (T.setTop (mkF m (pc + 1) Ls (.int z :: rest)))) : Owes p e below F (T.setTop (mkF m pc Ls (.ref a :: rest))) := by
  subst hn
  exact k.go fun t q => X.arraylength hx (by rw [eT]; exact A.1) (State.isArrayOf_alike hZ.alike A.2.1) (g := mkF m pc Ls (.ref a :: rest)) rfl rfl hd _ q
theorem Owes.aldI (X : Stand p l e R s m args below meth c T locs cells slots) (hx : p.tables.exec = Jvm.exec) (hZ : Z.Warmed39 s.vm) (eT : T.heap = h) {a : Addr} {cl : Cell} (A : Arr Z h a cl .int) {j : Int32} {v : Value} (hin : ¬ (j < 0 ∨ cl.slots.size ≤ j.toNatClampNeg)) (hat : cl.slots[j.toNatClampNeg]? = some v) {pc : Nat} {Ls : Array Slot} {rest : List Value}
    (hd : decode c.code pc = .ok (.iaload, 1)) (k : Owes p e below F (T.setTop (mkF m (pc + 1) Ls (v :: rest)))) : Owes p e below F (T.setTop (mkF m pc Ls (.int j :: .ref a :: rest))) :=
  k.go fun t q => X.iaload hx (by rw [eT]; exact A.1) (State.isArrayOf_alike hZ.alike A.2.1) A.2.2 hin hat (g := mkF m pc Ls (.int j :: .ref a :: rest)) rfl rfl hd _ q
theorem Owes.aldJ (X : Stand p l e R s m args below meth c T locs cells slots) (hx : p.tables.exec = Jvm.exec) (hZ : Z.Warmed39 s.vm) (eT : T.heap = h) {a : Addr} {cl : Cell} (A : Arr Z h a cl .long) {j : Int32} {v : Value} (hin : ¬ (j < 0 ∨ cl.slots.size ≤ j.toNatClampNeg)) (hat : cl.slots[j.toNatClampNeg]? = some v) {pc : Nat} {Ls : Array Slot} {rest : List Value}
    (hd : decode c.code pc = .ok (.laload, 1)) (k : Owes p e below F (T.setTop (mkF m (pc + 1) Ls (v :: rest)))) : Owes p e below F (T.setTop (mkF m pc Ls (.int j :: .ref a :: rest))) :=
  k.go fun t q => X.laload hx (by rw [eT]; exact A.1) (State.isArrayOf_alike hZ.alike A.2.1) A.2.2 hin hat (g := mkF m pc Ls (.int j :: .ref a :: rest)) rfl rfl hd _ q
theorem Owes.aldC (X : Stand p l e R s m args below meth c T locs cells slots) (hx : p.tables.exec = Jvm.exec) (hZ : Z.Warmed39 s.vm) (eT : T.heap = h) {a : Addr} {cl : Cell} (A : Arr Z h a cl .char) {j : Int32} {v : Value} (hin : ¬ (j < 0 ∨ cl.slots.size ≤ j.toNatClampNeg)) (hat : cl.slots[j.toNatClampNeg]? = some v) {pc : Nat} {Ls : Array Slot} {rest : List Value}
    (hd : decode c.code pc = .ok (.caload, 1)) (k : Owes p e below F (T.setTop (mkF m (pc + 1) Ls (v :: rest)))) : Owes p e below F (T.setTop (mkF m pc Ls (.int j :: .ref a :: rest))) :=
  k.go fun t q => X.caload hx (by rw [eT]; exact A.1) (State.isArrayOf_alike hZ.alike A.2.1) A.2.2 hin hat (g := mkF m pc Ls (.int j :: .ref a :: rest)) rfl rfl hd _ q
theorem Owes.aldZ (X : Stand p l e R s m args below meth c T locs cells slots) (hx : p.tables.exec = Jvm.exec) (hZ : Z.Warmed39 s.vm) (eT : T.heap = h) {a : Addr} {cl : Cell} (A : Arr Z h a cl .boolean) {j : Int32} {v : Value} (hin : ¬ (j < 0 ∨ cl.slots.size ≤ j.toNatClampNeg)) (hat : cl.slots[j.toNatClampNeg]? = some v) {pc : Nat} {Ls : Array Slot} {rest : List Value}
    (hd : decode c.code pc = .ok (.baload, 1)) (k : Owes p e below F (T.setTop (mkF m (pc + 1) Ls (v :: rest)))) : Owes p e below F (T.setTop (mkF m pc Ls (.int j :: .ref a :: rest))) :=
  k.go fun t q => X.baloadBooleans hx (by rw [eT]; exact A.1) (State.isArrayOf_alike hZ.alike A.2.1) A.2.2 hin hat (g := mkF m pc Ls (.int j :: .ref a :: rest)) rfl rfl hd _ q
theorem Owes.aldB (X : Stand p l e R s m args below meth c T locs cells slots) (hx : p.tables.exec = Jvm.exec) (hZ : Z.Warmed39 s.vm) (eT : T.heap = h) {a : Addr} {cl : Cell} (A : Arr Z h a cl .byte) {j : Int32} {v : Value} (hin : ¬ (j < 0 ∨ cl.slots.size ≤ j.toNatClampNeg)) (hat : cl.slots[j.toNatClampNeg]? = some v) {pc : Nat} {Ls : Array Slot} {rest : List Value}
    (hd : decode c.code pc = .ok (.baload, 1)) (k : Owes p e below F (T.setTop (mkF m (pc + 1) Ls (v :: rest)))) : Owes p e below F (T.setTop (mkF m pc Ls (.int j :: .ref a :: rest))) :=
  k.go fun t q => X.baloadBytes hx (by rw [eT]; exact A.1) (State.isArrayOf_alike hZ.alike A.2.1) A.2.2 hin hat (g := mkF m pc Ls (.int j :: .ref a :: rest)) rfl rfl hd _ q
theorem Owes.aldR (X : Stand p l e R s m args below meth c T locs cells slots) (hx : p.tables.exec = Jvm.exec) (hZ : Z.Warmed39 s.vm) (eT : T.heap = h) {a : Addr} {cl : Cell} {ty : FieldType} (A : Arr Z h a cl ty) (hty : ty.isReference = true) {j : Int32} {v : Value} (hin : ¬ (j < 0 ∨ cl.slots.size ≤ j.toNatClampNeg)) (hat : cl.slots[j.toNatClampNeg]? = some v) {pc : Nat} {Ls : Array Slot} {rest : List Value}
    (hd : decode c.code pc = .ok (.aaload, 1)) (k : Owes p e below F (T.setTop (mkF m (pc + 1) Ls (v :: rest)))) : Owes p e below F (T.setTop (mkF m pc Ls (.int j :: .ref a :: rest))) :=
  k.go fun t q => X.aaload hx (by rw [eT]; exact A.1) (State.isArrayOf_alike hZ.alike A.2.1) hty A.2.2 hin hat (g := mkF m pc Ls (.int j :: .ref a :: rest)) rfl rfl hd _ q
theorem own_eqI {first : State} {o : Option Outcome} {idx : List Nat} {t : Term} {k : Int32} (q : (Cond.eq t (.int k)).value args first o s idx = some true) : t.eval args first o idx s = some (.int k) := by
  simp only [Cond.value, Term.eval] at q
  cases hv : t.eval args first o idx s with
  | none => simp [hv] at q
  | some v => cases v <;> simp_all
end Own
section OwnArr
variable {p : Program} {l : Launch} {e : Env} {R : Room} {s : State} {m : MethodId} {args : Array Value} {below : List Frame} {meth : Method} {c : Code} {T : State} {locs : List Loc} {cells slots : Nat} {Z : State} {a0 : Array Value} {h h' : Heap}
variable {Q : Option Value → Heap → List Loc → Prop} {F : Outcome → State → Prop} {C N : Nat} {A B : State}
theorem own_nat {j : Int32} {i : Nat} (q : j.toInt = (i : Int)) : ¬ j < 0 ∧ j.toNatClampNeg = i := by
  constructor
  · rw [Int32.lt_iff_toInt_lt, q, show (0 : Int32).toInt = 0 from by decide]; omega
  · rw [Int32.toNatClampNeg, q]; omega
theorem own_nth {j : Int32} {i n : Nat} {cl : Cell} (q : j.toInt = (i : Int)) (hi : i < n) (S : cl.slots.size = n) : ¬ (j < 0 ∨ cl.slots.size ≤ j.toNatClampNeg) := by
  obtain ⟨q1, q2⟩ := own_nat q
  rintro (z | z)
  · exact q1 z
  · rw [q2, S] at z; omega
/-- an array with components of type ty: n places, the place i holds w i -/
def GA (Z : State) (h : Heap) (a : Addr) (ty : FieldType) (n : Nat) (w : Nat → Value) : Prop := ∃ c : Cell, Arr Z h a c ty ∧ c.slots.size = n ∧ ∀ i, i < n → c.slots[i]? = some (w i)
def upd {α : Type} (w : Nat → α) (i : Nat) (v : α) : Nat → α := fun k => if k = i then v else w k
theorem upd_same {α : Type} (w : Nat → α) (i : Nat) (v : α) : upd w i v i = v := if_pos rfl
theorem upd_ne {α : Type} (w : Nat → α) {i k : Nat} (v : α) (q : k ≠ i) : upd w i v k = w k := if_neg q
theorem GA.lt {a : Addr} {ty : FieldType} {n : Nat} {w : Nat → Value} (G0 : GA Z h a ty n w) : a < h.size := by obtain ⟨c, A, -⟩ := G0; exact A.lt
theorem GA.ext {a : Addr} {ty : FieldType} {n : Nat} {w : Nat → Value} (G0 : GA Z h a ty n w) (E : Ext h h') : GA Z h' a ty n w := by obtain ⟨c, A, r⟩ := G0; exact ⟨c, A.ext E, r⟩
theorem GA.other {a b : Addr} {ty : FieldType} {n sl : Nat} {w : Nat → Value} {v : Value} (G0 : GA Z h b ty n w) (W : Wr h h' a sl v) (q : b ≠ a) : GA Z h' b ty n w := by obtain ⟨c, A, r⟩ := G0; exact ⟨c, A.other W q, r⟩
theorem GA.keep {a : Addr} {ty : FieldType} {n : Nat} {w : Nat → Value} {ws : List Addr} (G0 : GA Z h a ty n w) (K : Keep h h' ws) (q : a ∉ ws) : GA Z h' a ty n w := by obtain ⟨c, A, r⟩ := G0; exact ⟨c, ⟨K.2.1 a c A.1 q, A.2⟩, r⟩
theorem GA.congr {a : Addr} {ty : FieldType} {n : Nat} {w w' : Nat → Value} (G0 : GA Z h a ty n w) (q : ∀ i, i < n → w i = w' i) : GA Z h a ty n w' := by obtain ⟨c, A, S, r⟩ := G0; exact ⟨c, A, S, fun i hi => by rw [← q i hi]; exact r i hi⟩
theorem GA.set {a : Addr} {ty : FieldType} {n i : Nat} {w : Nat → Value} {v : Value} (G0 : GA Z h a ty n w) (W : Wr h h' a i v) : GA Z h' a ty n (upd w i v) := by
  obtain ⟨c, A, S, r⟩ := G0
  refine ⟨_, A.same W, by rw [sz_set]; exact S, fun k hk => ?_⟩
  by_cases q : k = i
  · subst q
    rw [upd_same]
    simp [Cell.setSlot, S, hk]
  · rw [upd_ne _ _ q, ← r k hk]
    exact Array.getElem?_setIfInBounds_ne (Ne.symm q)
theorem GA.new {a : Addr} {ty : FieldType} {k : ClassId} {z : Int32} {n : Nat} (A : Arr Z h a (newA k ty z) ty) (q : z.toInt = (n : Int)) : GA Z h a ty n (fun _ => defaultValue ty) := by
  have e := (own_nat q).2
  refine ⟨_, A, by rw [sz_new]; exact e, fun i hi => ?_⟩
  simp [newA, e, hi]
theorem GA.ne {a b : Addr} {ty : FieldType} {n n' : Nat} {w w' : Nat → Value} {ty' : FieldType} (G0 : GA Z h a ty n w) (G : GA Z h b ty' n' w') (q : ty ≠ ty') : a ≠ b := fun z => by
  subst z
  obtain ⟨c, A, -⟩ := G0
  obtain ⟨c', A', -⟩ := G
  cases A.1.symm.trans A'.1
  obtain ⟨-, k, h1, comp, h2⟩ := A.2.1
  obtain ⟨-, k', h1', comp', h2'⟩ := A'.2.1
  cases h1.symm.trans h1'
  rw [h2] at h2'
  cases h2'
  exact q rfl
theorem GA.ne_obj {a b : Addr} {ty : FieldType} {n k : Nat} {w : Nat → Value} {CC : String} (E : Exa Z h a CC) (wi : (Cond.instantiable CC k).before a0 Z = true) (G0 : GA Z h b ty n w) : a ≠ b := by
  obtain ⟨c, A, -⟩ := G0
  exact ne_arr E wi A
theorem Owes.gI (X : Stand p l e R s m args below meth c T locs cells slots) (hx : p.tables.exec = Jvm.exec) (hZ : Z.Warmed39 s.vm) (eT : T.heap = h) {a : Addr} {n : Nat} {w : Nat → Value} (A : GA Z h a .int n w) {j : Int32} {i : Nat} {v : Value} (hj : j.toInt = (i : Int)) (hi : i < n) (hv : w i = v) {pc : Nat} {Ls : Array Slot} {rest : List Value}
    (hd : decode c.code pc = .ok (.iaload, 1)) (k : Owes p e below F (T.setTop (mkF m (pc + 1) Ls (v :: rest)))) : Owes p e below F (T.setTop (mkF m pc Ls (.int j :: .ref a :: rest))) := by
  obtain ⟨cl, A1, S, V⟩ := A
  exact Owes.aldI X hx hZ eT A1 (own_nth hj hi S) (by rw [(own_nat hj).2, ← hv]; exact V i hi) hd k
theorem Owes.gJ (X : Stand p l e R s m args below meth c T locs cells slots) (hx : p.tables.exec = Jvm.exec) (hZ : Z.Warmed39 s.vm) (eT : T.heap = h) {a : Addr} {n : Nat} {w : Nat → Value} (A : GA Z h a .long n w) {j : Int32} {i : Nat} {v : Value} (hj : j.toInt = (i : Int)) (hi : i < n) (hv : w i = v) {pc : Nat} {Ls : Array Slot} {rest : List Value}
    (hd : decode c.code pc = .ok (.laload, 1)) (k : Owes p e below F (T.setTop (mkF m (pc + 1) Ls (v :: rest)))) : Owes p e below F (T.setTop (mkF m pc Ls (.int j :: .ref a :: rest))) := by
  obtain ⟨cl, A1, S, V⟩ := A
  exact Owes.aldJ X hx hZ eT A1 (own_nth hj hi S) (by rw [(own_nat hj).2, ← hv]; exact V i hi) hd k
theorem Owes.gC (X : Stand p l e R s m args below meth c T locs cells slots) (hx : p.tables.exec = Jvm.exec) (hZ : Z.Warmed39 s.vm) (eT : T.heap = h) {a : Addr} {n : Nat} {w : Nat → Value} (A : GA Z h a .char n w) {j : Int32} {i : Nat} {v : Value} (hj : j.toInt = (i : Int)) (hi : i < n) (hv : w i = v) {pc : Nat} {Ls : Array Slot} {rest : List Value}
    (hd : decode c.code pc = .ok (.caload, 1)) (k : Owes p e below F (T.setTop (mkF m (pc + 1) Ls (v :: rest)))) : Owes p e below F (T.setTop (mkF m pc Ls (.int j :: .ref a :: rest))) := by
  obtain ⟨cl, A1, S, V⟩ := A
  exact Owes.aldC X hx hZ eT A1 (own_nth hj hi S) (by rw [(own_nat hj).2, ← hv]; exact V i hi) hd k
theorem Owes.gZ (X : Stand p l e R s m args below meth c T locs cells slots) (hx : p.tables.exec = Jvm.exec) (hZ : Z.Warmed39 s.vm) (eT : T.heap = h) {a : Addr} {n : Nat} {w : Nat → Value} (A : GA Z h a .boolean n w) {j : Int32} {i : Nat} {v : Value} (hj : j.toInt = (i : Int)) (hi : i < n) (hv : w i = v) {pc : Nat} {Ls : Array Slot} {rest : List Value}
    (hd : decode c.code pc = .ok (.baload, 1)) (k : Owes p e below F (T.setTop (mkF m (pc + 1) Ls (v :: rest)))) : Owes p e below F (T.setTop (mkF m pc Ls (.int j :: .ref a :: rest))) := by
  obtain ⟨cl, A1, S, V⟩ := A
  exact Owes.aldZ X hx hZ eT A1 (own_nth hj hi S) (by rw [(own_nat hj).2, ← hv]; exact V i hi) hd k
theorem Owes.gB (X : Stand p l e R s m args below meth c T locs cells slots) (hx : p.tables.exec = Jvm.exec) (hZ : Z.Warmed39 s.vm) (eT : T.heap = h) {a : Addr} {n : Nat} {w : Nat → Value} (A : GA Z h a .byte n w) {j : Int32} {i : Nat} {v : Value} (hj : j.toInt = (i : Int)) (hi : i < n) (hv : w i = v) {pc : Nat} {Ls : Array Slot} {rest : List Value}
    (hd : decode c.code pc = .ok (.baload, 1)) (k : Owes p e below F (T.setTop (mkF m (pc + 1) Ls (v :: rest)))) : Owes p e below F (T.setTop (mkF m pc Ls (.int j :: .ref a :: rest))) := by
  obtain ⟨cl, A1, S, V⟩ := A
  exact Owes.aldB X hx hZ eT A1 (own_nth hj hi S) (by rw [(own_nat hj).2, ← hv]; exact V i hi) hd k
theorem Owes.gR (X : Stand p l e R s m args below meth c T locs cells slots) (hx : p.tables.exec = Jvm.exec) (hZ : Z.Warmed39 s.vm) (eT : T.heap = h) {a : Addr} {n : Nat} {ty : FieldType} {w : Nat → Value} (A : GA Z h a ty n w) (hty : ty.isReference = true) {j : Int32} {i : Nat} {v : Value} (hj : j.toInt = (i : Int)) (hi : i < n) (hv : w i = v) {pc : Nat} {Ls : Array Slot} {rest : List Value}
    (hd : decode c.code pc = .ok (.aaload, 1)) (k : Owes p e below F (T.setTop (mkF m (pc + 1) Ls (v :: rest)))) : Owes p e below F (T.setTop (mkF m pc Ls (.int j :: .ref a :: rest))) := by
  obtain ⟨cl, A1, S, V⟩ := A
  exact Owes.aldR X hx hZ eT A1 hty (own_nth hj hi S) (by rw [(own_nat hj).2, ← hv]; exact V i hi) hd k
theorem Owes.glen (X : Stand p l e R s m args below meth c T locs cells slots) (hx : p.tables.exec = Jvm.exec) (hZ : Z.Warmed39 s.vm) (eT : T.heap = h) {a : Addr} {n : Nat} {ty : FieldType} {w : Nat → Value} (A : GA Z h a ty n w) {z : Int32} (hz : z.toInt = (n : Int)) {pc : Nat} {Ls : Array Slot} {rest : List Value}
    (hd : decode c.code pc = .ok (.arraylength, 1)) (k : Owes p e below F (T.setTop (mkF m (pc + 1) Ls (.int z :: rest)))) : Owes p e below F (T.setTop (mkF m pc Ls (.ref a :: rest))) := by
  obtain ⟨cl, A1, S, V⟩ := A
  exact Owes.alen X hx hZ eT A1 (len_of (by rw [S, (own_nat hz).2]) (own_nat hz).1) hd k
theorem Owes.sI (X : Stand p l e R s m args below meth c T locs cells slots) (hx : p.tables.exec = Jvm.exec) (hZ : Z.Warmed39 s.vm) (eT : T.heap = h) {a : Addr} {n : Nat} {w : Nat → Value} (A : GA Z h a .int n w) {j : Int32} {i : Nat} (hj : j.toInt = (i : Int)) (hi : i < n) {x : Int32} {pc : Nat} {Ls : Array Slot} {rest : List Value}
    (hd : decode c.code pc = .ok (.iastore, 1)) (k : ∀ (T' : State) (h' : Heap), Stand p l e R s m args below meth c T' (locs ++ [⟨a, i⟩]) cells slots → T'.heap = h' → Wr h h' a i (.int x) → GA Z h' a .int n (upd w i (.int x)) → Owes p e below F (T'.setTop (mkF m (pc + 1) Ls rest))) : Owes p e below F (T.setTop (mkF m pc Ls (.int x :: .int j :: .ref a :: rest))) := by
  have A0 := A
  obtain ⟨cl, A1, S, V⟩ := A
  obtain ⟨T', h', X', e', W, st⟩ := stI X hx hZ eT A1 (j := j) (x := x) (own_nth hj hi S) (g := mkF m pc Ls (.int x :: .int j :: .ref a :: rest)) rfl rfl hd
  rw [(own_nat hj).2] at X' W
  exact (k T' h' X' e' W (A0.set W)).go st
theorem Owes.sJ (X : Stand p l e R s m args below meth c T locs cells slots) (hx : p.tables.exec = Jvm.exec) (hZ : Z.Warmed39 s.vm) (eT : T.heap = h) {a : Addr} {n : Nat} {w : Nat → Value} (A : GA Z h a .long n w) {j : Int32} {i : Nat} (hj : j.toInt = (i : Int)) (hi : i < n) {x : Int64} {pc : Nat} {Ls : Array Slot} {rest : List Value}
    (hd : decode c.code pc = .ok (.lastore, 1)) (k : ∀ (T' : State) (h' : Heap), Stand p l e R s m args below meth c T' (locs ++ [⟨a, i⟩]) cells slots → T'.heap = h' → Wr h h' a i (.long x) → GA Z h' a .long n (upd w i (.long x)) → Owes p e below F (T'.setTop (mkF m (pc + 1) Ls rest))) : Owes p e below F (T.setTop (mkF m pc Ls (.long x :: .int j :: .ref a :: rest))) := by
  have A0 := A
  obtain ⟨cl, A1, S, V⟩ := A
  obtain ⟨T', h', X', e', W, st⟩ := stJ X hx hZ eT A1 (j := j) (x := x) (own_nth hj hi S) (g := mkF m pc Ls (.long x :: .int j :: .ref a :: rest)) rfl rfl hd
  rw [(own_nat hj).2] at X' W
  exact (k T' h' X' e' W (A0.set W)).go st
theorem Owes.sR (X : Stand p l e R s m args below meth c T locs cells slots) (hx : p.tables.exec = Jvm.exec) (hZ : Z.Warmed39 s.vm) (eT : T.heap = h) {a : Addr} {n : Nat} {ty : FieldType} {w : Nat → Value} (A : GA Z h a ty n w) (hty : ty.isReference = true) {j : Int32} {i : Nat} (hj : j.toInt = (i : Int)) (hi : i < n) {v : Value} (SF : Sto Z h a v) {pc : Nat} {Ls : Array Slot} {rest : List Value}
    (hd : decode c.code pc = .ok (.aastore, 1)) (k : ∀ (T' : State) (h' : Heap), Stand p l e R s m args below meth c T' (locs ++ [⟨a, i⟩]) cells slots → T'.heap = h' → Wr h h' a i v → GA Z h' a ty n (upd w i v) → Owes p e below F (T'.setTop (mkF m (pc + 1) Ls rest))) : Owes p e below F (T.setTop (mkF m pc Ls (v :: .int j :: .ref a :: rest))) := by
  have A0 := A
  obtain ⟨cl, A1, S, V⟩ := A
  obtain ⟨T', h', X', e', W, st⟩ := stR X hx hZ eT A1 (j := j) (v := v) (own_nth hj hi S) hty SF (g := mkF m pc Ls (v :: .int j :: .ref a :: rest)) rfl rfl hd
  rw [(own_nat hj).2] at X' W
  exact (k T' h' X' e' W (A0.set W)).go st
theorem Owes.newArr (X : Stand p l e R s m args below meth c T locs cells slots) (hx : p.tables.exec = Jvm.exec) (hZ : Z.Warmed39 s.vm) {aty : ArrayType} (w : (Cond.arrayClass (newarray.typeOf aty)).before a0 Z = true) (eT : T.heap = h) {z : Int32} {n : Nat} (hz : z.toInt = (n : Int)) (hb : n * 8 ≤ 536870912) (hcl : cells + 1 ≤ R.cells) (hsl : slots + n ≤ R.slots) {ad : String} (had : "[" ++ (newarray.typeOf aty).toString = ad) {pc : Nat} {Ls : Array Slot} {rest : List Value}
    (hd : decode c.code pc = .ok (.newarray aty, 2)) (k : ∀ (T' : State) (h' : Heap), Stand p l e R s m args below meth c T' locs (cells + 1) (slots + n) → T'.heap = h' → Ext h h' → GA Z h' h.size (newarray.typeOf aty) n (fun _ => defaultValue (newarray.typeOf aty)) → Exa Z h' h.size ad → Owes p e below F (T'.setTop (mkF m (pc + 2) Ls (.ref h.size :: rest)))) : Owes p e below F (T.setTop (mkF m pc Ls (.int z :: rest))) := by
  obtain ⟨T', h', cA, X', e', E, A1, EX, st⟩ := newPE X hx hZ w eT (g := mkF m pc Ls (.int z :: rest)) rfl hd (n := z) rfl (own_nat hz).1 (cap := n) (Nat.le_of_eq (own_nat hz).2) hb hcl hsl had
  exact (k T' h' X' e' E (GA.new A1 hz) EX).go st
theorem Owes.newArrA (X : Stand p l e R s m args below meth c T locs cells slots) (hx : p.tables.exec = Jvm.exec) (hZ : Z.Warmed39 s.vm) {own CC : String} {ty : FieldType} {index : Nat} (hown : s.vm.findClass own = some m.cls) (hC : (FieldType.array ty).toString = CC) (w1 : (Cond.classLink own index CC).before a0 Z = true) (w2 : (Cond.arrayOver (.array ty)).before a0 Z = true) (eT : T.heap = h) {z : Int32} {n : Nat} (hz : z.toInt = (n : Int)) (hb : n * 8 ≤ 536870912) (hcl : cells + 1 ≤ R.cells) (hsl : slots + n ≤ R.slots) {pc : Nat} {Ls : Array Slot} {rest : List Value}
    (hd : decode c.code pc = .ok (.anewarray index, 3)) (k : ∀ (T' : State) (h' : Heap) (cA : ClassId), Stand p l e R s m args below meth c T' locs (cells + 1) (slots + n) → T'.heap = h' → Ext h h' → Arr Z h' h.size (newA cA (.array ty) z) (.array ty) → OvrA Z cA ty CC → Owes p e below F (T'.setTop (mkF m (pc + 3) Ls (.ref h.size :: rest)))) : Owes p e below F (T.setTop (mkF m pc Ls (.int z :: rest))) := by
  obtain ⟨T', h', cA, X', e', E, A1, EX, O, st⟩ := newRA X hx hZ hown hC w1 w2 eT (g := mkF m pc Ls (.int z :: rest)) rfl hd (n := z) rfl (own_nat hz).1 (cap := n) (Nat.le_of_eq (own_nat hz).2) hb hcl hsl rfl
  exact (k T' h' cA X' e' E A1 O).go st
/-- the same, and the array's own class -/
def GC (Z : State) (h : Heap) (a : Addr) (ty : FieldType) (n : Nat) (w : Nat → Value) (kc : ClassId) : Prop := ∃ c : Cell, Arr Z h a c ty ∧ c.cls = kc ∧ c.slots.size = n ∧ ∀ i, i < n → c.slots[i]? = some (w i)
theorem GC.ga {a : Addr} {ty : FieldType} {n : Nat} {w : Nat → Value} {kc : ClassId} (G0 : GC Z h a ty n w kc) : GA Z h a ty n w := by obtain ⟨c, A, -, r⟩ := G0; exact ⟨c, A, r⟩
theorem GC.ext {a : Addr} {ty : FieldType} {n : Nat} {w : Nat → Value} {kc : ClassId} (G0 : GC Z h a ty n w kc) (E : Ext h h') : GC Z h' a ty n w kc := by obtain ⟨c, A, r⟩ := G0; exact ⟨c, A.ext E, r⟩
theorem GC.other {a b : Addr} {ty : FieldType} {n sl : Nat} {w : Nat → Value} {v : Value} {kc : ClassId} (G0 : GC Z h b ty n w kc) (W : Wr h h' a sl v) (q : b ≠ a) : GC Z h' b ty n w kc := by obtain ⟨c, A, r⟩ := G0; exact ⟨c, A.other W q, r⟩
theorem GC.congr {a : Addr} {ty : FieldType} {n : Nat} {w w' : Nat → Value} {kc : ClassId} (G0 : GC Z h a ty n w kc) (q : ∀ i, i < n → w i = w' i) : GC Z h a ty n w' kc := by obtain ⟨c, A, K, S, r⟩ := G0; exact ⟨c, A, K, S, fun i hi => by rw [← q i hi]; exact r i hi⟩
theorem GC.set {a : Addr} {ty : FieldType} {n i : Nat} {w : Nat → Value} {v : Value} {kc : ClassId} (G0 : GC Z h a ty n w kc) (W : Wr h h' a i v) : GC Z h' a ty n (upd w i v) kc := by
  obtain ⟨c, A, K, S, r⟩ := G0
  refine ⟨_, A.same W, K, by rw [sz_set]; exact S, fun k hk => ?_⟩
  by_cases q : k = i
  · subst q
    rw [upd_same]
    simp [Cell.setSlot, S, hk]
  · rw [upd_ne _ _ q, ← r k hk]
    exact Array.getElem?_setIfInBounds_ne (Ne.symm q)
theorem GC.new {a : Addr} {ty : FieldType} {k : ClassId} {z : Int32} {n : Nat} (A : Arr Z h a (newA k ty z) ty) (q : z.toInt = (n : Int)) : GC Z h a ty n (fun _ => defaultValue ty) k := by
  have e := (own_nat q).2
  refine ⟨_, A, rfl, by rw [sz_new]; exact e, fun i hi => ?_⟩
  simp [newA, e, hi]
theorem GC.sto {a y : Addr} {ty t0 : FieldType} {n : Nat} {w : Nat → Value} {kc : ClassId} {CC : String} (G0 : GC Z h a t0 n w kc) (O : OvrA Z kc ty CC) (I : Ins Z h y CC true) : Sto Z h a (.ref y) := by
  obtain ⟨c, A, K, -⟩ := G0
  exact Sto.ofVA A K O I
end OwnArr

section OwnBits
def bt (w : Int64) (b : Nat) : Bool := w.toBitVec.getLsbD b
theorem bt_zero (b : Nat) : bt 0 b = false := by simp [bt]
theorem bt_ext {x y : Int64} (h : ∀ b, b < 64 → bt x b = bt y b) : x = y := Int64.toBitVec_inj.mp (BitVec.eq_of_getLsbD_eq h)
theorem bt_ne0 {x : Int64} (h : ¬ x = 0) : ∃ b, b < 64 ∧ bt x b = true := by
  apply Classical.byContradiction
  intro q
  apply h
  apply bt_ext
  intro b hb
  rw [bt_zero]
  cases hv : bt x b
  · rfl
  · exact absurd ⟨b, hb, hv⟩ q
theorem bt_eq0 {x : Int64} (h : x = 0) (b : Nat) : bt x b = false := by rw [h, bt_zero]
theorem bt_and (x y : Int64) (b : Nat) : bt (x &&& y) b = (bt x b && bt y b) := by simp [bt]
theorem bt_or (x y : Int64) (b : Nat) : bt (x ||| y) b = (bt x b || bt y b) := by simp [bt]
theorem bt_xor (x y : Int64) (b : Nat) : bt (x ^^^ y) b = (bt x b ^^ bt y b) := by simp [bt]
theorem bt_m1 (b : Nat) (hb : b < 64) : bt (-1) b = true := (by decide +kernel : ∀ b : Fin 64, bt (-1) b.1 = true) ⟨b, hb⟩
theorem bt_1 (b : Nat) : bt 1 b = decide (b = 0) := by
  by_cases hb : b < 64
  · exact (by decide +kernel : ∀ b : Fin 64, bt 1 b.1 = decide (b.1 = 0)) ⟨b, hb⟩
  · have : ¬ b = 0 := by omega
    simp only [this, decide_false]
    exact BitVec.getLsbD_of_ge _ _ (by omega)
theorem i32_nat {q : Int32} {i : Nat} (h : q.toInt = (i : Int)) : q.toBitVec.toNat = i := by
  have h1 : q.toBitVec.toInt = (i : Int) := h
  have h2 := q.toBitVec.isLt
  rw [BitVec.toInt_eq_toNat_cond] at h1
  split at h1 <;> omega
theorem bt_shl (x : Int64) (q : Int32) (i : Nat) (h : q.toInt = (i : Int)) (b : Nat) (hb : b < 64) : bt (x <<< (q &&& 0x3f).toInt64) b = (decide (i % 64 ≤ b) && bt x (b - i % 64)) := by
  have e : q.toBitVec.toNat % 64 = i % 64 := by rw [i32_nat h]
  show (x.toBitVec <<< ((q &&& 0x3f).toInt64.toBitVec.smod 64)).getLsbD b = _
  rw [BitVec.shiftLeft_eq', (sm64 q _ e).1, smod64 _ (sm64 q _ e).2, BitVec.getLsbD_shiftLeft]
  by_cases c : i % 64 ≤ b
  · simp [c, hb, bt, Nat.not_lt.mpr c]
  · simp [c, hb, Nat.lt_of_not_le c]
theorem bt_ushr (x : Int64) (q : Int32) (i : Nat) (h : q.toInt = (i : Int)) (b : Nat) : bt ((x.toUInt64 >>> (q &&& 0x3f).toInt64.toUInt64).toInt64) b = bt x (i % 64 + b) := by
  have e : q.toBitVec.toNat % 64 = i % 64 := by rw [i32_nat h]
  have h5 := (sm64 q _ e).2
  show (x.toBitVec >>> ((q &&& 0x3f).toInt64.toBitVec % 64)).getLsbD b = _
  rw [BitVec.ushiftRight_eq', BitVec.getLsbD_ushiftRight, BitVec.toNat_umod, (sm64 q _ e).1, BitVec.toNat_ofNat]
  have : i % 64 % 2 ^ 64 % (64 : BitVec 64).toNat = i % 64 := by show i % 64 % 2 ^ 64 % 64 = _; omega
  rw [this]; rfl
/-- the word with just the bit i % 64 -/
theorem bt_one_shl (q : Int32) (i : Nat) (h : q.toInt = (i : Int)) (b : Nat) (hb : b < 64) : bt ((1 : Int64) <<< (q &&& 0x3f).toInt64) b = decide (b = i % 64) := by
  rw [bt_shl _ q i h b hb, bt_1]
  by_cases c : b = i % 64
  · simp [c]
  · by_cases d : i % 64 ≤ b
    · have : ¬ b - i % 64 = 0 := by omega
      simp [c, this]
    · simp [c, d]
theorem bt_m1_shl (q : Int32) (i : Nat) (h : q.toInt = (i : Int)) (b : Nat) (hb : b < 64) : bt ((-1 : Int64) <<< (q &&& 0x3f).toInt64) b = decide (i % 64 ≤ b) := by
  rw [bt_shl _ q i h b hb, bt_m1 _ (by omega)]; simp
theorem bt_m1_ushr (q : Int32) (i : Nat) (hi : i < 64) (h : q.toInt = ((63 - i : Nat) : Int)) (b : Nat) (hb : b < 64) : bt (((-1 : Int64).toUInt64 >>> (q &&& 0x3f).toInt64.toUInt64).toInt64) b = decide (b ≤ i) := by
  rw [bt_ushr _ q _ h, Nat.mod_eq_of_lt (show 63 - i < 64 by omega)]
  by_cases c : b ≤ i
  · simp only [c, decide_true]
    exact bt_m1 _ (by omega)
  · simp only [c, decide_false]
    exact BitVec.getLsbD_of_ge _ _ (by omega)
/-- the lowest bit's mask -/
theorem own_low (x : Int32) (t : Nat) (ht : t < 32) (h1 : x.toBitVec.getLsbD t = true) (h2 : ∀ b, b < t → x.toBitVec.getLsbD b = false) : ((x ^^^ (-1 : Int32)) &&& (x - (1 : Int32))) = Int32.ofNat (2 ^ t - 1) := by
  apply Int32.toBitVec_inj.mp
  show (x.toBitVec ^^^ (-1 : Int32).toBitVec) &&& (x.toBitVec - (1 : Int32).toBitVec) = BitVec.ofNat 32 (2 ^ t - 1)
  generalize x.toBitVec = y at *
  have hlt := y.isLt
  have b1 : y.toNat.testBit t = true := h1
  have b2 : ∀ b, b < t → y.toNat.testBit b = false := h2
  have m0 : y.toNat % 2 ^ t = 0 := by
    apply Nat.eq_of_testBit_eq
    intro j
    rw [Nat.testBit_mod_two_pow, Nat.zero_testBit]
    by_cases c : j < t
    · simp [c, b2 j c]
    · simp [c]
  have hd : y.toNat / 2 ^ t % 2 = 1 := by
    rw [Nat.testBit_eq_decide_div_mod_eq] at b1
    exact of_decide_eq_true b1
  have hp : 0 < 2 ^ t := Nat.two_pow_pos t
  have e1 : y.toNat = 2 ^ (t + 1) * (y.toNat / 2 ^ t / 2) + 2 ^ t := by
    have q1 := Nat.div_add_mod y.toNat (2 ^ t)
    have q2 := Nat.div_add_mod (y.toNat / 2 ^ t) 2
    rw [m0] at q1
    rw [hd] at q2
    rw [Nat.pow_succ]
    generalize y.toNat / 2 ^ t = a at *
    have q3 : 2 ^ t * 2 * (a / 2) + 2 ^ t = 2 ^ t * (2 * (a / 2) + 1) := by rw [Nat.mul_add, Nat.mul_one, Nat.mul_assoc]
    rw [q3, q2]; omega
  generalize y.toNat / 2 ^ t / 2 = hi at *
  have hle : 2 ^ t < 2 ^ (t + 1) := by rw [Nat.pow_succ]; omega
  have e2 : (y - (1 : Int32).toBitVec).toNat = 2 ^ (t + 1) * hi + (2 ^ t - 1) := by
    rw [BitVec.toNat_sub, show (1 : Int32).toBitVec.toNat = 1 by decide]
    omega
  apply BitVec.eq_of_getLsbD_eq
  intro j hj
  rw [BitVec.getLsbD_and, BitVec.getLsbD_xor, show (-1 : Int32).toBitVec.getLsbD j = true from (by decide +kernel : ∀ j : Fin 32, (-1 : Int32).toBitVec.getLsbD j.1 = true) ⟨j, hj⟩]
  have l1 : y.getLsbD j = y.toNat.testBit j := rfl
  have l2 : (y - (1 : Int32).toBitVec).getLsbD j = (y - (1 : Int32).toBitVec).toNat.testBit j := rfl
  rw [l1, l2, e2, e1, Nat.testBit_two_pow_mul_add _ hle, Nat.testBit_two_pow_mul_add _ (show 2 ^ t - 1 < 2 ^ (t + 1) by omega), BitVec.getLsbD_ofNat]
  rw [Nat.testBit_two_pow, Nat.testBit_two_pow_sub_one]
  by_cases c : j < t + 1
  · by_cases d : t = j
    · subst d; simp
    · have : j < t := by omega
      simp [c, d, this, hj]
  · have : ¬ j < t := by omega
    simp [c, this]
end OwnBits

section OwnRank
theorem dk_succ (x k : Nat) : x / 64 ^ (k + 1) = x / 64 ^ k / 64 := by rw [Nat.pow_succ, Nat.div_div_eq_div_mul]
theorem dk_mono {x y a b : Nat} (h : x / 64 ^ a = y / 64 ^ a) (hab : a ≤ b) : x / 64 ^ b = y / 64 ^ b := by
  obtain ⟨c, rfl⟩ := Nat.le.dest hab
  rw [Nat.pow_add, ← Nat.div_div_eq_div_mul, ← Nat.div_div_eq_div_mul, h]
/-- the words of level k tell of the members M -/
def LV (M : Nat → Prop) (k len : Nat) (f : Nat → Int64) : Prop := ∀ i, i < len → ∀ b, b < 64 → (bt (f i) b = true ↔ ∃ x, M x ∧ x / 64 ^ k = 64 * i + b)
theorem LV.empty (k len : Nat) : LV (fun _ => False) k len (fun _ => 0) := fun i _ b _ => by
  rw [bt_zero]
  exact ⟨fun h => Bool.noConfusion h, fun ⟨_, h, _⟩ => h.elim⟩
theorem LV.congr {M M' : Nat → Prop} {k len : Nat} {f : Nat → Int64} (H : LV M k len f) (q : ∀ x, M x ↔ M' x) : LV M' k len f := fun i hi b hb => by
  rw [H i hi b hb]
  exact ⟨fun ⟨x, h1, h2⟩ => ⟨x, (q x).mp h1, h2⟩, fun ⟨x, h1, h2⟩ => ⟨x, (q x).mpr h1, h2⟩⟩
theorem LV.add {M : Nat → Prop} {k len : Nat} {f : Nat → Int64} (H : LV M k len f) (n : Nat) (at_ : Int32) (ha : at_.toInt = ((n / 64 ^ k : Nat) : Int)) :
    LV (fun x => M x ∨ x = n) k len (upd f (n / 64 ^ k / 64) (f (n / 64 ^ k / 64) ||| ((1 : Int64) <<< (at_ &&& 0x3f).toInt64))) := fun i hi b hb => by
  generalize hA : n / 64 ^ k = A at *
  by_cases q : i = A / 64
  · subst q
    rw [upd_same, bt_or, bt_one_shl _ _ ha b hb]
    constructor
    · intro z
      rcases Bool.or_eq_true_iff.mp z with z | z
      · obtain ⟨x, h1, h2⟩ := (H _ hi b hb).mp z
        exact ⟨x, Or.inl h1, h2⟩
      · have z := of_decide_eq_true z
        exact ⟨n, Or.inr rfl, by rw [hA]; omega⟩
    · rintro ⟨x, h1 | rfl, h2⟩
      · rw [(H _ hi b hb).mpr ⟨x, h1, h2⟩]; rfl
      · rw [hA] at h2
        have : b = A % 64 := by omega
        simp [this]
  · rw [upd_ne _ _ q, H i hi b hb]
    constructor
    · rintro ⟨x, h1, h2⟩; exact ⟨x, Or.inl h1, h2⟩
    · rintro ⟨x, h1 | rfl, h2⟩
      · exact ⟨x, h1, h2⟩
      · rw [hA] at h2; exact absurd (by omega) q
/-- a word that held a member: the levels above tell of it already -/
theorem LV.up {M : Nat → Prop} {k len : Nat} {f : Nat → Int64} (H : LV M k len f) {n : Nat} (hi : n / 64 ^ k / 64 < len) (hne : ¬ f (n / 64 ^ k / 64) = 0) : ∃ x, M x ∧ x / 64 ^ (k + 1) = n / 64 ^ (k + 1) := by
  obtain ⟨b, hb, z⟩ := bt_ne0 hne
  obtain ⟨x, h1, h2⟩ := (H _ hi b hb).mp z
  exact ⟨x, h1, by rw [dk_succ, dk_succ, h2]; omega⟩
theorem LV.more {M : Nat → Prop} {j len k : Nat} {f : Nat → Int64} {n : Nat} (H : LV M j len f) (hj : k ≤ j) (q : ∃ x, M x ∧ x / 64 ^ k = n / 64 ^ k) : LV (fun x => M x ∨ x = n) j len f := fun i hi b hb => by
  rw [H i hi b hb]
  constructor
  · rintro ⟨x, h1, h2⟩; exact ⟨x, Or.inl h1, h2⟩
  · rintro ⟨x, h1 | rfl, h2⟩
    · exact ⟨x, h1, h2⟩
    · obtain ⟨x', h3, h4⟩ := q
      exact ⟨x', h3, (dk_mono h4 hj).trans h2⟩
theorem LV.del {M : Nat → Prop} {k len : Nat} {f : Nat → Int64} (H : LV M k len f) (n : Nat) (at_ : Int32) (ha : at_.toInt = ((n / 64 ^ k : Nat) : Int)) (hno : ∀ x, M x → x ≠ n → x / 64 ^ k ≠ n / 64 ^ k) :
    LV (fun x => M x ∧ x ≠ n) k len (upd f (n / 64 ^ k / 64) (f (n / 64 ^ k / 64) &&& (((1 : Int64) <<< (at_ &&& 0x3f).toInt64) ^^^ (-1 : Int64)))) := fun i hi b hb => by
  generalize hA : n / 64 ^ k = A at *
  by_cases q : i = A / 64
  · subst q
    rw [upd_same, bt_and, bt_xor, bt_one_shl _ _ ha b hb, bt_m1 b hb]
    constructor
    · intro z
      obtain ⟨z1, z2⟩ := Bool.and_eq_true_iff.mp z
      have z3 : ¬ b = A % 64 := by
        intro w
        simp [w] at z2
      obtain ⟨x, h1, h2⟩ := (H _ hi b hb).mp z1
      exact ⟨x, ⟨h1, fun w => by subst w; rw [hA] at h2; omega⟩, h2⟩
    · rintro ⟨x, ⟨h1, h3⟩, h2⟩
      have z1 := (H _ hi b hb).mpr ⟨x, h1, h2⟩
      have z3 : ¬ b = A % 64 := fun w => hno x h1 h3 (by rw [h2]; omega)
      rw [z1]; simp [z3]
  · rw [upd_ne _ _ q, H i hi b hb]
    constructor
    · rintro ⟨x, h1, h2⟩; exact ⟨x, ⟨h1, fun w => by subst w; rw [hA] at h2; exact absurd (by omega) q⟩, h2⟩
    · rintro ⟨x, ⟨h1, _⟩, h2⟩; exact ⟨x, h1, h2⟩
theorem LV.less {M : Nat → Prop} {j len k : Nat} {f : Nat → Int64} {n : Nat} (H : LV M j len f) (hj : k ≤ j) (q : ∃ x, (M x ∧ x ≠ n) ∧ x / 64 ^ k = n / 64 ^ k) : LV (fun x => M x ∧ x ≠ n) j len f := fun i hi b hb => by
  rw [H i hi b hb]
  constructor
  · rintro ⟨x, h1, h2⟩
    by_cases w : x = n
    · subst w
      obtain ⟨x', h3, h4⟩ := q
      exact ⟨x', h3, (dk_mono h4 hj).trans h2⟩
    · exact ⟨x, ⟨h1, w⟩, h2⟩
  · rintro ⟨x, ⟨h1, _⟩, h2⟩; exact ⟨x, h1, h2⟩
/-- an empty word: nobody is there -/
theorem LV.none {M : Nat → Prop} {k len : Nat} {f : Nat → Int64} (H : LV M k len f) {n : Nat} (hi : n / 64 ^ k / 64 < len) (hz : f (n / 64 ^ k / 64) = 0) (x : Nat) (hx : M x) : x / 64 ^ (k + 1) ≠ n / 64 ^ (k + 1) := fun w => by
  rw [dk_succ, dk_succ] at w
  have := (H _ hi (x / 64 ^ k % 64) (by omega)).mpr ⟨x, hx, by omega⟩
  rw [bt_eq0 hz] at this
  cases this
/-- up the levels: every member from 'from' on lies at or above A at level k, and whatever lies there is such a member -/
def Up (M : Nat → Prop) (fr k A : Nat) : Prop := (∀ x, M x → fr ≤ x → A ≤ x / 64 ^ k) ∧ ∀ x, M x → A ≤ x / 64 ^ k → fr ≤ x
theorem Up.start (M : Nat → Prop) (fr : Nat) : Up M fr 0 fr := ⟨fun x _ h => by simpa using h, fun x _ h => by simpa using h⟩
theorem Up.next {M : Nat → Prop} {fr k A len : Nat} {f : Nat → Int64} (U : Up M fr k A) (H : LV M k len f) (hi : A / 64 < len) (q : Int32) (hq : q.toInt = (A : Int)) (hz : f (A / 64) &&& ((-1 : Int64) <<< (q &&& 0x3f).toInt64) = 0) : Up M fr (k + 1) (A / 64 + 1) := by
  have hno : ∀ x, M x → A ≤ x / 64 ^ k → A / 64 + 1 ≤ x / 64 ^ k / 64 := by
    intro x hx hA
    apply Classical.byContradiction
    intro hc
    have e : x / 64 ^ k / 64 = A / 64 := by omega
    have hb : x / 64 ^ k % 64 < 64 := by omega
    have h1 := (H _ hi _ hb).mpr ⟨x, hx, by omega⟩
    have h2 := bt_eq0 hz (x / 64 ^ k % 64)
    rw [bt_and, h1, bt_m1_shl _ _ hq _ hb] at h2
    have : A % 64 ≤ x / 64 ^ k % 64 := by omega
    simp [this] at h2
  refine ⟨fun x hx hf => ?_, fun x hx hA => U.2 x hx ?_⟩
  · rw [dk_succ]; exact hno x hx (U.1 x hx hf)
  · rw [dk_succ] at hA; omega
/-- the least member from 'from' on, seen at level k -/
def Dn (M : Nat → Prop) (fr k y : Nat) : Prop := (∃ x, M x ∧ x / 64 ^ k = y) ∧ (∀ x, M x → fr ≤ x → y ≤ x / 64 ^ k) ∧ ∀ x, M x → x / 64 ^ k = y → fr ≤ x
/-- t is the lowest bit of w -/
def Low (w : Int64) (t : Nat) : Prop := t < 64 ∧ bt w t = true ∧ ∀ b, b < t → bt w b = false
theorem Low.ex {w : Int64} (h : ¬ w = 0) : ∃ t, Low w t := by
  obtain ⟨b, hb, hv⟩ := bt_ne0 h
  induction b using Nat.strongRecOn with
  | ind b ih =>
    by_cases q : ∃ b', b' < b ∧ bt w b' = true
    · obtain ⟨b', h1, h2⟩ := q
      exact ih b' h1 (by omega) h2
    · refine ⟨b, hb, hv, fun b' h' => ?_⟩
      cases hx : bt w b'
      · rfl
      · exact absurd ⟨b', h', hx⟩ q
theorem Up.found {M : Nat → Prop} {fr k A len t : Nat} {f : Nat → Int64} (U : Up M fr k A) (H : LV M k len f) (hi : A / 64 < len) (q : Int32) (hq : q.toInt = (A : Int)) (ht : Low (f (A / 64) &&& ((-1 : Int64) <<< (q &&& 0x3f).toInt64)) t) : Dn M fr k (A - A % 64 + t) := by
  obtain ⟨t1, t2, t3⟩ := ht
  rw [bt_and, bt_m1_shl _ _ hq _ t1] at t2
  obtain ⟨t4, t5⟩ := Bool.and_eq_true_iff.mp t2
  have t5 := of_decide_eq_true t5
  obtain ⟨x0, h1, h2⟩ := (H _ hi t t1).mp t4
  have e : A - A % 64 = 64 * (A / 64) := by omega
  rw [e]
  refine ⟨⟨x0, h1, h2⟩, fun x hx hf => ?_, fun x hx hxe => U.2 x hx (by omega)⟩
  have hA := U.1 x hx hf
  apply Classical.byContradiction
  intro hc
  have e2 : x / 64 ^ k / 64 = A / 64 := by omega
  have hb : x / 64 ^ k % 64 < 64 := by omega
  have h3 := (H _ hi _ hb).mpr ⟨x, hx, by omega⟩
  have h4 := t3 (x / 64 ^ k % 64) (by omega)
  rw [bt_and, h3, bt_m1_shl _ _ hq _ hb] at h4
  have : A % 64 ≤ x / 64 ^ k % 64 := by omega
  simp [this] at h4
theorem Dn.down {M : Nat → Prop} {fr k y len t : Nat} {f : Nat → Int64} (D : Dn M fr (k + 1) y) (H : LV M k len f) (hi : y < len) (ht : Low (f y) t) : Dn M fr k (64 * y + t) := by
  obtain ⟨d1, d2, d3⟩ := D
  obtain ⟨t1, t2, t3⟩ := ht
  obtain ⟨x0, h1, h2⟩ := (H _ hi t t1).mp t2
  refine ⟨⟨x0, h1, h2⟩, fun x hx hf => ?_, fun x hx hxe => d3 x hx (by rw [dk_succ]; omega)⟩
  have h3 := d2 x hx hf
  rw [dk_succ] at h3
  apply Classical.byContradiction
  intro hc
  have hb : x / 64 ^ k % 64 < 64 := by omega
  have h4 := (H _ hi _ hb).mpr ⟨x, hx, by omega⟩
  have h5 := t3 (x / 64 ^ k % 64) (by omega)
  rw [h4] at h5; cases h5
theorem Dn.word {M : Nat → Prop} {fr k y len : Nat} {f : Nat → Int64} (D : Dn M fr (k + 1) y) (H : LV M k len f) (hi : y < len) : ¬ f y = 0 := fun hz => by
  obtain ⟨x, h1, h2⟩ := D.1
  rw [dk_succ] at h2
  have h4 := (H _ hi (x / 64 ^ k % 64) (by omega)).mpr ⟨x, h1, by omega⟩
  rw [bt_eq0 hz] at h4; cases h4
/-- what 'next' answers -/
def NextIs (M : Nat → Prop) (fr : Nat) (r : Int) : Prop := (r = -1 ∧ ∀ x, M x → ¬ fr ≤ x) ∨ ∃ y : Nat, r = (y : Int) ∧ M y ∧ fr ≤ y ∧ ∀ x, M x → fr ≤ x → y ≤ x
theorem Dn.last {M : Nat → Prop} {fr y : Nat} (D : Dn M fr 0 y) : NextIs M fr (y : Int) := by
  obtain ⟨⟨x, h1, h2⟩, d2, d3⟩ := D
  simp only [Nat.pow_zero, Nat.div_one] at *
  subst h2
  exact Or.inr ⟨x, rfl, h1, d3 x h1 rfl, d2⟩
theorem NextIs.one {M : Nat → Prop} {fr : Nat} {r r' : Int} (h : NextIs M fr r) (h' : NextIs M fr r') : r = r' := by
  rcases h with ⟨rfl, h1⟩ | ⟨y, rfl, h1, h2, h3⟩ <;> rcases h' with ⟨rfl, h1'⟩ | ⟨y', rfl, h1', h2', h3'⟩
  · rfl
  · exact absurd h2' (h1 _ h1')
  · exact absurd h2 (h1' _ h1)
  · have := h3 _ h1' h2'
    have := h3' _ h1 h2
    omega
/-- the mirror: the greatest member up to 'upTo' (A at level k; -1: nothing is left) -/
def UpP (M : Nat → Prop) (fr : Int) (k : Nat) (A : Int) : Prop := (∀ x : Nat, M x → (x : Int) ≤ fr → ((x / 64 ^ k : Nat) : Int) ≤ A) ∧ ∀ x : Nat, M x → ((x / 64 ^ k : Nat) : Int) ≤ A → (x : Int) ≤ fr
theorem UpP.start (M : Nat → Prop) (fr : Int) : UpP M fr 0 fr := ⟨fun x _ h => by simpa using h, fun x _ h => by simpa using h⟩
theorem UpP.next {M : Nat → Prop} {fr : Int} {k A len : Nat} {f : Nat → Int64} (U : UpP M fr k (A : Int)) (H : LV M k len f) (hi : A / 64 < len) (q : Int32) (hq : q.toInt = ((63 - A % 64 : Nat) : Int)) (hz : f (A / 64) &&& (((-1 : Int64).toUInt64 >>> (q &&& 0x3f).toInt64.toUInt64).toInt64) = 0) : UpP M fr (k + 1) (((A / 64 : Nat) : Int) - 1) := by
  have hno : ∀ x, M x → x / 64 ^ k ≤ A → x / 64 ^ k / 64 + 1 ≤ A / 64 := by
    intro x hx hA
    apply Classical.byContradiction
    intro hc
    have e : x / 64 ^ k / 64 = A / 64 := by omega
    have hb : x / 64 ^ k % 64 < 64 := by omega
    have h1 := (H _ hi _ hb).mpr ⟨x, hx, by omega⟩
    have h2 := bt_eq0 hz (x / 64 ^ k % 64)
    rw [bt_and, h1, bt_m1_ushr _ (A % 64) (by omega) hq _ hb] at h2
    have : x / 64 ^ k % 64 ≤ A % 64 := by omega
    simp [this] at h2
  refine ⟨fun x hx hf => ?_, fun x hx hA => U.2 x hx ?_⟩
  · have := hno x hx (by have := U.1 x hx hf; omega)
    rw [dk_succ]; omega
  · rw [dk_succ] at hA; omega
def DnP (M : Nat → Prop) (fr : Int) (k y : Nat) : Prop := (∃ x, M x ∧ x / 64 ^ k = y) ∧ (∀ x : Nat, M x → (x : Int) ≤ fr → x / 64 ^ k ≤ y) ∧ ∀ x : Nat, M x → x / 64 ^ k = y → (x : Int) ≤ fr
def High (w : Int64) (t : Nat) : Prop := t < 64 ∧ bt w t = true ∧ ∀ b, t < b → b < 64 → bt w b = false
theorem High.ex {w : Int64} (h : ¬ w = 0) : ∃ t, High w t := by
  obtain ⟨b, hb, hv⟩ := bt_ne0 h
  generalize hn : 64 - b = n
  induction n using Nat.strongRecOn generalizing b with
  | ind n ih =>
    by_cases q : ∃ b', b < b' ∧ b' < 64 ∧ bt w b' = true
    · obtain ⟨b', h1, h2, h3⟩ := q
      exact ih (64 - b') (by omega) b' h2 h3 rfl
    · refine ⟨b, hb, hv, fun b' h' h'' => ?_⟩
      cases hx : bt w b'
      · rfl
      · exact absurd ⟨b', h', h'', hx⟩ q
theorem UpP.found {M : Nat → Prop} {fr : Int} {k A len t : Nat} {f : Nat → Int64} (U : UpP M fr k (A : Int)) (H : LV M k len f) (hi : A / 64 < len) (q : Int32) (hq : q.toInt = ((63 - A % 64 : Nat) : Int)) (ht : High (f (A / 64) &&& (((-1 : Int64).toUInt64 >>> (q &&& 0x3f).toInt64.toUInt64).toInt64)) t) : DnP M fr k (A - A % 64 + t) := by
  obtain ⟨t1, t2, t3⟩ := ht
  rw [bt_and, bt_m1_ushr _ (A % 64) (by omega) hq _ t1] at t2
  obtain ⟨t4, t5⟩ := Bool.and_eq_true_iff.mp t2
  have t5 := of_decide_eq_true t5
  obtain ⟨x0, h1, h2⟩ := (H _ hi t t1).mp t4
  have e : A - A % 64 = 64 * (A / 64) := by omega
  rw [e]
  refine ⟨⟨x0, h1, h2⟩, fun x hx hf => ?_, fun x hx hxe => U.2 x hx (by omega)⟩
  have hA := U.1 x hx hf
  apply Classical.byContradiction
  intro hc
  have e2 : x / 64 ^ k / 64 = A / 64 := by omega
  have hb : x / 64 ^ k % 64 < 64 := by omega
  have h3 := (H _ hi _ hb).mpr ⟨x, hx, by omega⟩
  have h4 := t3 (x / 64 ^ k % 64) (by omega) hb
  rw [bt_and, h3, bt_m1_ushr _ (A % 64) (by omega) hq _ hb] at h4
  have : x / 64 ^ k % 64 ≤ A % 64 := by omega
  simp [this] at h4
theorem DnP.down {M : Nat → Prop} {fr : Int} {k y len t : Nat} {f : Nat → Int64} (D : DnP M fr (k + 1) y) (H : LV M k len f) (hi : y < len) (ht : High (f y) t) : DnP M fr k (64 * y + t) := by
  obtain ⟨d1, d2, d3⟩ := D
  obtain ⟨t1, t2, t3⟩ := ht
  obtain ⟨x0, h1, h2⟩ := (H _ hi t t1).mp t2
  refine ⟨⟨x0, h1, h2⟩, fun x hx hf => ?_, fun x hx hxe => d3 x hx (by rw [dk_succ]; omega)⟩
  have h3 := d2 x hx hf
  rw [dk_succ] at h3
  apply Classical.byContradiction
  intro hc
  have hb : x / 64 ^ k % 64 < 64 := by omega
  have h4 := (H _ hi _ hb).mpr ⟨x, hx, by omega⟩
  have h5 := t3 (x / 64 ^ k % 64) (by omega) hb
  rw [h4] at h5; cases h5
theorem DnP.word {M : Nat → Prop} {fr : Int} {k y len : Nat} {f : Nat → Int64} (D : DnP M fr (k + 1) y) (H : LV M k len f) (hi : y < len) : ¬ f y = 0 := fun hz => by
  obtain ⟨x, h1, h2⟩ := D.1
  rw [dk_succ] at h2
  have h4 := (H _ hi (x / 64 ^ k % 64) (by omega)).mpr ⟨x, h1, by omega⟩
  rw [bt_eq0 hz] at h4; cases h4
def PrevIs (M : Nat → Prop) (fr : Int) (r : Int) : Prop := (r = -1 ∧ ∀ x : Nat, M x → ¬ (x : Int) ≤ fr) ∨ ∃ y : Nat, r = (y : Int) ∧ M y ∧ (y : Int) ≤ fr ∧ ∀ x : Nat, M x → (x : Int) ≤ fr → x ≤ y
theorem DnP.last {M : Nat → Prop} {fr : Int} {y : Nat} (D : DnP M fr 0 y) : PrevIs M fr (y : Int) := by
  obtain ⟨⟨x, h1, h2⟩, d2, d3⟩ := D
  simp only [Nat.pow_zero, Nat.div_one] at *
  subst h2
  exact Or.inr ⟨x, rfl, h1, d3 x h1 rfl, d2⟩
theorem PrevIs.one {M : Nat → Prop} {fr : Int} {r r' : Int} (h : PrevIs M fr r) (h' : PrevIs M fr r') : r = r' := by
  rcases h with ⟨rfl, h1⟩ | ⟨y, rfl, h1, h2, h3⟩ <;> rcases h' with ⟨rfl, h1'⟩ | ⟨y', rfl, h1', h2', h3'⟩
  · rfl
  · exact absurd h2' (h1 _ h1')
  · exact absurd h2 (h1' _ h1)
  · have := h3 _ h1' h2'
    have := h3' _ h1 h2
    omega
theorem own_lti {x y : Int32} {a b : Nat} (hx : x.toInt = (a : Int)) (hy : y.toInt = (b : Int)) (h : a < b) : x < y := by rw [Int32.lt_iff_toInt_lt, hx, hy]; omega
theorem own_nlti {x y : Int32} {a b : Nat} (hx : x.toInt = (a : Int)) (hy : y.toInt = (b : Int)) (h : ¬ a < b) : ¬ x < y := by rw [Int32.lt_iff_toInt_lt, hx, hy]; omega
theorem own_eqi {x y : Int32} {a b : Nat} (hx : x.toInt = (a : Int)) (hy : y.toInt = (b : Int)) (h : a = b) : x = y := Int32.toInt_inj.mp (by rw [hx, hy, h])
theorem own_nei {x y : Int32} {a b : Nat} (hx : x.toInt = (a : Int)) (hy : y.toInt = (b : Int)) (h : ¬ a = b) : ¬ x = y := fun q => h (by subst q; omega)
theorem own_inc {x : Int32} {a : Nat} (hx : x.toInt = (a : Int)) (h : a < 2147483647) : (x + (1 : Int32)).toInt = ((a + 1 : Nat) : Int) := by
  have h1 := c_iadd x 1
  have r := rng32 (x + 1)
  rw [show (1 : Int32).toInt = 1 from rfl] at h1
  omega
theorem own_dec {x : Int32} {a : Nat} (hx : x.toInt = ((a + 1 : Nat) : Int)) : (x + (-1 : Int32)).toInt = (a : Int) := by
  have h1 := c_iadd x (-1)
  have r := rng32 (x + (-1))
  rw [show (-1 : Int32).toInt = -1 from rfl] at h1
  have r2 := rng32 x
  omega
theorem own_sh6 {x : Int32} {a : Nat} (hx : x.toInt = (a : Int)) : ((x.toUInt32 >>> ((6 : Int32) &&& 31).toUInt32).toInt32).toInt = ((a / 64 : Nat) : Int) := by
  have h := c_iushr x 6 6 (by decide) (by decide)
  have r := rng32 x
  rw [h, hx]
  omega
theorem own_ofNat {n : Nat} (h : n < 2147483648) : (Int32.ofNat n).toInt = (n : Int) := Int32.toInt_ofNat_of_lt (by omega)
end OwnRank

section OwnStrs
variable {p : Program} {l : Launch} {e : Env} {R : Room} {s : State} {m : MethodId} {args : Array Value} {below : List Frame} {meth : Method} {c : Code} {T : State} {locs : List Loc} {cells slots : Nat} {Z : State} {a0 : Array Value} {h h' h2 : Heap}
variable {F : Outcome → State → Prop}
/-- the statics are as they were -/
def StK (Z : State) (h h' : Heap) : Prop := ∀ (C n d : String) (v : Value), Sta Z h C n d v → Sta Z h' C n d v
theorem StK.refl (Z : State) (h : Heap) : StK Z h h := fun _ _ _ _ q => q
theorem StK.ext (K : StK Z h h') (E : Ext h' h2) : StK Z h h2 := fun C n d v q => Sta.ext E (K C n d v q)
theorem StK.wr {a : Addr} {sl : Nat} {w : Value} (K : StK Z h h') (W : Wr h' h2 a sl w) : StK Z h h2 := fun C n d v q => Sta.wr W (K C n d v q)
theorem StK.trans (K : StK Z h h') (K' : StK Z h' h2) : StK Z h h2 := fun C n d v q => K' C n d v (K C n d v q)
theorem Owes.sC (X : Stand p l e R s m args below meth c T locs cells slots) (hx : p.tables.exec = Jvm.exec) (hZ : Z.Warmed39 s.vm) (eT : T.heap = h) {a : Addr} {n : Nat} {w : Nat → Value} (A : GA Z h a .char n w) {j : Int32} {i : Nat} (hj : j.toInt = (i : Int)) (hi : i < n) {x y : Int32} (hy : nar .char x = y) {pc : Nat} {Ls : Array Slot} {rest : List Value}
    (hd : decode c.code pc = .ok (.castore, 1)) (k : ∀ (T' : State) (h' : Heap), Stand p l e R s m args below meth c T' (locs ++ [⟨a, i⟩]) cells slots → T'.heap = h' → Wr h h' a i (.int y) → GA Z h' a .char n (upd w i (.int y)) → Owes p e below F (T'.setTop (mkF m (pc + 1) Ls rest))) : Owes p e below F (T.setTop (mkF m pc Ls (.int x :: .int j :: .ref a :: rest))) := by
  subst hy
  have A0 := A
  obtain ⟨cl, A1, S, V⟩ := A
  obtain ⟨T', h', X', e', W, st⟩ := stC X hx hZ eT A1 (j := j) (x := x) (own_nth hj hi S) (g := mkF m pc Ls (.int x :: .int j :: .ref a :: rest)) rfl rfl hd
  rw [(own_nat hj).2] at X' W
  exact (k T' h' X' e' W (A0.set W)).go st
theorem Owes.sBy (X : Stand p l e R s m args below meth c T locs cells slots) (hx : p.tables.exec = Jvm.exec) (hZ : Z.Warmed39 s.vm) (eT : T.heap = h) {a : Addr} {n : Nat} {w : Nat → Value} (A : GA Z h a .byte n w) {j : Int32} {i : Nat} (hj : j.toInt = (i : Int)) (hi : i < n) {x y : Int32} (hy : nar .byte x = y) {pc : Nat} {Ls : Array Slot} {rest : List Value}
    (hd : decode c.code pc = .ok (.bastore, 1)) (k : ∀ (T' : State) (h' : Heap), Stand p l e R s m args below meth c T' (locs ++ [⟨a, i⟩]) cells slots → T'.heap = h' → Wr h h' a i (.int y) → GA Z h' a .byte n (upd w i (.int y)) → Owes p e below F (T'.setTop (mkF m (pc + 1) Ls rest))) : Owes p e below F (T.setTop (mkF m pc Ls (.int x :: .int j :: .ref a :: rest))) := by
  subst hy
  have A0 := A
  obtain ⟨cl, A1, S, V⟩ := A
  obtain ⟨T', h', X', e', W, st⟩ := stB X hx hZ eT A1 (j := j) (x := x) (own_nth hj hi S) (g := mkF m pc Ls (.int x :: .int j :: .ref a :: rest)) rfl rfl hd
  rw [(own_nat hj).2] at X' W
  exact (k T' h' X' e' W (A0.set W)).go st
theorem GA.arv {a : Addr} {ty : FieldType} {n : Nat} {w : Nat → Value} {z : Int32} (A : GA Z h a ty n w) (hz : z.toInt = (n : Int)) (hf : ∀ i, i < n → fits ty (w i) = true) (d : Value) : ∃ k, Arv Z h a k ty z ((List.range n).map w) d := by
  obtain ⟨cl, A1, S, V⟩ := A
  have e : ∀ i, i < n → ((List.range n).map w).getD i d = w i := fun i hi => by simp [List.getD, hi]
  exact ⟨cl.cls, cl, A1, rfl, by rw [S, (own_nat hz).2], (own_nat hz).1, fun i hi => by rw [e i (by omega)]; exact V i (by omega), fun i hi => by rw [e i (by omega)]; exact hf i (by omega)⟩
theorem own_arvga {a : Addr} {ty : FieldType} {n : Nat} {k : ClassId} {z : Int32} {vs : List Value} {d : Value} (A : Arv Z h a k ty z vs d) (hz : z.toInt = (n : Int)) : GA Z h a ty n (fun i => vs.getD i d) := by
  obtain ⟨cl, A1, -, S, -, H, -⟩ := A
  rw [(own_nat hz).2] at S
  exact ⟨cl, A1, S, fun i hi => H i (by omega)⟩
/-- System.arraycopy of bytes, from sp on, into all of another array -/
theorem Owes.cpB (X : Stand p l e R s m args below meth c T locs cells slots) (hx : p.tables.exec = Jvm.exec) (hZ : Z.Warmed39 s.vm) {own : String} {index : Nat} (hown : s.vm.findClass own = some m.cls)
    (w1 : (Cond.methodLink own index Jvm.Stand.acN).before a0 Z = true) (w2 : (Cond.native Jvm.Stand.acN).before a0 Z = true) (w3 : (Cond.static Jvm.Stand.acN).before a0 Z = true) (w4 : (Cond.initialized "java/lang/System").before a0 Z = true) (eT : T.heap = h)
    {a b : Addr} {n n' sp : Nat} {w w' : Nat → Int32} (A : GA Z h a .byte n (fun i => .int (w i))) (B : GA Z h b .byte n' (fun i => .int (w' i))) (fa : ∀ i, i < n → fits .byte (.int (w i)) = true) (fb : ∀ i, i < n' → fits .byte (.int (w' i)) = true) {spI dI nI : Int32} (hsp : spI.toInt = (sp : Int)) (hd0 : dI.toInt = 0) (hn : nI.toInt = (n' : Int)) (hle : sp + n' ≤ n) (hnb : n < 2147483648) {n0 : Nat} (N : Fr n0 locs) (ge : n0 ≤ b)
    {pc : Nat} {Ls : Array Slot} {rest : List Value} (hsize : Ls.size = c.maxLocals) (hd : decode c.code pc = .ok (.invokestatic index, 3)) (hf : 1 ≤ R.frames) (hl : (rest.map fun v => v.category).sum + (nativeFrameWords "java/lang/System" "arraycopy" 5 + 11) ≤ R.locals)
    (k : ∀ (T' : State) (h' : Heap) (L : List Loc), Stand p l e R s m args below meth c T' L cells slots → T'.heap = h' → Fr n0 L → Keep h h' [b] → GA Z h' b .byte n' (fun i => .int (w (sp + i))) → Owes p e below F (T'.setTop (mkF m (pc + 3) Ls rest))) : Owes p e below F (T.setTop (mkF m pc Ls (.int nI :: .int dI :: .ref b :: .int spI :: .ref a :: rest))) := by
  obtain ⟨ka, A'⟩ := A.arv (z := Int32.ofNat n) (own_ofNat hnb) fa (.int 0)
  obtain ⟨kb, B'⟩ := B.arv hn fb (.int 0)
  have en := (own_nat hn).2
  have es := (own_nat hsp).2
  have ed := (own_nat (i := 0) hd0).2
  have ez := (own_nat (own_ofNat (n := n) hnb)).2
  obtain ⟨T', h', L, X', e', N', K, B2, st⟩ := cpA X hx hZ hown w1 w2 w3 w4 eT (sp := spI) (dp := dI) (nn := nI) A' B' (Or.inl ⟨rfl, rfl⟩) (own_nat hsp).1 (own_nat (i := 0) hd0).1 (own_nat hn).1 (by rw [es, en, ez]; exact hle) (by rw [ed, en]; omega) rfl (by rw [ed, en]; simp) N ge (g := mkF m pc Ls (.int nI :: .int dI :: .ref b :: .int spI :: .ref a :: rest)) rfl hsize rfl hd hf (W := (rest.map fun v => v.category).sum) (by show 2 * 0 + _ ≤ _; omega) hl
  have B3 := own_arvga B2 hn
  have B4 : GA Z h' b .byte n' (fun i => .int (w (sp + i))) := GA.congr B3 fun i hi => by
    have q : sp + i < n := by omega
    simp [List.getD, hi, q, ed, en, es]
  exact (k T' h' L X' e' N' K B4).go st
def SNm : String := "java/lang/String"
/-- a String of n signs, each at most 255 -/
def STR (Z : State) (h : Heap) (r b : Addr) (n : Nat) (c : Nat → Int32) : Prop := Exa Z h r "java/lang/String" ∧ Fld Z h r "java/lang/String" "coder" "B" (.int 0) ∧ Fld Z h r "java/lang/String" "value" "[B" (.ref b) ∧ GA Z h b .byte n (fun i => .int (c i).toInt8.toInt32)
theorem STR.ext {r b : Addr} {n : Nat} {c : Nat → Int32} (S : STR Z h r b n c) (E : Ext h h') : STR Z h' r b n c := ⟨S.1.ext E, S.2.1.ext E, S.2.2.1.ext E, S.2.2.2.ext E⟩
theorem own_fitB (x : Int32) : fits .byte (.int x.toInt8.toInt32) = true := by
  have := x.toInt8.toInt_lt
  have := x.toInt8.le_toInt
  simp only [fits, Bool.and_eq_true, decide_eq_true_eq]
  refine ⟨?_, ?_⟩
  · rw [Int32.le_iff_toInt_le, Int8.toInt_toInt32, show (-128 : Int32).toInt = -128 from by decide]; omega
  · rw [Int32.le_iff_toInt_le, Int8.toInt_toInt32, show (127 : Int32).toInt = 127 from by decide]; omega
def C8 (n : Nat) (c : Nat → Int32) : Prop := ∀ i, i < n → 0 ≤ (c i).toInt ∧ (c i).toInt < 256
theorem own_c8 {x : Int32} (h : 0 ≤ x.toInt ∧ x.toInt < 256) : ∃ k : Fin 256, x = Int32.ofNat k.1 := by
  refine ⟨⟨x.toInt.toNat, by omega⟩, ?_⟩
  apply Int32.toInt_inj.mp
  show x.toInt = (Int32.ofNat x.toInt.toNat).toInt
  rw [own_ofNat (by omega)]; omega
theorem own_chr {x : Int32} (h : 0 ≤ x.toInt ∧ x.toInt < 256) : nar .char ((x.toInt8.toInt32 &&& (255 : Int32)).toUInt32.toUInt16.toUInt32.toInt32) = x := by
  obtain ⟨k, rfl⟩ := own_c8 h
  revert k
  decide +kernel
theorem own_narB {x : Int32} : nar .byte x.toInt8.toInt32 = x.toInt8.toInt32 := by
  show x.toInt8.toInt32.toInt8.toInt32 = _
  simp
theorem own_narC {x : Int32} (h : 0 ≤ x.toInt ∧ x.toInt < 256) : nar .char x = x := by
  obtain ⟨k, rfl⟩ := own_c8 h
  revert k
  decide +kernel
theorem own_b47 {x : Int32} (h : 0 ≤ x.toInt ∧ x.toInt < 256) : x.toInt8.toInt32 = (47 : Int32).toInt8.toInt32 ↔ x = 47 := by
  obtain ⟨k, rfl⟩ := own_c8 h
  revert k
  decide +kernel
theorem own_sh0 (x : Int32) : (x >>> ((0 : Int32) &&& 31)) = x := by
  apply Int32.toBitVec_inj.mp
  show x.toBitVec.sshiftRight' ((0 : Int32) &&& 31).toBitVec = _
  simp
end OwnStrs

section OwnWide
variable {p : Program} {l : Launch} {e : Env} {R : Room} {s : State} {vm0 : Vm} {m : MethodId} {args : Array Value} {below : List Frame} {meth : Method} {c : Code} {T : State} {locs : List Loc} {cells slots : Nat} {Z : State} {a0 : Array Value} {h : Heap}
variable {Q : Option Value → Heap → List Loc → Prop} {F : Outcome → State → Prop} {C N : Nat} {A B : State}
/-- the same end, where String constants may have been interned -/
def EndW (s : State) (Q : Option Value → Heap → List Loc → Prop) (C N : Nat) (o : Outcome) (t : State) : Prop := ∃ v L, o = .returned v ∧ Q v t.heap L ∧ ReturnedEndW s o t L C N
theorem own_since (s : State) (n : Nat) : s.Since s.vm n := (State.WarmedH.refl s).since n
theorem own_endW (X : Stand p l e R (s.setVm vm0) m args below meth c T locs cells slots) {k0 : Nat} (hS : s.Since vm0 k0) (hk : k0 ≤ T.heap.size) (hlk : meth.locks = false) {v : Option Value} (hv : meth.sig.returnType = none → v = none) (hc : cells ≤ C) (hs : slots ≤ N) (hq : Q v T.heap locs) {A : State}
    (hst : ∀ fs : List Frame, (∀ (f : JFrame) (acts : List Action), f.method = m → f.locked = none → f.entered = [] → (doReturn e (T.setTop f) acts v).1 = T.setFrames fs) → Steps p.tables e below A (T.setFrames fs)) : Owes p e below (EndW s Q C N) A := by
  obtain ⟨fs, hr, hrun, hended, hW⟩ := X.leaveW hS hk hv hlk
  exact ⟨_, _, hst fs hr, hrun, hended, v, locs, rfl, hq, hW.1, hW.2.1, hW.2.2.1, hW.2.2.2.mono hc hs⟩
theorem Owes.retNW (X : Stand p l e R (s.setVm vm0) m args below meth c T locs cells slots) {k0 : Nat} (hS : s.Since vm0 k0) (hk : k0 ≤ T.heap.size) (hx : p.tables.exec = Jvm.exec) (hlk : meth.locks = false) {pc : Nat} {Ls : Array Slot} {z : Int32} {t : FieldType} {rest : List Value} (hret : meth.sig.returnType = some t) (ht : t = .boolean ∨ t = .byte ∨ t = .char ∨ t = .short)
    (hd : decode c.code pc = .ok (.ireturn, 1)) (hc : cells ≤ C) (hs : slots ≤ N) (hq : Q (some (.int (nar t z))) T.heap locs) : Owes p e below (EndW s Q C N) (T.setTop (mkF m pc Ls (.int z :: rest))) :=
  own_endW X hS hk hlk (fun h => by rw [hret] at h; cases h) hc hs hq fun fs hr => Jvm.RoadKit.retN X hx hret ht hd hr
theorem Owes.retAW (X : Stand p l e R (s.setVm vm0) m args below meth c T locs cells slots) {k0 : Nat} (hS : s.Since vm0 k0) (hk : k0 ≤ T.heap.size) (hx : p.tables.exec = Jvm.exec) (hlk : meth.locks = false) {pc : Nat} {Ls : Array Slot} {w : Value} {t : FieldType} {rest : List Value} (hret : meth.sig.returnType = some t) (ht : t.isReference = true) (hn : narrow t w = w) (hw : w.isRef = true)
    (hd : decode c.code pc = .ok (.areturn, 1)) (hc : cells ≤ C) (hs : slots ≤ N) (hq : Q (some w) T.heap locs) : Owes p e below (EndW s Q C N) (T.setTop (mkF m pc Ls (w :: rest))) :=
  own_endW X hS hk hlk (fun h => by rw [hret] at h; cases h) hc hs hq fun fs hr => Jvm.RoadKit.retOut X hx hret hn (Or.inr (Or.inr (Or.inr (Or.inr ⟨rfl, ht, hw⟩)))) hd hr
def OMetW (l : Launch) (y : MethodName) (bytes : ByteArray) (maxL : Nat) (ret : Option FieldType) (ws : List Jvm.Cond) (rm : Room) (as' : Array Value) (Z : State) (h0 : Heap) (Q : Option Value → Heap → List Loc → Prop) : Prop :=
  MetFree l y (head1 (Jvm.Cond.code y bytes maxL ret :: ws) rm) (fun a U => a = as' ∧ Z.Warmed39 U.vm ∧ U.heap = h0) (fun _ _ _ _ _ => True) (fun _ U o U' => ∃ v L, o = .returned v ∧ Q v U'.heap L ∧ ReturnedEndW U o U' L rm.cells rm.slots)
theorem OMetW.of {y : MethodName} {bytes : ByteArray} {maxL : Nat} {ret : Option FieldType} {ws : List Jvm.Cond} {rm : Room} {as' : Array Value} {h0 : Heap} (hpl : plainFor y = true) {Ls : Array Slot} (ef : ∀ m, entryFrame m as' maxL = mkF m 0 Ls [])
    (body : ∀ (p : Program) (e : Env) (s : State) (m : MethodId) (below : List Frame) (meth : Method) (c : Code) (s₁ : State), p.tables.exec = Jvm.exec → c.code = bytes → c.maxLocals = maxL → (s.setVm s.vm).vm.findClass y.cls = some m.cls → meth.name = y.name → meth.sig.returnType = ret → meth.locks = false → Z.Warmed39 (s.setVm s.vm).vm →
      Stand p l e rm (s.setVm s.vm) m as' below meth c s₁ [] 0 0 → s₁.heap = h0 → s.heap = h0 → Owes p e below (EndW s Q rm.cells rm.slots) (s₁.setTop (mkF m 0 Ls []))) : OMetW l y bytes maxL ret ws rm as' Z h0 Q := by
  refine MetFree.of_bodySF hpl hisR ?_
  intro p e s m args below meth c s₁ Bd hml0 hP hK
  obtain ⟨rfl, hZ, hh⟩ := hP
  have hlk : meth.locks = false := BodyLoose.notSynchronized Bd
  have X0 : Stand p l e rm s m args below meth c s₁ [] 0 0 := Stand.of_body Bd
  have e0 : s₁.heap = h0 := by rw [← hh, Bd.state]; rfl
  obtain ⟨s₂, o, h1, h2, h3, h4⟩ := body p e s m below meth c s₁ Bd.exec Bd.bytes hml0 (findClass_of_methodNamed Bd.named) (name_of_methodNamed Bd.named Bd.method).1 Bd.returns hlk hZ X0 e0 hh
  exact ⟨s₂, o, castTop (ef m) h1, h2, h3, h4⟩
/-- a String constant whose text doesn't matter -/
theorem Owes.ldcS (X : Stand p l e R (s.setVm vm0) m args below meth c T locs cells slots) (hx : p.tables.exec = Jvm.exec) {own text : String} {index : Nat} (hZ : Z.Warmed39 vm0) (hown : vm0.findClass own = some m.cls) (w : (Cond.stringLink own index text).before a0 Z = true) (wS : ∀ a ∈ Bundle.stringAtoms, a.before a0 Z = true)
    (eT : T.heap = h) {k0 : Nat} (hS : s.Since vm0 k0) (hk : k0 ≤ h.size) {pc : Nat} {Ls : Array Slot} {st : List Value} (hd : decode c.code pc = .ok (.ldc index, 2)) {n : Nat} (hn : 4 * text.toList.length ≤ n) (hbig : n ≤ 536870912) (hcl : cells + 2 ≤ R.cells) (hsl : slots + (n + 4) ≤ R.slots)
    (k : ∀ (a : Addr) (T' : State) (h' : Heap) (k1 : Nat), Stand p l e R (s.setVm T'.vm) m args below meth c T' locs (cells + 2) (slots + (n + 4)) → T'.heap = h' → Ext h h' → s.Since T'.vm k1 → k1 ≤ h'.size → Z.Warmed39 (s.setVm T'.vm).vm → (s.setVm T'.vm).vm.findClass own = some m.cls → Owes p e below F (T'.setTop (mkF m (pc + 2) Ls (.ref a :: st)))) : Owes p e below F (T.setTop (mkF m pc Ls st)) := by
  obtain ⟨a, T', h', k1, X', e', E, hS', hk', hZ', hown', stp⟩ := Jvm.RoadKit.ldcS X hx hZ hown w wS eT hS hk (g := mkF m pc Ls st) rfl hd hn hbig hcl hsl
  exact (k a T' h' k1 X' e' E hS' hk' hZ' hown').go stp
end OwnWide

section OwnStr
variable {p : Program} {l : Launch} {e : Env} {R : Room} {s : State} {vm0 : Vm} {m : MethodId} {args : Array Value} {below : List Frame} {meth : Method} {c : Code} {T : State} {locs : List Loc} {cells slots : Nat} {Z : State} {a0 : Array Value} {h : Heap} {EL : List (String × Nat)}
variable {Q : Option Value → Heap → List Loc → Prop} {F : Outcome → State → Prop} {C N : Nat} {A B : State}
/-- the wide end, and what the held constants are worth at it -/
def EndC (Z : State) (EL : List (String × Nat)) (s : State) (Q : Option Value → Heap → List Loc → Prop) (C N : Nat) (o : Outcome) (t : State) : Prop := ∃ v L, o = .returned v ∧ (Q v t.heap L ∧ CHv Z EL t.vm t.heap) ∧ ReturnedEndW s o t L C N
theorem own_endC (X : Stand p l e R (s.setVm vm0) m args below meth c T locs cells slots) (hZ : Z.Warmed39 vm0) (hEL : EW Z a0 EL) (H : CHv Z EL vm0 T.heap) {k0 : Nat} (hS : s.Since vm0 k0) (hk : k0 ≤ T.heap.size) (hlk : meth.locks = false) {v : Option Value} (hv : meth.sig.returnType = none → v = none) (hc : cells ≤ C) (hs : slots ≤ N) (hq : Q v T.heap locs) {A : State}
    (hst : ∀ fs : List Frame, (∀ (f : JFrame) (acts : List Action), f.method = m → f.locked = none → f.entered = [] → (doReturn e (T.setTop f) acts v).1 = T.setFrames fs) → Steps p.tables e below A (T.setFrames fs)) : Owes p e below (EndC Z EL s Q C N) A := by
  obtain ⟨fs, hr, hrun, hended, hW⟩ := X.leaveW hS hk hv hlk
  exact ⟨_, _, hst fs hr, hrun, hended, v, locs, rfl, ⟨hq, (CHv.at X hZ hEL H).1⟩, hW.1, hW.2.1, hW.2.2.1, hW.2.2.2.mono hc hs⟩
theorem Owes.retNC (X : Stand p l e R (s.setVm vm0) m args below meth c T locs cells slots) (hZ : Z.Warmed39 vm0) (hEL : EW Z a0 EL) (eT : T.heap = h) (H : CHv Z EL vm0 h) {k0 : Nat} (hS : s.Since vm0 k0) (hk : k0 ≤ h.size) (hx : p.tables.exec = Jvm.exec) (hlk : meth.locks = false) {pc : Nat} {Ls : Array Slot} {z : Int32} {t : FieldType} {rest : List Value} (hret : meth.sig.returnType = some t) (ht : t = .boolean ∨ t = .byte ∨ t = .char ∨ t = .short)
    (hd : decode c.code pc = .ok (.ireturn, 1)) (hc : cells ≤ C) (hs : slots ≤ N) (hq : Q (some (.int (nar t z))) T.heap locs) : Owes p e below (EndC Z EL s Q C N) (T.setTop (mkF m pc Ls (.int z :: rest))) := by
  subst eT
  exact own_endC X hZ hEL H hS hk hlk (fun h => by rw [hret] at h; cases h) hc hs hq fun fs hr => Jvm.RoadKit.retN X hx hret ht hd hr
theorem Owes.retAC (X : Stand p l e R (s.setVm vm0) m args below meth c T locs cells slots) (hZ : Z.Warmed39 vm0) (hEL : EW Z a0 EL) (eT : T.heap = h) (H : CHv Z EL vm0 h) {k0 : Nat} (hS : s.Since vm0 k0) (hk : k0 ≤ h.size) (hx : p.tables.exec = Jvm.exec) (hlk : meth.locks = false) {pc : Nat} {Ls : Array Slot} {w : Value} {t : FieldType} {rest : List Value} (hret : meth.sig.returnType = some t) (ht : t.isReference = true) (hn : narrow t w = w) (hw : w.isRef = true)
    (hd : decode c.code pc = .ok (.areturn, 1)) (hc : cells ≤ C) (hs : slots ≤ N) (hq : Q (some w) T.heap locs) : Owes p e below (EndC Z EL s Q C N) (T.setTop (mkF m pc Ls (w :: rest))) := by
  subst eT
  exact own_endC X hZ hEL H hS hk hlk (fun h => by rw [hret] at h; cases h) hc hs hq fun fs hr => Jvm.RoadKit.retOut X hx hret hn (Or.inr (Or.inr (Or.inr (Or.inr ⟨rfl, ht, hw⟩)))) hd hr
def OMetC (l : Launch) (y : MethodName) (bytes : ByteArray) (maxL : Nat) (ret : Option FieldType) (ws : List Jvm.Cond) (rm : Room) (as' : Array Value) (Z : State) (EL : List (String × Nat)) (h0 : Heap) (Q : Option Value → Heap → List Loc → Prop) : Prop :=
  MetFree l y (head1 (Jvm.Cond.code y bytes maxL ret :: ws) rm) (fun a U => a = as' ∧ Z.Warmed39 U.vm ∧ U.heap = h0 ∧ CHv Z EL U.vm h0) (fun _ _ _ _ _ => True) (fun _ U o U' => ∃ v L, o = .returned v ∧ (Q v U'.heap L ∧ CHv Z EL U'.vm U'.heap) ∧ ReturnedEndW U o U' L rm.cells rm.slots)
theorem OMetC.of {y : MethodName} {bytes : ByteArray} {maxL : Nat} {ret : Option FieldType} {ws : List Jvm.Cond} {rm : Room} {as' : Array Value} {h0 : Heap} (hpl : plainFor y = true) {Ls : Array Slot} (ef : ∀ m, entryFrame m as' maxL = mkF m 0 Ls [])
    (body : ∀ (p : Program) (e : Env) (s : State) (m : MethodId) (below : List Frame) (meth : Method) (c : Code) (s₁ : State), p.tables.exec = Jvm.exec → c.code = bytes → c.maxLocals = maxL → (s.setVm s.vm).vm.findClass y.cls = some m.cls → meth.name = y.name → meth.sig.returnType = ret → meth.locks = false → Z.Warmed39 (s.setVm s.vm).vm →
      Stand p l e rm (s.setVm s.vm) m as' below meth c s₁ [] 0 0 → s₁.heap = h0 → CHv Z EL s.vm h0 → Owes p e below (EndC Z EL s Q rm.cells rm.slots) (s₁.setTop (mkF m 0 Ls []))) : OMetC l y bytes maxL ret ws rm as' Z EL h0 Q := by
  refine MetFree.of_bodySF hpl hisR ?_
  intro p e s m args below meth c s₁ Bd hml0 hP hK
  obtain ⟨rfl, hZ, hh, hC⟩ := hP
  have hlk : meth.locks = false := BodyLoose.notSynchronized Bd
  have X0 : Stand p l e rm s m args below meth c s₁ [] 0 0 := Stand.of_body Bd
  have e0 : s₁.heap = h0 := by rw [← hh, Bd.state]; rfl
  obtain ⟨s₂, o, h1, h2, h3, h4⟩ := body p e s m below meth c s₁ Bd.exec Bd.bytes hml0 (findClass_of_methodNamed Bd.named) (name_of_methodNamed Bd.named Bd.method).1 Bd.returns hlk hZ X0 e0 hC
  exact ⟨s₂, o, castTop (ef m) h1, h2, h3, h4⟩
theorem own_backC {y : MethodName} {bytes : ByteArray} {maxL : Nat} {ret : Option FieldType} {rm : Room} {len W : Nat} {as' : Array Value} (hM : OMetC l y bytes maxL ret [] rm as' Z EL h Q)
    (hZ : Z.Warmed39 s.vm) (wc : (Cond.code y bytes maxL ret).before a0 Z = true) (wz : (Cond.initialized y.cls).before a0 Z = true) (hf : rm.frames + 1 ≤ R.frames) (hl : W + (maxL + 11) + rm.locals ≤ R.locals) :
    BackS l R p e below s args y len W (fun A a => a = as' ∧ A.U.heap = h ∧ A.cells + rm.cells ≤ R.cells ∧ A.slots + rm.slots ≤ R.slots ∧ CHv Z EL A.U.vm h)
      (fun A _ v B => ∃ L, (Q v B.U.heap L ∧ CHv Z EL B.U.vm B.U.heap) ∧ B.locs = A.locs ++ L ∧ B.cells = A.cells + rm.cells ∧ B.slots = A.slots + rm.slots) := by
  refine BackS.of_freeW (bytes := bytes) (maxL := maxL) (ret := ret) (E := fun _ _ o t L k n => k = rm.cells ∧ n = rm.slots ∧ ∃ v, o = .returned v ∧ (Q v t.heap L ∧ CHv Z EL t.vm t.heap)) hM hf hl ?_ ?_ (fun _ _ _ _ _ _ _ _ _ => trivial) ?_ ?_
  · intro m meth c A a Y hp
    have hU : Z.Warmed39 A.U.vm := wtrans hZ Y.warmed
    exact ⟨by show (Cond.and _ .tt).before a A.U = true; rw [Cond.before_and, mv hU wc]; rfl, mv hU wc, mv hU wz, hp.2.2.1, hp.2.2.2.1⟩
  · intro m meth c A a g mk Y hp
    exact ⟨hp.1, wtrans hZ Y.warmed, hp.2.1, hp.2.2.2.2⟩
  · rintro a f o t ⟨v, L, h1, h2, h3⟩
    exact ⟨L, _, _, h3, rfl, rfl, v, h1, h2⟩
  · intro m meth c A a g mk v t L k n Y hp _ _ hE
    obtain ⟨e1, e2, v', e3, e4⟩ := hE
    cases e3
    subst e1 e2
    exact ⟨L, e4, rfl, rfl, rfl⟩
theorem own_chs {vm1 : Vm} (hZ : Z.Warmed39 s.vm) (hEL : EW Z a0 EL) (hW : s.WarmedH vm1) (H : CHv Z EL s.vm h) : CHv Z EL vm1 h :=
  (CHv.later (h' := h) hZ (hW := (show (Wst Z s.vm h).Warmed39 vm1 from hW.wide)) hEL ⟨Nat.le_refl _, fun _ _ q => q⟩ (Or.inl hW.interned_eq) H).1
/-- an instance method that may load constants, by its contract -/
theorem Owes.callVC (X : Stand p l e R (s.setVm vm0) m args below meth c T locs cells slots) (hx : p.tables.exec = Jvm.exec) {own CR : String} (hZ : Z.Warmed39 (s.setVm vm0).vm) (hEL : EW Z a0 EL) (H : CHv Z EL vm0 h) {k0 : Nat} (hS : s.Since vm0 k0) (hk : k0 ≤ h.size) {index : Nat} {y z : MethodName} {bytes : ByteArray} {maxL : Nat} {ret : Option FieldType} {rm : Room}
    (hown : (s.setVm vm0).vm.findClass own = some m.cls) (w1 : (Cond.methodLink own index y).before a0 Z = true) (w2 : (Cond.declares y).before a0 Z = true) (hnf : NotFace (s.setVm vm0) y) (w5 : (Cond.selects CR y z).before a0 Z = true) (w6 : (Cond.instanceMethod z).before a0 Z = true) (w3 : (Cond.initialized z.cls).before a0 Z = true) (w4 : (Cond.code z bytes maxL ret).before a0 Z = true)
    (hy : y.cls ≠ "java/lang/invoke/MethodHandle" ∧ y.cls ≠ "java/lang/invoke/VarHandle") {pc : Nat} {Ls : Array Slot} {a : Addr} {argsL rest : List Value} {Q' : Option Value → Heap → List Loc → Prop} (M : OMetC l z bytes maxL ret [] rm (.ref a :: argsL).toArray Z EL h Q') (eT : T.heap = h) (E : Exa Z h a CR) (hsize : Ls.size = c.maxLocals)
    {ps : List FieldType} {rt : Option FieldType} (hpd : parseMethodDescriptor y.desc = some ⟨ps, rt⟩) (hln : argsL.length = ps.length) {st : List Value} (hst : st = argsL.reverse ++ .ref a :: rest) (hd : decode c.code pc = .ok (.invokevirtual index, 3))
    (hf : rm.frames + 1 ≤ R.frames) (hl : (rest.map fun v => v.category).sum + (maxL + 11) + rm.locals ≤ R.locals) (hcl : cells + rm.cells ≤ R.cells) (hsl : slots + rm.slots ≤ R.slots)
    (k : ∀ (T' : State) (v : Option Value) (L : List Loc), Stand p l e R (s.setVm T'.vm) m args below meth c T' (locs ++ L) (cells + rm.cells) (slots + rm.slots) → s.Since T'.vm T'.heap.size → h.size ≤ T'.heap.size → Z.Warmed39 (s.setVm T'.vm).vm → (s.setVm T'.vm).vm.findClass own = some m.cls → CHv Z EL T'.vm T'.heap → Q' v T'.heap L → Owes p e below F (T'.setTop (mkF m (pc + 3) Ls (v.toList ++ rest)))) :
    Owes p e below F (T.setTop (mkF m pc Ls st)) := by
  subst hst
  obtain ⟨cq, kq, qa, qb, qc⟩ := isOf hZ eT E
  obtain ⟨v, _, ⟨T3, L3, k3, n3⟩, -, X3, hS3, hg3, ⟨Lc3, ⟨hQ3, hC3⟩, l3, y3, z3⟩, st3⟩ := X.virtualBackS hx (y := y) (z := z) hown (mvT hZ w1) (mvT hZ w2) hnf (mvT hZ w5) (mvT hZ w6) hy (own_backC (W := (rest.map fun v => v.category).sum) M hZ w4 w3 hf hl) qa qc (g := mkF m pc Ls (argsL.reverse ++ .ref a :: rest)) rfl hsize (Steps.refl _) (argsL := argsL) (rest := rest) (lenOf hpd hln) rfl (by show 2 * 0 + _ ≤ _; omega) hd (fun vm₁ hW => ⟨rfl, eT, hcl, hsl, own_chs hZ hEL hW H⟩)
  dsimp only [Pt.U, Pt.locs, Pt.cells, Pt.slots] at X3 l3 y3 z3 st3 hQ3 hS3 hg3 hC3
  subst l3 y3 z3
  have hS' : s.Since T3.vm T3.heap.size := hS.trans hS3 (by rw [eT] at hg3; exact Nat.le_trans hk hg3)
  exact (k T3 v Lc3 X3 hS' (by rw [← eT]; exact hg3) (State.Warmed39.trans (t := s.setVm vm0) hZ hS3.1) (by rw [show (s.setVm T3.vm).vm = T3.vm from rfl, hS3.1.alike.findClass]; exact hown) hC3 hQ3).tr st3
/-- a static method that may load constants, by its contract -/
theorem Owes.callSC (X : Stand p l e R (s.setVm vm0) m args below meth c T locs cells slots) (hx : p.tables.exec = Jvm.exec) {own : String} (hZ : Z.Warmed39 (s.setVm vm0).vm) (hEL : EW Z a0 EL) (H : CHv Z EL vm0 h) {k0 : Nat} (hS : s.Since vm0 k0) (hk : k0 ≤ h.size) {index : Nat} {y : MethodName} {bytes : ByteArray} {maxL : Nat} {ret : Option FieldType} {rm : Room}
    (hown : (s.setVm vm0).vm.findClass own = some m.cls) (w1 : (Cond.methodLink own index y).before a0 Z = true) (w2 : (Cond.static y).before a0 Z = true) (w3 : (Cond.initialized y.cls).before a0 Z = true) (w4 : (Cond.code y bytes maxL ret).before a0 Z = true)
    (hy : y.cls ≠ "java/lang/invoke/MethodHandle" ∧ y.cls ≠ "java/lang/invoke/VarHandle") {pc : Nat} {Ls : Array Slot} {argsL rest : List Value} {Q' : Option Value → Heap → List Loc → Prop} (M : OMetC l y bytes maxL ret [] rm argsL.toArray Z EL h Q') (eT : T.heap = h) (hsize : Ls.size = c.maxLocals)
    {ps : List FieldType} {rt : Option FieldType} (hpd : parseMethodDescriptor y.desc = some ⟨ps, rt⟩) (hln : argsL.length = ps.length) {st : List Value} (hst : st = argsL.reverse ++ rest) (hd : decode c.code pc = .ok (.invokestatic index, 3))
    (hf : rm.frames + 1 ≤ R.frames) (hl : (rest.map fun v => v.category).sum + (maxL + 11) + rm.locals ≤ R.locals) (hcl : cells + rm.cells ≤ R.cells) (hsl : slots + rm.slots ≤ R.slots)
    (k : ∀ (T' : State) (v : Option Value) (L : List Loc), Stand p l e R (s.setVm T'.vm) m args below meth c T' (locs ++ L) (cells + rm.cells) (slots + rm.slots) → s.Since T'.vm T'.heap.size → h.size ≤ T'.heap.size → Z.Warmed39 (s.setVm T'.vm).vm → (s.setVm T'.vm).vm.findClass own = some m.cls → CHv Z EL T'.vm T'.heap → Q' v T'.heap L → Owes p e below F (T'.setTop (mkF m (pc + 3) Ls (v.toList ++ rest)))) :
    Owes p e below F (T.setTop (mkF m pc Ls st)) := by
  subst hst
  obtain ⟨mk, hn⟩ := Cond.code_named (mvT (args := args) hZ w4)
  obtain ⟨methM, cM, hm, -, -, -, -, -, -, hsig⟩ := Cond.code_spec hn (mvT (args := args) hZ w4)
  obtain ⟨v, _, ⟨T3, L3, k3, n3⟩, -, X3, hS3, hg3, ⟨Lc3, ⟨hQ3, hC3⟩, l3, y3, z3⟩, st3⟩ := X.staticBackS hx (y := y) hown (mvT hZ w1) (mvT hZ w2) (mvT hZ w3) hn hm hsig hy (own_backC (W := (rest.map fun v => v.category).sum) M hZ w4 w3 hf hl) (g := mkF m pc Ls (argsL.reverse ++ rest)) rfl hsize (Steps.refl _) (argsL := argsL) (rest := rest) (lenOf hpd hln) rfl (by show 2 * 0 + _ ≤ _; omega) hd (fun vm₁ hW => ⟨rfl, eT, hcl, hsl, own_chs hZ hEL hW H⟩)
  dsimp only [Pt.U, Pt.locs, Pt.cells, Pt.slots] at X3 l3 y3 z3 st3 hQ3 hS3 hg3 hC3
  subst l3 y3 z3
  have hS' : s.Since T3.vm T3.heap.size := hS.trans hS3 (by rw [eT] at hg3; exact Nat.le_trans hk hg3)
  exact (k T3 v Lc3 X3 hS' (by rw [← eT]; exact hg3) (State.Warmed39.trans (t := s.setVm vm0) hZ hS3.1) (by rw [show (s.setVm T3.vm).vm = T3.vm from rfl, hS3.1.alike.findClass]; exact hown) hC3 hQ3).tr st3
/-- a String constant, read -/
theorem Owes.ldcC (X : Stand p l e R (s.setVm vm0) m args below meth c T locs cells slots) (hx : p.tables.exec = Jvm.exec) {own text : String} {index : Nat} (hZ : Z.Warmed39 (s.setVm vm0).vm) (hown : (s.setVm vm0).vm.findClass own = some m.cls) (w : (Cond.stringLink own index text).before a0 Z = true) (wS : ∀ a ∈ Bundle.stringAtoms, a.before a0 Z = true)
    (eT : T.heap = h) {k0 : Nat} (hS : s.Since vm0 k0) (hk : k0 ≤ h.size) (hEL : EW Z a0 EL) (hmem : (own, index) ∈ EL) (H : CHv Z EL vm0 h) {vs : List Value} {z : Int32} (ht : (∀ c ∈ text.toList, c.toNat < 256) ∧ text.toList.map (fun c => Value.int (Jvm.Lit.byteI c.toNat.toUInt16)) = vs) (hz : ¬ z < 0) (hl : z.toNatClampNeg = vs.length)
    {pc : Nat} {Ls : Array Slot} {st : List Value} (hd : decode c.code pc = .ok (.ldc index, 2)) {n : Nat} (hn : 4 * text.toList.length ≤ n) (hbig : n ≤ 536870912) (hcl : cells + 2 ≤ R.cells) (hsl : slots + (n + 4) ≤ R.slots)
    (k : ∀ (a : Addr) (T' : State) (h' : Heap) (k1 : Nat) (b : Addr) (kc : ClassId), Stand p l e R (s.setVm T'.vm) m args below meth c T' locs (cells + 2) (slots + (n + 4)) → T'.heap = h' → Ext h h' → s.Since T'.vm k1 → k1 ≤ h'.size → Z.Warmed39 (s.setVm T'.vm).vm → (s.setVm T'.vm).vm.findClass own = some m.cls →
      Exa Z h' a "java/lang/String" → Fld Z h' a "java/lang/String" "coder" "B" (.int 0) → Fld Z h' a "java/lang/String" "value" "[B" (.ref b) → Arv Z h' b kc .byte z vs (.int 0) → CHv Z EL T'.vm h' → Owes p e below F (T'.setTop (mkF m (pc + 2) Ls (.ref a :: st)))) : Owes p e below F (T.setTop (mkF m pc Ls st)) := by
  obtain ⟨a, T', h', k1, b, kc, r1, r2, r3, r4, r5, r6, r7, r8, r9, r10, r11, r12, r13, r14, r15, r16, stp⟩ := ldcCH X hx hZ hown w wS eT hS hk hEL hmem H ht hz hl (g := mkF m pc Ls st) rfl hd hn hbig hcl hsl
  exact (k a T' h' k1 b kc r1 r2 r3 r4 r5 r6 r7 r8 r9 r10 r11 r14.1).go stp
end OwnStr

abbrev EL0 : List (String × Nat) := [("com/example/herring/herring/tree/NodePaths", 9)]
theorem own_wS (Z : State) (a0 : Array Value) (hw : ∀ d ∈ tables_1, d.before a0 Z = true) : ∀ a ∈ Bundle.stringAtoms, a.before a0 Z = true := by
  intro a ha
  simp only [Bundle.stringAtoms, List.mem_cons, List.not_mem_nil, or_false] at ha
  rcases ha with rfl | rfl | rfl | rfl | rfl | rfl | rfl
  all_goals first | exact hw _ (List.mem_of_getElem? (i := 5) rfl) | exact hw _ (List.mem_of_getElem? (i := 6) rfl) | exact hw _ (List.mem_of_getElem? (i := 7) rfl) | exact hw _ (List.mem_of_getElem? (i := 8) rfl) | exact hw _ (List.mem_of_getElem? (i := 9) rfl) | exact hw _ (List.mem_of_getElem? (i := 10) rfl) | exact hw _ (List.mem_of_getElem? (i := 11) rfl) | exact hw _ (List.mem_of_getElem? (i := 12) rfl) | exact hw _ (List.mem_of_getElem? (i := 13) rfl) | exact hw _ (List.mem_of_getElem? (i := 14) rfl) | exact hw _ (List.mem_of_getElem? (i := 15) rfl) | exact hw _ (List.mem_of_getElem? (i := 16) rfl) | exact hw _ (List.mem_of_getElem? (i := 19) rfl) | exact hw _ (List.mem_of_getElem? (i := 20) rfl) | exact hw _ (List.mem_of_getElem? (i := 21) rfl) | exact hw _ (List.mem_of_getElem? (i := 22) rfl) | exact hw _ (List.mem_of_getElem? (i := 23) rfl) | exact hw _ (List.mem_of_getElem? (i := 24) rfl) | exact hw _ (List.mem_of_getElem? (i := 25) rfl) | exact hw _ (List.mem_of_getElem? (i := 26) rfl) | exact hw _ (List.mem_of_getElem? (i := 27) rfl) | exact hw _ (List.mem_of_getElem? (i := 28) rfl) | exact hw _ (List.mem_of_getElem? (i := 29) rfl) | exact hw _ (List.mem_of_getElem? (i := 30) rfl) | exact hw _ (List.mem_of_getElem? (i := 31) rfl) | exact hw _ (List.mem_of_getElem? (i := 32) rfl) | exact hw _ (List.mem_of_getElem? (i := 33) rfl) | exact hw _ (List.mem_of_getElem? (i := 34) rfl) | exact hw _ (List.mem_of_getElem? (i := 35) rfl) | exact hw _ (List.mem_of_getElem? (i := 36) rfl) | exact hw _ (List.mem_of_getElem? (i := 38) rfl) | exact hw _ (List.mem_of_getElem? (i := 39) rfl) | exact hw _ (List.mem_of_getElem? (i := 40) rfl) | exact hw _ (List.mem_of_getElem? (i := 41) rfl) | exact hw _ (List.mem_of_getElem? (i := 42) rfl) | exact hw _ (List.mem_of_getElem? (i := 43) rfl) | exact hw _ (List.mem_of_getElem? (i := 44) rfl) | exact hw _ (List.mem_of_getElem? (i := 45) rfl) | exact hw _ (List.mem_of_getElem? (i := 46) rfl) | exact hw _ (List.mem_of_getElem? (i := 47) rfl) | exact hw _ (List.mem_of_getElem? (i := 48) rfl) | exact hw _ (List.mem_of_getElem? (i := 49) rfl) | exact hw _ (List.mem_of_getElem? (i := 50) rfl) | exact hw _ (List.mem_of_getElem? (i := 51) rfl) | exact hw _ (List.mem_of_getElem? (i := 52) rfl) | exact hw _ (List.mem_of_getElem? (i := 53) rfl) | exact hw _ (List.mem_of_getElem? (i := 54) rfl) | exact hw _ (List.mem_of_getElem? (i := 55) rfl) | exact hw _ (List.mem_of_getElem? (i := 56) rfl) | exact hw _ (List.mem_of_getElem? (i := 57) rfl) | exact hw _ (List.mem_of_getElem? (i := 58) rfl) | exact hw _ (List.mem_of_getElem? (i := 59) rfl) | exact hw _ (List.mem_of_getElem? (i := 60) rfl) | exact hw _ (List.mem_of_getElem? (i := 61) rfl) | exact hw _ (List.mem_of_getElem? (i := 62) rfl) | exact hw _ (List.mem_of_getElem? (i := 63) rfl) | exact hw _ (List.mem_of_getElem? (i := 64) rfl) | exact hw _ (List.mem_of_getElem? (i := 65) rfl) | exact hw _ (List.mem_of_getElem? (i := 66) rfl) | exact hw _ (List.mem_of_getElem? (i := 67) rfl) | exact hw _ (List.mem_of_getElem? (i := 68) rfl) | exact hw _ (List.mem_of_getElem? (i := 69) rfl) | exact hw _ (List.mem_of_getElem? (i := 70) rfl) | exact hw _ (List.mem_of_getElem? (i := 71) rfl) | exact hw _ (List.mem_of_getElem? (i := 76) rfl) | exact hw _ (List.mem_of_getElem? (i := 77) rfl) | exact hw _ (List.mem_of_getElem? (i := 78) rfl) | exact hw _ (List.mem_of_getElem? (i := 79) rfl) | exact hw _ (List.mem_of_getElem? (i := 80) rfl) | exact hw _ (List.mem_of_getElem? (i := 81) rfl) | exact hw _ (List.mem_of_getElem? (i := 82) rfl) | exact hw _ (List.mem_of_getElem? (i := 83) rfl) | exact hw _ (List.mem_of_getElem? (i := 84) rfl) | exact hw _ (List.mem_of_getElem? (i := 85) rfl) | exact hw _ (List.mem_of_getElem? (i := 86) rfl) | exact hw _ (List.mem_of_getElem? (i := 87) rfl) | exact hw _ (List.mem_of_getElem? (i := 88) rfl) | exact hw _ (List.mem_of_getElem? (i := 89) rfl) | exact hw _ (List.mem_of_getElem? (i := 90) rfl) | exact hw _ (List.mem_of_getElem? (i := 92) rfl) | exact hw _ (List.mem_of_getElem? (i := 95) rfl) | exact hw _ (List.mem_of_getElem? (i := 96) rfl) | exact hw _ (List.mem_of_getElem? (i := 97) rfl) | exact hw _ (List.mem_of_getElem? (i := 98) rfl) | exact hw _ (List.mem_of_getElem? (i := 99) rfl) | exact hw _ (List.mem_of_getElem? (i := 100) rfl) | exact hw _ (List.mem_of_getElem? (i := 101) rfl) | exact hw _ (List.mem_of_getElem? (i := 102) rfl) | exact hw _ (List.mem_of_getElem? (i := 103) rfl) | exact hw _ (List.mem_of_getElem? (i := 104) rfl) | exact hw _ (List.mem_of_getElem? (i := 105) rfl) | exact hw _ (List.mem_of_getElem? (i := 106) rfl) | exact hw _ (List.mem_of_getElem? (i := 109) rfl) | exact hw _ (List.mem_of_getElem? (i := 110) rfl) | exact hw _ (List.mem_of_getElem? (i := 111) rfl) | exact hw _ (List.mem_of_getElem? (i := 112) rfl) | exact hw _ (List.mem_of_getElem? (i := 113) rfl) | exact hw _ (List.mem_of_getElem? (i := 128) rfl) | exact hw _ (List.mem_of_getElem? (i := 129) rfl) | exact hw _ (List.mem_of_getElem? (i := 130) rfl)
theorem own_EW (Z : State) (a0 : Array Value) (hw : ∀ d ∈ tables_1, d.before a0 Z = true) : EW Z a0 EL0 := (EW.cons (hw _ (List.mem_of_getElem? (i := 75) rfl)) (by decide) EW.nil)
theorem own_c255 {x : Int32} (h : 0 ≤ x.toInt ∧ x.toInt < 256) : ¬ (255 : Int32) < x := by
  rw [Int32.lt_iff_toInt_lt, show (255 : Int32).toInt = 255 from rfl]; omega
theorem own_nz1 {x : Int32} {n : Nat} (h : x.toInt = (n : Int)) (h1 : 1 ≤ n) : ¬ (x = (0 : Int32)) := fun q => by
  rw [q, show (0 : Int32).toInt = 0 from rfl] at h
  omega
theorem own_ni1' {a x : Nat} (h1 : a ≠ x) : a ∉ [x] := by simp [h1]
theorem d11_0 : decode jdk_42_method_152_code 0 = .ok (.getstatic 38, 3) := by decide +kernel
theorem d11_3 : decode jdk_42_method_152_code 3 = .ok (.ifCond .eq 10, 3) := by decide +kernel
theorem d11_6 : decode jdk_42_method_152_code 6 = .ok (.aload_n 0, 1) := by decide +kernel
theorem d11_7 : decode jdk_42_method_152_code 7 = .ok (.getfield 15, 3) := by decide +kernel
theorem d11_10 : decode jdk_42_method_152_code 10 = .ok (.goto 4, 3) := by decide +kernel
theorem d11_14 : decode jdk_42_method_152_code 14 = .ok (.ireturn, 1) := by decide +kernel
theorem ef_coder (m : MethodId) (r0 : Addr)  : entryFrame m #[(.ref r0)] 1 = mkF m 0 #[.val (.ref r0)] [] := by (first | (simp [entryFrame, mkF, argsToLocals, Value.category]; done) | rfl)
theorem pn_11 : plainFor (⟨"java/lang/String", "coder", "()B"⟩ : MethodName) = true := plainFor_of_name (by first | (simp [plainName, overriddenIn]; done) | decide +kernel)
set_option maxRecDepth 65536 in
set_option maxHeartbeats 40000000 in
theorem rm_coder (l : Launch) (Z : State) (a0 : Array Value) (hw : ∀ d ∈ tables_1, d.before a0 Z = true) (ws : List Jvm.Cond) (r0 : Addr) (h0 : Heap) (b : Addr) (n : Nat) (c_ : Nat → Int32) (S : STR Z h0 r0 b n c_) (zn : Int32) (hzn : zn.toInt = (n : Int)) (cs : Int32) (SC : Sta Z h0 "java/lang/String" "COMPACT_STRINGS" "Z" (.int cs)) (hcs : ¬ cs = (0 : Int32)) :
    OMet l (⟨"java/lang/String", "coder", "()B"⟩ : MethodName) jdk_42_method_152_code 1 (some .byte) ws ({ frames := 0, cells := 0, slots := 0, locals := 0 } : Room) #[(.ref r0)] Z h0 (fun v h L => v = some (.int (0 : Int32)) ∧ L = [] ∧ h = h0) := by
  refine OMet.of pn_11 (fun m => ef_coder m r0 ) ?_
  intro p e s m below meth c s₁ hx hby hml hown hnm hret hlk hZ X0 e0
  obtain ⟨T1, X1, e1, st1⟩ := getS2 X0 hx hZ hown (host := "") (Or.inl (hw _ (List.mem_of_getElem? (i := 19) rfl))) Via.refl e0 SC (g := (mkF m 0 #[.val (.ref r0)] [])) rfl (hb hby d11_0)
  refine Owes.go ?_ st1
  show Owes _ _ _ _ (T1.setTop (mkF m 3 #[.val (.ref r0)] [(.int cs)]))
  refine Owes.go ?_ fun t₀ k₀ => XS.ifNo X1.here hx rfl (hb hby d11_3) rfl ((if0 _ _).trans (feq hcs).1) k₀
  show Owes _ _ _ _ (T1.setTop (mkF m 6 #[.val (.ref r0)] []))
  refine Owes.go ?_ fun t₀ k₀ => XS.aloadN X1.here hx rfl (hb hby d11_6) rfl rfl k₀
  show Owes _ _ _ _ (T1.setTop (mkF m 7 #[.val (.ref r0)] [(.ref r0)]))
  obtain ⟨T2, X2, e2, st2⟩ := getF X1 hx hZ hown (host := "") (Or.inl (hw _ (List.mem_of_getElem? (i := 31) rfl))) Via.refl e1 S.2.1 (g := (mkF m 7 #[.val (.ref r0)] [(.ref r0)])) rfl rfl (hb hby d11_7)
  refine Owes.go ?_ st2
  show Owes _ _ _ _ (T2.setTop (mkF m 10 #[.val (.ref r0)] [(.int (0 : Int32))]))
  refine Owes.go ?_ fun t₀ k₀ => XS.goto X2.here hx rfl (pc0 := 10) (pc' := 14) rfl (hb hby d11_10) (by decide) (by decide) k₀
  show Owes _ _ _ _ (T2.setTop (mkF m 14 #[.val (.ref r0)] [(.int (0 : Int32))]))
  exact Owes.retN X2 hx hlk hret (by simp) (hb hby d11_14) (by decide) (by decide) ⟨congrArg (fun z => some (Value.int z)) (by decide), rfl, e2⟩
theorem d13_0 : decode jdk_42_method_154_code 0 = .ok (.getstatic 38, 3) := by decide +kernel
theorem d13_3 : decode jdk_42_method_154_code 3 = .ok (.ifCond .eq 14, 3) := by decide +kernel
theorem d13_6 : decode jdk_42_method_154_code 6 = .ok (.aload_n 0, 1) := by decide +kernel
theorem d13_7 : decode jdk_42_method_154_code 7 = .ok (.getfield 15, 3) := by decide +kernel
theorem d13_10 : decode jdk_42_method_154_code 10 = .ok (.ifCond .ne 7, 3) := by decide +kernel
theorem d13_13 : decode jdk_42_method_154_code 13 = .ok (.iconst 1, 1) := by decide +kernel
theorem d13_14 : decode jdk_42_method_154_code 14 = .ok (.goto 4, 3) := by decide +kernel
theorem d13_18 : decode jdk_42_method_154_code 18 = .ok (.ireturn, 1) := by decide +kernel
theorem ef_lat (m : MethodId) (r0 : Addr)  : entryFrame m #[(.ref r0)] 1 = mkF m 0 #[.val (.ref r0)] [] := by (first | (simp [entryFrame, mkF, argsToLocals, Value.category]; done) | rfl)
theorem pn_13 : plainFor (⟨"java/lang/String", "isLatin1", "()Z"⟩ : MethodName) = true := plainFor_of_name (by first | (simp [plainName, overriddenIn]; done) | decide +kernel)
set_option maxRecDepth 65536 in
set_option maxHeartbeats 40000000 in
theorem rm_lat (l : Launch) (Z : State) (a0 : Array Value) (hw : ∀ d ∈ tables_1, d.before a0 Z = true) (ws : List Jvm.Cond) (r0 : Addr) (h0 : Heap) (b : Addr) (n : Nat) (c_ : Nat → Int32) (S : STR Z h0 r0 b n c_) (zn : Int32) (hzn : zn.toInt = (n : Int)) (cs : Int32) (SC : Sta Z h0 "java/lang/String" "COMPACT_STRINGS" "Z" (.int cs)) (hcs : ¬ cs = (0 : Int32)) :
    OMet l (⟨"java/lang/String", "isLatin1", "()Z"⟩ : MethodName) jdk_42_method_154_code 1 (some .boolean) ws ({ frames := 0, cells := 0, slots := 0, locals := 0 } : Room) #[(.ref r0)] Z h0 (fun v h L => v = some (.int (1 : Int32)) ∧ L = [] ∧ h = h0) := by
  refine OMet.of pn_13 (fun m => ef_lat m r0 ) ?_
  intro p e s m below meth c s₁ hx hby hml hown hnm hret hlk hZ X0 e0
  obtain ⟨T3, X3, e3, st3⟩ := getS2 X0 hx hZ hown (host := "") (Or.inl (hw _ (List.mem_of_getElem? (i := 19) rfl))) Via.refl e0 SC (g := (mkF m 0 #[.val (.ref r0)] [])) rfl (hb hby d13_0)
  refine Owes.go ?_ st3
  show Owes _ _ _ _ (T3.setTop (mkF m 3 #[.val (.ref r0)] [(.int cs)]))
  refine Owes.go ?_ fun t₀ k₀ => XS.ifNo X3.here hx rfl (hb hby d13_3) rfl ((if0 _ _).trans (feq hcs).1) k₀
  show Owes _ _ _ _ (T3.setTop (mkF m 6 #[.val (.ref r0)] []))
  refine Owes.go ?_ fun t₀ k₀ => XS.aloadN X3.here hx rfl (hb hby d13_6) rfl rfl k₀
  show Owes _ _ _ _ (T3.setTop (mkF m 7 #[.val (.ref r0)] [(.ref r0)]))
  obtain ⟨T4, X4, e4, st4⟩ := getF X3 hx hZ hown (host := "") (Or.inl (hw _ (List.mem_of_getElem? (i := 31) rfl))) Via.refl e3 S.2.1 (g := (mkF m 7 #[.val (.ref r0)] [(.ref r0)])) rfl rfl (hb hby d13_7)
  refine Owes.go ?_ st4
  show Owes _ _ _ _ (T4.setTop (mkF m 10 #[.val (.ref r0)] [(.int (0 : Int32))]))
  refine Owes.go ?_ fun t₀ k₀ => XS.ifNo X4.here hx rfl (hb hby d13_10) rfl ((if0 _ _).trans (teq (by decide : ((0 : Int32) = (0 : Int32)))).2) k₀
  show Owes _ _ _ _ (T4.setTop (mkF m 13 #[.val (.ref r0)] []))
  refine Owes.go ?_ fun t₀ k₀ => XS.iconst X4.here hx rfl (hb hby d13_13) k₀
  show Owes _ _ _ _ (T4.setTop (mkF m 14 #[.val (.ref r0)] [(.int (1 : Int32))]))
  refine Owes.go ?_ fun t₀ k₀ => XS.goto X4.here hx rfl (pc0 := 14) (pc' := 18) rfl (hb hby d13_14) (by decide) (by decide) k₀
  show Owes _ _ _ _ (T4.setTop (mkF m 18 #[.val (.ref r0)] [(.int (1 : Int32))]))
  exact Owes.retN X4 hx hlk hret (by simp) (hb hby d13_18) (by decide) (by decide) ⟨congrArg (fun z => some (Value.int z)) (by decide), rfl, e4⟩
theorem d10_0 : decode jdk_42_method_54_code 0 = .ok (.aload_n 0, 1) := by decide +kernel
theorem d10_1 : decode jdk_42_method_54_code 1 = .ok (.getfield 9, 3) := by decide +kernel
theorem d10_4 : decode jdk_42_method_54_code 4 = .ok (.arraylength, 1) := by decide +kernel
theorem d10_5 : decode jdk_42_method_54_code 5 = .ok (.aload_n 0, 1) := by decide +kernel
theorem d10_6 : decode jdk_42_method_54_code 6 = .ok (.invokevirtual 335, 3) := by decide +kernel
theorem pd_0 : parseMethodDescriptor "()B" = some ⟨[], some .byte⟩ := by decide +kernel
theorem d10_9 : decode jdk_42_method_54_code 9 = .ok (.ishr, 1) := by decide +kernel
theorem d10_10 : decode jdk_42_method_54_code 10 = .ok (.ireturn, 1) := by decide +kernel
theorem ef_len (m : MethodId) (r0 : Addr)  : entryFrame m #[(.ref r0)] 1 = mkF m 0 #[.val (.ref r0)] [] := by (first | (simp [entryFrame, mkF, argsToLocals, Value.category]; done) | rfl)
theorem pn_10 : plainFor (⟨"java/lang/String", "length", "()I"⟩ : MethodName) = true := plainFor_of_name (by first | (simp [plainName, overriddenIn]; done) | decide +kernel)
set_option maxRecDepth 65536 in
set_option maxHeartbeats 40000000 in
theorem rm_len (l : Launch) (Z : State) (a0 : Array Value) (hw : ∀ d ∈ tables_1, d.before a0 Z = true) (ws : List Jvm.Cond) (r0 : Addr) (h0 : Heap) (b : Addr) (n : Nat) (c_ : Nat → Int32) (S : STR Z h0 r0 b n c_) (zn : Int32) (hzn : zn.toInt = (n : Int)) (cs : Int32) (SC : Sta Z h0 "java/lang/String" "COMPACT_STRINGS" "Z" (.int cs)) (hcs : ¬ cs = (0 : Int32)) :
    OMet l (⟨"java/lang/String", "length", "()I"⟩ : MethodName) jdk_42_method_54_code 1 (some .int) ws ({ frames := 1, cells := 0, slots := 0, locals := 14 } : Room) #[(.ref r0)] Z h0 (fun v h L => v = some (.int zn) ∧ L = [] ∧ h = h0) := by
  refine OMet.of pn_10 (fun m => ef_len m r0 ) ?_
  intro p e s m below meth c s₁ hx hby hml hown hnm hret hlk hZ X0 e0
  refine Owes.go ?_ fun t₀ k₀ => XS.aloadN X0.here hx rfl (hb hby d10_0) rfl rfl k₀
  show Owes _ _ _ _ (s₁.setTop (mkF m 1 #[.val (.ref r0)] [(.ref r0)]))
  obtain ⟨T5, X5, e5, st5⟩ := getF X0 hx hZ hown (host := "") (Or.inl (hw _ (List.mem_of_getElem? (i := 33) rfl))) Via.refl e0 S.2.2.1 (g := (mkF m 1 #[.val (.ref r0)] [(.ref r0)])) rfl rfl (hb hby d10_1)
  refine Owes.go ?_ st5
  show Owes _ _ _ _ (T5.setTop (mkF m 4 #[.val (.ref r0)] [(.ref b)]))
  refine Owes.glen X5 hx hZ e5 S.2.2.2 (z := zn) hzn (hb hby d10_4) ?_
  show Owes _ _ _ _ (T5.setTop (mkF m 5 #[.val (.ref r0)] [(.int zn)]))
  refine Owes.go ?_ fun t₀ k₀ => XS.aloadN X5.here hx rfl (hb hby d10_5) rfl rfl k₀
  show Owes _ _ _ _ (T5.setTop (mkF m 6 #[.val (.ref r0)] [(.ref r0), (.int zn)]))
  refine Owes.callV X5 hx hZ hown (hw _ (List.mem_of_getElem? (i := 49) rfl)) (hw _ (List.mem_of_getElem? (i := 50) rfl)) (notFace_of_selects (args := #[]) (mvT hZ (hw _ (List.mem_of_getElem? (i := 52) rfl)))) (hw _ (List.mem_of_getElem? (i := 52) rfl)) (hw _ (List.mem_of_getElem? (i := 51) rfl)) (hw _ (List.mem_of_getElem? (i := 8) rfl)) (hw _ (List.mem_of_getElem? (i := 53) rfl)) (by decide) (a := r0) (argsL := []) (rest := [(.int zn)]) (rm_coder l Z a0 hw [] r0  h0 b n c_ S zn hzn cs SC hcs) e5 S.1 (by rw [hml]; rfl) pd_0 rfl rfl (hb hby d10_6) (by decide) (Nat.le_of_ble_eq_true rfl) (by decide) (by decide) ?_
  rintro T6 _ _ X6 ⟨rfl, rfl, e6⟩
  rw [List.append_nil] at X6
  show Owes _ _ _ _ (T6.setTop (mkF m 9 #[.val (.ref r0)] [(.int (0 : Int32)), (.int zn)]))
  refine Owes.go ?_ fun t₀ k₀ => XS.ishr X6.here hx rfl (hb hby d10_9) rfl k₀
  show Owes _ _ _ _ (T6.setTop (mkF m 10 #[.val (.ref r0)] [(.int (zn >>> ((0 : Int32) &&& 31)))]))
  exact Owes.retI X6 hx hlk hret (hb hby d10_10) (by decide) (by decide) ⟨congrArg (fun z => some (Value.int z)) (own_sh0 zn), rfl, e6⟩
theorem d20_0 : decode jdk_41_method_11_code 0 = .ok (.iload_n 0, 1) := by decide +kernel
theorem d20_1 : decode jdk_41_method_11_code 1 = .ok (.ifCond .lt 8, 3) := by decide +kernel
theorem d20_4 : decode jdk_41_method_11_code 4 = .ok (.iload_n 0, 1) := by decide +kernel
theorem d20_5 : decode jdk_41_method_11_code 5 = .ok (.iload_n 1, 1) := by decide +kernel
theorem d20_6 : decode jdk_41_method_11_code 6 = .ok (.if_icmp .lt 10, 3) := by decide +kernel
theorem d20_16 : decode jdk_41_method_11_code 16 = .ok (.iload_n 0, 1) := by decide +kernel
theorem d20_17 : decode jdk_41_method_11_code 17 = .ok (.ireturn, 1) := by decide +kernel
theorem ef_pci (m : MethodId) (p0 : Int32) (p1 : Int32) (vf : Value) (hcat_vf : vf.category = 1) : entryFrame m #[(.int p0), (.int p1), vf] 3 = mkF m 0 #[.val (.int p0), .val (.int p1), .val vf] [] := by cases vf <;> first | (exfalso; revert hcat_vf; simp [Value.category]; done) | (first | (simp [entryFrame, mkF, argsToLocals, Value.category]; done) | rfl)
theorem pn_20 : plainFor (⟨"jdk/internal/util/Preconditions", "checkIndex", "(IILjava/util/function/BiFunction;)I"⟩ : MethodName) = true := plainFor_of_name (by first | (simp [plainName, overriddenIn]; done) | decide +kernel)
set_option maxRecDepth 65536 in
set_option maxHeartbeats 40000000 in
theorem rm_pci (l : Launch) (Z : State) (a0 : Array Value) (hw : ∀ d ∈ tables_1, d.before a0 Z = true) (ws : List Jvm.Cond) (p0 : Int32) (p1 : Int32) (vf : Value) (h0 : Heap) (hcat_vf : vf.category = 1) (h1 : ¬ p0 < (0 : Int32)) (h2 : p0 < p1) :
    OMet l (⟨"jdk/internal/util/Preconditions", "checkIndex", "(IILjava/util/function/BiFunction;)I"⟩ : MethodName) jdk_41_method_11_code 3 (some .int) ws ({ frames := 0, cells := 0, slots := 0, locals := 0 } : Room) #[(.int p0), (.int p1), vf] Z h0 (fun v h L => v = some (.int p0) ∧ L = [] ∧ h = h0) := by
  refine OMet.of pn_20 (fun m => ef_pci m p0 p1 vf hcat_vf) ?_
  intro p e s m below meth c s₁ hx hby hml hown hnm hret hlk hZ X0 e0
  refine Owes.go ?_ fun t₀ k₀ => XS.iloadN X0.here hx rfl (hb hby d20_0) rfl k₀
  show Owes _ _ _ _ (s₁.setTop (mkF m 1 #[.val (.int p0), .val (.int p1), .val vf] [(.int p0)]))
  refine Owes.go ?_ fun t₀ k₀ => XS.ifNo X0.here hx rfl (hb hby d20_1) rfl ((if0 _ _).trans (flt h1).1) k₀
  show Owes _ _ _ _ (s₁.setTop (mkF m 4 #[.val (.int p0), .val (.int p1), .val vf] []))
  refine Owes.go ?_ fun t₀ k₀ => XS.iloadN X0.here hx rfl (hb hby d20_4) rfl k₀
  show Owes _ _ _ _ (s₁.setTop (mkF m 5 #[.val (.int p0), .val (.int p1), .val vf] [(.int p0)]))
  refine Owes.go ?_ fun t₀ k₀ => XS.iloadN X0.here hx rfl (hb hby d20_5) rfl k₀
  show Owes _ _ _ _ (s₁.setTop (mkF m 6 #[.val (.int p0), .val (.int p1), .val vf] [(.int p1), (.int p0)]))
  refine Owes.go ?_ fun t₀ k₀ => XS.icmpYes X0.here hx rfl (pc0 := 6) (pc' := 16) rfl (hb hby d20_6) rfl (tlt h2).1 (by decide) (by decide) k₀
  show Owes _ _ _ _ (s₁.setTop (mkF m 16 #[.val (.int p0), .val (.int p1), .val vf] []))
  refine Owes.go ?_ fun t₀ k₀ => XS.iloadN X0.here hx rfl (hb hby d20_16) rfl k₀
  show Owes _ _ _ _ (s₁.setTop (mkF m 17 #[.val (.int p0), .val (.int p1), .val vf] [(.int p0)]))
  exact Owes.retI X0 hx hlk hret (hb hby d20_17) (by decide) (by decide) ⟨congrArg (fun z => some (Value.int z)) (rfl), rfl, e0⟩
theorem d19_0 : decode jdk_42_method_155_code 0 = .ok (.iload_n 0, 1) := by decide +kernel
theorem d19_1 : decode jdk_42_method_155_code 1 = .ok (.iload_n 1, 1) := by decide +kernel
theorem d19_2 : decode jdk_42_method_155_code 2 = .ok (.getstatic 1053, 3) := by decide +kernel
theorem d19_5 : decode jdk_42_method_155_code 5 = .ok (.invokestatic 1059, 3) := by decide +kernel
theorem pd_1 : parseMethodDescriptor "(IILjava/util/function/BiFunction;)I" = some ⟨[.int, .int, (.object "java/util/function/BiFunction")], some .int⟩ := by decide +kernel
theorem d19_8 : decode jdk_42_method_155_code 8 = .ok (.pop, 1) := by decide +kernel
theorem d19_9 : decode jdk_42_method_155_code 9 = .ok (.return_, 1) := by decide +kernel
theorem ef_cki (m : MethodId) (p0 : Int32) (p1 : Int32)  : entryFrame m #[(.int p0), (.int p1)] 2 = mkF m 0 #[.val (.int p0), .val (.int p1)] [] := by (first | (simp [entryFrame, mkF, argsToLocals, Value.category]; done) | rfl)
theorem pn_19 : plainFor (⟨"java/lang/String", "checkIndex", "(II)V"⟩ : MethodName) = true := plainFor_of_name (by first | (simp [plainName, overriddenIn]; done) | decide +kernel)
set_option maxRecDepth 65536 in
set_option maxHeartbeats 40000000 in
theorem rm_cki (l : Launch) (Z : State) (a0 : Array Value) (hw : ∀ d ∈ tables_1, d.before a0 Z = true) (ws : List Jvm.Cond) (p0 : Int32) (p1 : Int32) (h0 : Heap) (vf : Value) (hcat_vf : vf.category = 1) (SF : Sta Z h0 "jdk/internal/util/Preconditions" "SIOOBE_FORMATTER" "Ljava/util/function/BiFunction;" vf) (h1 : ¬ p0 < (0 : Int32)) (h2 : p0 < p1) :
    OMet l (⟨"java/lang/String", "checkIndex", "(II)V"⟩ : MethodName) jdk_42_method_155_code 2 none ws ({ frames := 1, cells := 0, slots := 0, locals := 16 } : Room) #[(.int p0), (.int p1)] Z h0 (fun v h L => v = none ∧ L = [] ∧ h = h0) := by
  refine OMet.of pn_19 (fun m => ef_cki m p0 p1 ) ?_
  intro p e s m below meth c s₁ hx hby hml hown hnm hret hlk hZ X0 e0
  refine Owes.go ?_ fun t₀ k₀ => XS.iloadN X0.here hx rfl (hb hby d19_0) rfl k₀
  show Owes _ _ _ _ (s₁.setTop (mkF m 1 #[.val (.int p0), .val (.int p1)] [(.int p0)]))
  refine Owes.go ?_ fun t₀ k₀ => XS.iloadN X0.here hx rfl (hb hby d19_1) rfl k₀
  show Owes _ _ _ _ (s₁.setTop (mkF m 2 #[.val (.int p0), .val (.int p1)] [(.int p1), (.int p0)]))
  obtain ⟨T7, X7, e7, st7⟩ := getS2 X0 hx hZ hown (host := "") (Or.inl (hw _ (List.mem_of_getElem? (i := 90) rfl))) Via.refl e0 SF (g := (mkF m 2 #[.val (.int p0), .val (.int p1)] [(.int p1), (.int p0)])) rfl (hb hby d19_2)
  refine Owes.go ?_ st7
  show Owes _ _ _ _ (T7.setTop (mkF m 5 #[.val (.int p0), .val (.int p1)] [vf, (.int p1), (.int p0)]))
  refine Owes.callS X7 hx hZ hown (hw _ (List.mem_of_getElem? (i := 92) rfl)) (hw _ (List.mem_of_getElem? (i := 93) rfl)) (hw _ (List.mem_of_getElem? (i := 91) rfl)) (hw _ (List.mem_of_getElem? (i := 94) rfl)) (by decide) (argsL := [(.int p0), (.int p1), vf]) (rest := []) (rm_pci l Z a0 hw [] p0 p1 vf h0 hcat_vf h1 h2) e7 (by rw [hml]; rfl) pd_1 rfl rfl (hb hby d19_5) (by decide) (Nat.le_of_ble_eq_true rfl) (by decide) (by decide) ?_
  rintro T8 _ _ X8 ⟨rfl, rfl, e8⟩
  rw [List.append_nil] at X8
  show Owes _ _ _ _ (T8.setTop (mkF m 8 #[.val (.int p0), .val (.int p1)] [(.int p0)]))
  refine Owes.go ?_ fun t₀ k₀ => XS.pop X8.here hx rfl (hb hby d19_8) rfl rfl k₀
  show Owes _ _ _ _ (T8.setTop (mkF m 9 #[.val (.int p0), .val (.int p1)] []))
  exact Owes.retV X8 hx hlk hret (hb hby d19_9) (by decide) (by decide) ⟨rfl, rfl, e8⟩
theorem d18_0 : decode jdk_43_method_2_code 0 = .ok (.iload_n 1, 1) := by decide +kernel
theorem d18_1 : decode jdk_43_method_2_code 1 = .ok (.aload_n 0, 1) := by decide +kernel
theorem d18_2 : decode jdk_43_method_2_code 2 = .ok (.arraylength, 1) := by decide +kernel
theorem d18_3 : decode jdk_43_method_2_code 3 = .ok (.invokestatic 9, 3) := by decide +kernel
theorem pd_2 : parseMethodDescriptor "(II)V" = some ⟨[.int, .int], none⟩ := by decide +kernel
theorem d18_6 : decode jdk_43_method_2_code 6 = .ok (.aload_n 0, 1) := by decide +kernel
theorem d18_7 : decode jdk_43_method_2_code 7 = .ok (.iload_n 1, 1) := by decide +kernel
theorem d18_8 : decode jdk_43_method_2_code 8 = .ok (.baload, 1) := by decide +kernel
theorem d18_9 : decode jdk_43_method_2_code 9 = .ok (.sipush 255, 3) := by decide +kernel
theorem d18_12 : decode jdk_43_method_2_code 12 = .ok (.iand, 1) := by decide +kernel
theorem d18_13 : decode jdk_43_method_2_code 13 = .ok (.i2c, 1) := by decide +kernel
theorem d18_14 : decode jdk_43_method_2_code 14 = .ok (.ireturn, 1) := by decide +kernel
theorem ef_lca (m : MethodId) (r0 : Addr) (p1 : Int32)  : entryFrame m #[(.ref r0), (.int p1)] 2 = mkF m 0 #[.val (.ref r0), .val (.int p1)] [] := by (first | (simp [entryFrame, mkF, argsToLocals, Value.category]; done) | rfl)
theorem pn_18 : plainFor (⟨"java/lang/StringLatin1", "charAt", "([BI)C"⟩ : MethodName) = true := plainFor_of_name (by first | (simp [plainName, overriddenIn]; done) | decide +kernel)
set_option maxRecDepth 65536 in
set_option maxHeartbeats 40000000 in
theorem rm_lca (l : Launch) (Z : State) (a0 : Array Value) (hw : ∀ d ∈ tables_1, d.before a0 Z = true) (ws : List Jvm.Cond) (r0 : Addr) (p1 : Int32) (h0 : Heap) (n : Nat) (c_ : Nat → Int32) (G : GA Z h0 r0 .byte n (fun i => .int (c_ i).toInt8.toInt32)) (zn : Int32) (hzn : zn.toInt = (n : Int)) (vf : Value) (hcat_vf : vf.category = 1) (SF : Sta Z h0 "jdk/internal/util/Preconditions" "SIOOBE_FORMATTER" "Ljava/util/function/BiFunction;" vf) (hc8 : C8 n c_) (i : Nat) (hi : p1.toInt = (i : Int)) (hin : i < n) :
    OMet l (⟨"java/lang/StringLatin1", "charAt", "([BI)C"⟩ : MethodName) jdk_43_method_2_code 2 (some .char) ws ({ frames := 2, cells := 0, slots := 0, locals := 32 } : Room) #[(.ref r0), (.int p1)] Z h0 (fun v h L => v = some (.int (c_ i)) ∧ L = [] ∧ h = h0) := by
  refine OMet.of pn_18 (fun m => ef_lca m r0 p1 ) ?_
  intro p e s m below meth c s₁ hx hby hml hown hnm hret hlk hZ X0 e0
  refine Owes.go ?_ fun t₀ k₀ => XS.iloadN X0.here hx rfl (hb hby d18_0) rfl k₀
  show Owes _ _ _ _ (s₁.setTop (mkF m 1 #[.val (.ref r0), .val (.int p1)] [(.int p1)]))
  refine Owes.go ?_ fun t₀ k₀ => XS.aloadN X0.here hx rfl (hb hby d18_1) rfl rfl k₀
  show Owes _ _ _ _ (s₁.setTop (mkF m 2 #[.val (.ref r0), .val (.int p1)] [(.ref r0), (.int p1)]))
  refine Owes.glen X0 hx hZ e0 G (z := zn) hzn (hb hby d18_2) ?_
  show Owes _ _ _ _ (s₁.setTop (mkF m 3 #[.val (.ref r0), .val (.int p1)] [(.int zn), (.int p1)]))
  refine Owes.callS X0 hx hZ hown (hw _ (List.mem_of_getElem? (i := 87) rfl)) (hw _ (List.mem_of_getElem? (i := 88) rfl)) (hw _ (List.mem_of_getElem? (i := 8) rfl)) (hw _ (List.mem_of_getElem? (i := 89) rfl)) (by decide) (argsL := [(.int p1), (.int zn)]) (rest := []) (rm_cki l Z a0 hw [] p1 zn h0 vf hcat_vf SF (own_nat hi).1 (own_lti hi hzn hin)) e0 (by rw [hml]; rfl) pd_2 rfl rfl (hb hby d18_3) (by decide) (Nat.le_of_ble_eq_true rfl) (by decide) (by decide) ?_
  rintro T9 _ _ X9 ⟨rfl, rfl, e9⟩
  rw [List.append_nil] at X9
  show Owes _ _ _ _ (T9.setTop (mkF m 6 #[.val (.ref r0), .val (.int p1)] []))
  refine Owes.go ?_ fun t₀ k₀ => XS.aloadN X9.here hx rfl (hb hby d18_6) rfl rfl k₀
  show Owes _ _ _ _ (T9.setTop (mkF m 7 #[.val (.ref r0), .val (.int p1)] [(.ref r0)]))
  refine Owes.go ?_ fun t₀ k₀ => XS.iloadN X9.here hx rfl (hb hby d18_7) rfl k₀
  show Owes _ _ _ _ (T9.setTop (mkF m 8 #[.val (.ref r0), .val (.int p1)] [(.int p1), (.ref r0)]))
  refine Owes.gB X9 hx hZ e9 G hi hin (v := .int (c_ i).toInt8.toInt32) rfl (hb hby d18_8) ?_
  show Owes _ _ _ _ (T9.setTop (mkF m 9 #[.val (.ref r0), .val (.int p1)] [(.int (c_ i).toInt8.toInt32)]))
  refine Owes.go ?_ fun t₀ k₀ => XS.sipush X9.here hx rfl (hb hby d18_9) k₀
  show Owes _ _ _ _ (T9.setTop (mkF m 12 #[.val (.ref r0), .val (.int p1)] [(.int (255 : Int32)), (.int (c_ i).toInt8.toInt32)]))
  refine Owes.go ?_ fun t₀ k₀ => XS.iand X9.here hx rfl (hb hby d18_12) rfl k₀
  show Owes _ _ _ _ (T9.setTop (mkF m 13 #[.val (.ref r0), .val (.int p1)] [(.int ((c_ i).toInt8.toInt32 &&& (255 : Int32)))]))
  refine Owes.go ?_ fun t₀ k₀ => XS.i2c X9.here hx rfl (hb hby d18_13) rfl k₀
  show Owes _ _ _ _ (T9.setTop (mkF m 14 #[.val (.ref r0), .val (.int p1)] [(.int (((c_ i).toInt8.toInt32 &&& (255 : Int32)).toUInt32.toUInt16.toUInt32.toInt32))]))
  exact Owes.retN X9 hx hlk hret (by simp) (hb hby d18_14) (by decide) (by decide) ⟨congrArg (fun z => some (Value.int z)) (own_chr (hc8 i hin)), rfl, e9⟩
theorem d17_0 : decode jdk_42_method_56_code 0 = .ok (.aload_n 0, 1) := by decide +kernel
theorem d17_1 : decode jdk_42_method_56_code 1 = .ok (.invokevirtual 492, 3) := by decide +kernel
theorem pd_3 : parseMethodDescriptor "()Z" = some ⟨[], some .boolean⟩ := by decide +kernel
theorem d17_4 : decode jdk_42_method_56_code 4 = .ok (.ifCond .eq 12, 3) := by decide +kernel
theorem d17_7 : decode jdk_42_method_56_code 7 = .ok (.aload_n 0, 1) := by decide +kernel
theorem d17_8 : decode jdk_42_method_56_code 8 = .ok (.getfield 9, 3) := by decide +kernel
theorem d17_11 : decode jdk_42_method_56_code 11 = .ok (.iload_n 1, 1) := by decide +kernel
theorem d17_12 : decode jdk_42_method_56_code 12 = .ok (.invokestatic 495, 3) := by decide +kernel
theorem pd_4 : parseMethodDescriptor "([BI)C" = some ⟨[(.array .byte), .int], some .char⟩ := by decide +kernel
theorem d17_15 : decode jdk_42_method_56_code 15 = .ok (.ireturn, 1) := by decide +kernel
theorem ef_ca (m : MethodId) (r0 : Addr) (p1 : Int32)  : entryFrame m #[(.ref r0), (.int p1)] 2 = mkF m 0 #[.val (.ref r0), .val (.int p1)] [] := by (first | (simp [entryFrame, mkF, argsToLocals, Value.category]; done) | rfl)
theorem pn_17 : plainFor (⟨"java/lang/String", "charAt", "(I)C"⟩ : MethodName) = true := plainFor_of_name (by first | (simp [plainName, overriddenIn]; done) | decide +kernel)
set_option maxRecDepth 65536 in
set_option maxHeartbeats 40000000 in
theorem rm_ca (l : Launch) (Z : State) (a0 : Array Value) (hw : ∀ d ∈ tables_1, d.before a0 Z = true) (ws : List Jvm.Cond) (r0 : Addr) (p1 : Int32) (h0 : Heap) (b : Addr) (n : Nat) (c_ : Nat → Int32) (S : STR Z h0 r0 b n c_) (zn : Int32) (hzn : zn.toInt = (n : Int)) (cs : Int32) (SC : Sta Z h0 "java/lang/String" "COMPACT_STRINGS" "Z" (.int cs)) (hcs : ¬ cs = (0 : Int32)) (vf : Value) (hcat_vf : vf.category = 1) (SF : Sta Z h0 "jdk/internal/util/Preconditions" "SIOOBE_FORMATTER" "Ljava/util/function/BiFunction;" vf) (hc8 : C8 n c_) (i : Nat) (hi : p1.toInt = (i : Int)) (hin : i < n) :
    OMet l (⟨"java/lang/String", "charAt", "(I)C"⟩ : MethodName) jdk_42_method_56_code 2 (some .char) ws ({ frames := 3, cells := 0, slots := 0, locals := 48 } : Room) #[(.ref r0), (.int p1)] Z h0 (fun v h L => v = some (.int (c_ i)) ∧ L = [] ∧ h = h0) := by
  refine OMet.of pn_17 (fun m => ef_ca m r0 p1 ) ?_
  intro p e s m below meth c s₁ hx hby hml hown hnm hret hlk hZ X0 e0
  refine Owes.go ?_ fun t₀ k₀ => XS.aloadN X0.here hx rfl (hb hby d17_0) rfl rfl k₀
  show Owes _ _ _ _ (s₁.setTop (mkF m 1 #[.val (.ref r0), .val (.int p1)] [(.ref r0)]))
  refine Owes.callV X0 hx hZ hown (hw _ (List.mem_of_getElem? (i := 59) rfl)) (hw _ (List.mem_of_getElem? (i := 60) rfl)) (notFace_of_selects (args := #[]) (mvT hZ (hw _ (List.mem_of_getElem? (i := 62) rfl)))) (hw _ (List.mem_of_getElem? (i := 62) rfl)) (hw _ (List.mem_of_getElem? (i := 61) rfl)) (hw _ (List.mem_of_getElem? (i := 8) rfl)) (hw _ (List.mem_of_getElem? (i := 63) rfl)) (by decide) (a := r0) (argsL := []) (rest := []) (rm_lat l Z a0 hw [] r0  h0 b n c_ S zn hzn cs SC hcs) e0 S.1 (by rw [hml]; rfl) pd_3 rfl rfl (hb hby d17_1) (by decide) (Nat.le_of_ble_eq_true rfl) (by decide) (by decide) ?_
  rintro T10 _ _ X10 ⟨rfl, rfl, e10⟩
  rw [List.append_nil] at X10
  show Owes _ _ _ _ (T10.setTop (mkF m 4 #[.val (.ref r0), .val (.int p1)] [(.int (1 : Int32))]))
  refine Owes.go ?_ fun t₀ k₀ => XS.ifNo X10.here hx rfl (hb hby d17_4) rfl ((if0 _ _).trans (feq (by decide : ¬ ((1 : Int32) = (0 : Int32)))).1) k₀
  show Owes _ _ _ _ (T10.setTop (mkF m 7 #[.val (.ref r0), .val (.int p1)] []))
  refine Owes.go ?_ fun t₀ k₀ => XS.aloadN X10.here hx rfl (hb hby d17_7) rfl rfl k₀
  show Owes _ _ _ _ (T10.setTop (mkF m 8 #[.val (.ref r0), .val (.int p1)] [(.ref r0)]))
  obtain ⟨T11, X11, e11, st11⟩ := getF X10 hx hZ hown (host := "") (Or.inl (hw _ (List.mem_of_getElem? (i := 33) rfl))) Via.refl e10 S.2.2.1 (g := (mkF m 8 #[.val (.ref r0), .val (.int p1)] [(.ref r0)])) rfl rfl (hb hby d17_8)
  refine Owes.go ?_ st11
  show Owes _ _ _ _ (T11.setTop (mkF m 11 #[.val (.ref r0), .val (.int p1)] [(.ref b)]))
  refine Owes.go ?_ fun t₀ k₀ => XS.iloadN X11.here hx rfl (hb hby d17_11) rfl k₀
  show Owes _ _ _ _ (T11.setTop (mkF m 12 #[.val (.ref r0), .val (.int p1)] [(.int p1), (.ref b)]))
  refine Owes.callS X11 hx hZ hown (hw _ (List.mem_of_getElem? (i := 84) rfl)) (hw _ (List.mem_of_getElem? (i := 85) rfl)) (hw _ (List.mem_of_getElem? (i := 66) rfl)) (hw _ (List.mem_of_getElem? (i := 86) rfl)) (by decide) (argsL := [(.ref b), (.int p1)]) (rest := []) (rm_lca l Z a0 hw [] b p1 h0 n c_ S.2.2.2 zn hzn vf hcat_vf SF hc8 i hi hin) e11 (by rw [hml]; rfl) pd_4 rfl rfl (hb hby d17_12) (by decide) (Nat.le_of_ble_eq_true rfl) (by decide) (by decide) ?_
  rintro T12 _ _ X12 ⟨rfl, rfl, e12⟩
  rw [List.append_nil] at X12
  show Owes _ _ _ _ (T12.setTop (mkF m 15 #[.val (.ref r0), .val (.int p1)] [(.int (c_ i))]))
  exact Owes.retN X12 hx hlk hret (by simp) (hb hby d17_15) (by decide) (by decide) ⟨congrArg (fun z => some (Value.int z)) (own_narC (hc8 i hin)), rfl, e12⟩
theorem d6_0 : decode jdk_52_method_21_code 0 = .ok (.iconst 0, 1) := by decide +kernel
theorem d6_1 : decode jdk_52_method_21_code 1 = .ok (.istore 5, 2) := by decide +kernel
theorem d6_3 : decode jdk_52_method_21_code 3 = .ok (.iload 5, 2) := by decide +kernel
theorem d6_5 : decode jdk_52_method_21_code 5 = .ok (.iload 4, 2) := by decide +kernel
theorem d6_7 : decode jdk_52_method_21_code 7 = .ok (.if_icmp .ge 37, 3) := by decide +kernel
theorem d6_44 : decode jdk_52_method_21_code 44 = .ok (.iload 4, 2) := by decide +kernel
theorem d6_46 : decode jdk_52_method_21_code 46 = .ok (.ireturn, 1) := by decide +kernel
theorem d6_10 : decode jdk_52_method_21_code 10 = .ok (.aload_n 0, 1) := by decide +kernel
theorem d6_11 : decode jdk_52_method_21_code 11 = .ok (.iload_n 1, 1) := by decide +kernel
theorem d6_12 : decode jdk_52_method_21_code 12 = .ok (.caload, 1) := by decide +kernel
theorem d6_13 : decode jdk_52_method_21_code 13 = .ok (.istore 6, 2) := by decide +kernel
theorem d6_15 : decode jdk_52_method_21_code 15 = .ok (.iload 6, 2) := by decide +kernel
theorem d6_17 : decode jdk_52_method_21_code 17 = .ok (.sipush 255, 3) := by decide +kernel
theorem d6_20 : decode jdk_52_method_21_code 20 = .ok (.if_icmp .le 6, 3) := by decide +kernel
theorem d6_26 : decode jdk_52_method_21_code 26 = .ok (.aload_n 2, 1) := by decide +kernel
theorem d6_27 : decode jdk_52_method_21_code 27 = .ok (.iload_n 3, 1) := by decide +kernel
theorem d6_28 : decode jdk_52_method_21_code 28 = .ok (.iload 6, 2) := by decide +kernel
theorem d6_30 : decode jdk_52_method_21_code 30 = .ok (.i2b, 1) := by decide +kernel
theorem d6_31 : decode jdk_52_method_21_code 31 = .ok (.bastore, 1) := by decide +kernel
theorem d6_32 : decode jdk_52_method_21_code 32 = .ok (.iinc 1 1, 3) := by decide +kernel
theorem d6_35 : decode jdk_52_method_21_code 35 = .ok (.iinc 3 1, 3) := by decide +kernel
theorem d6_38 : decode jdk_52_method_21_code 38 = .ok (.iinc 5 1, 3) := by decide +kernel
theorem d6_41 : decode jdk_52_method_21_code 41 = .ok (.goto (-38), 3) := by decide +kernel
theorem ef_cmp5 (m : MethodId) (r0 : Addr) (r2 : Addr) (zn : Int32)  : entryFrame m #[(.ref r0), (.int (0 : Int32)), (.ref r2), (.int (0 : Int32)), (.int zn)] 7 = mkF m 0 #[.val (.ref r0), .val (.int (0 : Int32)), .val (.ref r2), .val (.int (0 : Int32)), .val (.int zn), .unset, .unset] [] := by (first | (simp [entryFrame, mkF, argsToLocals, Value.category]; done) | rfl)
theorem pn_6 : plainFor (⟨"java/lang/StringUTF16", "compress", "([CI[BII)I"⟩ : MethodName) = true := plainFor_of_name (by first | (simp [plainName, overriddenIn]; done) | decide +kernel)
set_option maxRecDepth 65536 in
set_option maxHeartbeats 40000000 in
theorem rm_cmp5 (l : Launch) (Z : State) (a0 : Array Value) (hw : ∀ d ∈ tables_1, d.before a0 Z = true) (ws : List Jvm.Cond) (r0 : Addr) (r2 : Addr) (zn : Int32) (h0 : Heap) (n0 : Nat) (Z0 : n0 ≤ h0.size) (n : Nat) (c_ : Nat → Int32) (G : GA Z h0 r0 .char n (fun i => .int (c_ i))) (hzn : zn.toInt = (n : Int)) (hc8 : C8 n c_) (hn1 : 1 ≤ n) (hn9 : n ≤ 16) (g2 : n0 ≤ r2) (wf0 : Nat → Int32) (G2 : GA Z h0 r2 .byte n (fun i => .int (wf0 i))) :
    OMet l (⟨"java/lang/StringUTF16", "compress", "([CI[BII)I"⟩ : MethodName) jdk_52_method_21_code 7 (some .int) ws ({ frames := 0, cells := 0, slots := 0, locals := 0 } : Room) #[(.ref r0), (.int (0 : Int32)), (.ref r2), (.int (0 : Int32)), (.int zn)] Z h0 (fun v h L => v = some (.int zn) ∧ Fr n0 L ∧ Keep h0 h [r2] ∧ StK Z h0 h ∧ GA Z h r2 .byte n (fun i => .int (c_ i).toInt8.toInt32)) := by
  refine OMet.of pn_6 (fun m => ef_cmp5 m r0 r2 zn ) ?_
  intro p e s m below meth c s₁ hx hby hml hown hnm hret hlk hZ X0 e0
  have nrc : r0 ∉ [r2] := own_ni1' (GA.ne G G2 (by decide))
  refine Owes.go ?_ fun t₀ k₀ => XS.iconst X0.here hx rfl (hb hby d6_0) k₀
  show Owes _ _ _ _ (s₁.setTop (mkF m 1 #[.val (.ref r0), .val (.int (0 : Int32)), .val (.ref r2), .val (.int (0 : Int32)), .val (.int zn), .unset, .unset] [(.int (0 : Int32))]))
  refine Owes.go ?_ fun t₀ k₀ => XS.istore X0.here hx rfl (hb hby d6_1) rfl (l' := #[.val (.ref r0), .val (.int (0 : Int32)), .val (.ref r2), .val (.int (0 : Int32)), .val (.int zn), .val (.int (0 : Int32)), .unset]) rfl k₀
  show Owes _ _ _ _ (s₁.setTop (mkF m 3 #[.val (.ref r0), .val (.int (0 : Int32)), .val (.ref r2), .val (.int (0 : Int32)), .val (.int zn), .val (.int (0 : Int32)), .unset] []))
  have lp : ∀ (r k : Nat), k + r = n → ∀ (aI bI iI : Int32) (T1 : State) (locs : List Loc) (h : Heap) (wf : Nat → Int32) (s6 : Slot), One s6 → Stand p l e ({ frames := 0, cells := 0, slots := 0, locals := 0 } : Room) s m #[(.ref r0), (.int (0 : Int32)), (.ref r2), (.int (0 : Int32)), (.int zn)] below meth c T1 locs 0 0 → T1.heap = h → Fr n0 locs → Keep h0 h [r2] → StK Z h0 h → GA Z h r2 .byte n (fun i => .int (wf i)) → (∀ i, i < k → wf i = (c_ i).toInt8.toInt32) → aI.toInt = (k : Int) → bI.toInt = (k : Int) → iI.toInt = (k : Int) → Owes p e below (EndN s (fun v h L => v = some (.int zn) ∧ Fr n0 L ∧ Keep h0 h [r2] ∧ StK Z h0 h ∧ GA Z h r2 .byte n (fun i => .int (c_ i).toInt8.toInt32)) ({ frames := 0, cells := 0, slots := 0, locals := 0 } : Room).cells ({ frames := 0, cells := 0, slots := 0, locals := 0 } : Room).slots) (T1.setTop (mkF m 3 #[.val (.ref r0), .val (.int aI), .val (.ref r2), .val (.int bI), .val (.int zn), .val (.int iI), s6] [])) := by
    intro r
    induction r with
    | zero =>
      intro k hk aI bI iI T1 locs h wf s6 o6 X eT N K ST GW HW ha hb' hi
      have hkn : k = n := by omega
      subst hkn
      refine Owes.go ?_ fun t₀ k₀ => XS.iload X.here hx rfl (hb hby d6_3) rfl k₀
      show Owes _ _ _ _ (T1.setTop (mkF m 5 #[.val (.ref r0), .val (.int aI), .val (.ref r2), .val (.int bI), .val (.int zn), .val (.int iI), s6] [(.int iI)]))
      refine Owes.go ?_ fun t₀ k₀ => XS.iload X.here hx rfl (hb hby d6_5) rfl k₀
      show Owes _ _ _ _ (T1.setTop (mkF m 7 #[.val (.ref r0), .val (.int aI), .val (.ref r2), .val (.int bI), .val (.int zn), .val (.int iI), s6] [(.int zn), (.int iI)]))
      refine Owes.go ?_ fun t₀ k₀ => XS.icmpYes X.here hx rfl (pc0 := 7) (pc' := 44) rfl (hb hby d6_7) rfl (flt (own_nlti hi hzn (by omega))).2.1 (by decide) (by decide) k₀
      show Owes _ _ _ _ (T1.setTop (mkF m 44 #[.val (.ref r0), .val (.int aI), .val (.ref r2), .val (.int bI), .val (.int zn), .val (.int iI), s6] []))
      refine Owes.go ?_ fun t₀ k₀ => XS.iload X.here hx rfl (hb hby d6_44) rfl k₀
      show Owes _ _ _ _ (T1.setTop (mkF m 46 #[.val (.ref r0), .val (.int aI), .val (.ref r2), .val (.int bI), .val (.int zn), .val (.int iI), s6] [(.int zn)]))
      exact Owes.retI X hx hlk hret (hb hby d6_46) (by decide) (by decide) (by rw [eT]; exact ⟨rfl, N, K, ST, GW.congr fun i hi' => by rw [HW i hi']⟩)
    | succ r ih =>
      intro k hk aI bI iI T1 locs h wf s6 o6 X eT N K ST GW HW ha hb' hi
      have hkn : k < n := by omega
      refine Owes.go ?_ fun t₀ k₀ => XS.iload X.here hx rfl (hb hby d6_3) rfl k₀
      show Owes _ _ _ _ (T1.setTop (mkF m 5 #[.val (.ref r0), .val (.int aI), .val (.ref r2), .val (.int bI), .val (.int zn), .val (.int iI), s6] [(.int iI)]))
      refine Owes.go ?_ fun t₀ k₀ => XS.iload X.here hx rfl (hb hby d6_5) rfl k₀
      show Owes _ _ _ _ (T1.setTop (mkF m 7 #[.val (.ref r0), .val (.int aI), .val (.ref r2), .val (.int bI), .val (.int zn), .val (.int iI), s6] [(.int zn), (.int iI)]))
      refine Owes.go ?_ fun t₀ k₀ => XS.icmpNo X.here hx rfl (hb hby d6_7) rfl (tlt (own_lti hi hzn hkn)).2.1 k₀
      show Owes _ _ _ _ (T1.setTop (mkF m 10 #[.val (.ref r0), .val (.int aI), .val (.ref r2), .val (.int bI), .val (.int zn), .val (.int iI), s6] []))
      refine Owes.go ?_ fun t₀ k₀ => XS.aloadN X.here hx rfl (hb hby d6_10) rfl rfl k₀
      show Owes _ _ _ _ (T1.setTop (mkF m 11 #[.val (.ref r0), .val (.int aI), .val (.ref r2), .val (.int bI), .val (.int zn), .val (.int iI), s6] [(.ref r0)]))
      refine Owes.go ?_ fun t₀ k₀ => XS.iloadN X.here hx rfl (hb hby d6_11) rfl k₀
      show Owes _ _ _ _ (T1.setTop (mkF m 12 #[.val (.ref r0), .val (.int aI), .val (.ref r2), .val (.int bI), .val (.int zn), .val (.int iI), s6] [(.int aI), (.ref r0)]))
      refine Owes.gC X hx hZ eT (GA.keep G K nrc) ha hkn (v := .int (c_ k)) rfl (hb hby d6_12) ?_
      show Owes _ _ _ _ (T1.setTop (mkF m 13 #[.val (.ref r0), .val (.int aI), .val (.ref r2), .val (.int bI), .val (.int zn), .val (.int iI), s6] [(.int (c_ k))]))
      refine Owes.go ?_ fun t₀ k₀ => XS.istore X.here hx rfl (hb hby d6_13) rfl (l' := #[.val (.ref r0), .val (.int aI), .val (.ref r2), .val (.int bI), .val (.int zn), .val (.int iI), .val (.int (c_ k))]) (XS.store1 rfl o6 rfl) k₀
      show Owes _ _ _ _ (T1.setTop (mkF m 15 #[.val (.ref r0), .val (.int aI), .val (.ref r2), .val (.int bI), .val (.int zn), .val (.int iI), .val (.int (c_ k))] []))
      refine Owes.go ?_ fun t₀ k₀ => XS.iload X.here hx rfl (hb hby d6_15) rfl k₀
      show Owes _ _ _ _ (T1.setTop (mkF m 17 #[.val (.ref r0), .val (.int aI), .val (.ref r2), .val (.int bI), .val (.int zn), .val (.int iI), .val (.int (c_ k))] [(.int (c_ k))]))
      refine Owes.go ?_ fun t₀ k₀ => XS.sipush X.here hx rfl (hb hby d6_17) k₀
      show Owes _ _ _ _ (T1.setTop (mkF m 20 #[.val (.ref r0), .val (.int aI), .val (.ref r2), .val (.int bI), .val (.int zn), .val (.int iI), .val (.int (c_ k))] [(.int (255 : Int32)), (.int (c_ k))]))
      refine Owes.go ?_ fun t₀ k₀ => XS.icmpYes X.here hx rfl (pc0 := 20) (pc' := 26) rfl (hb hby d6_20) rfl (flt (own_c255 (hc8 k hkn))).2.2.2 (by decide) (by decide) k₀
      show Owes _ _ _ _ (T1.setTop (mkF m 26 #[.val (.ref r0), .val (.int aI), .val (.ref r2), .val (.int bI), .val (.int zn), .val (.int iI), .val (.int (c_ k))] []))
      refine Owes.go ?_ fun t₀ k₀ => XS.aloadN X.here hx rfl (hb hby d6_26) rfl rfl k₀
      show Owes _ _ _ _ (T1.setTop (mkF m 27 #[.val (.ref r0), .val (.int aI), .val (.ref r2), .val (.int bI), .val (.int zn), .val (.int iI), .val (.int (c_ k))] [(.ref r2)]))
      refine Owes.go ?_ fun t₀ k₀ => XS.iloadN X.here hx rfl (hb hby d6_27) rfl k₀
      show Owes _ _ _ _ (T1.setTop (mkF m 28 #[.val (.ref r0), .val (.int aI), .val (.ref r2), .val (.int bI), .val (.int zn), .val (.int iI), .val (.int (c_ k))] [(.int bI), (.ref r2)]))
      refine Owes.go ?_ fun t₀ k₀ => XS.iload X.here hx rfl (hb hby d6_28) rfl k₀
      show Owes _ _ _ _ (T1.setTop (mkF m 30 #[.val (.ref r0), .val (.int aI), .val (.ref r2), .val (.int bI), .val (.int zn), .val (.int iI), .val (.int (c_ k))] [(.int (c_ k)), (.int bI), (.ref r2)]))
      refine Owes.go ?_ fun t₀ k₀ => XS.i2b X.here hx rfl (hb hby d6_30) rfl k₀
      show Owes _ _ _ _ (T1.setTop (mkF m 31 #[.val (.ref r0), .val (.int aI), .val (.ref r2), .val (.int bI), .val (.int zn), .val (.int iI), .val (.int (c_ k))] [(.int ((c_ k).toInt8.toInt32)), (.int bI), (.ref r2)]))
      refine Owes.sBy X hx hZ eT GW hb' hkn own_narB (hb hby d6_31) ?_
      intro T13 h13 X13 e13 W13 G13
      have N13 := Fr.snoc X13 N g2
      have GX13 : GA Z h13 r2 .byte n (fun i => .int (upd wf k (c_ k).toInt8.toInt32 i)) := G13.congr fun i _ => by
        by_cases q : i = k
        · rw [q, upd_same, upd_same]
        · rw [upd_ne _ _ q, upd_ne _ _ q]
      show Owes _ _ _ _ (T13.setTop (mkF m 32 #[.val (.ref r0), .val (.int aI), .val (.ref r2), .val (.int bI), .val (.int zn), .val (.int iI), .val (.int (c_ k))] []))
      refine Owes.go ?_ fun t₀ k₀ => XS.iinc X13.here hx rfl (hb hby d6_32) rfl (l' := #[.val (.ref r0), .val (.int (aI + (1 : Int32))), .val (.ref r2), .val (.int bI), .val (.int zn), .val (.int iI), .val (.int (c_ k))]) rfl k₀
      show Owes _ _ _ _ (T13.setTop (mkF m 35 #[.val (.ref r0), .val (.int (aI + (1 : Int32))), .val (.ref r2), .val (.int bI), .val (.int zn), .val (.int iI), .val (.int (c_ k))] []))
      refine Owes.go ?_ fun t₀ k₀ => XS.iinc X13.here hx rfl (hb hby d6_35) rfl (l' := #[.val (.ref r0), .val (.int (aI + (1 : Int32))), .val (.ref r2), .val (.int (bI + (1 : Int32))), .val (.int zn), .val (.int iI), .val (.int (c_ k))]) rfl k₀
      show Owes _ _ _ _ (T13.setTop (mkF m 38 #[.val (.ref r0), .val (.int (aI + (1 : Int32))), .val (.ref r2), .val (.int (bI + (1 : Int32))), .val (.int zn), .val (.int iI), .val (.int (c_ k))] []))
      refine Owes.go ?_ fun t₀ k₀ => XS.iinc X13.here hx rfl (hb hby d6_38) rfl (l' := #[.val (.ref r0), .val (.int (aI + (1 : Int32))), .val (.ref r2), .val (.int (bI + (1 : Int32))), .val (.int zn), .val (.int (iI + (1 : Int32))), .val (.int (c_ k))]) rfl k₀
      show Owes _ _ _ _ (T13.setTop (mkF m 41 #[.val (.ref r0), .val (.int (aI + (1 : Int32))), .val (.ref r2), .val (.int (bI + (1 : Int32))), .val (.int zn), .val (.int (iI + (1 : Int32))), .val (.int (c_ k))] []))
      refine Owes.go ?_ fun t₀ k₀ => XS.goto X13.here hx rfl (pc0 := 41) (pc' := 3) rfl (hb hby d6_41) (by decide) (by decide) k₀
      show Owes _ _ _ _ (T13.setTop (mkF m 3 #[.val (.ref r0), .val (.int (aI + (1 : Int32))), .val (.ref r2), .val (.int (bI + (1 : Int32))), .val (.int zn), .val (.int (iI + (1 : Int32))), .val (.int (c_ k))] []))
      exact ih (k + 1) (by omega) _ _ _ _ _ _ _ _ (One.val rfl) X13 e13 N13 (K.wr W13 (Or.inl (List.mem_singleton.mpr rfl))) (ST.wr W13) GX13 (fun i hi' => by
        by_cases q : i = k
        · rw [q, upd_same]
        · rw [upd_ne _ _ q]; exact HW i (by omega)) (own_inc ha (by omega)) (own_inc hb' (by omega)) (own_inc hi (by omega))
  exact lp n 0 (by omega) _ _ _ _ _ _ wf0 .unset One.u X0 e0 (Fr.nil n0) (Keep.refl h0 _) (StK.refl Z h0) G2 (fun i hi' => absurd hi' (Nat.not_lt_zero _)) rfl rfl rfl
theorem d5_0 : decode jdk_52_method_16_code 0 = .ok (.iload_n 2, 1) := by decide +kernel
theorem d5_1 : decode jdk_52_method_16_code 1 = .ok (.newarray .byte, 2) := by decide +kernel
theorem d5_3 : decode jdk_52_method_16_code 3 = .ok (.astore_n 3, 1) := by decide +kernel
theorem d5_4 : decode jdk_52_method_16_code 4 = .ok (.aload_n 0, 1) := by decide +kernel
theorem d5_5 : decode jdk_52_method_16_code 5 = .ok (.iload_n 1, 1) := by decide +kernel
theorem d5_6 : decode jdk_52_method_16_code 6 = .ok (.aload_n 3, 1) := by decide +kernel
theorem d5_7 : decode jdk_52_method_16_code 7 = .ok (.iconst 0, 1) := by decide +kernel
theorem d5_8 : decode jdk_52_method_16_code 8 = .ok (.iload_n 2, 1) := by decide +kernel
theorem d5_9 : decode jdk_52_method_16_code 9 = .ok (.invokestatic 115, 3) := by decide +kernel
theorem pd_5 : parseMethodDescriptor "([CI[BII)I" = some ⟨[(.array .char), .int, (.array .byte), .int, .int], some .int⟩ := by decide +kernel
theorem d5_12 : decode jdk_52_method_16_code 12 = .ok (.istore 4, 2) := by decide +kernel
theorem d5_14 : decode jdk_52_method_16_code 14 = .ok (.iload 4, 2) := by decide +kernel
theorem d5_16 : decode jdk_52_method_16_code 16 = .ok (.iload_n 2, 1) := by decide +kernel
theorem d5_17 : decode jdk_52_method_16_code 17 = .ok (.if_icmp .eq 40, 3) := by decide +kernel
theorem d5_57 : decode jdk_52_method_16_code 57 = .ok (.aload_n 3, 1) := by decide +kernel
theorem d5_58 : decode jdk_52_method_16_code 58 = .ok (.areturn, 1) := by decide +kernel
theorem ef_cmp3 (m : MethodId) (r0 : Addr) (zn : Int32)  : entryFrame m #[(.ref r0), (.int (0 : Int32)), (.int zn)] 6 = mkF m 0 #[.val (.ref r0), .val (.int (0 : Int32)), .val (.int zn), .unset, .unset, .unset] [] := by (first | (simp [entryFrame, mkF, argsToLocals, Value.category]; done) | rfl)
theorem pn_5 : plainFor (⟨"java/lang/StringUTF16", "compress", "([CII)[B"⟩ : MethodName) = true := plainFor_of_name (by first | (simp [plainName, overriddenIn]; done) | decide +kernel)
set_option maxRecDepth 65536 in
set_option maxHeartbeats 40000000 in
theorem rm_cmp3 (l : Launch) (Z : State) (a0 : Array Value) (hw : ∀ d ∈ tables_1, d.before a0 Z = true) (ws : List Jvm.Cond) (r0 : Addr) (zn : Int32) (h0 : Heap) (n0 : Nat) (Z0 : n0 ≤ h0.size) (n : Nat) (c_ : Nat → Int32) (G : GA Z h0 r0 .char n (fun i => .int (c_ i))) (hzn : zn.toInt = (n : Int)) (hc8 : C8 n c_) (hn1 : 1 ≤ n) (hn9 : n ≤ 16) :
    OMet l (⟨"java/lang/StringUTF16", "compress", "([CII)[B"⟩ : MethodName) jdk_52_method_16_code 6 (some (.array .byte)) ws ({ frames := 1, cells := 1, slots := 16, locals := 20 } : Room) #[(.ref r0), (.int (0 : Int32)), (.int zn)] Z h0 (fun v h L => ∃ r : Addr, v = some (.ref r) ∧ Fr n0 L ∧ Keep h0 h [] ∧ StK Z h0 h ∧ GA Z h r .byte n (fun i => .int (c_ i).toInt8.toInt32) ∧ Exa Z h r "[B") := by
  refine OMet.of pn_5 (fun m => ef_cmp3 m r0 zn ) ?_
  intro p e s m below meth c s₁ hx hby hml hown hnm hret hlk hZ X0 e0
  have N0 := Fr.nil n0
  have K0 := Keep.refl h0 []
  have ST0 := StK.refl Z h0
  refine Owes.go ?_ fun t₀ k₀ => XS.iloadN X0.here hx rfl (hb hby d5_0) rfl k₀
  show Owes _ _ _ _ (s₁.setTop (mkF m 1 #[.val (.ref r0), .val (.int (0 : Int32)), .val (.int zn), .unset, .unset, .unset] [(.int zn)]))
  refine Owes.newArr X0 hx hZ (aty := .byte) (hw _ (List.mem_of_getElem? (i := 24) rfl)) e0 (n := n) hzn (by omega) (by decide) (show 0 + n ≤ 16 by omega) (ad := "[B") (by decide) (hb hby d5_1) ?_
  intro T14 h14 X14 e14 E14 G14 EX14
  obtain ⟨r3, gr3⟩ : ∃ z, z = h0.size := ⟨_, rfl⟩
  rw [← gr3] at G14 EX14 ⊢
  have lt_r0_r3 : r0 < r3 := by rw [gr3]; exact (G).lt
  have ge_r3 : h0.size ≤ r3 := by rw [gr3]; exact K0.1
  have gn_r3 : n0 ≤ r3 := Nat.le_trans Z0 ge_r3
  have G_r0_14 := GA.ext G E14
  have K_14 := K0.ext E14
  have ST_14 := ST0.ext E14
  have G14 : GA Z h14 r3 .byte n (fun i => .int ((fun _ => (0 : Int32)) i)) := G14
  show Owes _ _ _ _ (T14.setTop (mkF m 3 #[.val (.ref r0), .val (.int (0 : Int32)), .val (.int zn), .unset, .unset, .unset] [(.ref r3)]))
  refine Owes.go ?_ fun t₀ k₀ => XS.astoreN X14.here hx rfl (hb hby d5_3) rfl rfl (l' := #[.val (.ref r0), .val (.int (0 : Int32)), .val (.int zn), .val (.ref r3), .unset, .unset]) rfl k₀
  show Owes _ _ _ _ (T14.setTop (mkF m 4 #[.val (.ref r0), .val (.int (0 : Int32)), .val (.int zn), .val (.ref r3), .unset, .unset] []))
  refine Owes.go ?_ fun t₀ k₀ => XS.aloadN X14.here hx rfl (hb hby d5_4) rfl rfl k₀
  show Owes _ _ _ _ (T14.setTop (mkF m 5 #[.val (.ref r0), .val (.int (0 : Int32)), .val (.int zn), .val (.ref r3), .unset, .unset] [(.ref r0)]))
  refine Owes.go ?_ fun t₀ k₀ => XS.iloadN X14.here hx rfl (hb hby d5_5) rfl k₀
  show Owes _ _ _ _ (T14.setTop (mkF m 6 #[.val (.ref r0), .val (.int (0 : Int32)), .val (.int zn), .val (.ref r3), .unset, .unset] [(.int (0 : Int32)), (.ref r0)]))
  refine Owes.go ?_ fun t₀ k₀ => XS.aloadN X14.here hx rfl (hb hby d5_6) rfl rfl k₀
  show Owes _ _ _ _ (T14.setTop (mkF m 7 #[.val (.ref r0), .val (.int (0 : Int32)), .val (.int zn), .val (.ref r3), .unset, .unset] [(.ref r3), (.int (0 : Int32)), (.ref r0)]))
  refine Owes.go ?_ fun t₀ k₀ => XS.iconst X14.here hx rfl (hb hby d5_7) k₀
  show Owes _ _ _ _ (T14.setTop (mkF m 8 #[.val (.ref r0), .val (.int (0 : Int32)), .val (.int zn), .val (.ref r3), .unset, .unset] [(.int (0 : Int32)), (.ref r3), (.int (0 : Int32)), (.ref r0)]))
  refine Owes.go ?_ fun t₀ k₀ => XS.iloadN X14.here hx rfl (hb hby d5_8) rfl k₀
  show Owes _ _ _ _ (T14.setTop (mkF m 9 #[.val (.ref r0), .val (.int (0 : Int32)), .val (.int zn), .val (.ref r3), .unset, .unset] [(.int zn), (.int (0 : Int32)), (.ref r3), (.int (0 : Int32)), (.ref r0)]))
  refine Owes.callS X14 hx hZ hown (hw _ (List.mem_of_getElem? (i := 25) rfl)) (hw _ (List.mem_of_getElem? (i := 26) rfl)) (hw _ (List.mem_of_getElem? (i := 22) rfl)) (hw _ (List.mem_of_getElem? (i := 27) rfl)) (by decide) (argsL := [(.ref r0), (.int (0 : Int32)), (.ref r3), (.int (0 : Int32)), (.int zn)]) (rest := []) (rm_cmp5 l Z a0 hw [] r0 r3 zn h14 n0 (Nat.le_trans Z0 K_14.1) n c_ G_r0_14 hzn hc8 hn1 hn9 gn_r3 (fun _ => 0) G14) e14 (by rw [hml]; rfl) pd_5 rfl rfl (hb hby d5_9) (by decide) (Nat.le_of_ble_eq_true rfl) (by decide) (show 0 + n + 0 ≤ 16 by omega) ?_
  rintro T15 v15 L15 X15 ⟨rfl, N15, K15, ST15, GR⟩
  have NF15 := Fr.app N0 N15
  have EXR := Exa.keep EX14 K15
  have KK := K_14.trans K15 (fun x hx => Or.inr (by rw [List.mem_singleton.mp hx]; exact ge_r3))
  have STT := ST_14.trans ST15
  show Owes _ _ _ _ (T15.setTop (mkF m 12 #[.val (.ref r0), .val (.int (0 : Int32)), .val (.int zn), .val (.ref r3), .unset, .unset] [(.int zn)]))
  refine Owes.go ?_ fun t₀ k₀ => XS.istore X15.here hx rfl (hb hby d5_12) rfl (l' := #[.val (.ref r0), .val (.int (0 : Int32)), .val (.int zn), .val (.ref r3), .val (.int zn), .unset]) rfl k₀
  show Owes _ _ _ _ (T15.setTop (mkF m 14 #[.val (.ref r0), .val (.int (0 : Int32)), .val (.int zn), .val (.ref r3), .val (.int zn), .unset] []))
  refine Owes.go ?_ fun t₀ k₀ => XS.iload X15.here hx rfl (hb hby d5_14) rfl k₀
  show Owes _ _ _ _ (T15.setTop (mkF m 16 #[.val (.ref r0), .val (.int (0 : Int32)), .val (.int zn), .val (.ref r3), .val (.int zn), .unset] [(.int zn)]))
  refine Owes.go ?_ fun t₀ k₀ => XS.iloadN X15.here hx rfl (hb hby d5_16) rfl k₀
  show Owes _ _ _ _ (T15.setTop (mkF m 17 #[.val (.ref r0), .val (.int (0 : Int32)), .val (.int zn), .val (.ref r3), .val (.int zn), .unset] [(.int zn), (.int zn)]))
  refine Owes.go ?_ fun t₀ k₀ => XS.icmpYes X15.here hx rfl (pc0 := 17) (pc' := 57) rfl (hb hby d5_17) rfl (teq (rfl : zn = zn)).1 (by decide) (by decide) k₀
  show Owes _ _ _ _ (T15.setTop (mkF m 57 #[.val (.ref r0), .val (.int (0 : Int32)), .val (.int zn), .val (.ref r3), .val (.int zn), .unset] []))
  refine Owes.go ?_ fun t₀ k₀ => XS.aloadN X15.here hx rfl (hb hby d5_57) rfl rfl k₀
  show Owes _ _ _ _ (T15.setTop (mkF m 58 #[.val (.ref r0), .val (.int (0 : Int32)), .val (.int zn), .val (.ref r3), .val (.int zn), .unset] [(.ref r3)]))
  exact Owes.retA X15 hx hlk hret rfl rfl rfl (hb hby d5_58) (by decide) (show 0 + n + 0 ≤ 16 by omega) ⟨r3, rfl, NF15, KK, STT, GR, EXR⟩
theorem d7_0 : decode jdk_52_method_15_code 0 = .ok (.iload_n 1, 1) := by decide +kernel
theorem d7_1 : decode jdk_52_method_15_code 1 = .ok (.aload_n 0, 1) := by decide +kernel
theorem d7_2 : decode jdk_52_method_15_code 2 = .ok (.arraylength, 1) := by decide +kernel
theorem d7_3 : decode jdk_52_method_15_code 3 = .ok (.isub, 1) := by decide +kernel
theorem d7_4 : decode jdk_52_method_15_code 4 = .ok (.bipush 31, 2) := by decide +kernel
theorem d7_6 : decode jdk_52_method_15_code 6 = .ok (.iushr, 1) := by decide +kernel
theorem d7_7 : decode jdk_52_method_15_code 7 = .ok (.i2b, 1) := by decide +kernel
theorem d7_8 : decode jdk_52_method_15_code 8 = .ok (.ireturn, 1) := by decide +kernel
theorem ef_cfa (m : MethodId) (r0 : Addr) (zn : Int32)  : entryFrame m #[(.ref r0), (.int zn)] 2 = mkF m 0 #[.val (.ref r0), .val (.int zn)] [] := by (first | (simp [entryFrame, mkF, argsToLocals, Value.category]; done) | rfl)
theorem pn_7 : plainFor (⟨"java/lang/StringUTF16", "coderFromArrayLen", "([BI)B"⟩ : MethodName) = true := plainFor_of_name (by first | (simp [plainName, overriddenIn]; done) | decide +kernel)
set_option maxRecDepth 65536 in
set_option maxHeartbeats 40000000 in
theorem rm_cfa (l : Launch) (Z : State) (a0 : Array Value) (hw : ∀ d ∈ tables_1, d.before a0 Z = true) (ws : List Jvm.Cond) (r0 : Addr) (zn : Int32) (h0 : Heap) (n : Nat) (c_ : Nat → Int32) (G : GA Z h0 r0 .byte n (fun i => .int (c_ i).toInt8.toInt32)) (hzn : zn.toInt = (n : Int)) :
    OMet l (⟨"java/lang/StringUTF16", "coderFromArrayLen", "([BI)B"⟩ : MethodName) jdk_52_method_15_code 2 (some .byte) ws ({ frames := 0, cells := 0, slots := 0, locals := 0 } : Room) #[(.ref r0), (.int zn)] Z h0 (fun v h L => v = some (.int (0 : Int32)) ∧ L = [] ∧ h = h0) := by
  refine OMet.of pn_7 (fun m => ef_cfa m r0 zn ) ?_
  intro p e s m below meth c s₁ hx hby hml hown hnm hret hlk hZ X0 e0
  refine Owes.go ?_ fun t₀ k₀ => XS.iloadN X0.here hx rfl (hb hby d7_0) rfl k₀
  show Owes _ _ _ _ (s₁.setTop (mkF m 1 #[.val (.ref r0), .val (.int zn)] [(.int zn)]))
  refine Owes.go ?_ fun t₀ k₀ => XS.aloadN X0.here hx rfl (hb hby d7_1) rfl rfl k₀
  show Owes _ _ _ _ (s₁.setTop (mkF m 2 #[.val (.ref r0), .val (.int zn)] [(.ref r0), (.int zn)]))
  refine Owes.glen X0 hx hZ e0 G (z := zn) hzn (hb hby d7_2) ?_
  show Owes _ _ _ _ (s₁.setTop (mkF m 3 #[.val (.ref r0), .val (.int zn)] [(.int zn), (.int zn)]))
  refine Owes.go ?_ fun t₀ k₀ => XS.isub X0.here hx rfl (hb hby d7_3) rfl k₀
  show Owes _ _ _ _ (s₁.setTop (mkF m 4 #[.val (.ref r0), .val (.int zn)] [(.int (zn - zn))]))
  refine Owes.go ?_ fun t₀ k₀ => XS.bipush X0.here hx rfl (hb hby d7_4) k₀
  show Owes _ _ _ _ (s₁.setTop (mkF m 6 #[.val (.ref r0), .val (.int zn)] [(.int (31 : Int32)), (.int (zn - zn))]))
  refine Owes.go ?_ fun t₀ k₀ => XS.iushr X0.here hx rfl (hb hby d7_6) rfl k₀
  show Owes _ _ _ _ (s₁.setTop (mkF m 7 #[.val (.ref r0), .val (.int zn)] [(.int (((zn - zn).toUInt32 >>> ((31 : Int32) &&& 31).toUInt32).toInt32))]))
  refine Owes.go ?_ fun t₀ k₀ => XS.i2b X0.here hx rfl (hb hby d7_7) rfl k₀
  show Owes _ _ _ _ (s₁.setTop (mkF m 8 #[.val (.ref r0), .val (.int zn)] [(.int ((((zn - zn).toUInt32 >>> ((31 : Int32) &&& 31).toUInt32).toInt32).toInt8.toInt32))]))
  exact Owes.retN X0 hx hlk hret (by simp) (hb hby d7_8) (by decide) (by decide) ⟨congrArg (fun z => some (Value.int z)) (by rw [Int32.sub_self]; decide), rfl, e0⟩
theorem d3_0 : decode jdk_42_method_149_code 0 = .ok (.aload_n 0, 1) := by decide +kernel
theorem d3_1 : decode jdk_42_method_149_code 1 = .ok (.invokespecial 1, 3) := by decide +kernel
theorem d3_4 : decode jdk_42_method_149_code 4 = .ok (.iload_n 3, 1) := by decide +kernel
theorem d3_5 : decode jdk_42_method_149_code 5 = .ok (.ifCond .ne 22, 3) := by decide +kernel
theorem d3_27 : decode jdk_42_method_149_code 27 = .ok (.getstatic 38, 3) := by decide +kernel
theorem d3_30 : decode jdk_42_method_149_code 30 = .ok (.ifCond .eq 28, 3) := by decide +kernel
theorem d3_33 : decode jdk_42_method_149_code 33 = .ok (.aload_n 1, 1) := by decide +kernel
theorem d3_34 : decode jdk_42_method_149_code 34 = .ok (.iload_n 2, 1) := by decide +kernel
theorem d3_35 : decode jdk_42_method_149_code 35 = .ok (.iload_n 3, 1) := by decide +kernel
theorem d3_36 : decode jdk_42_method_149_code 36 = .ok (.invokestatic 177, 3) := by decide +kernel
theorem pd_6 : parseMethodDescriptor "([CII)[B" = some ⟨[(.array .char), .int, .int], some (.array .byte)⟩ := by decide +kernel
theorem d3_39 : decode jdk_42_method_149_code 39 = .ok (.astore 5, 2) := by decide +kernel
theorem d3_41 : decode jdk_42_method_149_code 41 = .ok (.aload_n 0, 1) := by decide +kernel
theorem d3_42 : decode jdk_42_method_149_code 42 = .ok (.aload 5, 2) := by decide +kernel
theorem d3_44 : decode jdk_42_method_149_code 44 = .ok (.iload_n 3, 1) := by decide +kernel
theorem d3_45 : decode jdk_42_method_149_code 45 = .ok (.invokestatic 47, 3) := by decide +kernel
theorem pd_7 : parseMethodDescriptor "([BI)B" = some ⟨[(.array .byte), .int], some .byte⟩ := by decide +kernel
theorem d3_48 : decode jdk_42_method_149_code 48 = .ok (.putfield 15, 3) := by decide +kernel
theorem d3_51 : decode jdk_42_method_149_code 51 = .ok (.aload_n 0, 1) := by decide +kernel
theorem d3_52 : decode jdk_42_method_149_code 52 = .ok (.aload 5, 2) := by decide +kernel
theorem d3_54 : decode jdk_42_method_149_code 54 = .ok (.putfield 9, 3) := by decide +kernel
theorem d3_57 : decode jdk_42_method_149_code 57 = .ok (.return_, 1) := by decide +kernel
theorem ef_in4 (m : MethodId) (r0 : Addr) (r1 : Addr) (zn : Int32)  : entryFrame m #[(.ref r0), (.ref r1), (.int (0 : Int32)), (.int zn), .null] 6 = mkF m 0 #[.val (.ref r0), .val (.ref r1), .val (.int (0 : Int32)), .val (.int zn), .val .null, .unset] [] := by (first | (simp [entryFrame, mkF, argsToLocals, Value.category]; done) | rfl)
theorem pn_3 : plainFor (⟨"java/lang/String", "<init>", "([CIILjava/lang/Void;)V"⟩ : MethodName) = true := plainFor_of_name (by first | (simp [plainName, overriddenIn]; done) | decide +kernel)
set_option maxRecDepth 65536 in
set_option maxHeartbeats 40000000 in
theorem rm_in4 (l : Launch) (Z : State) (a0 : Array Value) (hw : ∀ d ∈ tables_1, d.before a0 Z = true) (ws : List Jvm.Cond) (r0 : Addr) (r1 : Addr) (zn : Int32) (h0 : Heap) (n0 : Nat) (Z0 : n0 ≤ h0.size) (n : Nat) (c_ : Nat → Int32) (G : GA Z h0 r1 .char n (fun i => .int (c_ i))) (hzn : zn.toInt = (n : Int)) (hc8 : C8 n c_) (hn1 : 1 ≤ n) (hn9 : n ≤ 16) (g0 : n0 ≤ r0) (E0 : Exa Z h0 r0 "java/lang/String") (F_coder : Fld Z h0 r0 "java/lang/String" "coder" "B" (.int 0)) (F_value : Fld Z h0 r0 "java/lang/String" "value" "[B" .null) (cs : Int32) (SC : Sta Z h0 "java/lang/String" "COMPACT_STRINGS" "Z" (.int cs)) (hcs : ¬ cs = (0 : Int32)) :
    OMet l (⟨"java/lang/String", "<init>", "([CIILjava/lang/Void;)V"⟩ : MethodName) jdk_42_method_149_code 6 none ws ({ frames := 2, cells := 1, slots := 16, locals := 42 } : Room) #[(.ref r0), (.ref r1), (.int (0 : Int32)), (.int zn), .null] Z h0 (fun v h L => v = none ∧ Fr n0 L ∧ Keep h0 h [r0] ∧ StK Z h0 h ∧ ∃ b : Addr, STR Z h r0 b n c_) := by
  refine OMet.of pn_3 (fun m => ef_in4 m r0 r1 zn ) ?_
  intro p e s m below meth c s₁ hx hby hml hown hnm hret hlk hZ X0 e0
  have N0 := Fr.nil n0
  have K0 := Keep.refl h0 [r0]
  have ST0 := StK.refl Z h0
  have wi := (hw _ (List.mem_of_getElem? (i := 7) rfl))
  refine Owes.go ?_ fun t₀ k₀ => XS.aloadN X0.here hx rfl (hb hby d3_0) rfl rfl k₀
  show Owes _ _ _ _ (s₁.setTop (mkF m 1 #[.val (.ref r0), .val (.ref r1), .val (.int (0 : Int32)), .val (.int zn), .val .null, .unset] [(.ref r0)]))
  refine Owes.initO X0 hx hZ hown (hw _ (List.mem_of_getElem? (i := 16) rfl)) (hw _ (List.mem_of_getElem? (i := 17) rfl)) (hw _ (List.mem_of_getElem? (i := 18) rfl)) e0 (by rw [hml]; rfl) (hb hby d3_1) (by decide) (Nat.le_of_ble_eq_true rfl) ?_
  intro T16 X16 e16
  show Owes _ _ _ _ (T16.setTop (mkF m 4 #[.val (.ref r0), .val (.ref r1), .val (.int (0 : Int32)), .val (.int zn), .val .null, .unset] []))
  refine Owes.go ?_ fun t₀ k₀ => XS.iloadN X16.here hx rfl (hb hby d3_4) rfl k₀
  show Owes _ _ _ _ (T16.setTop (mkF m 5 #[.val (.ref r0), .val (.ref r1), .val (.int (0 : Int32)), .val (.int zn), .val .null, .unset] [(.int zn)]))
  refine Owes.go ?_ fun t₀ k₀ => XS.ifYes X16.here hx rfl (pc0 := 5) (pc' := 27) rfl (hb hby d3_5) rfl ((if0 _ _).trans (feq (own_nz1 hzn hn1)).2) (by decide) (by decide) k₀
  show Owes _ _ _ _ (T16.setTop (mkF m 27 #[.val (.ref r0), .val (.ref r1), .val (.int (0 : Int32)), .val (.int zn), .val .null, .unset] []))
  obtain ⟨T17, X17, e17, st17⟩ := getS2 X16 hx hZ hown (host := "") (Or.inl (hw _ (List.mem_of_getElem? (i := 19) rfl))) Via.refl e16 SC (g := (mkF m 27 #[.val (.ref r0), .val (.ref r1), .val (.int (0 : Int32)), .val (.int zn), .val .null, .unset] [])) rfl (hb hby d3_27)
  refine Owes.go ?_ st17
  show Owes _ _ _ _ (T17.setTop (mkF m 30 #[.val (.ref r0), .val (.ref r1), .val (.int (0 : Int32)), .val (.int zn), .val .null, .unset] [(.int cs)]))
  refine Owes.go ?_ fun t₀ k₀ => XS.ifNo X17.here hx rfl (hb hby d3_30) rfl ((if0 _ _).trans (feq hcs).1) k₀
  show Owes _ _ _ _ (T17.setTop (mkF m 33 #[.val (.ref r0), .val (.ref r1), .val (.int (0 : Int32)), .val (.int zn), .val .null, .unset] []))
  refine Owes.go ?_ fun t₀ k₀ => XS.aloadN X17.here hx rfl (hb hby d3_33) rfl rfl k₀
  show Owes _ _ _ _ (T17.setTop (mkF m 34 #[.val (.ref r0), .val (.ref r1), .val (.int (0 : Int32)), .val (.int zn), .val .null, .unset] [(.ref r1)]))
  refine Owes.go ?_ fun t₀ k₀ => XS.iloadN X17.here hx rfl (hb hby d3_34) rfl k₀
  show Owes _ _ _ _ (T17.setTop (mkF m 35 #[.val (.ref r0), .val (.ref r1), .val (.int (0 : Int32)), .val (.int zn), .val .null, .unset] [(.int (0 : Int32)), (.ref r1)]))
  refine Owes.go ?_ fun t₀ k₀ => XS.iloadN X17.here hx rfl (hb hby d3_35) rfl k₀
  show Owes _ _ _ _ (T17.setTop (mkF m 36 #[.val (.ref r0), .val (.ref r1), .val (.int (0 : Int32)), .val (.int zn), .val .null, .unset] [(.int zn), (.int (0 : Int32)), (.ref r1)]))
  refine Owes.callS X17 hx hZ hown (hw _ (List.mem_of_getElem? (i := 20) rfl)) (hw _ (List.mem_of_getElem? (i := 21) rfl)) (hw _ (List.mem_of_getElem? (i := 22) rfl)) (hw _ (List.mem_of_getElem? (i := 23) rfl)) (by decide) (argsL := [(.ref r1), (.int (0 : Int32)), (.int zn)]) (rest := []) (rm_cmp3 l Z a0 hw [] r1 zn h0 n0 Z0 n c_ G hzn hc8 hn1 hn9) e17 (by rw [hml]; rfl) pd_6 rfl rfl (hb hby d3_36) (by decide) (Nat.le_of_ble_eq_true rfl) (by decide) (by decide) ?_
  rintro T18 v18 L18 X18 ⟨rb, rfl, N18, K18, ST18, GR, EXR⟩
  have NF18 := Fr.app N0 N18
  have E_r0_18 := Exa.keep E0 K18
  have F_r0_coder_18 := Fld.keep F_coder K18 List.not_mem_nil
  have F_r0_value_18 := Fld.keep F_value K18 List.not_mem_nil
  have K_18 := K0.trans K18 (fun x hx => absurd hx List.not_mem_nil)
  have ST_18 := ST0.trans ST18
  show Owes _ _ _ _ (T18.setTop (mkF m 39 #[.val (.ref r0), .val (.ref r1), .val (.int (0 : Int32)), .val (.int zn), .val .null, .unset] [(.ref rb)]))
  refine Owes.go ?_ fun t₀ k₀ => XS.astore X18.here hx rfl (hb hby d3_39) rfl rfl (l' := #[.val (.ref r0), .val (.ref r1), .val (.int (0 : Int32)), .val (.int zn), .val .null, .val (.ref rb)]) rfl k₀
  show Owes _ _ _ _ (T18.setTop (mkF m 41 #[.val (.ref r0), .val (.ref r1), .val (.int (0 : Int32)), .val (.int zn), .val .null, .val (.ref rb)] []))
  refine Owes.go ?_ fun t₀ k₀ => XS.aloadN X18.here hx rfl (hb hby d3_41) rfl rfl k₀
  show Owes _ _ _ _ (T18.setTop (mkF m 42 #[.val (.ref r0), .val (.ref r1), .val (.int (0 : Int32)), .val (.int zn), .val .null, .val (.ref rb)] [(.ref r0)]))
  refine Owes.go ?_ fun t₀ k₀ => XS.aload X18.here hx rfl (hb hby d3_42) rfl rfl k₀
  show Owes _ _ _ _ (T18.setTop (mkF m 44 #[.val (.ref r0), .val (.ref r1), .val (.int (0 : Int32)), .val (.int zn), .val .null, .val (.ref rb)] [(.ref rb), (.ref r0)]))
  refine Owes.go ?_ fun t₀ k₀ => XS.iloadN X18.here hx rfl (hb hby d3_44) rfl k₀
  show Owes _ _ _ _ (T18.setTop (mkF m 45 #[.val (.ref r0), .val (.ref r1), .val (.int (0 : Int32)), .val (.int zn), .val .null, .val (.ref rb)] [(.int zn), (.ref rb), (.ref r0)]))
  refine Owes.callS X18 hx hZ hown (hw _ (List.mem_of_getElem? (i := 28) rfl)) (hw _ (List.mem_of_getElem? (i := 29) rfl)) (hw _ (List.mem_of_getElem? (i := 22) rfl)) (hw _ (List.mem_of_getElem? (i := 30) rfl)) (by decide) (argsL := [(.ref rb), (.int zn)]) (rest := [(.ref r0)]) (rm_cfa l Z a0 hw [] rb zn T18.heap n c_ GR hzn) rfl (by rw [hml]; rfl) pd_7 rfl rfl (hb hby d3_45) (by decide) (Nat.le_of_ble_eq_true rfl) (by decide) (by decide) ?_
  rintro T19 _ _ X19 ⟨rfl, rfl, e19⟩
  rw [List.append_nil] at X19
  show Owes _ _ _ _ (T19.setTop (mkF m 48 #[.val (.ref r0), .val (.ref r1), .val (.int (0 : Int32)), .val (.int zn), .val .null, .val (.ref rb)] [(.int (0 : Int32)), (.ref r0)]))
  refine Owes.putF X19 hx hZ hown (host := "") (Or.inl (hw _ (List.mem_of_getElem? (i := 31) rfl))) Via.refl e19 F_r0_coder_18 E_r0_18 (Or.inr ⟨(hw _ (List.mem_of_getElem? (i := 32) rfl)), rfl, hnm⟩) (hw _ (List.mem_of_getElem? (i := 7) rfl)) (ty := .byte) (by decide) rfl rfl (hb hby d3_48) ?_
  intro T20 h20 X20 e20 W20
  have N20 := Fr.snoc X20 NF18 g0
  have E_r0_20 := Exa.wr W20 E_r0_18
  have F_r0_coder_20 := Fld.same W20 F_r0_coder_18
  have F_r0_value_20 := Fld.other W20 F_r0_value_18 (Or.inr (slot_ne (Or.inr (hw _ (List.mem_of_getElem? (i := 34) rfl))) (Or.inr (hw _ (List.mem_of_getElem? (i := 32) rfl))) (by decide) (t := (.array .byte)) (t' := .byte) (by decide) (by decide)))
  have G_rb_20 := GA.other GR W20 (Ne.symm (GA.ne_obj E_r0_18 wi GR))
  have K_20 := K_18.wr W20 (Or.inl (List.mem_singleton.mpr rfl))
  have ST_20 := ST_18.wr W20
  show Owes _ _ _ _ (T20.setTop (mkF m 51 #[.val (.ref r0), .val (.ref r1), .val (.int (0 : Int32)), .val (.int zn), .val .null, .val (.ref rb)] []))
  refine Owes.go ?_ fun t₀ k₀ => XS.aloadN X20.here hx rfl (hb hby d3_51) rfl rfl k₀
  show Owes _ _ _ _ (T20.setTop (mkF m 52 #[.val (.ref r0), .val (.ref r1), .val (.int (0 : Int32)), .val (.int zn), .val .null, .val (.ref rb)] [(.ref r0)]))
  refine Owes.go ?_ fun t₀ k₀ => XS.aload X20.here hx rfl (hb hby d3_52) rfl rfl k₀
  show Owes _ _ _ _ (T20.setTop (mkF m 54 #[.val (.ref r0), .val (.ref r1), .val (.int (0 : Int32)), .val (.int zn), .val .null, .val (.ref rb)] [(.ref rb), (.ref r0)]))
  refine Owes.putF X20 hx hZ hown (host := "") (Or.inl (hw _ (List.mem_of_getElem? (i := 33) rfl))) Via.refl e20 F_r0_value_20 E_r0_20 (Or.inr ⟨(hw _ (List.mem_of_getElem? (i := 34) rfl)), rfl, hnm⟩) (hw _ (List.mem_of_getElem? (i := 7) rfl)) (ty := (.array .byte)) (by decide) rfl rfl (hb hby d3_54) ?_
  intro T21 h21 X21 e21 W21
  have N21 := Fr.snoc X21 N20 g0
  have E_r0_21 := Exa.wr W21 E_r0_20
  have F_r0_coder_21 := Fld.other W21 F_r0_coder_20 (Or.inr (slot_ne (Or.inr (hw _ (List.mem_of_getElem? (i := 32) rfl))) (Or.inr (hw _ (List.mem_of_getElem? (i := 34) rfl))) (by decide) (t := .byte) (t' := (.array .byte)) (by decide) (by decide)))
  have F_r0_value_21 := Fld.same W21 F_r0_value_20
  have G_rb_21 := GA.other G_rb_20 W21 (Ne.symm (GA.ne_obj E_r0_20 wi G_rb_20))
  have K_21 := K_20.wr W21 (Or.inl (List.mem_singleton.mpr rfl))
  have ST_21 := ST_20.wr W21
  show Owes _ _ _ _ (T21.setTop (mkF m 57 #[.val (.ref r0), .val (.ref r1), .val (.int (0 : Int32)), .val (.int zn), .val .null, .val (.ref rb)] []))
  exact Owes.retV X21 hx hlk hret (hb hby d3_57) (by decide) (by decide) (by rw [e21]; exact ⟨rfl, N21, K_21, ST_21, rb, E_r0_21, F_r0_coder_21, F_r0_value_21, G_rb_21⟩)
theorem d2_0 : decode jdk_42_method_3_code 0 = .ok (.aload_n 0, 1) := by decide +kernel
theorem d2_1 : decode jdk_42_method_3_code 1 = .ok (.aload_n 1, 1) := by decide +kernel
theorem d2_2 : decode jdk_42_method_3_code 2 = .ok (.iconst 0, 1) := by decide +kernel
theorem d2_3 : decode jdk_42_method_3_code 3 = .ok (.aload_n 1, 1) := by decide +kernel
theorem d2_4 : decode jdk_42_method_3_code 4 = .ok (.arraylength, 1) := by decide +kernel
theorem d2_5 : decode jdk_42_method_3_code 5 = .ok (.aconst_null, 1) := by decide +kernel
theorem d2_6 : decode jdk_42_method_3_code 6 = .ok (.invokespecial 27, 3) := by decide +kernel
theorem pd_8 : parseMethodDescriptor "([CIILjava/lang/Void;)V" = some ⟨[(.array .char), .int, .int, (.object "java/lang/Void")], none⟩ := by decide +kernel
theorem d2_9 : decode jdk_42_method_3_code 9 = .ok (.return_, 1) := by decide +kernel
theorem ef_in1 (m : MethodId) (r0 : Addr) (r1 : Addr)  : entryFrame m #[(.ref r0), (.ref r1)] 2 = mkF m 0 #[.val (.ref r0), .val (.ref r1)] [] := by (first | (simp [entryFrame, mkF, argsToLocals, Value.category]; done) | rfl)
theorem pn_2 : plainFor (⟨"java/lang/String", "<init>", "([C)V"⟩ : MethodName) = true := plainFor_of_name (by first | (simp [plainName, overriddenIn]; done) | decide +kernel)
set_option maxRecDepth 65536 in
set_option maxHeartbeats 40000000 in
theorem rm_in1 (l : Launch) (Z : State) (a0 : Array Value) (hw : ∀ d ∈ tables_1, d.before a0 Z = true) (ws : List Jvm.Cond) (r0 : Addr) (r1 : Addr) (h0 : Heap) (n0 : Nat) (Z0 : n0 ≤ h0.size) (n : Nat) (c_ : Nat → Int32) (G : GA Z h0 r1 .char n (fun i => .int (c_ i))) (zn : Int32) (hzn : zn.toInt = (n : Int)) (hc8 : C8 n c_) (hn1 : 1 ≤ n) (hn9 : n ≤ 16) (g0 : n0 ≤ r0) (E0 : Exa Z h0 r0 "java/lang/String") (F_coder : Fld Z h0 r0 "java/lang/String" "coder" "B" (.int 0)) (F_value : Fld Z h0 r0 "java/lang/String" "value" "[B" .null) (cs : Int32) (SC : Sta Z h0 "java/lang/String" "COMPACT_STRINGS" "Z" (.int cs)) (hcs : ¬ cs = (0 : Int32)) :
    OMet l (⟨"java/lang/String", "<init>", "([C)V"⟩ : MethodName) jdk_42_method_3_code 2 none ws ({ frames := 3, cells := 1, slots := 16, locals := 62 } : Room) #[(.ref r0), (.ref r1)] Z h0 (fun v h L => v = none ∧ Fr n0 L ∧ Keep h0 h [r0] ∧ StK Z h0 h ∧ ∃ b : Addr, STR Z h r0 b n c_) := by
  refine OMet.of pn_2 (fun m => ef_in1 m r0 r1 ) ?_
  intro p e s m below meth c s₁ hx hby hml hown hnm hret hlk hZ X0 e0
  refine Owes.go ?_ fun t₀ k₀ => XS.aloadN X0.here hx rfl (hb hby d2_0) rfl rfl k₀
  show Owes _ _ _ _ (s₁.setTop (mkF m 1 #[.val (.ref r0), .val (.ref r1)] [(.ref r0)]))
  refine Owes.go ?_ fun t₀ k₀ => XS.aloadN X0.here hx rfl (hb hby d2_1) rfl rfl k₀
  show Owes _ _ _ _ (s₁.setTop (mkF m 2 #[.val (.ref r0), .val (.ref r1)] [(.ref r1), (.ref r0)]))
  refine Owes.go ?_ fun t₀ k₀ => XS.iconst X0.here hx rfl (hb hby d2_2) k₀
  show Owes _ _ _ _ (s₁.setTop (mkF m 3 #[.val (.ref r0), .val (.ref r1)] [(.int (0 : Int32)), (.ref r1), (.ref r0)]))
  refine Owes.go ?_ fun t₀ k₀ => XS.aloadN X0.here hx rfl (hb hby d2_3) rfl rfl k₀
  show Owes _ _ _ _ (s₁.setTop (mkF m 4 #[.val (.ref r0), .val (.ref r1)] [(.ref r1), (.int (0 : Int32)), (.ref r1), (.ref r0)]))
  refine Owes.glen X0 hx hZ e0 G (z := zn) hzn (hb hby d2_4) ?_
  show Owes _ _ _ _ (s₁.setTop (mkF m 5 #[.val (.ref r0), .val (.ref r1)] [(.int zn), (.int (0 : Int32)), (.ref r1), (.ref r0)]))
  refine Owes.go ?_ fun t₀ k₀ => XS.aconstNull X0.here hx rfl (hb hby d2_5) k₀
  show Owes _ _ _ _ (s₁.setTop (mkF m 6 #[.val (.ref r0), .val (.ref r1)] [.null, (.int zn), (.int (0 : Int32)), (.ref r1), (.ref r0)]))
  refine Owes.callC X0 hx hZ rfl hown (hw _ (List.mem_of_getElem? (i := 12) rfl)) (hw _ (List.mem_of_getElem? (i := 13) rfl)) (hw _ (List.mem_of_getElem? (i := 8) rfl)) (hw _ (List.mem_of_getElem? (i := 15) rfl)) (by decide) (a := r0) (argsL := [(.ref r1), (.int (0 : Int32)), (.int zn), .null]) (rest := []) (rm_in4 l Z a0 hw [] r0 r1 zn h0 n0 Z0 n c_ G hzn hc8 hn1 hn9 g0 E0 F_coder F_value cs SC hcs) e0 (by rw [hml]; rfl) pd_8 rfl rfl (hb hby d2_6) (by decide) (Nat.le_of_ble_eq_true rfl) (by decide) (by decide) ?_
  rintro T22 v22 L22 X22 ⟨rfl, Q22⟩
  show Owes _ _ _ _ (T22.setTop (mkF m 9 #[.val (.ref r0), .val (.ref r1)] []))
  exact Owes.retV X22 hx hlk hret (hb hby d2_9) (by decide) (by decide) (by rw [List.nil_append]; exact ⟨rfl, Q22⟩)
theorem d15_0 : decode jdk_43_method_4_code 0 = .ok (.iload_n 0, 1) := by decide +kernel
theorem d15_1 : decode jdk_43_method_4_code 1 = .ok (.ifCond .lt 14, 3) := by decide +kernel
theorem d15_4 : decode jdk_43_method_4_code 4 = .ok (.iload_n 0, 1) := by decide +kernel
theorem d15_5 : decode jdk_43_method_4_code 5 = .ok (.sipush 255, 3) := by decide +kernel
theorem d15_8 : decode jdk_43_method_4_code 8 = .ok (.if_icmp .gt 7, 3) := by decide +kernel
theorem d15_11 : decode jdk_43_method_4_code 11 = .ok (.iconst 1, 1) := by decide +kernel
theorem d15_12 : decode jdk_43_method_4_code 12 = .ok (.goto 4, 3) := by decide +kernel
theorem d15_16 : decode jdk_43_method_4_code 16 = .ok (.ireturn, 1) := by decide +kernel
theorem ef_cen (m : MethodId)   : entryFrame m #[(.int (47 : Int32))] 1 = mkF m 0 #[.val (.int (47 : Int32))] [] := by (first | (simp [entryFrame, mkF, argsToLocals, Value.category]; done) | rfl)
theorem pn_15 : plainFor (⟨"java/lang/StringLatin1", "canEncode", "(I)Z"⟩ : MethodName) = true := plainFor_of_name (by first | (simp [plainName, overriddenIn]; done) | decide +kernel)
set_option maxRecDepth 65536 in
set_option maxHeartbeats 40000000 in
theorem rm_cen (l : Launch) (Z : State) (a0 : Array Value) (hw : ∀ d ∈ tables_1, d.before a0 Z = true) (ws : List Jvm.Cond)  (h0 : Heap)  :
    OMet l (⟨"java/lang/StringLatin1", "canEncode", "(I)Z"⟩ : MethodName) jdk_43_method_4_code 1 (some .boolean) ws ({ frames := 0, cells := 0, slots := 0, locals := 0 } : Room) #[(.int (47 : Int32))] Z h0 (fun v h L => v = some (.int (1 : Int32)) ∧ L = [] ∧ h = h0) := by
  refine OMet.of pn_15 (fun m => ef_cen m  ) ?_
  intro p e s m below meth c s₁ hx hby hml hown hnm hret hlk hZ X0 e0
  refine Owes.go ?_ fun t₀ k₀ => XS.iloadN X0.here hx rfl (hb hby d15_0) rfl k₀
  show Owes _ _ _ _ (s₁.setTop (mkF m 1 #[.val (.int (47 : Int32))] [(.int (47 : Int32))]))
  refine Owes.go ?_ fun t₀ k₀ => XS.ifNo X0.here hx rfl (hb hby d15_1) rfl ((if0 _ _).trans (flt (by decide : ¬ ((47 : Int32) < (0 : Int32)))).1) k₀
  show Owes _ _ _ _ (s₁.setTop (mkF m 4 #[.val (.int (47 : Int32))] []))
  refine Owes.go ?_ fun t₀ k₀ => XS.iloadN X0.here hx rfl (hb hby d15_4) rfl k₀
  show Owes _ _ _ _ (s₁.setTop (mkF m 5 #[.val (.int (47 : Int32))] [(.int (47 : Int32))]))
  refine Owes.go ?_ fun t₀ k₀ => XS.sipush X0.here hx rfl (hb hby d15_5) k₀
  show Owes _ _ _ _ (s₁.setTop (mkF m 8 #[.val (.int (47 : Int32))] [(.int (255 : Int32)), (.int (47 : Int32))]))
  refine Owes.go ?_ fun t₀ k₀ => XS.icmpNo X0.here hx rfl (hb hby d15_8) rfl (flt (by decide : ¬ ((255 : Int32) < (47 : Int32)))).2.2.1 k₀
  show Owes _ _ _ _ (s₁.setTop (mkF m 11 #[.val (.int (47 : Int32))] []))
  refine Owes.go ?_ fun t₀ k₀ => XS.iconst X0.here hx rfl (hb hby d15_11) k₀
  show Owes _ _ _ _ (s₁.setTop (mkF m 12 #[.val (.int (47 : Int32))] [(.int (1 : Int32))]))
  refine Owes.go ?_ fun t₀ k₀ => XS.goto X0.here hx rfl (pc0 := 12) (pc' := 16) rfl (hb hby d15_12) (by decide) (by decide) k₀
  show Owes _ _ _ _ (s₁.setTop (mkF m 16 #[.val (.int (47 : Int32))] [(.int (1 : Int32))]))
  exact Owes.retN X0 hx hlk hret (by simp) (hb hby d15_16) (by decide) (by decide) ⟨congrArg (fun z => some (Value.int z)) (by decide), rfl, e0⟩
theorem d16_0 : decode jdk_29_method_69_code 0 = .ok (.iload_n 0, 1) := by decide +kernel
theorem d16_1 : decode jdk_29_method_69_code 1 = .ok (.iload_n 1, 1) := by decide +kernel
theorem d16_2 : decode jdk_29_method_69_code 2 = .ok (.if_icmp .gt 7, 3) := by decide +kernel
theorem d16_9 : decode jdk_29_method_69_code 9 = .ok (.iload_n 1, 1) := by decide +kernel
theorem d16_10 : decode jdk_29_method_69_code 10 = .ok (.ireturn, 1) := by decide +kernel
theorem d16_5 : decode jdk_29_method_69_code 5 = .ok (.iload_n 0, 1) := by decide +kernel
theorem d16_6 : decode jdk_29_method_69_code 6 = .ok (.goto 4, 3) := by decide +kernel
def f_min (p0 : Int32) (p1 : Int32)  : Int32 := (if p1 < p0 then p1 else p0)
theorem ef_16_f_min (m : MethodId) (p0 : Int32) (p1 : Int32) : entryFrame m #[(.int p0), (.int p1)] 2 = mkF m 0 #[.val (.int p0), .val (.int p1)] [] := by first | (simp [entryFrame, mkF, argsToLocals, Value.category]; done) | rfl
theorem pn_16 : plainFor (⟨"java/lang/Math", "min", "(II)I"⟩ : MethodName) = true := Jvm.Free.JP.mathPlain rfl (by decide +kernel)
set_option maxRecDepth 65536 in
set_option maxHeartbeats 40000000 in
theorem rm_f_min (l : Launch) (Z : State) (a0 : Array Value) (hw : ∀ d ∈ tables_1, d.before a0 Z = true) (ws : List Jvm.Cond) (p0 : Int32) (p1 : Int32) (h0 : Heap)  :
    OMet l (⟨"java/lang/Math", "min", "(II)I"⟩ : MethodName) jdk_29_method_69_code 2 (some .int) ws ({ frames := 0, cells := 0, slots := 0, locals := 0 } : Room) #[(.int p0), (.int p1)] Z h0 (fun v h L => v = some (Value.int (f_min p0 p1)) ∧ L = [] ∧ h = h0) := by
  refine OMet.of pn_16 (fun m => ef_16_f_min m p0 p1) ?_
  intro p e s m below meth c s₁ hx hby hml hown hnm hret hlk hZ X0 e0
  refine Owes.go ?_ fun t₀ k₀ => XS.iloadN X0.here hx rfl (hb hby d16_0) rfl k₀
  show Owes _ _ _ _ (s₁.setTop (mkF m 1 #[.val (.int p0), .val (.int p1)] [(.int p0)]))
  refine Owes.go ?_ fun t₀ k₀ => XS.iloadN X0.here hx rfl (hb hby d16_1) rfl k₀
  show Owes _ _ _ _ (s₁.setTop (mkF m 2 #[.val (.int p0), .val (.int p1)] [(.int p1), (.int p0)]))
  by_cases hc1 : p1 < p0
  · skip
    refine Owes.go ?_ fun t₀ k₀ => XS.icmpYes X0.here hx rfl (pc0 := 2) (pc' := 9) rfl (hb hby d16_2) rfl (tlt hc1).2.2.1 (by decide) (by decide) k₀
    show Owes _ _ _ _ (s₁.setTop (mkF m 9 #[.val (.int p0), .val (.int p1)] []))
    refine Owes.go ?_ fun t₀ k₀ => XS.iloadN X0.here hx rfl (hb hby d16_9) rfl k₀
    show Owes _ _ _ _ (s₁.setTop (mkF m 10 #[.val (.int p0), .val (.int p1)] [(.int p1)]))
    exact Owes.retI X0 hx hlk hret (hb hby d16_10) (by decide) (by decide) ⟨congrArg (fun z => some (Value.int z)) (by unfold f_min; rw [if_pos hc1]; first | done | rfl), rfl, e0⟩
  · skip
    refine Owes.go ?_ fun t₀ k₀ => XS.icmpNo X0.here hx rfl (hb hby d16_2) rfl (flt hc1).2.2.1 k₀
    show Owes _ _ _ _ (s₁.setTop (mkF m 5 #[.val (.int p0), .val (.int p1)] []))
    refine Owes.go ?_ fun t₀ k₀ => XS.iloadN X0.here hx rfl (hb hby d16_5) rfl k₀
    show Owes _ _ _ _ (s₁.setTop (mkF m 6 #[.val (.int p0), .val (.int p1)] [(.int p0)]))
    refine Owes.go ?_ fun t₀ k₀ => XS.goto X0.here hx rfl (pc0 := 6) (pc' := 10) rfl (hb hby d16_6) (by decide) (by decide) k₀
    show Owes _ _ _ _ (s₁.setTop (mkF m 10 #[.val (.int p0), .val (.int p1)] [(.int p0)]))
    exact Owes.retI X0 hx hlk hret (hb hby d16_10) (by decide) (by decide) ⟨congrArg (fun z => some (Value.int z)) (by unfold f_min; rw [if_neg hc1]; first | done | rfl), rfl, e0⟩
theorem own_fmin {x y : Int32} {k : Int} (hx : x.toInt = k) (hy : y.toInt = k) : (f_min x y).toInt = k := by
  unfold f_min
  split <;> assumption
theorem own_fminr {x y : Int32} {a b : Nat} (hx : x.toInt = (a : Int)) (hy : y.toInt = (b : Int)) (h : b < a) : f_min x y = y := by
  have := own_lti hy hx h
  unfold f_min
  first | rw [if_pos this] | rw [if_neg (fun q => absurd this q)]
theorem own_sub1 {x : Int32} {a : Nat} (hx : x.toInt = (a : Int)) : (x - (1 : Int32)).toInt = (a : Int) - 1 := by
  have h1 := c_isub x 1
  have r := rng32 (x - 1)
  have r2 := rng32 x
  rw [show (1 : Int32).toInt = 1 from rfl] at h1
  generalize (x - 1).toInt = v at *
  omega
theorem own_s0 (x : Int32) : x - (0 : Int32) = x := by simp
theorem own_a0 (x : Int32) : (0 : Int32) + x = x := by simp
theorem StK.of_keep {Z : State} {h h' : Heap} (K : Keep h h' []) : StK Z h h' := fun C n d v F => by
  obtain ⟨cf, i, k, f, st, cell, h1, h2, h3, h4, h5, r⟩ := F
  exact ⟨cf, i, k, f, st, cell, h1, h2, h3, h4, K.2.1 _ _ h5 List.not_mem_nil, r⟩
theorem d14_0 : decode jdk_43_method_27_code 0 = .ok (.iload_n 1, 1) := by decide +kernel
theorem d14_1 : decode jdk_43_method_27_code 1 = .ok (.invokestatic 88, 3) := by decide +kernel
theorem pd_9 : parseMethodDescriptor "(I)Z" = some ⟨[.int], some .boolean⟩ := by decide +kernel
theorem d14_4 : decode jdk_43_method_27_code 4 = .ok (.ifCond .ne 5, 3) := by decide +kernel
theorem d14_9 : decode jdk_43_method_27_code 9 = .ok (.iload_n 2, 1) := by decide +kernel
theorem d14_10 : decode jdk_43_method_27_code 10 = .ok (.aload_n 0, 1) := by decide +kernel
theorem d14_11 : decode jdk_43_method_27_code 11 = .ok (.arraylength, 1) := by decide +kernel
theorem d14_12 : decode jdk_43_method_27_code 12 = .ok (.iconst 1, 1) := by decide +kernel
theorem d14_13 : decode jdk_43_method_27_code 13 = .ok (.isub, 1) := by decide +kernel
theorem d14_14 : decode jdk_43_method_27_code 14 = .ok (.invokestatic 38, 3) := by decide +kernel
theorem pd_10 : parseMethodDescriptor "(II)I" = some ⟨[.int, .int], some .int⟩ := by decide +kernel
theorem d14_17 : decode jdk_43_method_27_code 17 = .ok (.istore_n 3, 1) := by decide +kernel
theorem d14_18 : decode jdk_43_method_27_code 18 = .ok (.iload_n 3, 1) := by decide +kernel
theorem d14_19 : decode jdk_43_method_27_code 19 = .ok (.ifCond .lt 19, 3) := by decide +kernel
theorem d14_22 : decode jdk_43_method_27_code 22 = .ok (.aload_n 0, 1) := by decide +kernel
theorem d14_23 : decode jdk_43_method_27_code 23 = .ok (.iload_n 3, 1) := by decide +kernel
theorem d14_24 : decode jdk_43_method_27_code 24 = .ok (.baload, 1) := by decide +kernel
theorem d14_25 : decode jdk_43_method_27_code 25 = .ok (.iload_n 1, 1) := by decide +kernel
theorem d14_26 : decode jdk_43_method_27_code 26 = .ok (.i2b, 1) := by decide +kernel
theorem d14_27 : decode jdk_43_method_27_code 27 = .ok (.if_icmp .ne 5, 3) := by decide +kernel
theorem d14_30 : decode jdk_43_method_27_code 30 = .ok (.iload_n 3, 1) := by decide +kernel
theorem d14_31 : decode jdk_43_method_27_code 31 = .ok (.ireturn, 1) := by decide +kernel
theorem d14_32 : decode jdk_43_method_27_code 32 = .ok (.iinc 3 (-1), 3) := by decide +kernel
theorem d14_35 : decode jdk_43_method_27_code 35 = .ok (.goto (-17), 3) := by decide +kernel
theorem ef_li3 (m : MethodId) (r0 : Addr) (p2 : Int32)  : entryFrame m #[(.ref r0), (.int (47 : Int32)), (.int p2)] 4 = mkF m 0 #[.val (.ref r0), .val (.int (47 : Int32)), .val (.int p2), .unset] [] := by (first | (simp [entryFrame, mkF, argsToLocals, Value.category]; done) | rfl)
theorem pn_14 : plainFor (⟨"java/lang/StringLatin1", "lastIndexOf", "([BII)I"⟩ : MethodName) = true := plainFor_of_name (by first | (simp [plainName, overriddenIn]; done) | decide +kernel)
set_option maxRecDepth 65536 in
set_option maxHeartbeats 40000000 in
theorem rm_li3 (l : Launch) (Z : State) (a0 : Array Value) (hw : ∀ d ∈ tables_1, d.before a0 Z = true) (ws : List Jvm.Cond) (r0 : Addr) (p2 : Int32) (h0 : Heap) (n : Nat) (c_ : Nat → Int32) (G : GA Z h0 r0 .byte n (fun i => .int (c_ i).toInt8.toInt32)) (zn : Int32) (hzn : zn.toInt = (n : Int)) (hp2 : p2.toInt = (n : Int) - 1) (hn9 : n ≤ 16) (hc8 : C8 n c_) (mx : Nat) (mI : Int32) (hm : mI.toInt = (mx : Int)) (hmn : mx < n) (h47 : c_ mx = 47) (hno : ∀ j, mx < j → j < n → ¬ c_ j = 47) :
    OMet l (⟨"java/lang/StringLatin1", "lastIndexOf", "([BII)I"⟩ : MethodName) jdk_43_method_27_code 4 (some .int) ws ({ frames := 1, cells := 0, slots := 0, locals := 16 } : Room) #[(.ref r0), (.int (47 : Int32)), (.int p2)] Z h0 (fun v h L => v = some (.int mI) ∧ L = [] ∧ h = h0) := by
  refine OMet.of pn_14 (fun m => ef_li3 m r0 p2 ) ?_
  intro p e s m below meth c s₁ hx hby hml hown hnm hret hlk hZ X0 e0
  refine Owes.go ?_ fun t₀ k₀ => XS.iloadN X0.here hx rfl (hb hby d14_0) rfl k₀
  show Owes _ _ _ _ (s₁.setTop (mkF m 1 #[.val (.ref r0), .val (.int (47 : Int32)), .val (.int p2), .unset] [(.int (47 : Int32))]))
  refine Owes.callS X0 hx hZ hown (hw _ (List.mem_of_getElem? (i := 68) rfl)) (hw _ (List.mem_of_getElem? (i := 69) rfl)) (hw _ (List.mem_of_getElem? (i := 66) rfl)) (hw _ (List.mem_of_getElem? (i := 70) rfl)) (by decide) (argsL := [(.int (47 : Int32))]) (rest := []) (rm_cen l Z a0 hw [] h0) e0 (by rw [hml]; rfl) pd_9 rfl rfl (hb hby d14_1) (by decide) (Nat.le_of_ble_eq_true rfl) (by decide) (by decide) ?_
  rintro T23 _ _ X23 ⟨rfl, rfl, e23⟩
  rw [List.append_nil] at X23
  show Owes _ _ _ _ (T23.setTop (mkF m 4 #[.val (.ref r0), .val (.int (47 : Int32)), .val (.int p2), .unset] [(.int (1 : Int32))]))
  refine Owes.go ?_ fun t₀ k₀ => XS.ifYes X23.here hx rfl (pc0 := 4) (pc' := 9) rfl (hb hby d14_4) rfl ((if0 _ _).trans (feq (by decide : ¬ ((1 : Int32) = (0 : Int32)))).2) (by decide) (by decide) k₀
  show Owes _ _ _ _ (T23.setTop (mkF m 9 #[.val (.ref r0), .val (.int (47 : Int32)), .val (.int p2), .unset] []))
  refine Owes.go ?_ fun t₀ k₀ => XS.iloadN X23.here hx rfl (hb hby d14_9) rfl k₀
  show Owes _ _ _ _ (T23.setTop (mkF m 10 #[.val (.ref r0), .val (.int (47 : Int32)), .val (.int p2), .unset] [(.int p2)]))
  refine Owes.go ?_ fun t₀ k₀ => XS.aloadN X23.here hx rfl (hb hby d14_10) rfl rfl k₀
  show Owes _ _ _ _ (T23.setTop (mkF m 11 #[.val (.ref r0), .val (.int (47 : Int32)), .val (.int p2), .unset] [(.ref r0), (.int p2)]))
  refine Owes.glen X23 hx hZ e23 G (z := zn) hzn (hb hby d14_11) ?_
  show Owes _ _ _ _ (T23.setTop (mkF m 12 #[.val (.ref r0), .val (.int (47 : Int32)), .val (.int p2), .unset] [(.int zn), (.int p2)]))
  refine Owes.go ?_ fun t₀ k₀ => XS.iconst X23.here hx rfl (hb hby d14_12) k₀
  show Owes _ _ _ _ (T23.setTop (mkF m 13 #[.val (.ref r0), .val (.int (47 : Int32)), .val (.int p2), .unset] [(.int (1 : Int32)), (.int zn), (.int p2)]))
  refine Owes.go ?_ fun t₀ k₀ => XS.isub X23.here hx rfl (hb hby d14_13) rfl k₀
  show Owes _ _ _ _ (T23.setTop (mkF m 14 #[.val (.ref r0), .val (.int (47 : Int32)), .val (.int p2), .unset] [(.int (zn - (1 : Int32))), (.int p2)]))
  refine Owes.callS X23 hx hZ hown (hw _ (List.mem_of_getElem? (i := 71) rfl)) (hw _ (List.mem_of_getElem? (i := 72) rfl)) (hw _ (List.mem_of_getElem? (i := 73) rfl)) (hw _ (List.mem_of_getElem? (i := 74) rfl)) (by decide) (argsL := [(.int p2), (.int (zn - (1 : Int32)))]) (rest := []) (rm_f_min l Z a0 hw [] p2 (zn - (1 : Int32)) h0 ) e23 (by rw [hml]; rfl) pd_10 rfl rfl (hb hby d14_14) (by decide) (Nat.le_of_ble_eq_true rfl) (by decide) (by decide) ?_
  rintro T24 _ _ X24 ⟨rfl, rfl, e24⟩
  rw [List.append_nil] at X24
  show Owes _ _ _ _ (T24.setTop (mkF m 17 #[.val (.ref r0), .val (.int (47 : Int32)), .val (.int p2), .unset] [(.int (f_min p2 (zn - (1 : Int32))))]))
  refine Owes.go ?_ fun t₀ k₀ => XS.istoreN X24.here hx rfl (hb hby d14_17) rfl (l' := #[.val (.ref r0), .val (.int (47 : Int32)), .val (.int p2), .val (.int (f_min p2 (zn - (1 : Int32))))]) rfl k₀
  show Owes _ _ _ _ (T24.setTop (mkF m 18 #[.val (.ref r0), .val (.int (47 : Int32)), .val (.int p2), .val (.int (f_min p2 (zn - (1 : Int32))))] []))
  have lp : ∀ (r k : Nat), k = mx + r → k < n → ∀ (kI : Int32) (T1 : State), Stand p l e ({ frames := 1, cells := 0, slots := 0, locals := 16 } : Room) s m #[(.ref r0), (.int (47 : Int32)), (.int p2)] below meth c T1 [] 0 0 → T1.heap = h0 → kI.toInt = (k : Int) → Owes p e below (EndN s (fun v h L => v = some (.int mI) ∧ L = [] ∧ h = h0) ({ frames := 1, cells := 0, slots := 0, locals := 16 } : Room).cells ({ frames := 1, cells := 0, slots := 0, locals := 16 } : Room).slots) (T1.setTop (mkF m 18 #[.val (.ref r0), .val (.int (47 : Int32)), .val (.int p2), .val (.int kI)] [])) := by
    intro r
    induction r with
    | zero =>
      intro k hkm hkn kI T1 X eT hk
      have hkx : k = mx := by omega
      subst hkx
      refine Owes.go ?_ fun t₀ k₀ => XS.iloadN X.here hx rfl (hb hby d14_18) rfl k₀
      show Owes _ _ _ _ (T1.setTop (mkF m 19 #[.val (.ref r0), .val (.int (47 : Int32)), .val (.int p2), .val (.int kI)] [(.int kI)]))
      refine Owes.go ?_ fun t₀ k₀ => XS.ifNo X.here hx rfl (hb hby d14_19) rfl ((if0 _ _).trans (flt (own_nat hk).1).1) k₀
      show Owes _ _ _ _ (T1.setTop (mkF m 22 #[.val (.ref r0), .val (.int (47 : Int32)), .val (.int p2), .val (.int kI)] []))
      refine Owes.go ?_ fun t₀ k₀ => XS.aloadN X.here hx rfl (hb hby d14_22) rfl rfl k₀
      show Owes _ _ _ _ (T1.setTop (mkF m 23 #[.val (.ref r0), .val (.int (47 : Int32)), .val (.int p2), .val (.int kI)] [(.ref r0)]))
      refine Owes.go ?_ fun t₀ k₀ => XS.iloadN X.here hx rfl (hb hby d14_23) rfl k₀
      show Owes _ _ _ _ (T1.setTop (mkF m 24 #[.val (.ref r0), .val (.int (47 : Int32)), .val (.int p2), .val (.int kI)] [(.int kI), (.ref r0)]))
      refine Owes.gB X hx hZ eT G hk hkn (v := .int (c_ k).toInt8.toInt32) rfl (hb hby d14_24) ?_
      show Owes _ _ _ _ (T1.setTop (mkF m 25 #[.val (.ref r0), .val (.int (47 : Int32)), .val (.int p2), .val (.int kI)] [(.int (c_ k).toInt8.toInt32)]))
      refine Owes.go ?_ fun t₀ k₀ => XS.iloadN X.here hx rfl (hb hby d14_25) rfl k₀
      show Owes _ _ _ _ (T1.setTop (mkF m 26 #[.val (.ref r0), .val (.int (47 : Int32)), .val (.int p2), .val (.int kI)] [(.int (47 : Int32)), (.int (c_ k).toInt8.toInt32)]))
      refine Owes.go ?_ fun t₀ k₀ => XS.i2b X.here hx rfl (hb hby d14_26) rfl k₀
      show Owes _ _ _ _ (T1.setTop (mkF m 27 #[.val (.ref r0), .val (.int (47 : Int32)), .val (.int p2), .val (.int kI)] [(.int ((47 : Int32).toInt8.toInt32)), (.int (c_ k).toInt8.toInt32)]))
      refine Owes.go ?_ fun t₀ k₀ => XS.icmpNo X.here hx rfl (hb hby d14_27) rfl (teq ((own_b47 (hc8 k hkn)).mpr h47)).2 k₀
      show Owes _ _ _ _ (T1.setTop (mkF m 30 #[.val (.ref r0), .val (.int (47 : Int32)), .val (.int p2), .val (.int kI)] []))
      refine Owes.go ?_ fun t₀ k₀ => XS.iloadN X.here hx rfl (hb hby d14_30) rfl k₀
      show Owes _ _ _ _ (T1.setTop (mkF m 31 #[.val (.ref r0), .val (.int (47 : Int32)), .val (.int p2), .val (.int kI)] [(.int kI)]))
      exact Owes.retI X hx hlk hret (hb hby d14_31) (by decide) (by decide) ⟨congrArg (fun z => some (Value.int z)) (Int32.toInt_inj.mp (by rw [hk, hm])), rfl, eT⟩
    | succ r ih =>
      intro k hkm hkn kI T1 X eT hk
      refine Owes.go ?_ fun t₀ k₀ => XS.iloadN X.here hx rfl (hb hby d14_18) rfl k₀
      show Owes _ _ _ _ (T1.setTop (mkF m 19 #[.val (.ref r0), .val (.int (47 : Int32)), .val (.int p2), .val (.int kI)] [(.int kI)]))
      refine Owes.go ?_ fun t₀ k₀ => XS.ifNo X.here hx rfl (hb hby d14_19) rfl ((if0 _ _).trans (flt (own_nat hk).1).1) k₀
      show Owes _ _ _ _ (T1.setTop (mkF m 22 #[.val (.ref r0), .val (.int (47 : Int32)), .val (.int p2), .val (.int kI)] []))
      refine Owes.go ?_ fun t₀ k₀ => XS.aloadN X.here hx rfl (hb hby d14_22) rfl rfl k₀
      show Owes _ _ _ _ (T1.setTop (mkF m 23 #[.val (.ref r0), .val (.int (47 : Int32)), .val (.int p2), .val (.int kI)] [(.ref r0)]))
      refine Owes.go ?_ fun t₀ k₀ => XS.iloadN X.here hx rfl (hb hby d14_23) rfl k₀
      show Owes _ _ _ _ (T1.setTop (mkF m 24 #[.val (.ref r0), .val (.int (47 : Int32)), .val (.int p2), .val (.int kI)] [(.int kI), (.ref r0)]))
      refine Owes.gB X hx hZ eT G hk hkn (v := .int (c_ k).toInt8.toInt32) rfl (hb hby d14_24) ?_
      show Owes _ _ _ _ (T1.setTop (mkF m 25 #[.val (.ref r0), .val (.int (47 : Int32)), .val (.int p2), .val (.int kI)] [(.int (c_ k).toInt8.toInt32)]))
      refine Owes.go ?_ fun t₀ k₀ => XS.iloadN X.here hx rfl (hb hby d14_25) rfl k₀
      show Owes _ _ _ _ (T1.setTop (mkF m 26 #[.val (.ref r0), .val (.int (47 : Int32)), .val (.int p2), .val (.int kI)] [(.int (47 : Int32)), (.int (c_ k).toInt8.toInt32)]))
      refine Owes.go ?_ fun t₀ k₀ => XS.i2b X.here hx rfl (hb hby d14_26) rfl k₀
      show Owes _ _ _ _ (T1.setTop (mkF m 27 #[.val (.ref r0), .val (.int (47 : Int32)), .val (.int p2), .val (.int kI)] [(.int ((47 : Int32).toInt8.toInt32)), (.int (c_ k).toInt8.toInt32)]))
      refine Owes.go ?_ fun t₀ k₀ => XS.icmpYes X.here hx rfl (pc0 := 27) (pc' := 32) rfl (hb hby d14_27) rfl (feq (fun q => hno k (by omega) hkn ((own_b47 (hc8 k hkn)).mp q))).2 (by decide) (by decide) k₀
      show Owes _ _ _ _ (T1.setTop (mkF m 32 #[.val (.ref r0), .val (.int (47 : Int32)), .val (.int p2), .val (.int kI)] []))
      refine Owes.go ?_ fun t₀ k₀ => XS.iinc X.here hx rfl (hb hby d14_32) rfl (l' := #[.val (.ref r0), .val (.int (47 : Int32)), .val (.int p2), .val (.int (kI + (-1 : Int32)))]) rfl k₀
      show Owes _ _ _ _ (T1.setTop (mkF m 35 #[.val (.ref r0), .val (.int (47 : Int32)), .val (.int p2), .val (.int (kI + (-1 : Int32)))] []))
      refine Owes.go ?_ fun t₀ k₀ => XS.goto X.here hx rfl (pc0 := 35) (pc' := 18) rfl (hb hby d14_35) (by decide) (by decide) k₀
      show Owes _ _ _ _ (T1.setTop (mkF m 18 #[.val (.ref r0), .val (.int (47 : Int32)), .val (.int p2), .val (.int (kI + (-1 : Int32)))] []))
      exact ih (k - 1) (by omega) (by omega) _ _ X eT (own_dec (by rw [hk]; omega))
  exact lp (n - 1 - mx) (n - 1) (by omega) (by omega) _ _ X24 e24 (by rw [own_fmin hp2 (own_sub1 hzn)]; omega)
theorem d12_0 : decode jdk_42_method_83_code 0 = .ok (.aload_n 0, 1) := by decide +kernel
theorem d12_1 : decode jdk_42_method_83_code 1 = .ok (.invokevirtual 492, 3) := by decide +kernel
theorem d12_4 : decode jdk_42_method_83_code 4 = .ok (.ifCond .eq 15, 3) := by decide +kernel
theorem d12_7 : decode jdk_42_method_83_code 7 = .ok (.aload_n 0, 1) := by decide +kernel
theorem d12_8 : decode jdk_42_method_83_code 8 = .ok (.getfield 9, 3) := by decide +kernel
theorem d12_11 : decode jdk_42_method_83_code 11 = .ok (.iload_n 1, 1) := by decide +kernel
theorem d12_12 : decode jdk_42_method_83_code 12 = .ok (.iload_n 2, 1) := by decide +kernel
theorem d12_13 : decode jdk_42_method_83_code 13 = .ok (.invokestatic 644, 3) := by decide +kernel
theorem pd_11 : parseMethodDescriptor "([BII)I" = some ⟨[(.array .byte), .int, .int], some .int⟩ := by decide +kernel
theorem d12_16 : decode jdk_42_method_83_code 16 = .ok (.goto 12, 3) := by decide +kernel
theorem d12_28 : decode jdk_42_method_83_code 28 = .ok (.ireturn, 1) := by decide +kernel
theorem ef_li2 (m : MethodId) (r0 : Addr) (p2 : Int32)  : entryFrame m #[(.ref r0), (.int (47 : Int32)), (.int p2)] 3 = mkF m 0 #[.val (.ref r0), .val (.int (47 : Int32)), .val (.int p2)] [] := by (first | (simp [entryFrame, mkF, argsToLocals, Value.category]; done) | rfl)
theorem pn_12 : plainFor (⟨"java/lang/String", "lastIndexOf", "(II)I"⟩ : MethodName) = true := plainFor_of_name (by first | (simp [plainName, overriddenIn]; done) | decide +kernel)
set_option maxRecDepth 65536 in
set_option maxHeartbeats 40000000 in
theorem rm_li2 (l : Launch) (Z : State) (a0 : Array Value) (hw : ∀ d ∈ tables_1, d.before a0 Z = true) (ws : List Jvm.Cond) (r0 : Addr) (p2 : Int32) (h0 : Heap) (b : Addr) (n : Nat) (c_ : Nat → Int32) (S : STR Z h0 r0 b n c_) (zn : Int32) (hzn : zn.toInt = (n : Int)) (cs : Int32) (SC : Sta Z h0 "java/lang/String" "COMPACT_STRINGS" "Z" (.int cs)) (hcs : ¬ cs = (0 : Int32)) (hp2 : p2.toInt = (n : Int) - 1) (hn9 : n ≤ 16) (hc8 : C8 n c_) (mx : Nat) (mI : Int32) (hm : mI.toInt = (mx : Int)) (hmn : mx < n) (h47 : c_ mx = 47) (hno : ∀ j, mx < j → j < n → ¬ c_ j = 47) :
    OMet l (⟨"java/lang/String", "lastIndexOf", "(II)I"⟩ : MethodName) jdk_42_method_83_code 3 (some .int) ws ({ frames := 2, cells := 0, slots := 0, locals := 34 } : Room) #[(.ref r0), (.int (47 : Int32)), (.int p2)] Z h0 (fun v h L => v = some (.int mI) ∧ L = [] ∧ h = h0) := by
  refine OMet.of pn_12 (fun m => ef_li2 m r0 p2 ) ?_
  intro p e s m below meth c s₁ hx hby hml hown hnm hret hlk hZ X0 e0
  refine Owes.go ?_ fun t₀ k₀ => XS.aloadN X0.here hx rfl (hb hby d12_0) rfl rfl k₀
  show Owes _ _ _ _ (s₁.setTop (mkF m 1 #[.val (.ref r0), .val (.int (47 : Int32)), .val (.int p2)] [(.ref r0)]))
  refine Owes.callV X0 hx hZ hown (hw _ (List.mem_of_getElem? (i := 59) rfl)) (hw _ (List.mem_of_getElem? (i := 60) rfl)) (notFace_of_selects (args := #[]) (mvT hZ (hw _ (List.mem_of_getElem? (i := 62) rfl)))) (hw _ (List.mem_of_getElem? (i := 62) rfl)) (hw _ (List.mem_of_getElem? (i := 61) rfl)) (hw _ (List.mem_of_getElem? (i := 8) rfl)) (hw _ (List.mem_of_getElem? (i := 63) rfl)) (by decide) (a := r0) (argsL := []) (rest := []) (rm_lat l Z a0 hw [] r0  h0 b n c_ S zn hzn cs SC hcs) e0 S.1 (by rw [hml]; rfl) pd_3 rfl rfl (hb hby d12_1) (by decide) (Nat.le_of_ble_eq_true rfl) (by decide) (by decide) ?_
  rintro T25 _ _ X25 ⟨rfl, rfl, e25⟩
  rw [List.append_nil] at X25
  show Owes _ _ _ _ (T25.setTop (mkF m 4 #[.val (.ref r0), .val (.int (47 : Int32)), .val (.int p2)] [(.int (1 : Int32))]))
  refine Owes.go ?_ fun t₀ k₀ => XS.ifNo X25.here hx rfl (hb hby d12_4) rfl ((if0 _ _).trans (feq (by decide : ¬ ((1 : Int32) = (0 : Int32)))).1) k₀
  show Owes _ _ _ _ (T25.setTop (mkF m 7 #[.val (.ref r0), .val (.int (47 : Int32)), .val (.int p2)] []))
  refine Owes.go ?_ fun t₀ k₀ => XS.aloadN X25.here hx rfl (hb hby d12_7) rfl rfl k₀
  show Owes _ _ _ _ (T25.setTop (mkF m 8 #[.val (.ref r0), .val (.int (47 : Int32)), .val (.int p2)] [(.ref r0)]))
  obtain ⟨T26, X26, e26, st26⟩ := getF X25 hx hZ hown (host := "") (Or.inl (hw _ (List.mem_of_getElem? (i := 33) rfl))) Via.refl e25 S.2.2.1 (g := (mkF m 8 #[.val (.ref r0), .val (.int (47 : Int32)), .val (.int p2)] [(.ref r0)])) rfl rfl (hb hby d12_8)
  refine Owes.go ?_ st26
  show Owes _ _ _ _ (T26.setTop (mkF m 11 #[.val (.ref r0), .val (.int (47 : Int32)), .val (.int p2)] [(.ref b)]))
  refine Owes.go ?_ fun t₀ k₀ => XS.iloadN X26.here hx rfl (hb hby d12_11) rfl k₀
  show Owes _ _ _ _ (T26.setTop (mkF m 12 #[.val (.ref r0), .val (.int (47 : Int32)), .val (.int p2)] [(.int (47 : Int32)), (.ref b)]))
  refine Owes.go ?_ fun t₀ k₀ => XS.iloadN X26.here hx rfl (hb hby d12_12) rfl k₀
  show Owes _ _ _ _ (T26.setTop (mkF m 13 #[.val (.ref r0), .val (.int (47 : Int32)), .val (.int p2)] [(.int p2), (.int (47 : Int32)), (.ref b)]))
  refine Owes.callS X26 hx hZ hown (hw _ (List.mem_of_getElem? (i := 64) rfl)) (hw _ (List.mem_of_getElem? (i := 65) rfl)) (hw _ (List.mem_of_getElem? (i := 66) rfl)) (hw _ (List.mem_of_getElem? (i := 67) rfl)) (by decide) (argsL := [(.ref b), (.int (47 : Int32)), (.int p2)]) (rest := []) (rm_li3 l Z a0 hw [] b p2 h0 n c_ S.2.2.2 zn hzn hp2 hn9 hc8 mx mI hm hmn h47 hno) e26 (by rw [hml]; rfl) pd_11 rfl rfl (hb hby d12_13) (by decide) (Nat.le_of_ble_eq_true rfl) (by decide) (by decide) ?_
  rintro T27 _ _ X27 ⟨rfl, rfl, e27⟩
  rw [List.append_nil] at X27
  show Owes _ _ _ _ (T27.setTop (mkF m 16 #[.val (.ref r0), .val (.int (47 : Int32)), .val (.int p2)] [(.int mI)]))
  refine Owes.go ?_ fun t₀ k₀ => XS.goto X27.here hx rfl (pc0 := 16) (pc' := 28) rfl (hb hby d12_16) (by decide) (by decide) k₀
  show Owes _ _ _ _ (T27.setTop (mkF m 28 #[.val (.ref r0), .val (.int (47 : Int32)), .val (.int p2)] [(.int mI)]))
  exact Owes.retI X27 hx hlk hret (hb hby d12_28) (by decide) (by decide) ⟨congrArg (fun z => some (Value.int z)) (rfl), rfl, e27⟩
theorem d9_0 : decode jdk_42_method_82_code 0 = .ok (.aload_n 0, 1) := by decide +kernel
theorem d9_1 : decode jdk_42_method_82_code 1 = .ok (.iload_n 1, 1) := by decide +kernel
theorem d9_2 : decode jdk_42_method_82_code 2 = .ok (.aload_n 0, 1) := by decide +kernel
theorem d9_3 : decode jdk_42_method_82_code 3 = .ok (.invokevirtual 505, 3) := by decide +kernel
theorem pd_12 : parseMethodDescriptor "()I" = some ⟨[], some .int⟩ := by decide +kernel
theorem d9_6 : decode jdk_42_method_82_code 6 = .ok (.iconst 1, 1) := by decide +kernel
theorem d9_7 : decode jdk_42_method_82_code 7 = .ok (.isub, 1) := by decide +kernel
theorem d9_8 : decode jdk_42_method_82_code 8 = .ok (.invokevirtual 641, 3) := by decide +kernel
theorem d9_11 : decode jdk_42_method_82_code 11 = .ok (.ireturn, 1) := by decide +kernel
theorem ef_li1 (m : MethodId) (r0 : Addr)  : entryFrame m #[(.ref r0), (.int (47 : Int32))] 2 = mkF m 0 #[.val (.ref r0), .val (.int (47 : Int32))] [] := by (first | (simp [entryFrame, mkF, argsToLocals, Value.category]; done) | rfl)
theorem pn_9 : plainFor (⟨"java/lang/String", "lastIndexOf", "(I)I"⟩ : MethodName) = true := plainFor_of_name (by first | (simp [plainName, overriddenIn]; done) | decide +kernel)
set_option maxRecDepth 65536 in
set_option maxHeartbeats 40000000 in
theorem rm_li1 (l : Launch) (Z : State) (a0 : Array Value) (hw : ∀ d ∈ tables_1, d.before a0 Z = true) (ws : List Jvm.Cond) (r0 : Addr) (h0 : Heap) (b : Addr) (n : Nat) (c_ : Nat → Int32) (S : STR Z h0 r0 b n c_) (zn : Int32) (hzn : zn.toInt = (n : Int)) (cs : Int32) (SC : Sta Z h0 "java/lang/String" "COMPACT_STRINGS" "Z" (.int cs)) (hcs : ¬ cs = (0 : Int32)) (hn9 : n ≤ 16) (hc8 : C8 n c_) (mx : Nat) (mI : Int32) (hm : mI.toInt = (mx : Int)) (hmn : mx < n) (h47 : c_ mx = 47) (hno : ∀ j, mx < j → j < n → ¬ c_ j = 47) :
    OMet l (⟨"java/lang/String", "lastIndexOf", "(I)I"⟩ : MethodName) jdk_42_method_82_code 2 (some .int) ws ({ frames := 3, cells := 0, slots := 0, locals := 52 } : Room) #[(.ref r0), (.int (47 : Int32))] Z h0 (fun v h L => v = some (.int mI) ∧ L = [] ∧ h = h0) := by
  refine OMet.of pn_9 (fun m => ef_li1 m r0 ) ?_
  intro p e s m below meth c s₁ hx hby hml hown hnm hret hlk hZ X0 e0
  refine Owes.go ?_ fun t₀ k₀ => XS.aloadN X0.here hx rfl (hb hby d9_0) rfl rfl k₀
  show Owes _ _ _ _ (s₁.setTop (mkF m 1 #[.val (.ref r0), .val (.int (47 : Int32))] [(.ref r0)]))
  refine Owes.go ?_ fun t₀ k₀ => XS.iloadN X0.here hx rfl (hb hby d9_1) rfl k₀
  show Owes _ _ _ _ (s₁.setTop (mkF m 2 #[.val (.ref r0), .val (.int (47 : Int32))] [(.int (47 : Int32)), (.ref r0)]))
  refine Owes.go ?_ fun t₀ k₀ => XS.aloadN X0.here hx rfl (hb hby d9_2) rfl rfl k₀
  show Owes _ _ _ _ (s₁.setTop (mkF m 3 #[.val (.ref r0), .val (.int (47 : Int32))] [(.ref r0), (.int (47 : Int32)), (.ref r0)]))
  refine Owes.callV X0 hx hZ hown (hw _ (List.mem_of_getElem? (i := 44) rfl)) (hw _ (List.mem_of_getElem? (i := 45) rfl)) (notFace_of_selects (args := #[]) (mvT hZ (hw _ (List.mem_of_getElem? (i := 47) rfl)))) (hw _ (List.mem_of_getElem? (i := 47) rfl)) (hw _ (List.mem_of_getElem? (i := 46) rfl)) (hw _ (List.mem_of_getElem? (i := 8) rfl)) (hw _ (List.mem_of_getElem? (i := 48) rfl)) (by decide) (a := r0) (argsL := []) (rest := [(.int (47 : Int32)), (.ref r0)]) (rm_len l Z a0 hw [] r0  h0 b n c_ S zn hzn cs SC hcs) e0 S.1 (by rw [hml]; rfl) pd_12 rfl rfl (hb hby d9_3) (by decide) (Nat.le_of_ble_eq_true rfl) (by decide) (by decide) ?_
  rintro T28 _ _ X28 ⟨rfl, rfl, e28⟩
  rw [List.append_nil] at X28
  show Owes _ _ _ _ (T28.setTop (mkF m 6 #[.val (.ref r0), .val (.int (47 : Int32))] [(.int zn), (.int (47 : Int32)), (.ref r0)]))
  refine Owes.go ?_ fun t₀ k₀ => XS.iconst X28.here hx rfl (hb hby d9_6) k₀
  show Owes _ _ _ _ (T28.setTop (mkF m 7 #[.val (.ref r0), .val (.int (47 : Int32))] [(.int (1 : Int32)), (.int zn), (.int (47 : Int32)), (.ref r0)]))
  refine Owes.go ?_ fun t₀ k₀ => XS.isub X28.here hx rfl (hb hby d9_7) rfl k₀
  show Owes _ _ _ _ (T28.setTop (mkF m 8 #[.val (.ref r0), .val (.int (47 : Int32))] [(.int (zn - (1 : Int32))), (.int (47 : Int32)), (.ref r0)]))
  refine Owes.callV X28 hx hZ hown (hw _ (List.mem_of_getElem? (i := 54) rfl)) (hw _ (List.mem_of_getElem? (i := 55) rfl)) (notFace_of_selects (args := #[]) (mvT hZ (hw _ (List.mem_of_getElem? (i := 57) rfl)))) (hw _ (List.mem_of_getElem? (i := 57) rfl)) (hw _ (List.mem_of_getElem? (i := 56) rfl)) (hw _ (List.mem_of_getElem? (i := 8) rfl)) (hw _ (List.mem_of_getElem? (i := 58) rfl)) (by decide) (a := r0) (argsL := [(.int (47 : Int32)), (.int (zn - (1 : Int32)))]) (rest := []) (rm_li2 l Z a0 hw [] r0 (zn - (1 : Int32)) h0 b n c_ S zn hzn cs SC hcs (own_sub1 hzn) hn9 hc8 mx mI hm hmn h47 hno) e28 S.1 (by rw [hml]; rfl) pd_10 rfl rfl (hb hby d9_8) (by decide) (Nat.le_of_ble_eq_true rfl) (by decide) (by decide) ?_
  rintro T29 _ _ X29 ⟨rfl, rfl, e29⟩
  rw [List.append_nil] at X29
  show Owes _ _ _ _ (T29.setTop (mkF m 11 #[.val (.ref r0), .val (.int (47 : Int32))] [(.int mI)]))
  exact Owes.retI X29 hx hlk hret (hb hby d9_11) (by decide) (by decide) ⟨congrArg (fun z => some (Value.int z)) (rfl), rfl, e29⟩
theorem d24_0 : decode jdk_41_method_12_code 0 = .ok (.iload_n 0, 1) := by decide +kernel
theorem d24_1 : decode jdk_41_method_12_code 1 = .ok (.ifCond .lt 13, 3) := by decide +kernel
theorem d24_4 : decode jdk_41_method_12_code 4 = .ok (.iload_n 0, 1) := by decide +kernel
theorem d24_5 : decode jdk_41_method_12_code 5 = .ok (.iload_n 1, 1) := by decide +kernel
theorem d24_6 : decode jdk_41_method_12_code 6 = .ok (.if_icmp .gt 8, 3) := by decide +kernel
theorem d24_9 : decode jdk_41_method_12_code 9 = .ok (.iload_n 1, 1) := by decide +kernel
theorem d24_10 : decode jdk_41_method_12_code 10 = .ok (.iload_n 2, 1) := by decide +kernel
theorem d24_11 : decode jdk_41_method_12_code 11 = .ok (.if_icmp .le 11, 3) := by decide +kernel
theorem d24_22 : decode jdk_41_method_12_code 22 = .ok (.iload_n 0, 1) := by decide +kernel
theorem d24_23 : decode jdk_41_method_12_code 23 = .ok (.ireturn, 1) := by decide +kernel
theorem ef_cft (m : MethodId) (p0 : Int32) (p1 : Int32) (p2 : Int32) (vf : Value) (hcat_vf : vf.category = 1) : entryFrame m #[(.int p0), (.int p1), (.int p2), vf] 4 = mkF m 0 #[.val (.int p0), .val (.int p1), .val (.int p2), .val vf] [] := by cases vf <;> first | (exfalso; revert hcat_vf; simp [Value.category]; done) | (first | (simp [entryFrame, mkF, argsToLocals, Value.category]; done) | rfl)
theorem pn_24 : plainFor (⟨"jdk/internal/util/Preconditions", "checkFromToIndex", "(IIILjava/util/function/BiFunction;)I"⟩ : MethodName) = true := plainFor_of_name (by first | (simp [plainName, overriddenIn]; done) | decide +kernel)
set_option maxRecDepth 65536 in
set_option maxHeartbeats 40000000 in
theorem rm_cft (l : Launch) (Z : State) (a0 : Array Value) (hw : ∀ d ∈ tables_1, d.before a0 Z = true) (ws : List Jvm.Cond) (p0 : Int32) (p1 : Int32) (p2 : Int32) (vf : Value) (h0 : Heap) (hcat_vf : vf.category = 1) (h1 : ¬ p0 < (0 : Int32)) (h2 : ¬ p1 < p0) (h3 : ¬ p2 < p1) :
    OMet l (⟨"jdk/internal/util/Preconditions", "checkFromToIndex", "(IIILjava/util/function/BiFunction;)I"⟩ : MethodName) jdk_41_method_12_code 4 (some .int) ws ({ frames := 0, cells := 0, slots := 0, locals := 0 } : Room) #[(.int p0), (.int p1), (.int p2), vf] Z h0 (fun v h L => v = some (.int p0) ∧ L = [] ∧ h = h0) := by
  refine OMet.of pn_24 (fun m => ef_cft m p0 p1 p2 vf hcat_vf) ?_
  intro p e s m below meth c s₁ hx hby hml hown hnm hret hlk hZ X0 e0
  refine Owes.go ?_ fun t₀ k₀ => XS.iloadN X0.here hx rfl (hb hby d24_0) rfl k₀
  show Owes _ _ _ _ (s₁.setTop (mkF m 1 #[.val (.int p0), .val (.int p1), .val (.int p2), .val vf] [(.int p0)]))
  refine Owes.go ?_ fun t₀ k₀ => XS.ifNo X0.here hx rfl (hb hby d24_1) rfl ((if0 _ _).trans (flt h1).1) k₀
  show Owes _ _ _ _ (s₁.setTop (mkF m 4 #[.val (.int p0), .val (.int p1), .val (.int p2), .val vf] []))
  refine Owes.go ?_ fun t₀ k₀ => XS.iloadN X0.here hx rfl (hb hby d24_4) rfl k₀
  show Owes _ _ _ _ (s₁.setTop (mkF m 5 #[.val (.int p0), .val (.int p1), .val (.int p2), .val vf] [(.int p0)]))
  refine Owes.go ?_ fun t₀ k₀ => XS.iloadN X0.here hx rfl (hb hby d24_5) rfl k₀
  show Owes _ _ _ _ (s₁.setTop (mkF m 6 #[.val (.int p0), .val (.int p1), .val (.int p2), .val vf] [(.int p1), (.int p0)]))
  refine Owes.go ?_ fun t₀ k₀ => XS.icmpNo X0.here hx rfl (hb hby d24_6) rfl (flt h2).2.2.1 k₀
  show Owes _ _ _ _ (s₁.setTop (mkF m 9 #[.val (.int p0), .val (.int p1), .val (.int p2), .val vf] []))
  refine Owes.go ?_ fun t₀ k₀ => XS.iloadN X0.here hx rfl (hb hby d24_9) rfl k₀
  show Owes _ _ _ _ (s₁.setTop (mkF m 10 #[.val (.int p0), .val (.int p1), .val (.int p2), .val vf] [(.int p1)]))
  refine Owes.go ?_ fun t₀ k₀ => XS.iloadN X0.here hx rfl (hb hby d24_10) rfl k₀
  show Owes _ _ _ _ (s₁.setTop (mkF m 11 #[.val (.int p0), .val (.int p1), .val (.int p2), .val vf] [(.int p2), (.int p1)]))
  refine Owes.go ?_ fun t₀ k₀ => XS.icmpYes X0.here hx rfl (pc0 := 11) (pc' := 22) rfl (hb hby d24_11) rfl (flt h3).2.2.2 (by decide) (by decide) k₀
  show Owes _ _ _ _ (s₁.setTop (mkF m 22 #[.val (.int p0), .val (.int p1), .val (.int p2), .val vf] []))
  refine Owes.go ?_ fun t₀ k₀ => XS.iloadN X0.here hx rfl (hb hby d24_22) rfl k₀
  show Owes _ _ _ _ (s₁.setTop (mkF m 23 #[.val (.int p0), .val (.int p1), .val (.int p2), .val vf] [(.int p0)]))
  exact Owes.retI X0 hx hlk hret (hb hby d24_23) (by decide) (by decide) ⟨congrArg (fun z => some (Value.int z)) (rfl), rfl, e0⟩
theorem d23_0 : decode jdk_42_method_158_code 0 = .ok (.iload_n 0, 1) := by decide +kernel
theorem d23_1 : decode jdk_42_method_158_code 1 = .ok (.iload_n 1, 1) := by decide +kernel
theorem d23_2 : decode jdk_42_method_158_code 2 = .ok (.iload_n 2, 1) := by decide +kernel
theorem d23_3 : decode jdk_42_method_158_code 3 = .ok (.getstatic 1053, 3) := by decide +kernel
theorem d23_6 : decode jdk_42_method_158_code 6 = .ok (.invokestatic 1062, 3) := by decide +kernel
theorem pd_13 : parseMethodDescriptor "(IIILjava/util/function/BiFunction;)I" = some ⟨[.int, .int, .int, (.object "java/util/function/BiFunction")], some .int⟩ := by decide +kernel
theorem d23_9 : decode jdk_42_method_158_code 9 = .ok (.pop, 1) := by decide +kernel
theorem d23_10 : decode jdk_42_method_158_code 10 = .ok (.return_, 1) := by decide +kernel
theorem ef_cbe (m : MethodId) (p0 : Int32) (p1 : Int32) (p2 : Int32)  : entryFrame m #[(.int p0), (.int p1), (.int p2)] 3 = mkF m 0 #[.val (.int p0), .val (.int p1), .val (.int p2)] [] := by (first | (simp [entryFrame, mkF, argsToLocals, Value.category]; done) | rfl)
theorem pn_23 : plainFor (⟨"java/lang/String", "checkBoundsBeginEnd", "(III)V"⟩ : MethodName) = true := plainFor_of_name (by first | (simp [plainName, overriddenIn]; done) | decide +kernel)
set_option maxRecDepth 65536 in
set_option maxHeartbeats 40000000 in
theorem rm_cbe (l : Launch) (Z : State) (a0 : Array Value) (hw : ∀ d ∈ tables_1, d.before a0 Z = true) (ws : List Jvm.Cond) (p0 : Int32) (p1 : Int32) (p2 : Int32) (h0 : Heap) (vf : Value) (hcat_vf : vf.category = 1) (SF : Sta Z h0 "jdk/internal/util/Preconditions" "SIOOBE_FORMATTER" "Ljava/util/function/BiFunction;" vf) (h1 : ¬ p0 < (0 : Int32)) (h2 : ¬ p1 < p0) (h3 : ¬ p2 < p1) :
    OMet l (⟨"java/lang/String", "checkBoundsBeginEnd", "(III)V"⟩ : MethodName) jdk_42_method_158_code 3 none ws ({ frames := 1, cells := 0, slots := 0, locals := 18 } : Room) #[(.int p0), (.int p1), (.int p2)] Z h0 (fun v h L => v = none ∧ L = [] ∧ h = h0) := by
  refine OMet.of pn_23 (fun m => ef_cbe m p0 p1 p2 ) ?_
  intro p e s m below meth c s₁ hx hby hml hown hnm hret hlk hZ X0 e0
  refine Owes.go ?_ fun t₀ k₀ => XS.iloadN X0.here hx rfl (hb hby d23_0) rfl k₀
  show Owes _ _ _ _ (s₁.setTop (mkF m 1 #[.val (.int p0), .val (.int p1), .val (.int p2)] [(.int p0)]))
  refine Owes.go ?_ fun t₀ k₀ => XS.iloadN X0.here hx rfl (hb hby d23_1) rfl k₀
  show Owes _ _ _ _ (s₁.setTop (mkF m 2 #[.val (.int p0), .val (.int p1), .val (.int p2)] [(.int p1), (.int p0)]))
  refine Owes.go ?_ fun t₀ k₀ => XS.iloadN X0.here hx rfl (hb hby d23_2) rfl k₀
  show Owes _ _ _ _ (s₁.setTop (mkF m 3 #[.val (.int p0), .val (.int p1), .val (.int p2)] [(.int p2), (.int p1), (.int p0)]))
  obtain ⟨T30, X30, e30, st30⟩ := getS2 X0 hx hZ hown (host := "") (Or.inl (hw _ (List.mem_of_getElem? (i := 90) rfl))) Via.refl e0 SF (g := (mkF m 3 #[.val (.int p0), .val (.int p1), .val (.int p2)] [(.int p2), (.int p1), (.int p0)])) rfl (hb hby d23_3)
  refine Owes.go ?_ st30
  show Owes _ _ _ _ (T30.setTop (mkF m 6 #[.val (.int p0), .val (.int p1), .val (.int p2)] [vf, (.int p2), (.int p1), (.int p0)]))
  refine Owes.callS X30 hx hZ hown (hw _ (List.mem_of_getElem? (i := 106) rfl)) (hw _ (List.mem_of_getElem? (i := 107) rfl)) (hw _ (List.mem_of_getElem? (i := 91) rfl)) (hw _ (List.mem_of_getElem? (i := 108) rfl)) (by decide) (argsL := [(.int p0), (.int p1), (.int p2), vf]) (rest := []) (rm_cft l Z a0 hw [] p0 p1 p2 vf h0 hcat_vf h1 h2 h3) e30 (by rw [hml]; rfl) pd_13 rfl rfl (hb hby d23_6) (by decide) (Nat.le_of_ble_eq_true rfl) (by decide) (by decide) ?_
  rintro T31 _ _ X31 ⟨rfl, rfl, e31⟩
  rw [List.append_nil] at X31
  show Owes _ _ _ _ (T31.setTop (mkF m 9 #[.val (.int p0), .val (.int p1), .val (.int p2)] [(.int p0)]))
  refine Owes.go ?_ fun t₀ k₀ => XS.pop X31.here hx rfl (hb hby d23_9) rfl rfl k₀
  show Owes _ _ _ _ (T31.setTop (mkF m 10 #[.val (.int p0), .val (.int p1), .val (.int p2)] []))
  exact Owes.retV X31 hx hlk hret (hb hby d23_10) (by decide) (by decide) ⟨rfl, rfl, e31⟩
theorem d28_0 : decode jdk_65_method_131_code 0 = .ok (.iload_n 1, 1) := by decide +kernel
theorem d28_1 : decode jdk_65_method_131_code 1 = .ok (.iload_n 0, 1) := by decide +kernel
theorem d28_2 : decode jdk_65_method_131_code 2 = .ok (.if_icmp .ge 35, 3) := by decide +kernel
theorem d28_37 : decode jdk_65_method_131_code 37 = .ok (.return_, 1) := by decide +kernel
theorem ef_ckl (m : MethodId) (p0 : Int32) (p1 : Int32)  : entryFrame m #[(.int p0), (.int p1)] 2 = mkF m 0 #[.val (.int p0), .val (.int p1)] [] := by (first | (simp [entryFrame, mkF, argsToLocals, Value.category]; done) | rfl)
theorem pn_28 : plainFor (⟨"java/util/Arrays", "checkLength", "(II)V"⟩ : MethodName) = true := plainFor_of_name (by first | (simp [plainName, overriddenIn]; done) | decide +kernel)
set_option maxRecDepth 65536 in
set_option maxHeartbeats 40000000 in
theorem rm_ckl (l : Launch) (Z : State) (a0 : Array Value) (hw : ∀ d ∈ tables_1, d.before a0 Z = true) (ws : List Jvm.Cond) (p0 : Int32) (p1 : Int32) (h0 : Heap) (h1 : ¬ p1 < p0) :
    OMet l (⟨"java/util/Arrays", "checkLength", "(II)V"⟩ : MethodName) jdk_65_method_131_code 2 none ws ({ frames := 0, cells := 0, slots := 0, locals := 0 } : Room) #[(.int p0), (.int p1)] Z h0 (fun v h L => v = none ∧ L = [] ∧ h = h0) := by
  refine OMet.of pn_28 (fun m => ef_ckl m p0 p1 ) ?_
  intro p e s m below meth c s₁ hx hby hml hown hnm hret hlk hZ X0 e0
  refine Owes.go ?_ fun t₀ k₀ => XS.iloadN X0.here hx rfl (hb hby d28_0) rfl k₀
  show Owes _ _ _ _ (s₁.setTop (mkF m 1 #[.val (.int p0), .val (.int p1)] [(.int p1)]))
  refine Owes.go ?_ fun t₀ k₀ => XS.iloadN X0.here hx rfl (hb hby d28_1) rfl k₀
  show Owes _ _ _ _ (s₁.setTop (mkF m 2 #[.val (.int p0), .val (.int p1)] [(.int p0), (.int p1)]))
  refine Owes.go ?_ fun t₀ k₀ => XS.icmpYes X0.here hx rfl (pc0 := 2) (pc' := 37) rfl (hb hby d28_2) rfl (flt h1).2.1 (by decide) (by decide) k₀
  show Owes _ _ _ _ (s₁.setTop (mkF m 37 #[.val (.int p0), .val (.int p1)] []))
  exact Owes.retV X0 hx hlk hret (hb hby d28_37) (by decide) (by decide) ⟨rfl, rfl, e0⟩
theorem d27_0 : decode jdk_65_method_133_code 0 = .ok (.iload_n 1, 1) := by decide +kernel
theorem d27_1 : decode jdk_65_method_133_code 1 = .ok (.iload_n 2, 1) := by decide +kernel
theorem d27_2 : decode jdk_65_method_133_code 2 = .ok (.invokestatic 343, 3) := by decide +kernel
theorem d27_5 : decode jdk_65_method_133_code 5 = .ok (.iload_n 2, 1) := by decide +kernel
theorem d27_6 : decode jdk_65_method_133_code 6 = .ok (.iload_n 1, 1) := by decide +kernel
theorem d27_7 : decode jdk_65_method_133_code 7 = .ok (.isub, 1) := by decide +kernel
theorem d27_8 : decode jdk_65_method_133_code 8 = .ok (.istore_n 3, 1) := by decide +kernel
theorem d27_9 : decode jdk_65_method_133_code 9 = .ok (.iload_n 3, 1) := by decide +kernel
theorem d27_10 : decode jdk_65_method_133_code 10 = .ok (.newarray .byte, 2) := by decide +kernel
theorem d27_12 : decode jdk_65_method_133_code 12 = .ok (.astore 4, 2) := by decide +kernel
theorem d27_14 : decode jdk_65_method_133_code 14 = .ok (.aload_n 0, 1) := by decide +kernel
theorem d27_15 : decode jdk_65_method_133_code 15 = .ok (.iload_n 1, 1) := by decide +kernel
theorem d27_16 : decode jdk_65_method_133_code 16 = .ok (.aload 4, 2) := by decide +kernel
theorem d27_18 : decode jdk_65_method_133_code 18 = .ok (.iconst 0, 1) := by decide +kernel
theorem d27_19 : decode jdk_65_method_133_code 19 = .ok (.aload_n 0, 1) := by decide +kernel
theorem d27_20 : decode jdk_65_method_133_code 20 = .ok (.arraylength, 1) := by decide +kernel
theorem d27_21 : decode jdk_65_method_133_code 21 = .ok (.iload_n 1, 1) := by decide +kernel
theorem d27_22 : decode jdk_65_method_133_code 22 = .ok (.isub, 1) := by decide +kernel
theorem d27_23 : decode jdk_65_method_133_code 23 = .ok (.iload_n 3, 1) := by decide +kernel
theorem d27_24 : decode jdk_65_method_133_code 24 = .ok (.invokestatic 304, 3) := by decide +kernel
theorem d27_27 : decode jdk_65_method_133_code 27 = .ok (.invokestatic 150, 3) := by decide +kernel
theorem d27_30 : decode jdk_65_method_133_code 30 = .ok (.aload 4, 2) := by decide +kernel
theorem d27_32 : decode jdk_65_method_133_code 32 = .ok (.areturn, 1) := by decide +kernel
theorem ef_crb (m : MethodId) (r0 : Addr) (p2 : Int32)  : entryFrame m #[(.ref r0), (.int (0 : Int32)), (.int p2)] 5 = mkF m 0 #[.val (.ref r0), .val (.int (0 : Int32)), .val (.int p2), .unset, .unset] [] := by (first | (simp [entryFrame, mkF, argsToLocals, Value.category]; done) | rfl)
theorem pn_27 : plainFor (⟨"java/util/Arrays", "copyOfRangeByte", "([BII)[B"⟩ : MethodName) = true := plainFor_of_name (by first | (simp [plainName, overriddenIn]; done) | decide +kernel)
set_option maxRecDepth 65536 in
set_option maxHeartbeats 40000000 in
theorem rm_crb (l : Launch) (Z : State) (a0 : Array Value) (hw : ∀ d ∈ tables_1, d.before a0 Z = true) (ws : List Jvm.Cond) (r0 : Addr) (p2 : Int32) (h0 : Heap) (n : Nat) (c_ : Nat → Int32) (G : GA Z h0 r0 .byte n (fun i => .int (c_ i).toInt8.toInt32)) (zn : Int32) (hzn : zn.toInt = (n : Int)) (n0 : Nat) (Z0 : n0 ≤ h0.size) (mx : Nat) (hp2 : p2.toInt = (mx : Int)) (hmn : mx < n) (hn9 : n ≤ 16) :
    OMet l (⟨"java/util/Arrays", "copyOfRangeByte", "([BII)[B"⟩ : MethodName) jdk_65_method_133_code 5 (some (.array .byte)) ws ({ frames := 1, cells := 1, slots := 16, locals := 24 } : Room) #[(.ref r0), (.int (0 : Int32)), (.int p2)] Z h0 (fun v h L => ∃ r : Addr, v = some (.ref r) ∧ Fr n0 L ∧ Keep h0 h [] ∧ GA Z h r .byte mx (fun i => .int (c_ i).toInt8.toInt32)) := by
  refine OMet.of pn_27 (fun m => ef_crb m r0 p2 ) ?_
  intro p e s m below meth c s₁ hx hby hml hown hnm hret hlk hZ X0 e0
  have N0 := Fr.nil n0
  have K0 := Keep.refl h0 []
  have ST0 := StK.refl Z h0
  refine Owes.go ?_ fun t₀ k₀ => XS.iloadN X0.here hx rfl (hb hby d27_0) rfl k₀
  show Owes _ _ _ _ (s₁.setTop (mkF m 1 #[.val (.ref r0), .val (.int (0 : Int32)), .val (.int p2), .unset, .unset] [(.int (0 : Int32))]))
  refine Owes.go ?_ fun t₀ k₀ => XS.iloadN X0.here hx rfl (hb hby d27_1) rfl k₀
  show Owes _ _ _ _ (s₁.setTop (mkF m 2 #[.val (.ref r0), .val (.int (0 : Int32)), .val (.int p2), .unset, .unset] [(.int p2), (.int (0 : Int32))]))
  refine Owes.callS X0 hx hZ hown (hw _ (List.mem_of_getElem? (i := 120) rfl)) (hw _ (List.mem_of_getElem? (i := 121) rfl)) (hw _ (List.mem_of_getElem? (i := 115) rfl)) (hw _ (List.mem_of_getElem? (i := 122) rfl)) (by decide) (argsL := [(.int (0 : Int32)), (.int p2)]) (rest := []) (rm_ckl l Z a0 hw [] (0 : Int32) p2 h0 (own_nlti hp2 (b := 0) rfl (by omega))) e0 (by rw [hml]; rfl) pd_2 rfl rfl (hb hby d27_2) (by decide) (Nat.le_of_ble_eq_true rfl) (by decide) (by first | decide | (show 0 + mx + 0 ≤ 16; omega)) ?_
  rintro T32 _ _ X32 ⟨rfl, rfl, e32⟩
  rw [List.append_nil] at X32
  show Owes _ _ _ _ (T32.setTop (mkF m 5 #[.val (.ref r0), .val (.int (0 : Int32)), .val (.int p2), .unset, .unset] []))
  refine Owes.go ?_ fun t₀ k₀ => XS.iloadN X32.here hx rfl (hb hby d27_5) rfl k₀
  show Owes _ _ _ _ (T32.setTop (mkF m 6 #[.val (.ref r0), .val (.int (0 : Int32)), .val (.int p2), .unset, .unset] [(.int p2)]))
  refine Owes.go ?_ fun t₀ k₀ => XS.iloadN X32.here hx rfl (hb hby d27_6) rfl k₀
  show Owes _ _ _ _ (T32.setTop (mkF m 7 #[.val (.ref r0), .val (.int (0 : Int32)), .val (.int p2), .unset, .unset] [(.int (0 : Int32)), (.int p2)]))
  refine Owes.go ?_ fun t₀ k₀ => XS.isub X32.here hx rfl (hb hby d27_7) rfl k₀
  show Owes _ _ _ _ (T32.setTop (mkF m 8 #[.val (.ref r0), .val (.int (0 : Int32)), .val (.int p2), .unset, .unset] [(.int (p2 - (0 : Int32)))]))
  refine Owes.go ?_ fun t₀ k₀ => XS.istoreN X32.here hx rfl (hb hby d27_8) rfl (l' := #[.val (.ref r0), .val (.int (0 : Int32)), .val (.int p2), .val (.int (p2 - (0 : Int32))), .unset]) rfl k₀
  show Owes _ _ _ _ (T32.setTop (mkF m 9 #[.val (.ref r0), .val (.int (0 : Int32)), .val (.int p2), .val (.int (p2 - (0 : Int32))), .unset] []))
  rw [own_s0 p2]
  refine Owes.go ?_ fun t₀ k₀ => XS.iloadN X32.here hx rfl (hb hby d27_9) rfl k₀
  show Owes _ _ _ _ (T32.setTop (mkF m 10 #[.val (.ref r0), .val (.int (0 : Int32)), .val (.int p2), .val (.int p2), .unset] [(.int p2)]))
  refine Owes.newArr X32 hx hZ (aty := .byte) (hw _ (List.mem_of_getElem? (i := 24) rfl)) e32 (n := mx) hp2 (by omega) (by decide) (show 0 + mx ≤ 16 by omega) (ad := "[B") (by decide) (hb hby d27_10) ?_
  intro T33 h33 X33 e33 E33 G33 EX33
  obtain ⟨r4, gr4⟩ : ∃ z, z = h0.size := ⟨_, rfl⟩
  rw [← gr4] at G33 EX33 ⊢
  have lt_r0_r4 : r0 < r4 := by rw [gr4]; exact (G).lt
  have ge_r4 : h0.size ≤ r4 := by rw [gr4]; exact K0.1
  have gn_r4 : n0 ≤ r4 := Nat.le_trans Z0 ge_r4
  have G_r0_33 := GA.ext G E33
  have K_33 := K0.ext E33
  have ST_33 := ST0.ext E33
  have G33 : GA Z h33 r4 .byte mx (fun i => .int ((fun _ => (0 : Int32)) i)) := G33
  show Owes _ _ _ _ (T33.setTop (mkF m 12 #[.val (.ref r0), .val (.int (0 : Int32)), .val (.int p2), .val (.int p2), .unset] [(.ref r4)]))
  refine Owes.go ?_ fun t₀ k₀ => XS.astore X33.here hx rfl (hb hby d27_12) rfl rfl (l' := #[.val (.ref r0), .val (.int (0 : Int32)), .val (.int p2), .val (.int p2), .val (.ref r4)]) rfl k₀
  show Owes _ _ _ _ (T33.setTop (mkF m 14 #[.val (.ref r0), .val (.int (0 : Int32)), .val (.int p2), .val (.int p2), .val (.ref r4)] []))
  refine Owes.go ?_ fun t₀ k₀ => XS.aloadN X33.here hx rfl (hb hby d27_14) rfl rfl k₀
  show Owes _ _ _ _ (T33.setTop (mkF m 15 #[.val (.ref r0), .val (.int (0 : Int32)), .val (.int p2), .val (.int p2), .val (.ref r4)] [(.ref r0)]))
  refine Owes.go ?_ fun t₀ k₀ => XS.iloadN X33.here hx rfl (hb hby d27_15) rfl k₀
  show Owes _ _ _ _ (T33.setTop (mkF m 16 #[.val (.ref r0), .val (.int (0 : Int32)), .val (.int p2), .val (.int p2), .val (.ref r4)] [(.int (0 : Int32)), (.ref r0)]))
  refine Owes.go ?_ fun t₀ k₀ => XS.aload X33.here hx rfl (hb hby d27_16) rfl rfl k₀
  show Owes _ _ _ _ (T33.setTop (mkF m 18 #[.val (.ref r0), .val (.int (0 : Int32)), .val (.int p2), .val (.int p2), .val (.ref r4)] [(.ref r4), (.int (0 : Int32)), (.ref r0)]))
  refine Owes.go ?_ fun t₀ k₀ => XS.iconst X33.here hx rfl (hb hby d27_18) k₀
  show Owes _ _ _ _ (T33.setTop (mkF m 19 #[.val (.ref r0), .val (.int (0 : Int32)), .val (.int p2), .val (.int p2), .val (.ref r4)] [(.int (0 : Int32)), (.ref r4), (.int (0 : Int32)), (.ref r0)]))
  refine Owes.go ?_ fun t₀ k₀ => XS.aloadN X33.here hx rfl (hb hby d27_19) rfl rfl k₀
  show Owes _ _ _ _ (T33.setTop (mkF m 20 #[.val (.ref r0), .val (.int (0 : Int32)), .val (.int p2), .val (.int p2), .val (.ref r4)] [(.ref r0), (.int (0 : Int32)), (.ref r4), (.int (0 : Int32)), (.ref r0)]))
  refine Owes.glen X33 hx hZ e33 G_r0_33 (z := zn) hzn (hb hby d27_20) ?_
  show Owes _ _ _ _ (T33.setTop (mkF m 21 #[.val (.ref r0), .val (.int (0 : Int32)), .val (.int p2), .val (.int p2), .val (.ref r4)] [(.int zn), (.int (0 : Int32)), (.ref r4), (.int (0 : Int32)), (.ref r0)]))
  refine Owes.go ?_ fun t₀ k₀ => XS.iloadN X33.here hx rfl (hb hby d27_21) rfl k₀
  show Owes _ _ _ _ (T33.setTop (mkF m 22 #[.val (.ref r0), .val (.int (0 : Int32)), .val (.int p2), .val (.int p2), .val (.ref r4)] [(.int (0 : Int32)), (.int zn), (.int (0 : Int32)), (.ref r4), (.int (0 : Int32)), (.ref r0)]))
  refine Owes.go ?_ fun t₀ k₀ => XS.isub X33.here hx rfl (hb hby d27_22) rfl k₀
  show Owes _ _ _ _ (T33.setTop (mkF m 23 #[.val (.ref r0), .val (.int (0 : Int32)), .val (.int p2), .val (.int p2), .val (.ref r4)] [(.int (zn - (0 : Int32))), (.int (0 : Int32)), (.ref r4), (.int (0 : Int32)), (.ref r0)]))
  rw [own_s0 zn]
  refine Owes.go ?_ fun t₀ k₀ => XS.iloadN X33.here hx rfl (hb hby d27_23) rfl k₀
  show Owes _ _ _ _ (T33.setTop (mkF m 24 #[.val (.ref r0), .val (.int (0 : Int32)), .val (.int p2), .val (.int p2), .val (.ref r4)] [(.int p2), (.int zn), (.int (0 : Int32)), (.ref r4), (.int (0 : Int32)), (.ref r0)]))
  refine Owes.callS X33 hx hZ hown (hw _ (List.mem_of_getElem? (i := 123) rfl)) (hw _ (List.mem_of_getElem? (i := 72) rfl)) (hw _ (List.mem_of_getElem? (i := 73) rfl)) (hw _ (List.mem_of_getElem? (i := 74) rfl)) (by decide) (argsL := [(.int zn), (.int p2)]) (rest := [(.int (0 : Int32)), (.ref r4), (.int (0 : Int32)), (.ref r0)]) (rm_f_min l Z a0 hw [] zn p2 h33 ) e33 (by rw [hml]; rfl) pd_10 rfl rfl (hb hby d27_24) (by decide) (Nat.le_of_ble_eq_true rfl) (by decide) (by first | decide | (show 0 + mx + 0 ≤ 16; omega)) ?_
  rintro T34 _ _ X34 ⟨rfl, rfl, e34⟩
  rw [List.append_nil] at X34
  show Owes _ _ _ _ (T34.setTop (mkF m 27 #[.val (.ref r0), .val (.int (0 : Int32)), .val (.int p2), .val (.int p2), .val (.ref r4)] [(.int (f_min zn p2)), (.int (0 : Int32)), (.ref r4), (.int (0 : Int32)), (.ref r0)]))
  rw [own_fminr hzn hp2 hmn]
  refine Owes.cpB X34 hx hZ hown (hw _ (List.mem_of_getElem? (i := 124) rfl)) (hw _ (List.mem_of_getElem? (i := 127) rfl)) (hw _ (List.mem_of_getElem? (i := 125) rfl)) (hw _ (List.mem_of_getElem? (i := 126) rfl)) e34 (sp := 0) G_r0_33 G33 (fun i _ => own_fitB _) (fun i _ => rfl) rfl rfl hp2 (by omega) (by omega) N0 gn_r4 (by rw [hml]; rfl) (hb hby d27_27) (by decide) (by decide) ?_
  intro T35 h35 L35 X35 e35 N35 K35 G35
  have KK := K_33.trans K35 (fun x hx => Or.inr (by rw [List.mem_singleton.mp hx]; exact ge_r4))
  have GR : GA Z h35 r4 .byte mx (fun i => .int (c_ i).toInt8.toInt32) := G35.congr fun i _ => by rw [Nat.zero_add]
  show Owes _ _ _ _ (T35.setTop (mkF m 30 #[.val (.ref r0), .val (.int (0 : Int32)), .val (.int p2), .val (.int p2), .val (.ref r4)] []))
  refine Owes.go ?_ fun t₀ k₀ => XS.aload X35.here hx rfl (hb hby d27_30) rfl rfl k₀
  show Owes _ _ _ _ (T35.setTop (mkF m 32 #[.val (.ref r0), .val (.int (0 : Int32)), .val (.int p2), .val (.int p2), .val (.ref r4)] [(.ref r4)]))
  exact Owes.retA X35 hx hlk hret rfl rfl rfl (hb hby d27_32) (by decide) (show 0 + mx + 0 ≤ 16 by omega) (by rw [e35]; exact ⟨r4, rfl, N35, KK, GR⟩)
theorem d26_0 : decode jdk_65_method_132_code 0 = .ok (.iload_n 1, 1) := by decide +kernel
theorem d26_1 : decode jdk_65_method_132_code 1 = .ok (.ifCond .ne 9, 3) := by decide +kernel
theorem d26_4 : decode jdk_65_method_132_code 4 = .ok (.iload_n 2, 1) := by decide +kernel
theorem d26_5 : decode jdk_65_method_132_code 5 = .ok (.aload_n 0, 1) := by decide +kernel
theorem d26_6 : decode jdk_65_method_132_code 6 = .ok (.arraylength, 1) := by decide +kernel
theorem d26_7 : decode jdk_65_method_132_code 7 = .ok (.if_icmp .eq 10, 3) := by decide +kernel
theorem d26_10 : decode jdk_65_method_132_code 10 = .ok (.aload_n 0, 1) := by decide +kernel
theorem d26_11 : decode jdk_65_method_132_code 11 = .ok (.iload_n 1, 1) := by decide +kernel
theorem d26_12 : decode jdk_65_method_132_code 12 = .ok (.iload_n 2, 1) := by decide +kernel
theorem d26_13 : decode jdk_65_method_132_code 13 = .ok (.invokestatic 339, 3) := by decide +kernel
theorem pd_14 : parseMethodDescriptor "([BII)[B" = some ⟨[(.array .byte), .int, .int], some (.array .byte)⟩ := by decide +kernel
theorem d26_16 : decode jdk_65_method_132_code 16 = .ok (.areturn, 1) := by decide +kernel
theorem ef_cr (m : MethodId) (r0 : Addr) (p2 : Int32)  : entryFrame m #[(.ref r0), (.int (0 : Int32)), (.int p2)] 3 = mkF m 0 #[.val (.ref r0), .val (.int (0 : Int32)), .val (.int p2)] [] := by (first | (simp [entryFrame, mkF, argsToLocals, Value.category]; done) | rfl)
theorem pn_26 : plainFor (⟨"java/util/Arrays", "copyOfRange", "([BII)[B"⟩ : MethodName) = true := plainFor_of_name (by first | (simp [plainName, overriddenIn]; done) | decide +kernel)
set_option maxRecDepth 65536 in
set_option maxHeartbeats 40000000 in
theorem rm_cr (l : Launch) (Z : State) (a0 : Array Value) (hw : ∀ d ∈ tables_1, d.before a0 Z = true) (ws : List Jvm.Cond) (r0 : Addr) (p2 : Int32) (h0 : Heap) (n : Nat) (c_ : Nat → Int32) (G : GA Z h0 r0 .byte n (fun i => .int (c_ i).toInt8.toInt32)) (zn : Int32) (hzn : zn.toInt = (n : Int)) (n0 : Nat) (Z0 : n0 ≤ h0.size) (mx : Nat) (hp2 : p2.toInt = (mx : Int)) (hmn : mx < n) (hn9 : n ≤ 16) :
    OMet l (⟨"java/util/Arrays", "copyOfRange", "([BII)[B"⟩ : MethodName) jdk_65_method_132_code 3 (some (.array .byte)) ws ({ frames := 2, cells := 1, slots := 16, locals := 42 } : Room) #[(.ref r0), (.int (0 : Int32)), (.int p2)] Z h0 (fun v h L => ∃ r : Addr, v = some (.ref r) ∧ Fr n0 L ∧ Keep h0 h [] ∧ GA Z h r .byte mx (fun i => .int (c_ i).toInt8.toInt32)) := by
  refine OMet.of pn_26 (fun m => ef_cr m r0 p2 ) ?_
  intro p e s m below meth c s₁ hx hby hml hown hnm hret hlk hZ X0 e0
  refine Owes.go ?_ fun t₀ k₀ => XS.iloadN X0.here hx rfl (hb hby d26_0) rfl k₀
  show Owes _ _ _ _ (s₁.setTop (mkF m 1 #[.val (.ref r0), .val (.int (0 : Int32)), .val (.int p2)] [(.int (0 : Int32))]))
  refine Owes.go ?_ fun t₀ k₀ => XS.ifNo X0.here hx rfl (hb hby d26_1) rfl ((if0 _ _).trans (teq (by decide : ((0 : Int32) = (0 : Int32)))).2) k₀
  show Owes _ _ _ _ (s₁.setTop (mkF m 4 #[.val (.ref r0), .val (.int (0 : Int32)), .val (.int p2)] []))
  refine Owes.go ?_ fun t₀ k₀ => XS.iloadN X0.here hx rfl (hb hby d26_4) rfl k₀
  show Owes _ _ _ _ (s₁.setTop (mkF m 5 #[.val (.ref r0), .val (.int (0 : Int32)), .val (.int p2)] [(.int p2)]))
  refine Owes.go ?_ fun t₀ k₀ => XS.aloadN X0.here hx rfl (hb hby d26_5) rfl rfl k₀
  show Owes _ _ _ _ (s₁.setTop (mkF m 6 #[.val (.ref r0), .val (.int (0 : Int32)), .val (.int p2)] [(.ref r0), (.int p2)]))
  refine Owes.glen X0 hx hZ e0 G (z := zn) hzn (hb hby d26_6) ?_
  show Owes _ _ _ _ (s₁.setTop (mkF m 7 #[.val (.ref r0), .val (.int (0 : Int32)), .val (.int p2)] [(.int zn), (.int p2)]))
  refine Owes.go ?_ fun t₀ k₀ => XS.icmpNo X0.here hx rfl (hb hby d26_7) rfl (feq (own_nei hp2 hzn (by omega))).1 k₀
  show Owes _ _ _ _ (s₁.setTop (mkF m 10 #[.val (.ref r0), .val (.int (0 : Int32)), .val (.int p2)] []))
  refine Owes.go ?_ fun t₀ k₀ => XS.aloadN X0.here hx rfl (hb hby d26_10) rfl rfl k₀
  show Owes _ _ _ _ (s₁.setTop (mkF m 11 #[.val (.ref r0), .val (.int (0 : Int32)), .val (.int p2)] [(.ref r0)]))
  refine Owes.go ?_ fun t₀ k₀ => XS.iloadN X0.here hx rfl (hb hby d26_11) rfl k₀
  show Owes _ _ _ _ (s₁.setTop (mkF m 12 #[.val (.ref r0), .val (.int (0 : Int32)), .val (.int p2)] [(.int (0 : Int32)), (.ref r0)]))
  refine Owes.go ?_ fun t₀ k₀ => XS.iloadN X0.here hx rfl (hb hby d26_12) rfl k₀
  show Owes _ _ _ _ (s₁.setTop (mkF m 13 #[.val (.ref r0), .val (.int (0 : Int32)), .val (.int p2)] [(.int p2), (.int (0 : Int32)), (.ref r0)]))
  refine Owes.callS X0 hx hZ hown (hw _ (List.mem_of_getElem? (i := 117) rfl)) (hw _ (List.mem_of_getElem? (i := 118) rfl)) (hw _ (List.mem_of_getElem? (i := 115) rfl)) (hw _ (List.mem_of_getElem? (i := 119) rfl)) (by decide) (argsL := [(.ref r0), (.int (0 : Int32)), (.int p2)]) (rest := []) (rm_crb l Z a0 hw [] r0 p2 h0 n c_ G zn hzn n0 Z0 mx hp2 hmn hn9) e0 (by rw [hml]; rfl) pd_14 rfl rfl (hb hby d26_13) (by decide) (Nat.le_of_ble_eq_true rfl) (by decide) (by decide) ?_
  rintro T36 v36 L36 X36 ⟨rr, rfl, Q36⟩
  show Owes _ _ _ _ (T36.setTop (mkF m 16 #[.val (.ref r0), .val (.int (0 : Int32)), .val (.int p2)] [(.ref rr)]))
  exact Owes.retA X36 hx hlk hret rfl rfl rfl (hb hby d26_16) (by decide) (by decide) ⟨rr, rfl, by rw [List.nil_append]; exact Q36⟩
theorem d29_0 : decode jdk_42_method_151_code 0 = .ok (.aload_n 0, 1) := by decide +kernel
theorem d29_1 : decode jdk_42_method_151_code 1 = .ok (.invokespecial 1, 3) := by decide +kernel
theorem d29_4 : decode jdk_42_method_151_code 4 = .ok (.aload_n 0, 1) := by decide +kernel
theorem d29_5 : decode jdk_42_method_151_code 5 = .ok (.aload_n 1, 1) := by decide +kernel
theorem d29_6 : decode jdk_42_method_151_code 6 = .ok (.putfield 9, 3) := by decide +kernel
theorem d29_9 : decode jdk_42_method_151_code 9 = .ok (.aload_n 0, 1) := by decide +kernel
theorem d29_10 : decode jdk_42_method_151_code 10 = .ok (.iload_n 2, 1) := by decide +kernel
theorem d29_11 : decode jdk_42_method_151_code 11 = .ok (.putfield 15, 3) := by decide +kernel
theorem d29_14 : decode jdk_42_method_151_code 14 = .ok (.return_, 1) := by decide +kernel
theorem ef_inb (m : MethodId) (r0 : Addr) (r1 : Addr)  : entryFrame m #[(.ref r0), (.ref r1), (.int (0 : Int32))] 3 = mkF m 0 #[.val (.ref r0), .val (.ref r1), .val (.int (0 : Int32))] [] := by (first | (simp [entryFrame, mkF, argsToLocals, Value.category]; done) | rfl)
theorem pn_29 : plainFor (⟨"java/lang/String", "<init>", "([BB)V"⟩ : MethodName) = true := plainFor_of_name (by first | (simp [plainName, overriddenIn]; done) | decide +kernel)
set_option maxRecDepth 65536 in
set_option maxHeartbeats 40000000 in
theorem rm_inb (l : Launch) (Z : State) (a0 : Array Value) (hw : ∀ d ∈ tables_1, d.before a0 Z = true) (ws : List Jvm.Cond) (r0 : Addr) (r1 : Addr) (h0 : Heap) (n0 : Nat) (g0 : n0 ≤ r0) (E0 : Exa Z h0 r0 "java/lang/String") (F_coder : Fld Z h0 r0 "java/lang/String" "coder" "B" (.int 0)) (F_value : Fld Z h0 r0 "java/lang/String" "value" "[B" .null) (n : Nat) (c_ : Nat → Int32) (G : GA Z h0 r1 .byte n (fun i => .int (c_ i).toInt8.toInt32)) :
    OMet l (⟨"java/lang/String", "<init>", "([BB)V"⟩ : MethodName) jdk_42_method_151_code 3 none ws ({ frames := 1, cells := 0, slots := 0, locals := 14 } : Room) #[(.ref r0), (.ref r1), (.int (0 : Int32))] Z h0 (fun v h L => v = none ∧ Fr n0 L ∧ Keep h0 h [r0] ∧ StK Z h0 h ∧ STR Z h r0 r1 n c_) := by
  refine OMet.of pn_29 (fun m => ef_inb m r0 r1 ) ?_
  intro p e s m below meth c s₁ hx hby hml hown hnm hret hlk hZ X0 e0
  have N0 := Fr.nil n0
  have K0 := Keep.refl h0 [r0]
  have ST0 := StK.refl Z h0
  have wi := (hw _ (List.mem_of_getElem? (i := 7) rfl))
  refine Owes.go ?_ fun t₀ k₀ => XS.aloadN X0.here hx rfl (hb hby d29_0) rfl rfl k₀
  show Owes _ _ _ _ (s₁.setTop (mkF m 1 #[.val (.ref r0), .val (.ref r1), .val (.int (0 : Int32))] [(.ref r0)]))
  refine Owes.initO X0 hx hZ hown (hw _ (List.mem_of_getElem? (i := 16) rfl)) (hw _ (List.mem_of_getElem? (i := 17) rfl)) (hw _ (List.mem_of_getElem? (i := 18) rfl)) e0 (by rw [hml]; rfl) (hb hby d29_1) (by decide) (Nat.le_of_ble_eq_true rfl) ?_
  intro T37 X37 e37
  show Owes _ _ _ _ (T37.setTop (mkF m 4 #[.val (.ref r0), .val (.ref r1), .val (.int (0 : Int32))] []))
  refine Owes.go ?_ fun t₀ k₀ => XS.aloadN X37.here hx rfl (hb hby d29_4) rfl rfl k₀
  show Owes _ _ _ _ (T37.setTop (mkF m 5 #[.val (.ref r0), .val (.ref r1), .val (.int (0 : Int32))] [(.ref r0)]))
  refine Owes.go ?_ fun t₀ k₀ => XS.aloadN X37.here hx rfl (hb hby d29_5) rfl rfl k₀
  show Owes _ _ _ _ (T37.setTop (mkF m 6 #[.val (.ref r0), .val (.ref r1), .val (.int (0 : Int32))] [(.ref r1), (.ref r0)]))
  refine Owes.putF X37 hx hZ hown (host := "") (Or.inl (hw _ (List.mem_of_getElem? (i := 33) rfl))) Via.refl e37 F_value E0 (Or.inr ⟨(hw _ (List.mem_of_getElem? (i := 34) rfl)), rfl, hnm⟩) (hw _ (List.mem_of_getElem? (i := 7) rfl)) (ty := (.array .byte)) (by decide) rfl rfl (hb hby d29_6) ?_
  intro T38 h38 X38 e38 W38
  have N38 := Fr.snoc X38 N0 g0
  have E_r0_38 := Exa.wr W38 E0
  have F_r0_coder_38 := Fld.other W38 F_coder (Or.inr (slot_ne (Or.inr (hw _ (List.mem_of_getElem? (i := 32) rfl))) (Or.inr (hw _ (List.mem_of_getElem? (i := 34) rfl))) (by decide) (t := .byte) (t' := (.array .byte)) (by decide) (by decide)))
  have F_r0_value_38 := Fld.same W38 F_value
  have G_r1_38 := GA.other G W38 (Ne.symm (GA.ne_obj E0 wi G))
  have K_38 := K0.wr W38 (Or.inl (List.mem_singleton.mpr rfl))
  have ST_38 := ST0.wr W38
  show Owes _ _ _ _ (T38.setTop (mkF m 9 #[.val (.ref r0), .val (.ref r1), .val (.int (0 : Int32))] []))
  refine Owes.go ?_ fun t₀ k₀ => XS.aloadN X38.here hx rfl (hb hby d29_9) rfl rfl k₀
  show Owes _ _ _ _ (T38.setTop (mkF m 10 #[.val (.ref r0), .val (.ref r1), .val (.int (0 : Int32))] [(.ref r0)]))
  refine Owes.go ?_ fun t₀ k₀ => XS.iloadN X38.here hx rfl (hb hby d29_10) rfl k₀
  show Owes _ _ _ _ (T38.setTop (mkF m 11 #[.val (.ref r0), .val (.ref r1), .val (.int (0 : Int32))] [(.int (0 : Int32)), (.ref r0)]))
  refine Owes.putF X38 hx hZ hown (host := "") (Or.inl (hw _ (List.mem_of_getElem? (i := 31) rfl))) Via.refl e38 F_r0_coder_38 E_r0_38 (Or.inr ⟨(hw _ (List.mem_of_getElem? (i := 32) rfl)), rfl, hnm⟩) (hw _ (List.mem_of_getElem? (i := 7) rfl)) (ty := .byte) (by decide) rfl rfl (hb hby d29_11) ?_
  intro T39 h39 X39 e39 W39
  have N39 := Fr.snoc X39 N38 g0
  have E_r0_39 := Exa.wr W39 E_r0_38
  have F_r0_coder_39 := Fld.same W39 F_r0_coder_38
  have F_r0_value_39 := Fld.other W39 F_r0_value_38 (Or.inr (slot_ne (Or.inr (hw _ (List.mem_of_getElem? (i := 34) rfl))) (Or.inr (hw _ (List.mem_of_getElem? (i := 32) rfl))) (by decide) (t := (.array .byte)) (t' := .byte) (by decide) (by decide)))
  have G_r1_39 := GA.other G_r1_38 W39 (Ne.symm (GA.ne_obj E_r0_38 wi G_r1_38))
  have K_39 := K_38.wr W39 (Or.inl (List.mem_singleton.mpr rfl))
  have ST_39 := ST_38.wr W39
  show Owes _ _ _ _ (T39.setTop (mkF m 14 #[.val (.ref r0), .val (.ref r1), .val (.int (0 : Int32))] []))
  exact Owes.retV X39 hx hlk hret (hb hby d29_14) (by decide) (by decide) (by rw [e39]; exact ⟨rfl, N39, K_39, ST_39, E_r0_39, F_r0_coder_39, F_r0_value_39, G_r1_39⟩)
theorem d25_0 : decode jdk_43_method_47_code 0 = .ok (.iload_n 2, 1) := by decide +kernel
theorem d25_1 : decode jdk_43_method_47_code 1 = .ok (.ifCond .ne 6, 3) := by decide +kernel
theorem d25_7 : decode jdk_43_method_47_code 7 = .ok (.new 1, 3) := by decide +kernel
theorem d25_10 : decode jdk_43_method_47_code 10 = .ok (.dup, 1) := by decide +kernel
theorem d25_11 : decode jdk_43_method_47_code 11 = .ok (.aload_n 0, 1) := by decide +kernel
theorem d25_12 : decode jdk_43_method_47_code 12 = .ok (.iload_n 1, 1) := by decide +kernel
theorem d25_13 : decode jdk_43_method_47_code 13 = .ok (.iload_n 1, 1) := by decide +kernel
theorem d25_14 : decode jdk_43_method_47_code 14 = .ok (.iload_n 2, 1) := by decide +kernel
theorem d25_15 : decode jdk_43_method_47_code 15 = .ok (.iadd, 1) := by decide +kernel
theorem d25_16 : decode jdk_43_method_47_code 16 = .ok (.invokestatic 232, 3) := by decide +kernel
theorem d25_19 : decode jdk_43_method_47_code 19 = .ok (.iconst 0, 1) := by decide +kernel
theorem d25_20 : decode jdk_43_method_47_code 20 = .ok (.invokespecial 112, 3) := by decide +kernel
theorem pd_15 : parseMethodDescriptor "([BB)V" = some ⟨[(.array .byte), .byte], none⟩ := by decide +kernel
theorem d25_23 : decode jdk_43_method_47_code 23 = .ok (.areturn, 1) := by decide +kernel
theorem ef_ns (m : MethodId) (r0 : Addr) (p2 : Int32)  : entryFrame m #[(.ref r0), (.int (0 : Int32)), (.int p2)] 3 = mkF m 0 #[.val (.ref r0), .val (.int (0 : Int32)), .val (.int p2)] [] := by (first | (simp [entryFrame, mkF, argsToLocals, Value.category]; done) | rfl)
theorem pn_25 : plainFor (⟨"java/lang/StringLatin1", "newString", "([BII)Ljava/lang/String;"⟩ : MethodName) = true := plainFor_of_name (by first | (simp [plainName, overriddenIn]; done) | decide +kernel)
set_option maxRecDepth 65536 in
set_option maxHeartbeats 40000000 in
theorem rm_ns (l : Launch) (Z : State) (a0 : Array Value) (hw : ∀ d ∈ tables_1, d.before a0 Z = true) (ws : List Jvm.Cond) (r0 : Addr) (p2 : Int32) (h0 : Heap) (n : Nat) (c_ : Nat → Int32) (G : GA Z h0 r0 .byte n (fun i => .int (c_ i).toInt8.toInt32)) (zn : Int32) (hzn : zn.toInt = (n : Int)) (n0 : Nat) (Z0 : n0 ≤ h0.size) (mx : Nat) (hp2 : p2.toInt = (mx : Int)) (hmn : mx < n) (hn9 : n ≤ 16) (hm1 : 1 ≤ mx) :
    OMet l (⟨"java/lang/StringLatin1", "newString", "([BII)Ljava/lang/String;"⟩ : MethodName) jdk_43_method_47_code 3 (some (.object "java/lang/String")) ws ({ frames := 3, cells := 2, slots := 24, locals := 64 } : Room) #[(.ref r0), (.int (0 : Int32)), (.int p2)] Z h0 (fun v h L => ∃ r b' : Addr, v = some (.ref r) ∧ Fr n0 L ∧ Keep h0 h [] ∧ STR Z h r b' mx c_) := by
  refine OMet.of pn_25 (fun m => ef_ns m r0 p2 ) ?_
  intro p e s m below meth c s₁ hx hby hml hown hnm hret hlk hZ X0 e0
  have N0 := Fr.nil n0
  have K0 := Keep.refl h0 []
  have ST0 := StK.refl Z h0
  have wi := (hw _ (List.mem_of_getElem? (i := 7) rfl))
  refine Owes.go ?_ fun t₀ k₀ => XS.iloadN X0.here hx rfl (hb hby d25_0) rfl k₀
  show Owes _ _ _ _ (s₁.setTop (mkF m 1 #[.val (.ref r0), .val (.int (0 : Int32)), .val (.int p2)] [(.int p2)]))
  refine Owes.go ?_ fun t₀ k₀ => XS.ifYes X0.here hx rfl (pc0 := 1) (pc' := 7) rfl (hb hby d25_1) rfl ((if0 _ _).trans (feq (own_nz1 hp2 hm1)).2) (by decide) (by decide) k₀
  show Owes _ _ _ _ (s₁.setTop (mkF m 7 #[.val (.ref r0), .val (.int (0 : Int32)), .val (.int p2)] []))
  refine Owes.newO X0 hx hZ hown (hw _ (List.mem_of_getElem? (i := 112) rfl)) (hw _ (List.mem_of_getElem? (i := 7) rfl)) (hw _ (List.mem_of_getElem? (i := 8) rfl)) e0 (hb hby d25_7) (by decide) (by decide) ?_
  intro T40 h40 X40 e40 E40 A40 D40
  obtain ⟨rn, grn⟩ : ∃ z, z = h0.size := ⟨_, rfl⟩
  rw [← grn] at A40 ⊢
  have lt_r0_rn : r0 < rn := by rw [grn]; exact (G).lt
  have ge_rn : h0.size ≤ rn := by rw [grn]; exact K0.1
  have gn_rn : n0 ≤ rn := Nat.le_trans Z0 ge_rn
  have G_r0_40 := GA.ext G E40
  have K_40 := K0.ext E40
  have ST_40 := ST0.ext E40
  have F_rn_value_40 : Fld Z h40 rn "java/lang/String" "value" "[B" .null := by rw [grn]; exact D40 (Or.inr (hw _ (List.mem_of_getElem? (i := 34) rfl))) (ty := (.array .byte)) (by decide)
  have F_rn_coder_40 : Fld Z h40 rn "java/lang/String" "coder" "B" (.int (0 : Int32)) := by rw [grn]; exact D40 (Or.inr (hw _ (List.mem_of_getElem? (i := 32) rfl))) (ty := .byte) (by decide)
  show Owes _ _ _ _ (T40.setTop (mkF m 10 #[.val (.ref r0), .val (.int (0 : Int32)), .val (.int p2)] [(.ref rn)]))
  refine Owes.go ?_ fun t₀ k₀ => XS.dup X40.here hx rfl (hb hby d25_10) rfl rfl k₀
  show Owes _ _ _ _ (T40.setTop (mkF m 11 #[.val (.ref r0), .val (.int (0 : Int32)), .val (.int p2)] [(.ref rn), (.ref rn)]))
  refine Owes.go ?_ fun t₀ k₀ => XS.aloadN X40.here hx rfl (hb hby d25_11) rfl rfl k₀
  show Owes _ _ _ _ (T40.setTop (mkF m 12 #[.val (.ref r0), .val (.int (0 : Int32)), .val (.int p2)] [(.ref r0), (.ref rn), (.ref rn)]))
  refine Owes.go ?_ fun t₀ k₀ => XS.iloadN X40.here hx rfl (hb hby d25_12) rfl k₀
  show Owes _ _ _ _ (T40.setTop (mkF m 13 #[.val (.ref r0), .val (.int (0 : Int32)), .val (.int p2)] [(.int (0 : Int32)), (.ref r0), (.ref rn), (.ref rn)]))
  refine Owes.go ?_ fun t₀ k₀ => XS.iloadN X40.here hx rfl (hb hby d25_13) rfl k₀
  show Owes _ _ _ _ (T40.setTop (mkF m 14 #[.val (.ref r0), .val (.int (0 : Int32)), .val (.int p2)] [(.int (0 : Int32)), (.int (0 : Int32)), (.ref r0), (.ref rn), (.ref rn)]))
  refine Owes.go ?_ fun t₀ k₀ => XS.iloadN X40.here hx rfl (hb hby d25_14) rfl k₀
  show Owes _ _ _ _ (T40.setTop (mkF m 15 #[.val (.ref r0), .val (.int (0 : Int32)), .val (.int p2)] [(.int p2), (.int (0 : Int32)), (.int (0 : Int32)), (.ref r0), (.ref rn), (.ref rn)]))
  refine Owes.go ?_ fun t₀ k₀ => XS.iadd X40.here hx rfl (hb hby d25_15) rfl k₀
  show Owes _ _ _ _ (T40.setTop (mkF m 16 #[.val (.ref r0), .val (.int (0 : Int32)), .val (.int p2)] [(.int ((0 : Int32) + p2)), (.int (0 : Int32)), (.ref r0), (.ref rn), (.ref rn)]))
  rw [own_a0 p2]
  refine Owes.callS X40 hx hZ hown (hw _ (List.mem_of_getElem? (i := 113) rfl)) (hw _ (List.mem_of_getElem? (i := 114) rfl)) (hw _ (List.mem_of_getElem? (i := 115) rfl)) (hw _ (List.mem_of_getElem? (i := 116) rfl)) (by decide) (argsL := [(.ref r0), (.int (0 : Int32)), (.int p2)]) (rest := [(.ref rn), (.ref rn)]) (rm_cr l Z a0 hw [] r0 p2 h40 n c_ G_r0_40 zn hzn n0 (Nat.le_trans Z0 K_40.1) mx hp2 hmn hn9) e40 (by rw [hml]; rfl) pd_14 rfl rfl (hb hby d25_16) (by decide) (Nat.le_of_ble_eq_true rfl) (by decide) (by decide) ?_
  rintro T41 v41 L41 X41 ⟨rb, rfl, N41, K41, GR⟩
  have NF41 := Fr.app N0 N41
  have E_rn_41 := Exa.keep A40 K41
  have F_rn_value_41 := Fld.keep F_rn_value_40 K41 List.not_mem_nil
  have F_rn_coder_41 := Fld.keep F_rn_coder_40 K41 List.not_mem_nil
  have G_r0_41 := GA.keep G_r0_40 K41 List.not_mem_nil
  have K_41 := K_40.trans K41 (fun x hx => absurd hx List.not_mem_nil)
  have ST_41 := ST_40.trans (StK.of_keep K41)
  show Owes _ _ _ _ (T41.setTop (mkF m 19 #[.val (.ref r0), .val (.int (0 : Int32)), .val (.int p2)] [(.ref rb), (.ref rn), (.ref rn)]))
  refine Owes.go ?_ fun t₀ k₀ => XS.iconst X41.here hx rfl (hb hby d25_19) k₀
  show Owes _ _ _ _ (T41.setTop (mkF m 20 #[.val (.ref r0), .val (.int (0 : Int32)), .val (.int p2)] [(.int (0 : Int32)), (.ref rb), (.ref rn), (.ref rn)]))
  refine Owes.callC X41 hx hZ rfl hown (hw _ (List.mem_of_getElem? (i := 128) rfl)) (hw _ (List.mem_of_getElem? (i := 129) rfl)) (hw _ (List.mem_of_getElem? (i := 8) rfl)) (hw _ (List.mem_of_getElem? (i := 130) rfl)) (by decide) (a := rn) (argsL := [(.ref rb), (.int (0 : Int32))]) (rest := [(.ref rn)]) (rm_inb l Z a0 hw [] rn rb T41.heap n0 gn_rn E_rn_41 F_rn_coder_41 F_rn_value_41 mx c_ GR) rfl (by rw [hml]; rfl) pd_15 rfl rfl (hb hby d25_20) (by decide) (Nat.le_of_ble_eq_true rfl) (by decide) (by decide) ?_
  rintro T42 v42 L42 X42 ⟨rfl, N42, K42, -, SR⟩
  have NF42 := Fr.app NF41 N42
  have KK := K_41.trans K42 (fun x hx => Or.inr (by rw [List.mem_singleton.mp hx]; exact ge_rn))
  show Owes _ _ _ _ (T42.setTop (mkF m 23 #[.val (.ref r0), .val (.int (0 : Int32)), .val (.int p2)] [(.ref rn)]))
  exact Owes.retA X42 hx hlk hret rfl rfl rfl (hb hby d25_23) (by decide) (by decide) ⟨rn, rb, rfl, NF42, KK, SR⟩
theorem d22_0 : decode jdk_42_method_92_code 0 = .ok (.aload_n 0, 1) := by decide +kernel
theorem d22_1 : decode jdk_42_method_92_code 1 = .ok (.invokevirtual 505, 3) := by decide +kernel
theorem d22_4 : decode jdk_42_method_92_code 4 = .ok (.istore_n 3, 1) := by decide +kernel
theorem d22_5 : decode jdk_42_method_92_code 5 = .ok (.iload_n 1, 1) := by decide +kernel
theorem d22_6 : decode jdk_42_method_92_code 6 = .ok (.iload_n 2, 1) := by decide +kernel
theorem d22_7 : decode jdk_42_method_92_code 7 = .ok (.iload_n 3, 1) := by decide +kernel
theorem d22_8 : decode jdk_42_method_92_code 8 = .ok (.invokestatic 521, 3) := by decide +kernel
theorem pd_16 : parseMethodDescriptor "(III)V" = some ⟨[.int, .int, .int], none⟩ := by decide +kernel
theorem d22_11 : decode jdk_42_method_92_code 11 = .ok (.iload_n 1, 1) := by decide +kernel
theorem d22_12 : decode jdk_42_method_92_code 12 = .ok (.ifCond .ne 10, 3) := by decide +kernel
theorem d22_15 : decode jdk_42_method_92_code 15 = .ok (.iload_n 2, 1) := by decide +kernel
theorem d22_16 : decode jdk_42_method_92_code 16 = .ok (.iload_n 3, 1) := by decide +kernel
theorem d22_17 : decode jdk_42_method_92_code 17 = .ok (.if_icmp .ne 5, 3) := by decide +kernel
theorem d22_22 : decode jdk_42_method_92_code 22 = .ok (.iload_n 2, 1) := by decide +kernel
theorem d22_23 : decode jdk_42_method_92_code 23 = .ok (.iload_n 1, 1) := by decide +kernel
theorem d22_24 : decode jdk_42_method_92_code 24 = .ok (.isub, 1) := by decide +kernel
theorem d22_25 : decode jdk_42_method_92_code 25 = .ok (.istore 4, 2) := by decide +kernel
theorem d22_27 : decode jdk_42_method_92_code 27 = .ok (.aload_n 0, 1) := by decide +kernel
theorem d22_28 : decode jdk_42_method_92_code 28 = .ok (.invokevirtual 492, 3) := by decide +kernel
theorem d22_31 : decode jdk_42_method_92_code 31 = .ok (.ifCond .eq 16, 3) := by decide +kernel
theorem d22_34 : decode jdk_42_method_92_code 34 = .ok (.aload_n 0, 1) := by decide +kernel
theorem d22_35 : decode jdk_42_method_92_code 35 = .ok (.getfield 9, 3) := by decide +kernel
theorem d22_38 : decode jdk_42_method_92_code 38 = .ok (.iload_n 1, 1) := by decide +kernel
theorem d22_39 : decode jdk_42_method_92_code 39 = .ok (.iload 4, 2) := by decide +kernel
theorem d22_41 : decode jdk_42_method_92_code 41 = .ok (.invokestatic 685, 3) := by decide +kernel
theorem pd_17 : parseMethodDescriptor "([BII)Ljava/lang/String;" = some ⟨[(.array .byte), .int, .int], some (.object "java/lang/String")⟩ := by decide +kernel
theorem d22_44 : decode jdk_42_method_92_code 44 = .ok (.goto 13, 3) := by decide +kernel
theorem d22_57 : decode jdk_42_method_92_code 57 = .ok (.areturn, 1) := by decide +kernel
theorem ef_sub (m : MethodId) (r0 : Addr) (p2 : Int32)  : entryFrame m #[(.ref r0), (.int (0 : Int32)), (.int p2)] 5 = mkF m 0 #[.val (.ref r0), .val (.int (0 : Int32)), .val (.int p2), .unset, .unset] [] := by (first | (simp [entryFrame, mkF, argsToLocals, Value.category]; done) | rfl)
theorem pn_22 : plainFor (⟨"java/lang/String", "substring", "(II)Ljava/lang/String;"⟩ : MethodName) = true := plainFor_of_name (by first | (simp [plainName, overriddenIn]; done) | decide +kernel)
set_option maxRecDepth 65536 in
set_option maxHeartbeats 40000000 in
theorem rm_sub (l : Launch) (Z : State) (a0 : Array Value) (hw : ∀ d ∈ tables_1, d.before a0 Z = true) (ws : List Jvm.Cond) (r0 : Addr) (p2 : Int32) (h0 : Heap) (b : Addr) (n : Nat) (c_ : Nat → Int32) (S : STR Z h0 r0 b n c_) (zn : Int32) (hzn : zn.toInt = (n : Int)) (cs : Int32) (SC : Sta Z h0 "java/lang/String" "COMPACT_STRINGS" "Z" (.int cs)) (hcs : ¬ cs = (0 : Int32)) (vf : Value) (hcat_vf : vf.category = 1) (SF : Sta Z h0 "jdk/internal/util/Preconditions" "SIOOBE_FORMATTER" "Ljava/util/function/BiFunction;" vf) (n0 : Nat) (Z0 : n0 ≤ h0.size) (mx : Nat) (hp2 : p2.toInt = (mx : Int)) (hmn : mx < n) (hn9 : n ≤ 16) (hm1 : 1 ≤ mx) :
    OMet l (⟨"java/lang/String", "substring", "(II)Ljava/lang/String;"⟩ : MethodName) jdk_42_method_92_code 5 (some (.object "java/lang/String")) ws ({ frames := 4, cells := 2, slots := 24, locals := 84 } : Room) #[(.ref r0), (.int (0 : Int32)), (.int p2)] Z h0 (fun v h L => ∃ r b' : Addr, v = some (.ref r) ∧ Fr n0 L ∧ Keep h0 h [] ∧ STR Z h r b' mx c_) := by
  refine OMet.of pn_22 (fun m => ef_sub m r0 p2 ) ?_
  intro p e s m below meth c s₁ hx hby hml hown hnm hret hlk hZ X0 e0
  refine Owes.go ?_ fun t₀ k₀ => XS.aloadN X0.here hx rfl (hb hby d22_0) rfl rfl k₀
  show Owes _ _ _ _ (s₁.setTop (mkF m 1 #[.val (.ref r0), .val (.int (0 : Int32)), .val (.int p2), .unset, .unset] [(.ref r0)]))
  refine Owes.callV X0 hx hZ hown (hw _ (List.mem_of_getElem? (i := 44) rfl)) (hw _ (List.mem_of_getElem? (i := 45) rfl)) (notFace_of_selects (args := #[]) (mvT hZ (hw _ (List.mem_of_getElem? (i := 47) rfl)))) (hw _ (List.mem_of_getElem? (i := 47) rfl)) (hw _ (List.mem_of_getElem? (i := 46) rfl)) (hw _ (List.mem_of_getElem? (i := 8) rfl)) (hw _ (List.mem_of_getElem? (i := 48) rfl)) (by decide) (a := r0) (argsL := []) (rest := []) (rm_len l Z a0 hw [] r0  h0 b n c_ S zn hzn cs SC hcs) e0 S.1 (by rw [hml]; rfl) pd_12 rfl rfl (hb hby d22_1) (by decide) (Nat.le_of_ble_eq_true rfl) (by decide) (by decide) ?_
  rintro T43 _ _ X43 ⟨rfl, rfl, e43⟩
  rw [List.append_nil] at X43
  show Owes _ _ _ _ (T43.setTop (mkF m 4 #[.val (.ref r0), .val (.int (0 : Int32)), .val (.int p2), .unset, .unset] [(.int zn)]))
  refine Owes.go ?_ fun t₀ k₀ => XS.istoreN X43.here hx rfl (hb hby d22_4) rfl (l' := #[.val (.ref r0), .val (.int (0 : Int32)), .val (.int p2), .val (.int zn), .unset]) rfl k₀
  show Owes _ _ _ _ (T43.setTop (mkF m 5 #[.val (.ref r0), .val (.int (0 : Int32)), .val (.int p2), .val (.int zn), .unset] []))
  refine Owes.go ?_ fun t₀ k₀ => XS.iloadN X43.here hx rfl (hb hby d22_5) rfl k₀
  show Owes _ _ _ _ (T43.setTop (mkF m 6 #[.val (.ref r0), .val (.int (0 : Int32)), .val (.int p2), .val (.int zn), .unset] [(.int (0 : Int32))]))
  refine Owes.go ?_ fun t₀ k₀ => XS.iloadN X43.here hx rfl (hb hby d22_6) rfl k₀
  show Owes _ _ _ _ (T43.setTop (mkF m 7 #[.val (.ref r0), .val (.int (0 : Int32)), .val (.int p2), .val (.int zn), .unset] [(.int p2), (.int (0 : Int32))]))
  refine Owes.go ?_ fun t₀ k₀ => XS.iloadN X43.here hx rfl (hb hby d22_7) rfl k₀
  show Owes _ _ _ _ (T43.setTop (mkF m 8 #[.val (.ref r0), .val (.int (0 : Int32)), .val (.int p2), .val (.int zn), .unset] [(.int zn), (.int p2), (.int (0 : Int32))]))
  refine Owes.callS X43 hx hZ hown (hw _ (List.mem_of_getElem? (i := 103) rfl)) (hw _ (List.mem_of_getElem? (i := 104) rfl)) (hw _ (List.mem_of_getElem? (i := 8) rfl)) (hw _ (List.mem_of_getElem? (i := 105) rfl)) (by decide) (argsL := [(.int (0 : Int32)), (.int p2), (.int zn)]) (rest := []) (rm_cbe l Z a0 hw [] (0 : Int32) p2 zn h0 vf hcat_vf SF (by decide) (own_nlti hp2 (b := 0) rfl (by omega)) (own_nlti hzn hp2 (by omega))) e43 (by rw [hml]; rfl) pd_16 rfl rfl (hb hby d22_8) (by decide) (Nat.le_of_ble_eq_true rfl) (by decide) (by decide) ?_
  rintro T44 _ _ X44 ⟨rfl, rfl, e44⟩
  rw [List.append_nil] at X44
  show Owes _ _ _ _ (T44.setTop (mkF m 11 #[.val (.ref r0), .val (.int (0 : Int32)), .val (.int p2), .val (.int zn), .unset] []))
  refine Owes.go ?_ fun t₀ k₀ => XS.iloadN X44.here hx rfl (hb hby d22_11) rfl k₀
  show Owes _ _ _ _ (T44.setTop (mkF m 12 #[.val (.ref r0), .val (.int (0 : Int32)), .val (.int p2), .val (.int zn), .unset] [(.int (0 : Int32))]))
  refine Owes.go ?_ fun t₀ k₀ => XS.ifNo X44.here hx rfl (hb hby d22_12) rfl ((if0 _ _).trans (teq (by decide : ((0 : Int32) = (0 : Int32)))).2) k₀
  show Owes _ _ _ _ (T44.setTop (mkF m 15 #[.val (.ref r0), .val (.int (0 : Int32)), .val (.int p2), .val (.int zn), .unset] []))
  refine Owes.go ?_ fun t₀ k₀ => XS.iloadN X44.here hx rfl (hb hby d22_15) rfl k₀
  show Owes _ _ _ _ (T44.setTop (mkF m 16 #[.val (.ref r0), .val (.int (0 : Int32)), .val (.int p2), .val (.int zn), .unset] [(.int p2)]))
  refine Owes.go ?_ fun t₀ k₀ => XS.iloadN X44.here hx rfl (hb hby d22_16) rfl k₀
  show Owes _ _ _ _ (T44.setTop (mkF m 17 #[.val (.ref r0), .val (.int (0 : Int32)), .val (.int p2), .val (.int zn), .unset] [(.int zn), (.int p2)]))
  refine Owes.go ?_ fun t₀ k₀ => XS.icmpYes X44.here hx rfl (pc0 := 17) (pc' := 22) rfl (hb hby d22_17) rfl (feq (own_nei hp2 hzn (by omega))).2 (by decide) (by decide) k₀
  show Owes _ _ _ _ (T44.setTop (mkF m 22 #[.val (.ref r0), .val (.int (0 : Int32)), .val (.int p2), .val (.int zn), .unset] []))
  refine Owes.go ?_ fun t₀ k₀ => XS.iloadN X44.here hx rfl (hb hby d22_22) rfl k₀
  show Owes _ _ _ _ (T44.setTop (mkF m 23 #[.val (.ref r0), .val (.int (0 : Int32)), .val (.int p2), .val (.int zn), .unset] [(.int p2)]))
  refine Owes.go ?_ fun t₀ k₀ => XS.iloadN X44.here hx rfl (hb hby d22_23) rfl k₀
  show Owes _ _ _ _ (T44.setTop (mkF m 24 #[.val (.ref r0), .val (.int (0 : Int32)), .val (.int p2), .val (.int zn), .unset] [(.int (0 : Int32)), (.int p2)]))
  refine Owes.go ?_ fun t₀ k₀ => XS.isub X44.here hx rfl (hb hby d22_24) rfl k₀
  show Owes _ _ _ _ (T44.setTop (mkF m 25 #[.val (.ref r0), .val (.int (0 : Int32)), .val (.int p2), .val (.int zn), .unset] [(.int (p2 - (0 : Int32)))]))
  rw [own_s0 p2]
  refine Owes.go ?_ fun t₀ k₀ => XS.istore X44.here hx rfl (hb hby d22_25) rfl (l' := #[.val (.ref r0), .val (.int (0 : Int32)), .val (.int p2), .val (.int zn), .val (.int p2)]) rfl k₀
  show Owes _ _ _ _ (T44.setTop (mkF m 27 #[.val (.ref r0), .val (.int (0 : Int32)), .val (.int p2), .val (.int zn), .val (.int p2)] []))
  refine Owes.go ?_ fun t₀ k₀ => XS.aloadN X44.here hx rfl (hb hby d22_27) rfl rfl k₀
  show Owes _ _ _ _ (T44.setTop (mkF m 28 #[.val (.ref r0), .val (.int (0 : Int32)), .val (.int p2), .val (.int zn), .val (.int p2)] [(.ref r0)]))
  refine Owes.callV X44 hx hZ hown (hw _ (List.mem_of_getElem? (i := 59) rfl)) (hw _ (List.mem_of_getElem? (i := 60) rfl)) (notFace_of_selects (args := #[]) (mvT hZ (hw _ (List.mem_of_getElem? (i := 62) rfl)))) (hw _ (List.mem_of_getElem? (i := 62) rfl)) (hw _ (List.mem_of_getElem? (i := 61) rfl)) (hw _ (List.mem_of_getElem? (i := 8) rfl)) (hw _ (List.mem_of_getElem? (i := 63) rfl)) (by decide) (a := r0) (argsL := []) (rest := []) (rm_lat l Z a0 hw [] r0  h0 b n c_ S zn hzn cs SC hcs) e44 S.1 (by rw [hml]; rfl) pd_3 rfl rfl (hb hby d22_28) (by decide) (Nat.le_of_ble_eq_true rfl) (by decide) (by decide) ?_
  rintro T45 _ _ X45 ⟨rfl, rfl, e45⟩
  rw [List.append_nil] at X45
  show Owes _ _ _ _ (T45.setTop (mkF m 31 #[.val (.ref r0), .val (.int (0 : Int32)), .val (.int p2), .val (.int zn), .val (.int p2)] [(.int (1 : Int32))]))
  refine Owes.go ?_ fun t₀ k₀ => XS.ifNo X45.here hx rfl (hb hby d22_31) rfl ((if0 _ _).trans (feq (by decide : ¬ ((1 : Int32) = (0 : Int32)))).1) k₀
  show Owes _ _ _ _ (T45.setTop (mkF m 34 #[.val (.ref r0), .val (.int (0 : Int32)), .val (.int p2), .val (.int zn), .val (.int p2)] []))
  refine Owes.go ?_ fun t₀ k₀ => XS.aloadN X45.here hx rfl (hb hby d22_34) rfl rfl k₀
  show Owes _ _ _ _ (T45.setTop (mkF m 35 #[.val (.ref r0), .val (.int (0 : Int32)), .val (.int p2), .val (.int zn), .val (.int p2)] [(.ref r0)]))
  obtain ⟨T46, X46, e46, st46⟩ := getF X45 hx hZ hown (host := "") (Or.inl (hw _ (List.mem_of_getElem? (i := 33) rfl))) Via.refl e45 S.2.2.1 (g := (mkF m 35 #[.val (.ref r0), .val (.int (0 : Int32)), .val (.int p2), .val (.int zn), .val (.int p2)] [(.ref r0)])) rfl rfl (hb hby d22_35)
  refine Owes.go ?_ st46
  show Owes _ _ _ _ (T46.setTop (mkF m 38 #[.val (.ref r0), .val (.int (0 : Int32)), .val (.int p2), .val (.int zn), .val (.int p2)] [(.ref b)]))
  refine Owes.go ?_ fun t₀ k₀ => XS.iloadN X46.here hx rfl (hb hby d22_38) rfl k₀
  show Owes _ _ _ _ (T46.setTop (mkF m 39 #[.val (.ref r0), .val (.int (0 : Int32)), .val (.int p2), .val (.int zn), .val (.int p2)] [(.int (0 : Int32)), (.ref b)]))
  refine Owes.go ?_ fun t₀ k₀ => XS.iload X46.here hx rfl (hb hby d22_39) rfl k₀
  show Owes _ _ _ _ (T46.setTop (mkF m 41 #[.val (.ref r0), .val (.int (0 : Int32)), .val (.int p2), .val (.int zn), .val (.int p2)] [(.int p2), (.int (0 : Int32)), (.ref b)]))
  refine Owes.callS X46 hx hZ hown (hw _ (List.mem_of_getElem? (i := 109) rfl)) (hw _ (List.mem_of_getElem? (i := 110) rfl)) (hw _ (List.mem_of_getElem? (i := 66) rfl)) (hw _ (List.mem_of_getElem? (i := 111) rfl)) (by decide) (argsL := [(.ref b), (.int (0 : Int32)), (.int p2)]) (rest := []) (rm_ns l Z a0 hw [] b p2 h0 n c_ S.2.2.2 zn hzn n0 Z0 mx hp2 hmn hn9 hm1) e46 (by rw [hml]; rfl) pd_17 rfl rfl (hb hby d22_41) (by decide) (Nat.le_of_ble_eq_true rfl) (by decide) (by decide) ?_
  rintro T47 v47 L47 X47 ⟨rr, rbb, rfl, Q47⟩
  show Owes _ _ _ _ (T47.setTop (mkF m 44 #[.val (.ref r0), .val (.int (0 : Int32)), .val (.int p2), .val (.int zn), .val (.int p2)] [(.ref rr)]))
  refine Owes.go ?_ fun t₀ k₀ => XS.goto X47.here hx rfl (pc0 := 44) (pc' := 57) rfl (hb hby d22_44) (by decide) (by decide) k₀
  show Owes _ _ _ _ (T47.setTop (mkF m 57 #[.val (.ref r0), .val (.int (0 : Int32)), .val (.int p2), .val (.int zn), .val (.int p2)] [(.ref rr)]))
  exact Owes.retA X47 hx hlk hret rfl rfl rfl (hb hby d22_57) (by decide) (by decide) ⟨rr, rbb, rfl, by rw [List.nil_append]; exact Q47⟩
theorem d21_0 : decode method_4_code 0 = .ok (.iload_n 1, 1) := by decide +kernel
theorem d21_1 : decode method_4_code 1 = .ok (.iload_n 2, 1) := by decide +kernel
theorem d21_2 : decode method_4_code 2 = .ok (.if_icmp .ge 12, 3) := by decide +kernel
theorem d21_5 : decode method_4_code 5 = .ok (.aload_n 0, 1) := by decide +kernel
theorem d21_6 : decode method_4_code 6 = .ok (.iload_n 1, 1) := by decide +kernel
theorem d21_7 : decode method_4_code 7 = .ok (.invokevirtual 29, 3) := by decide +kernel
theorem pd_18 : parseMethodDescriptor "(I)C" = some ⟨[.int], some .char⟩ := by decide +kernel
theorem d21_10 : decode method_4_code 10 = .ok (.iload_n 3, 1) := by decide +kernel
theorem d21_11 : decode method_4_code 11 = .ok (.if_icmp .ne 7, 3) := by decide +kernel
theorem d21_14 : decode method_4_code 14 = .ok (.iconst 1, 1) := by decide +kernel
theorem d21_15 : decode method_4_code 15 = .ok (.goto 4, 3) := by decide +kernel
theorem d21_19 : decode method_4_code 19 = .ok (.ireturn, 1) := by decide +kernel
theorem ef_at (m : MethodId) (r0 : Addr) (p1 : Int32) (p2 : Int32) (p3 : Int32)  : entryFrame m #[(.ref r0), (.int p1), (.int p2), (.int p3)] 4 = mkF m 0 #[.val (.ref r0), .val (.int p1), .val (.int p2), .val (.int p3)] [] := by (first | (simp [entryFrame, mkF, argsToLocals, Value.category]; done) | rfl)
theorem pn_21 : plainFor (⟨"com/example/herring/herring/tree/NodePathsParentPinLaw", "at", "(Ljava/lang/String;IIC)Z"⟩ : MethodName) = true := plainFor_of_name (by first | (simp [plainName, overriddenIn]; done) | decide +kernel)
set_option maxRecDepth 65536 in
set_option maxHeartbeats 40000000 in
theorem rm_at (l : Launch) (Z : State) (a0 : Array Value) (hw : ∀ d ∈ tables_1, d.before a0 Z = true) (ws : List Jvm.Cond) (r0 : Addr) (p1 : Int32) (p2 : Int32) (p3 : Int32) (h0 : Heap) (b : Addr) (n : Nat) (c_ : Nat → Int32) (S : STR Z h0 r0 b n c_) (zn : Int32) (hzn : zn.toInt = (n : Int)) (cs : Int32) (SC : Sta Z h0 "java/lang/String" "COMPACT_STRINGS" "Z" (.int cs)) (hcs : ¬ cs = (0 : Int32)) (vf : Value) (hcat_vf : vf.category = 1) (SF : Sta Z h0 "jdk/internal/util/Preconditions" "SIOOBE_FORMATTER" "Ljava/util/function/BiFunction;" vf) (hc8 : C8 n c_) (hat : p1 < p2 → ∃ i : Nat, p1.toInt = (i : Int) ∧ i < n ∧ c_ i = p3) :
    OMet l (⟨"com/example/herring/herring/tree/NodePathsParentPinLaw", "at", "(Ljava/lang/String;IIC)Z"⟩ : MethodName) method_4_code 4 (some .boolean) ws ({ frames := 4, cells := 0, slots := 0, locals := 62 } : Room) #[(.ref r0), (.int p1), (.int p2), (.int p3)] Z h0 (fun v h L => v = some (.int (1 : Int32)) ∧ L = [] ∧ h = h0) := by
  refine OMet.of pn_21 (fun m => ef_at m r0 p1 p2 p3 ) ?_
  intro p e s m below meth c s₁ hx hby hml hown hnm hret hlk hZ X0 e0
  refine Owes.go ?_ fun t₀ k₀ => XS.iloadN X0.here hx rfl (hb hby d21_0) rfl k₀
  show Owes _ _ _ _ (s₁.setTop (mkF m 1 #[.val (.ref r0), .val (.int p1), .val (.int p2), .val (.int p3)] [(.int p1)]))
  refine Owes.go ?_ fun t₀ k₀ => XS.iloadN X0.here hx rfl (hb hby d21_1) rfl k₀
  show Owes _ _ _ _ (s₁.setTop (mkF m 2 #[.val (.ref r0), .val (.int p1), .val (.int p2), .val (.int p3)] [(.int p2), (.int p1)]))
  by_cases hc1 : p1 < p2
  · skip
    refine Owes.go ?_ fun t₀ k₀ => XS.icmpNo X0.here hx rfl (hb hby d21_2) rfl (tlt hc1).2.1 k₀
    show Owes _ _ _ _ (s₁.setTop (mkF m 5 #[.val (.ref r0), .val (.int p1), .val (.int p2), .val (.int p3)] []))
    refine Owes.go ?_ fun t₀ k₀ => XS.aloadN X0.here hx rfl (hb hby d21_5) rfl rfl k₀
    show Owes _ _ _ _ (s₁.setTop (mkF m 6 #[.val (.ref r0), .val (.int p1), .val (.int p2), .val (.int p3)] [(.ref r0)]))
    refine Owes.go ?_ fun t₀ k₀ => XS.iloadN X0.here hx rfl (hb hby d21_6) rfl k₀
    show Owes _ _ _ _ (s₁.setTop (mkF m 7 #[.val (.ref r0), .val (.int p1), .val (.int p2), .val (.int p3)] [(.int p1), (.ref r0)]))
    obtain ⟨i, hi, hin, hci⟩ := hat hc1
    refine Owes.callV X0 hx hZ hown (hw _ (List.mem_of_getElem? (i := 79) rfl)) (hw _ (List.mem_of_getElem? (i := 80) rfl)) (notFace_of_selects (args := #[]) (mvT hZ (hw _ (List.mem_of_getElem? (i := 82) rfl)))) (hw _ (List.mem_of_getElem? (i := 82) rfl)) (hw _ (List.mem_of_getElem? (i := 81) rfl)) (hw _ (List.mem_of_getElem? (i := 8) rfl)) (hw _ (List.mem_of_getElem? (i := 83) rfl)) (by decide) (a := r0) (argsL := [(.int p1)]) (rest := []) (rm_ca l Z a0 hw [] r0 p1 h0 b n c_ S zn hzn cs SC hcs vf hcat_vf SF hc8 i hi hin) e0 S.1 (by rw [hml]; rfl) pd_18 rfl rfl (hb hby d21_7) (by decide) (Nat.le_of_ble_eq_true rfl) (by decide) (by decide) ?_
    rintro T48 _ _ X48 ⟨rfl, rfl, e48⟩
    rw [List.append_nil] at X48
    show Owes _ _ _ _ (T48.setTop (mkF m 10 #[.val (.ref r0), .val (.int p1), .val (.int p2), .val (.int p3)] [(.int (c_ i))]))
    refine Owes.go ?_ fun t₀ k₀ => XS.iloadN X48.here hx rfl (hb hby d21_10) rfl k₀
    show Owes _ _ _ _ (T48.setTop (mkF m 11 #[.val (.ref r0), .val (.int p1), .val (.int p2), .val (.int p3)] [(.int p3), (.int (c_ i))]))
    refine Owes.go ?_ fun t₀ k₀ => XS.icmpNo X48.here hx rfl (hb hby d21_11) rfl (teq hci).2 k₀
    show Owes _ _ _ _ (T48.setTop (mkF m 14 #[.val (.ref r0), .val (.int p1), .val (.int p2), .val (.int p3)] []))
    refine Owes.go ?_ fun t₀ k₀ => XS.iconst X48.here hx rfl (hb hby d21_14) k₀
    show Owes _ _ _ _ (T48.setTop (mkF m 15 #[.val (.ref r0), .val (.int p1), .val (.int p2), .val (.int p3)] [(.int (1 : Int32))]))
    refine Owes.go ?_ fun t₀ k₀ => XS.goto X48.here hx rfl (pc0 := 15) (pc' := 19) rfl (hb hby d21_15) (by decide) (by decide) k₀
    show Owes _ _ _ _ (T48.setTop (mkF m 19 #[.val (.ref r0), .val (.int p1), .val (.int p2), .val (.int p3)] [(.int (1 : Int32))]))
    exact Owes.retN X48 hx hlk hret (by simp) (hb hby d21_19) (by decide) (by decide) ⟨congrArg (fun z => some (Value.int z)) (by decide), rfl, e48⟩
  · skip
    refine Owes.go ?_ fun t₀ k₀ => XS.icmpYes X0.here hx rfl (pc0 := 2) (pc' := 14) rfl (hb hby d21_2) rfl (flt hc1).2.1 (by decide) (by decide) k₀
    show Owes _ _ _ _ (s₁.setTop (mkF m 14 #[.val (.ref r0), .val (.int p1), .val (.int p2), .val (.int p3)] []))
    refine Owes.go ?_ fun t₀ k₀ => XS.iconst X0.here hx rfl (hb hby d21_14) k₀
    show Owes _ _ _ _ (s₁.setTop (mkF m 15 #[.val (.ref r0), .val (.int p1), .val (.int p2), .val (.int p3)] [(.int (1 : Int32))]))
    refine Owes.go ?_ fun t₀ k₀ => XS.goto X0.here hx rfl (pc0 := 15) (pc' := 19) rfl (hb hby d21_15) (by decide) (by decide) k₀
    show Owes _ _ _ _ (s₁.setTop (mkF m 19 #[.val (.ref r0), .val (.int p1), .val (.int p2), .val (.int p3)] [(.int (1 : Int32))]))
    exact Owes.retN X0 hx hlk hret (by simp) (hb hby d21_19) (by decide) (by decide) ⟨congrArg (fun z => some (Value.int z)) (by decide), rfl, e0⟩
theorem d8_0 : decode prog_8_method_4_code 0 = .ok (.aload_n 0, 1) := by decide +kernel
theorem d8_1 : decode prog_8_method_4_code 1 = .ok (.bipush 47, 2) := by decide +kernel
theorem d8_3 : decode prog_8_method_4_code 3 = .ok (.invokevirtual 80, 3) := by decide +kernel
theorem pd_19 : parseMethodDescriptor "(I)I" = some ⟨[.int], some .int⟩ := by decide +kernel
theorem d8_6 : decode prog_8_method_4_code 6 = .ok (.istore_n 1, 1) := by decide +kernel
theorem d8_7 : decode prog_8_method_4_code 7 = .ok (.iload_n 1, 1) := by decide +kernel
theorem d8_8 : decode prog_8_method_4_code 8 = .ok (.ifCond .ne 8, 3) := by decide +kernel
theorem d8_11 : decode prog_8_method_4_code 11 = .ok (.ldc 9, 2) := by decide +kernel
theorem d8_13 : decode prog_8_method_4_code 13 = .ok (.goto 9, 3) := by decide +kernel
theorem d8_22 : decode prog_8_method_4_code 22 = .ok (.areturn, 1) := by decide +kernel
theorem d8_16 : decode prog_8_method_4_code 16 = .ok (.aload_n 0, 1) := by decide +kernel
theorem d8_17 : decode prog_8_method_4_code 17 = .ok (.iconst 0, 1) := by decide +kernel
theorem d8_18 : decode prog_8_method_4_code 18 = .ok (.iload_n 1, 1) := by decide +kernel
theorem d8_19 : decode prog_8_method_4_code 19 = .ok (.invokevirtual 64, 3) := by decide +kernel
theorem pd_20 : parseMethodDescriptor "(II)Ljava/lang/String;" = some ⟨[.int, .int], some (.object "java/lang/String")⟩ := by decide +kernel
theorem own_mx0 {x : Int32} {mx : Nat} (h : x.toInt = (mx : Int)) (q : x = 0) : mx = 0 := by rw [q, show (0 : Int32).toInt = 0 from rfl] at h; omega
theorem own_slash {Z : State} {h : Heap} {b : Addr} {mx : Nat} {c_ : Nat → Int32} (h0 : mx = 0) (h47 : c_ mx = 47) (A : GA Z h b .byte 1 (fun i => [Value.int (Jvm.Lit.byteI (47 : UInt16))].getD i (.int 0))) : GA Z h b .byte (if mx = 0 then 1 else mx) (fun i => .int (c_ i).toInt8.toInt32) := by
  rw [if_pos h0]
  refine A.congr fun i hi => ?_
  have : i = 0 := by omega
  subst this
  rw [h0] at h47
  rw [h47]
  decide
theorem ef_par (m : MethodId) (r0 : Addr)  : entryFrame m #[(.ref r0)] 2 = mkF m 0 #[.val (.ref r0), .unset] [] := by (first | (simp [entryFrame, mkF, argsToLocals, Value.category]; done) | rfl)
theorem pn_8 : plainFor (⟨"com/example/herring/herring/tree/NodePaths", "parent", "(Ljava/lang/String;)Ljava/lang/String;"⟩ : MethodName) = true := plainFor_of_name (by first | (simp [plainName, overriddenIn]; done) | decide +kernel)
set_option maxRecDepth 65536 in
set_option maxHeartbeats 40000000 in
theorem rm_par (l : Launch) (Z : State) (a0 : Array Value) (hw : ∀ d ∈ tables_1, d.before a0 Z = true) (hEL : EW Z a0 EL0) (ws : List Jvm.Cond) (r0 : Addr) (h0 : Heap) (n0 : Nat) (Z0 : n0 ≤ h0.size) (b : Addr) (n : Nat) (c_ : Nat → Int32) (S : STR Z h0 r0 b n c_) (zn : Int32) (hzn : zn.toInt = (n : Int)) (cs : Int32) (SC : Sta Z h0 "java/lang/String" "COMPACT_STRINGS" "Z" (.int cs)) (hcs : ¬ cs = (0 : Int32)) (vf : Value) (hcat_vf : vf.category = 1) (SF : Sta Z h0 "jdk/internal/util/Preconditions" "SIOOBE_FORMATTER" "Ljava/util/function/BiFunction;" vf) (hn9 : n ≤ 16) (hc8 : C8 n c_) (mx : Nat) (mI : Int32) (hm : mI.toInt = (mx : Int)) (hmn : mx < n) (h47 : c_ mx = 47) (hno : ∀ j, mx < j → j < n → ¬ c_ j = 47) :
    OMetC l (⟨"com/example/herring/herring/tree/NodePaths", "parent", "(Ljava/lang/String;)Ljava/lang/String;"⟩ : MethodName) prog_8_method_4_code 2 (some (.object "java/lang/String")) ws ({ frames := 5, cells := 2, slots := 24, locals := 104 } : Room) #[(.ref r0)] Z EL0 h0 (fun v h L => ∃ r b' : Addr, v = some (.ref r) ∧ Fr n0 L ∧ StK Z h0 h ∧ STR Z h r b' (if mx = 0 then 1 else mx) c_) := by
  refine OMetC.of pn_8 (fun m => ef_par m r0 ) ?_
  intro p e s m below meth c s₁ hx hby hml hown hnm hret hlk hZ X0 e0 hC0
  refine Owes.go ?_ fun t₀ k₀ => XS.aloadN X0.here hx rfl (hb hby d8_0) rfl rfl k₀
  show Owes _ _ _ _ (s₁.setTop (mkF m 1 #[.val (.ref r0), .unset] [(.ref r0)]))
  refine Owes.go ?_ fun t₀ k₀ => XS.bipush X0.here hx rfl (hb hby d8_1) k₀
  show Owes _ _ _ _ (s₁.setTop (mkF m 3 #[.val (.ref r0), .unset] [(.int (47 : Int32)), (.ref r0)]))
  refine Owes.callV X0 hx hZ hown (hw _ (List.mem_of_getElem? (i := 39) rfl)) (hw _ (List.mem_of_getElem? (i := 40) rfl)) (notFace_of_selects (args := #[]) (mvT hZ (hw _ (List.mem_of_getElem? (i := 42) rfl)))) (hw _ (List.mem_of_getElem? (i := 42) rfl)) (hw _ (List.mem_of_getElem? (i := 41) rfl)) (hw _ (List.mem_of_getElem? (i := 8) rfl)) (hw _ (List.mem_of_getElem? (i := 43) rfl)) (by decide) (a := r0) (argsL := [(.int (47 : Int32))]) (rest := []) (rm_li1 l Z a0 hw [] r0  h0 b n c_ S zn hzn cs SC hcs hn9 hc8 mx mI hm hmn h47 hno) e0 S.1 (by rw [hml]; rfl) pd_19 rfl rfl (hb hby d8_3) (by decide) (Nat.le_of_ble_eq_true rfl) (by decide) (by decide) ?_
  rintro T49 _ _ X49 ⟨rfl, rfl, e49⟩
  rw [List.append_nil] at X49
  show Owes _ _ _ _ (T49.setTop (mkF m 6 #[.val (.ref r0), .unset] [(.int mI)]))
  refine Owes.go ?_ fun t₀ k₀ => XS.istoreN X49.here hx rfl (hb hby d8_6) rfl (l' := #[.val (.ref r0), .val (.int mI)]) rfl k₀
  show Owes _ _ _ _ (T49.setTop (mkF m 7 #[.val (.ref r0), .val (.int mI)] []))
  refine Owes.go ?_ fun t₀ k₀ => XS.iloadN X49.here hx rfl (hb hby d8_7) rfl k₀
  show Owes _ _ _ _ (T49.setTop (mkF m 8 #[.val (.ref r0), .val (.int mI)] [(.int mI)]))
  by_cases hc1 : mI = (0 : Int32)
  · skip
    refine Owes.go ?_ fun t₀ k₀ => XS.ifNo X49.here hx rfl (hb hby d8_8) rfl ((if0 _ _).trans (teq hc1).2) k₀
    show Owes _ _ _ _ (T49.setTop (mkF m 11 #[.val (.ref r0), .val (.int mI)] []))
    refine Owes.ldcC X49 hx hZ hown (hw _ (List.mem_of_getElem? (i := 75) rfl)) (own_wS Z a0 hw) e49 (own_since s 0) (Nat.zero_le _) hEL (List.mem_of_getElem? (i := 0) rfl) hC0 (z := 1) ⟨by decide, rfl⟩ (by decide) (by decide) (hb hby d8_11) (n := 4) (by decide) (by decide) (by decide) (by decide) ?_
    intro aS50 T50 h50 k50 bS50 kc50 X50 e50 ES50 hS50 hk50 hZ hown EA50 FCo50 FVa50 AV50 hC50
    show Owes _ _ _ _ (T50.setTop (mkF m 13 #[.val (.ref r0), .val (.int mI)] [(.ref aS50)]))
    refine Owes.go ?_ fun t₀ k₀ => XS.goto X50.here hx rfl (pc0 := 13) (pc' := 22) rfl (hb hby d8_13) (by decide) (by decide) k₀
    show Owes _ _ _ _ (T50.setTop (mkF m 22 #[.val (.ref r0), .val (.int mI)] [(.ref aS50)]))
    exact Owes.retAC X50 hZ hEL e50 hC50 hS50 hk50 hx hlk hret rfl rfl rfl (hb hby d8_22) (by decide) (by decide) (by rw [e50]; exact ⟨aS50, bS50, rfl, Fr.nil n0, (StK.refl Z h0).ext ES50, EA50, FCo50, FVa50, own_slash (own_mx0 hm hc1) h47 (own_arvga (n := 1) AV50 rfl)⟩)
  · skip
    refine Owes.go ?_ fun t₀ k₀ => XS.ifYes X49.here hx rfl (pc0 := 8) (pc' := 16) rfl (hb hby d8_8) rfl ((if0 _ _).trans (feq hc1).2) (by decide) (by decide) k₀
    show Owes _ _ _ _ (T49.setTop (mkF m 16 #[.val (.ref r0), .val (.int mI)] []))
    refine Owes.go ?_ fun t₀ k₀ => XS.aloadN X49.here hx rfl (hb hby d8_16) rfl rfl k₀
    show Owes _ _ _ _ (T49.setTop (mkF m 17 #[.val (.ref r0), .val (.int mI)] [(.ref r0)]))
    refine Owes.go ?_ fun t₀ k₀ => XS.iconst X49.here hx rfl (hb hby d8_17) k₀
    show Owes _ _ _ _ (T49.setTop (mkF m 18 #[.val (.ref r0), .val (.int mI)] [(.int (0 : Int32)), (.ref r0)]))
    refine Owes.go ?_ fun t₀ k₀ => XS.iloadN X49.here hx rfl (hb hby d8_18) rfl k₀
    show Owes _ _ _ _ (T49.setTop (mkF m 19 #[.val (.ref r0), .val (.int mI)] [(.int mI), (.int (0 : Int32)), (.ref r0)]))
    have hm1 : 1 ≤ mx := by
      by_cases q : mx = 0
      · exact absurd (Int32.toInt_inj.mp (by rw [hm, q]; rfl)) hc1
      · omega
    refine Owes.callV X49 hx hZ hown (hw _ (List.mem_of_getElem? (i := 98) rfl)) (hw _ (List.mem_of_getElem? (i := 99) rfl)) (notFace_of_selects (args := #[]) (mvT hZ (hw _ (List.mem_of_getElem? (i := 101) rfl)))) (hw _ (List.mem_of_getElem? (i := 101) rfl)) (hw _ (List.mem_of_getElem? (i := 100) rfl)) (hw _ (List.mem_of_getElem? (i := 8) rfl)) (hw _ (List.mem_of_getElem? (i := 102) rfl)) (by decide) (a := r0) (argsL := [(.int (0 : Int32)), (.int mI)]) (rest := []) (rm_sub l Z a0 hw [] r0 mI h0 b n c_ S zn hzn cs SC hcs vf hcat_vf SF n0 Z0 mx hm hmn hn9 hm1) e49 S.1 (by rw [hml]; rfl) pd_20 rfl rfl (hb hby d8_19) (by decide) (Nat.le_of_ble_eq_true rfl) (by decide) (by decide) ?_
    rintro T51 v51 L51 X51 ⟨rr, rbb, rfl, N51, K51, SR⟩
    show Owes _ _ _ _ (T51.setTop (mkF m 22 #[.val (.ref r0), .val (.int mI)] [(.ref rr)]))
    exact Owes.retAC X51 hZ hEL rfl (hC0.keep K51 (fun x hx => absurd hx List.not_mem_nil)) (own_since s 0) (Nat.zero_le _) hx hlk hret rfl rfl rfl (hb hby d8_22) (by decide) (by decide) ⟨rr, rbb, rfl, by rw [List.nil_append]; exact N51, StK.of_keep K51, by rw [if_neg (show ¬ mx = 0 by omega)]; exact SR⟩
theorem d1_0 : decode method_3_code 0 = .ok (.iload_n 1, 1) := by decide +kernel
theorem d1_1 : decode method_3_code 1 = .ok (.iload_n 2, 1) := by decide +kernel
theorem d1_2 : decode method_3_code 2 = .ok (.iushr, 1) := by decide +kernel
theorem d1_3 : decode method_3_code 3 = .ok (.iconst 1, 1) := by decide +kernel
theorem d1_4 : decode method_3_code 4 = .ok (.iand, 1) := by decide +kernel
theorem d1_5 : decode method_3_code 5 = .ok (.ifCond .eq 8, 3) := by decide +kernel
theorem d1_13 : decode method_3_code 13 = .ok (.iload_n 0, 1) := by decide +kernel
theorem d1_14 : decode method_3_code 14 = .ok (.sipush 255, 3) := by decide +kernel
theorem d1_17 : decode method_3_code 17 = .ok (.iand, 1) := by decide +kernel
theorem d1_18 : decode method_3_code 18 = .ok (.i2c, 1) := by decide +kernel
theorem d1_19 : decode method_3_code 19 = .ok (.ireturn, 1) := by decide +kernel
theorem d1_8 : decode method_3_code 8 = .ok (.bipush 47, 2) := by decide +kernel
theorem d1_10 : decode method_3_code 10 = .ok (.goto 9, 3) := by decide +kernel
def f_pick (p0 : Int32) (p1 : Int32) (p2 : Int32)  : Int32 := (if (((p1.toUInt32 >>> (p2 &&& 31).toUInt32).toInt32) &&& (1 : Int32)) = (0 : Int32) then nar .char ((p0 &&& (255 : Int32)).toUInt32.toUInt16.toUInt32.toInt32) else nar .char (47 : Int32))
theorem ef_1_f_pick (m : MethodId) (p0 : Int32) (p1 : Int32) (p2 : Int32) : entryFrame m #[(.int p0), (.int p1), (.int p2)] 3 = mkF m 0 #[.val (.int p0), .val (.int p1), .val (.int p2)] [] := by first | (simp [entryFrame, mkF, argsToLocals, Value.category]; done) | rfl
theorem pn_1 : plainFor (⟨"com/example/herring/herring/tree/NodePathsParentPinLaw", "pick", "(III)C"⟩ : MethodName) = true := plainFor_of_name (by first | (simp [plainName, overriddenIn]; done) | decide +kernel)
set_option maxRecDepth 65536 in
set_option maxHeartbeats 40000000 in
theorem rm_f_pick (l : Launch) (Z : State) (a0 : Array Value) (hw : ∀ d ∈ tables_1, d.before a0 Z = true) (ws : List Jvm.Cond) (p0 : Int32) (p1 : Int32) (p2 : Int32) (h0 : Heap)  :
    OMet l (⟨"com/example/herring/herring/tree/NodePathsParentPinLaw", "pick", "(III)C"⟩ : MethodName) method_3_code 3 (some .char) ws ({ frames := 0, cells := 0, slots := 0, locals := 0 } : Room) #[(.int p0), (.int p1), (.int p2)] Z h0 (fun v h L => v = some (Value.int (f_pick p0 p1 p2)) ∧ L = [] ∧ h = h0) := by
  refine OMet.of pn_1 (fun m => ef_1_f_pick m p0 p1 p2) ?_
  intro p e s m below meth c s₁ hx hby hml hown hnm hret hlk hZ X0 e0
  refine Owes.go ?_ fun t₀ k₀ => XS.iloadN X0.here hx rfl (hb hby d1_0) rfl k₀
  show Owes _ _ _ _ (s₁.setTop (mkF m 1 #[.val (.int p0), .val (.int p1), .val (.int p2)] [(.int p1)]))
  refine Owes.go ?_ fun t₀ k₀ => XS.iloadN X0.here hx rfl (hb hby d1_1) rfl k₀
  show Owes _ _ _ _ (s₁.setTop (mkF m 2 #[.val (.int p0), .val (.int p1), .val (.int p2)] [(.int p2), (.int p1)]))
  refine Owes.go ?_ fun t₀ k₀ => XS.iushr X0.here hx rfl (hb hby d1_2) rfl k₀
  show Owes _ _ _ _ (s₁.setTop (mkF m 3 #[.val (.int p0), .val (.int p1), .val (.int p2)] [(.int ((p1.toUInt32 >>> (p2 &&& 31).toUInt32).toInt32))]))
  refine Owes.go ?_ fun t₀ k₀ => XS.iconst X0.here hx rfl (hb hby d1_3) k₀
  show Owes _ _ _ _ (s₁.setTop (mkF m 4 #[.val (.int p0), .val (.int p1), .val (.int p2)] [(.int (1 : Int32)), (.int ((p1.toUInt32 >>> (p2 &&& 31).toUInt32).toInt32))]))
  refine Owes.go ?_ fun t₀ k₀ => XS.iand X0.here hx rfl (hb hby d1_4) rfl k₀
  show Owes _ _ _ _ (s₁.setTop (mkF m 5 #[.val (.int p0), .val (.int p1), .val (.int p2)] [(.int (((p1.toUInt32 >>> (p2 &&& 31).toUInt32).toInt32) &&& (1 : Int32)))]))
  by_cases hc1 : (((p1.toUInt32 >>> (p2 &&& 31).toUInt32).toInt32) &&& (1 : Int32)) = (0 : Int32)
  · skip
    refine Owes.go ?_ fun t₀ k₀ => XS.ifYes X0.here hx rfl (pc0 := 5) (pc' := 13) rfl (hb hby d1_5) rfl ((if0 _ _).trans (teq hc1).1) (by decide) (by decide) k₀
    show Owes _ _ _ _ (s₁.setTop (mkF m 13 #[.val (.int p0), .val (.int p1), .val (.int p2)] []))
    refine Owes.go ?_ fun t₀ k₀ => XS.iloadN X0.here hx rfl (hb hby d1_13) rfl k₀
    show Owes _ _ _ _ (s₁.setTop (mkF m 14 #[.val (.int p0), .val (.int p1), .val (.int p2)] [(.int p0)]))
    refine Owes.go ?_ fun t₀ k₀ => XS.sipush X0.here hx rfl (hb hby d1_14) k₀
    show Owes _ _ _ _ (s₁.setTop (mkF m 17 #[.val (.int p0), .val (.int p1), .val (.int p2)] [(.int (255 : Int32)), (.int p0)]))
    refine Owes.go ?_ fun t₀ k₀ => XS.iand X0.here hx rfl (hb hby d1_17) rfl k₀
    show Owes _ _ _ _ (s₁.setTop (mkF m 18 #[.val (.int p0), .val (.int p1), .val (.int p2)] [(.int (p0 &&& (255 : Int32)))]))
    refine Owes.go ?_ fun t₀ k₀ => XS.i2c X0.here hx rfl (hb hby d1_18) rfl k₀
    show Owes _ _ _ _ (s₁.setTop (mkF m 19 #[.val (.int p0), .val (.int p1), .val (.int p2)] [(.int ((p0 &&& (255 : Int32)).toUInt32.toUInt16.toUInt32.toInt32))]))
    exact Owes.retN X0 hx hlk hret (by simp) (hb hby d1_19) (by decide) (by decide) ⟨congrArg (fun z => some (Value.int z)) (by unfold f_pick; rw [if_pos hc1]; first | done | rfl), rfl, e0⟩
  · skip
    refine Owes.go ?_ fun t₀ k₀ => XS.ifNo X0.here hx rfl (hb hby d1_5) rfl ((if0 _ _).trans (feq hc1).1) k₀
    show Owes _ _ _ _ (s₁.setTop (mkF m 8 #[.val (.int p0), .val (.int p1), .val (.int p2)] []))
    refine Owes.go ?_ fun t₀ k₀ => XS.bipush X0.here hx rfl (hb hby d1_8) k₀
    show Owes _ _ _ _ (s₁.setTop (mkF m 10 #[.val (.int p0), .val (.int p1), .val (.int p2)] [(.int (47 : Int32))]))
    refine Owes.go ?_ fun t₀ k₀ => XS.goto X0.here hx rfl (pc0 := 10) (pc' := 19) rfl (hb hby d1_10) (by decide) (by decide) k₀
    show Owes _ _ _ _ (s₁.setTop (mkF m 19 #[.val (.int p0), .val (.int p1), .val (.int p2)] [(.int (47 : Int32))]))
    exact Owes.retN X0 hx hlk hret (by simp) (hb hby d1_19) (by decide) (by decide) ⟨congrArg (fun z => some (Value.int z)) (by unfold f_pick; rw [if_neg hc1]; first | done | rfl), rfl, e0⟩
theorem own_pick (x s k : Int32) : 0 ≤ (f_pick x s k).toInt ∧ (f_pick x s k).toInt < 256 := by
  unfold f_pick
  have key : ∀ y : Int32, 0 ≤ (nar .char ((y &&& (255 : Int32)).toUInt32.toUInt16.toUInt32.toInt32)).toInt ∧ (nar .char ((y &&& (255 : Int32)).toUInt32.toUInt16.toUInt32.toInt32)).toInt < 256 := fun y => by
    have h := c_mask y 255 8 (by decide) (by decide)
    obtain ⟨k, hk⟩ := own_c8 (x := y &&& 255) (by omega)
    rw [hk]
    clear hk h
    revert k
    decide +kernel
  split
  · exact key x
  · decide
def cf5 (c1 c2 c3 c4 : Int32) (i : Nat) : Int32 := if i = 0 then 47 else if i = 1 then c1 else if i = 2 then c2 else if i = 3 then c3 else c4
theorem own_cf8 {c1 c2 c3 c4 : Int32} (h1 : 0 ≤ c1.toInt ∧ c1.toInt < 256) (h2 : 0 ≤ c2.toInt ∧ c2.toInt < 256) (h3 : 0 ≤ c3.toInt ∧ c3.toInt < 256) (h4 : 0 ≤ c4.toInt ∧ c4.toInt < 256) (n : Nat) : C8 n (cf5 c1 c2 c3 c4) := fun i _ => by
  unfold cf5
  split
  · decide
  · split
    · exact h1
    · split
      · exact h2
      · split
        · exact h3
        · exact h4
theorem own_n5 (p : Int32) : ∃ n : Nat, (((p &&& (2147483647 : Int32)) % (5 : Int32)) + (1 : Int32)).toInt = (n : Int) ∧ 1 ≤ n ∧ n ≤ 5 := by
  have hm := c_mask p 2147483647 31 (by decide) (by decide)
  have h := (c_irem (p &&& 2147483647) 5 5 rfl).1 (by omega)
  have h1 := c_iadd ((p &&& 2147483647) % 5) 1
  have r := rng32 ((p &&& 2147483647) % 5 + 1)
  rw [show (1 : Int32).toInt = 1 from rfl, h] at h1
  generalize ((p &&& 2147483647) % 5 + 1).toInt = v at *
  exact ⟨v.toNat, by omega, by omega, by omega⟩
theorem own_net {x k : Int32} (h : ¬ x = k) : x.toInt ≠ k.toInt := fun q => h (Int32.toInt_inj.mp q)
/-- q is the last '/' among the first n signs up to place k -/
def LS (c : Nat → Int32) (n k q : Nat) : Prop := q ≤ k ∧ q < n ∧ c q = 47 ∧ ∀ j, q < j → j ≤ k → j < n → ¬ c j = 47
theorem LS.start {c : Nat → Int32} {n : Nat} (h : c 0 = 47) (hn : 1 ≤ n) : LS c n 0 0 := ⟨Nat.le_refl _, by omega, h, fun j a b => by omega⟩
theorem LS.out {c : Nat → Int32} {n k q : Nat} (H : LS c n k q) (h : ¬ k + 1 < n) : LS c n (k + 1) q := ⟨by have := H.1; omega, H.2.1, H.2.2.1, fun j a b d => by
  by_cases e : j = k + 1
  · omega
  · exact H.2.2.2 j a (by omega) d⟩
theorem LS.no {c : Nat → Int32} {n k q : Nat} (H : LS c n k q) (h : ¬ c (k + 1) = 47) : LS c n (k + 1) q := ⟨by have := H.1; omega, H.2.1, H.2.2.1, fun j a b d => by
  by_cases e : j = k + 1
  · rw [e]; exact h
  · exact H.2.2.2 j a (by omega) d⟩
theorem LS.yes {c : Nat → Int32} {n k : Nat} (hn : k + 1 < n) (h : c (k + 1) = 47) : LS c n (k + 1) (k + 1) := ⟨Nat.le_refl _, hn, h, fun j a b => by omega⟩
theorem LS.ex {c : Nat → Int32} {n : Nat} (h : c 0 = 47) (hn : 1 ≤ n) (k : Nat) : ∃ q, LS c n k q := by
  induction k with
  | zero => exact ⟨0, LS.start h hn⟩
  | succ k ih =>
    obtain ⟨q, H⟩ := ih
    by_cases a : k + 1 < n
    · by_cases b : c (k + 1) = 47
      · exact ⟨k + 1, LS.yes a b⟩
      · exact ⟨q, H.no b⟩
    · exact ⟨q, H.out a⟩
theorem LS.one {c : Nat → Int32} {n k k' q q' : Nat} (H : LS c n k q) (H' : LS c n k' q') (h : n ≤ k + 1) (h' : n ≤ k' + 1) : q = q' := by
  have a1 := H.2.2.2 q'
  have a2 := H'.2.2.2 q
  have b1 := H.2.1
  have b2 := H'.2.1
  by_cases c1 : q < q'
  · exact absurd H'.2.2.1 (a1 c1 (by omega) b2)
  · by_cases c2 : q' < q
    · exact absurd H.2.2.1 (a2 c2 (by omega) b1)
    · omega
theorem own_five {x : Int32} {n : Nat} (h : x.toInt = (n : Int)) (h1 : 1 ≤ n) (h5 : n ≤ 5) (a : ¬ x = 1) (b : ¬ x = 2) (c : ¬ x = 3) (d : ¬ x = 4) : x.toInt = ((5 : Nat) : Int) := by
  have := own_net a
  have := own_net b
  have := own_net c
  have := own_net d
  simp only [show (1 : Int32).toInt = 1 from rfl, show (2 : Int32).toInt = 2 from rfl, show (3 : Int32).toInt = 3 from rfl, show (4 : Int32).toInt = 4 from rfl] at *
  omega
theorem own_ltn {x y : Int32} {a b : Nat} (hx : x.toInt = (a : Int)) (hy : y.toInt = (b : Int)) (h : x < y) : a < b := by rw [Int32.lt_iff_toInt_lt, hx, hy] at h; omega
theorem own_nltn {x y : Int32} {a b : Nat} (hx : x.toInt = (a : Int)) (hy : y.toInt = (b : Int)) (h : ¬ x < y) : ¬ a < b := by rw [Int32.lt_iff_toInt_lt, hx, hy] at h; omega
theorem pd_21 : parseMethodDescriptor "(III)C" = some ⟨[.int, .int, .int], some .char⟩ := by decide +kernel
theorem pd_22 : parseMethodDescriptor "([C)V" = some ⟨[(.array .char)], none⟩ := by decide +kernel
theorem pd_23 : parseMethodDescriptor "(Ljava/lang/String;)Ljava/lang/String;" = some ⟨[(.object "java/lang/String")], some (.object "java/lang/String")⟩ := by decide +kernel
theorem pd_24 : parseMethodDescriptor "(Ljava/lang/String;IIC)Z" = some ⟨[(.object "java/lang/String"), .int, .int, .char], some .boolean⟩ := by decide +kernel
def QL (n0 : Nat) (v : Option Value) (h : Heap) (L : List Loc) : Prop := v = some (.int 1) ∧ Fr n0 L
theorem ef_0 (m : MethodId) (p0 : Int32) (p1 : Int32) (p2 : Int32) (p3 : Int32) (p4 : Int32) (p5 : Int32) : entryFrame m #[(.int p0), (.int p1), (.int p2), (.int p3), (.int p4), (.int p5)] maxLocals = mkF m 0 #[.val (.int p0), .val (.int p1), .val (.int p2), .val (.int p3), .val (.int p4), .val (.int p5), .unset, .unset, .unset, .unset, .unset, .unset, .unset, .unset, .unset, .unset, .unset, .unset, .unset, .unset, .unset, .unset] [] := by first | (simp [entryFrame, mkF, argsToLocals, Value.category, maxLocals]; done) | rfl
theorem pn_0 : plainFor (⟨"com/example/herring/herring/tree/NodePathsParentPinLaw", "law", "(IIIIII)Z"⟩ : MethodName) = true := plainFor_of_name (by first | (simp [plainName, overriddenIn]; done) | decide +kernel)
set_option maxRecDepth 65536 in
set_option maxHeartbeats 40000000 in
theorem rm0 (l : Launch) (Z : State) (a0 : Array Value) (hw : ∀ d ∈ tables_1, d.before a0 Z = true) (hEL : EW Z a0 EL0) (ws : List Jvm.Cond) (p0 : Int32) (p1 : Int32) (p2 : Int32) (p3 : Int32) (p4 : Int32) (p5 : Int32) (h0 : Heap) (n0 : Nat) (Z0 : n0 ≤ h0.size) (cs : Int32) (SC : Sta Z h0 "java/lang/String" "COMPACT_STRINGS" "Z" (.int cs)) (hcs : ¬ cs = (0 : Int32)) (vf : Value) (hcat_vf : vf.category = 1) (SF : Sta Z h0 "jdk/internal/util/Preconditions" "SIOOBE_FORMATTER" "Ljava/util/function/BiFunction;" vf) :
    OMetC l x code maxLocals ret ws room_1 #[(.int p0), (.int p1), (.int p2), (.int p3), (.int p4), (.int p5)] Z EL0 h0 (QL n0) := by
  have N0 := Fr.nil n0
  refine OMetC.of pn_0 (fun m => ef_0 m p0 p1 p2 p3 p4 p5) ?_
  intro p e s m below meth c s₁ hx hby hml hown hnm hret hlk hZ X0 e0 hC0
  have K0 := Keep.refl h0 []
  have ST0 := StK.refl Z h0
  refine Owes.go ?_ fun t₀ k₀ => XS.iloadN X0.here hx rfl (hb hby at_0) rfl k₀
  show Owes _ _ _ _ (s₁.setTop (mkF m 1 #[.val (.int p0), .val (.int p1), .val (.int p2), .val (.int p3), .val (.int p4), .val (.int p5), .unset, .unset, .unset, .unset, .unset, .unset, .unset, .unset, .unset, .unset, .unset, .unset, .unset, .unset, .unset, .unset] [(.int p0)]))
  refine Owes.go ?_ fun t₀ k₀ => X0.ldcInt hx hown (mvT hZ (hw _ (List.mem_of_getElem? (i := 0) rfl))) (g := (mkF m 1 #[.val (.int p0), .val (.int p1), .val (.int p2), .val (.int p3), .val (.int p4), .val (.int p5), .unset, .unset, .unset, .unset, .unset, .unset, .unset, .unset, .unset, .unset, .unset, .unset, .unset, .unset, .unset, .unset] [(.int p0)])) rfl (hb hby at_1) _ k₀
  show Owes _ _ _ _ (s₁.setTop (mkF m 3 #[.val (.int p0), .val (.int p1), .val (.int p2), .val (.int p3), .val (.int p4), .val (.int p5), .unset, .unset, .unset, .unset, .unset, .unset, .unset, .unset, .unset, .unset, .unset, .unset, .unset, .unset, .unset, .unset] [(.int (2147483647 : Int32)), (.int p0)]))
  refine Owes.go ?_ fun t₀ k₀ => XS.iand X0.here hx rfl (hb hby at_3) rfl k₀
  show Owes _ _ _ _ (s₁.setTop (mkF m 4 #[.val (.int p0), .val (.int p1), .val (.int p2), .val (.int p3), .val (.int p4), .val (.int p5), .unset, .unset, .unset, .unset, .unset, .unset, .unset, .unset, .unset, .unset, .unset, .unset, .unset, .unset, .unset, .unset] [(.int (p0 &&& (2147483647 : Int32)))]))
  refine Owes.go ?_ fun t₀ k₀ => XS.iconst X0.here hx rfl (hb hby at_4) k₀
  show Owes _ _ _ _ (s₁.setTop (mkF m 5 #[.val (.int p0), .val (.int p1), .val (.int p2), .val (.int p3), .val (.int p4), .val (.int p5), .unset, .unset, .unset, .unset, .unset, .unset, .unset, .unset, .unset, .unset, .unset, .unset, .unset, .unset, .unset, .unset] [(.int (5 : Int32)), (.int (p0 &&& (2147483647 : Int32)))]))
  refine Owes.go ?_ fun t₀ k₀ => Jvm.RoadKit.iremM X0 hx rfl (hb hby at_5) rfl (by decide : ¬ ((5 : Int32) = (0 : Int32))) k₀
  show Owes _ _ _ _ (s₁.setTop (mkF m 6 #[.val (.int p0), .val (.int p1), .val (.int p2), .val (.int p3), .val (.int p4), .val (.int p5), .unset, .unset, .unset, .unset, .unset, .unset, .unset, .unset, .unset, .unset, .unset, .unset, .unset, .unset, .unset, .unset] [(.int ((p0 &&& (2147483647 : Int32)) % (5 : Int32)))]))
  refine Owes.go ?_ fun t₀ k₀ => XS.iconst X0.here hx rfl (hb hby at_6) k₀
  show Owes _ _ _ _ (s₁.setTop (mkF m 7 #[.val (.int p0), .val (.int p1), .val (.int p2), .val (.int p3), .val (.int p4), .val (.int p5), .unset, .unset, .unset, .unset, .unset, .unset, .unset, .unset, .unset, .unset, .unset, .unset, .unset, .unset, .unset, .unset] [(.int (1 : Int32)), (.int ((p0 &&& (2147483647 : Int32)) % (5 : Int32)))]))
  refine Owes.go ?_ fun t₀ k₀ => XS.iadd X0.here hx rfl (hb hby at_7) rfl k₀
  show Owes _ _ _ _ (s₁.setTop (mkF m 8 #[.val (.int p0), .val (.int p1), .val (.int p2), .val (.int p3), .val (.int p4), .val (.int p5), .unset, .unset, .unset, .unset, .unset, .unset, .unset, .unset, .unset, .unset, .unset, .unset, .unset, .unset, .unset, .unset] [(.int (((p0 &&& (2147483647 : Int32)) % (5 : Int32)) + (1 : Int32)))]))
  refine Owes.go ?_ fun t₀ k₀ => XS.istore X0.here hx rfl (hb hby at_8) rfl (l' := #[.val (.int p0), .val (.int p1), .val (.int p2), .val (.int p3), .val (.int p4), .val (.int p5), .val (.int (((p0 &&& (2147483647 : Int32)) % (5 : Int32)) + (1 : Int32))), .unset, .unset, .unset, .unset, .unset, .unset, .unset, .unset, .unset, .unset, .unset, .unset, .unset, .unset, .unset]) rfl k₀
  show Owes _ _ _ _ (s₁.setTop (mkF m 10 #[.val (.int p0), .val (.int p1), .val (.int p2), .val (.int p3), .val (.int p4), .val (.int p5), .val (.int (((p0 &&& (2147483647 : Int32)) % (5 : Int32)) + (1 : Int32))), .unset, .unset, .unset, .unset, .unset, .unset, .unset, .unset, .unset, .unset, .unset, .unset, .unset, .unset, .unset] []))
  have wi := (hw _ (List.mem_of_getElem? (i := 7) rfl))
  obtain ⟨nn, hnn, hn1, hn5⟩ := own_n5 p0
  generalize (((p0 &&& (2147483647 : Int32)) % (5 : Int32)) + (1 : Int32)) = nI at *
  refine Owes.go ?_ fun t₀ k₀ => XS.bipush X0.here hx rfl (hb hby at_10) k₀
  show Owes _ _ _ _ (s₁.setTop (mkF m 12 #[.val (.int p0), .val (.int p1), .val (.int p2), .val (.int p3), .val (.int p4), .val (.int p5), .val (.int nI), .unset, .unset, .unset, .unset, .unset, .unset, .unset, .unset, .unset, .unset, .unset, .unset, .unset, .unset, .unset] [(.int (47 : Int32))]))
  refine Owes.go ?_ fun t₀ k₀ => XS.istore X0.here hx rfl (hb hby at_12) rfl (l' := #[.val (.int p0), .val (.int p1), .val (.int p2), .val (.int p3), .val (.int p4), .val (.int p5), .val (.int nI), .val (.int (47 : Int32)), .unset, .unset, .unset, .unset, .unset, .unset, .unset, .unset, .unset, .unset, .unset, .unset, .unset, .unset]) rfl k₀
  show Owes _ _ _ _ (s₁.setTop (mkF m 14 #[.val (.int p0), .val (.int p1), .val (.int p2), .val (.int p3), .val (.int p4), .val (.int p5), .val (.int nI), .val (.int (47 : Int32)), .unset, .unset, .unset, .unset, .unset, .unset, .unset, .unset, .unset, .unset, .unset, .unset, .unset, .unset] []))
  refine Owes.go ?_ fun t₀ k₀ => XS.iloadN X0.here hx rfl (hb hby at_14) rfl k₀
  show Owes _ _ _ _ (s₁.setTop (mkF m 15 #[.val (.int p0), .val (.int p1), .val (.int p2), .val (.int p3), .val (.int p4), .val (.int p5), .val (.int nI), .val (.int (47 : Int32)), .unset, .unset, .unset, .unset, .unset, .unset, .unset, .unset, .unset, .unset, .unset, .unset, .unset, .unset] [(.int p1)]))
  refine Owes.go ?_ fun t₀ k₀ => XS.iload X0.here hx rfl (hb hby at_15) rfl k₀
  show Owes _ _ _ _ (s₁.setTop (mkF m 17 #[.val (.int p0), .val (.int p1), .val (.int p2), .val (.int p3), .val (.int p4), .val (.int p5), .val (.int nI), .val (.int (47 : Int32)), .unset, .unset, .unset, .unset, .unset, .unset, .unset, .unset, .unset, .unset, .unset, .unset, .unset, .unset] [(.int p5), (.int p1)]))
  refine Owes.go ?_ fun t₀ k₀ => XS.iconst X0.here hx rfl (hb hby at_17) k₀
  show Owes _ _ _ _ (s₁.setTop (mkF m 18 #[.val (.int p0), .val (.int p1), .val (.int p2), .val (.int p3), .val (.int p4), .val (.int p5), .val (.int nI), .val (.int (47 : Int32)), .unset, .unset, .unset, .unset, .unset, .unset, .unset, .unset, .unset, .unset, .unset, .unset, .unset, .unset] [(.int (0 : Int32)), (.int p5), (.int p1)]))
  refine Owes.callS X0 hx hZ hown (hw _ (List.mem_of_getElem? (i := 1) rfl)) (hw _ (List.mem_of_getElem? (i := 2) rfl)) (hw _ (List.mem_of_getElem? (i := 3) rfl)) (hw _ (List.mem_of_getElem? (i := 4) rfl)) (by decide) (argsL := [(.int p1), (.int p5), (.int (0 : Int32))]) (rest := []) (rm_f_pick l Z a0 hw [] p1 p5 (0 : Int32) h0 ) e0 (by rw [hml]; rfl) pd_21 rfl rfl (hb hby at_18) (by decide) (Nat.le_of_ble_eq_true rfl) (by decide) (by decide) ?_
  rintro T52 _ _ X52 ⟨rfl, rfl, e52⟩
  rw [List.append_nil] at X52
  show Owes _ _ _ _ (T52.setTop (mkF m 21 #[.val (.int p0), .val (.int p1), .val (.int p2), .val (.int p3), .val (.int p4), .val (.int p5), .val (.int nI), .val (.int (47 : Int32)), .unset, .unset, .unset, .unset, .unset, .unset, .unset, .unset, .unset, .unset, .unset, .unset, .unset, .unset] [(.int (f_pick p1 p5 (0 : Int32)))]))
  refine Owes.go ?_ fun t₀ k₀ => XS.istore X52.here hx rfl (hb hby at_21) rfl (l' := #[.val (.int p0), .val (.int p1), .val (.int p2), .val (.int p3), .val (.int p4), .val (.int p5), .val (.int nI), .val (.int (47 : Int32)), .val (.int (f_pick p1 p5 (0 : Int32))), .unset, .unset, .unset, .unset, .unset, .unset, .unset, .unset, .unset, .unset, .unset, .unset, .unset]) rfl k₀
  show Owes _ _ _ _ (T52.setTop (mkF m 23 #[.val (.int p0), .val (.int p1), .val (.int p2), .val (.int p3), .val (.int p4), .val (.int p5), .val (.int nI), .val (.int (47 : Int32)), .val (.int (f_pick p1 p5 (0 : Int32))), .unset, .unset, .unset, .unset, .unset, .unset, .unset, .unset, .unset, .unset, .unset, .unset, .unset] []))
  have hb1 := own_pick p1 p5 (0 : Int32)
  generalize (f_pick p1 p5 (0 : Int32)) = c1 at *
  refine Owes.go ?_ fun t₀ k₀ => XS.iloadN X52.here hx rfl (hb hby at_23) rfl k₀
  show Owes _ _ _ _ (T52.setTop (mkF m 24 #[.val (.int p0), .val (.int p1), .val (.int p2), .val (.int p3), .val (.int p4), .val (.int p5), .val (.int nI), .val (.int (47 : Int32)), .val (.int c1), .unset, .unset, .unset, .unset, .unset, .unset, .unset, .unset, .unset, .unset, .unset, .unset, .unset] [(.int p2)]))
  refine Owes.go ?_ fun t₀ k₀ => XS.iload X52.here hx rfl (hb hby at_24) rfl k₀
  show Owes _ _ _ _ (T52.setTop (mkF m 26 #[.val (.int p0), .val (.int p1), .val (.int p2), .val (.int p3), .val (.int p4), .val (.int p5), .val (.int nI), .val (.int (47 : Int32)), .val (.int c1), .unset, .unset, .unset, .unset, .unset, .unset, .unset, .unset, .unset, .unset, .unset, .unset, .unset] [(.int p5), (.int p2)]))
  refine Owes.go ?_ fun t₀ k₀ => XS.iconst X52.here hx rfl (hb hby at_26) k₀
  show Owes _ _ _ _ (T52.setTop (mkF m 27 #[.val (.int p0), .val (.int p1), .val (.int p2), .val (.int p3), .val (.int p4), .val (.int p5), .val (.int nI), .val (.int (47 : Int32)), .val (.int c1), .unset, .unset, .unset, .unset, .unset, .unset, .unset, .unset, .unset, .unset, .unset, .unset, .unset] [(.int (1 : Int32)), (.int p5), (.int p2)]))
  refine Owes.callS X52 hx hZ hown (hw _ (List.mem_of_getElem? (i := 1) rfl)) (hw _ (List.mem_of_getElem? (i := 2) rfl)) (hw _ (List.mem_of_getElem? (i := 3) rfl)) (hw _ (List.mem_of_getElem? (i := 4) rfl)) (by decide) (argsL := [(.int p2), (.int p5), (.int (1 : Int32))]) (rest := []) (rm_f_pick l Z a0 hw [] p2 p5 (1 : Int32) h0 ) e52 (by rw [hml]; rfl) pd_21 rfl rfl (hb hby at_27) (by decide) (Nat.le_of_ble_eq_true rfl) (by decide) (by decide) ?_
  rintro T53 _ _ X53 ⟨rfl, rfl, e53⟩
  rw [List.append_nil] at X53
  show Owes _ _ _ _ (T53.setTop (mkF m 30 #[.val (.int p0), .val (.int p1), .val (.int p2), .val (.int p3), .val (.int p4), .val (.int p5), .val (.int nI), .val (.int (47 : Int32)), .val (.int c1), .unset, .unset, .unset, .unset, .unset, .unset, .unset, .unset, .unset, .unset, .unset, .unset, .unset] [(.int (f_pick p2 p5 (1 : Int32)))]))
  refine Owes.go ?_ fun t₀ k₀ => XS.istore X53.here hx rfl (hb hby at_30) rfl (l' := #[.val (.int p0), .val (.int p1), .val (.int p2), .val (.int p3), .val (.int p4), .val (.int p5), .val (.int nI), .val (.int (47 : Int32)), .val (.int c1), .val (.int (f_pick p2 p5 (1 : Int32))), .unset, .unset, .unset, .unset, .unset, .unset, .unset, .unset, .unset, .unset, .unset, .unset]) rfl k₀
  show Owes _ _ _ _ (T53.setTop (mkF m 32 #[.val (.int p0), .val (.int p1), .val (.int p2), .val (.int p3), .val (.int p4), .val (.int p5), .val (.int nI), .val (.int (47 : Int32)), .val (.int c1), .val (.int (f_pick p2 p5 (1 : Int32))), .unset, .unset, .unset, .unset, .unset, .unset, .unset, .unset, .unset, .unset, .unset, .unset] []))
  have hb2 := own_pick p2 p5 (1 : Int32)
  generalize (f_pick p2 p5 (1 : Int32)) = c2 at *
  refine Owes.go ?_ fun t₀ k₀ => XS.iloadN X53.here hx rfl (hb hby at_32) rfl k₀
  show Owes _ _ _ _ (T53.setTop (mkF m 33 #[.val (.int p0), .val (.int p1), .val (.int p2), .val (.int p3), .val (.int p4), .val (.int p5), .val (.int nI), .val (.int (47 : Int32)), .val (.int c1), .val (.int c2), .unset, .unset, .unset, .unset, .unset, .unset, .unset, .unset, .unset, .unset, .unset, .unset] [(.int p3)]))
  refine Owes.go ?_ fun t₀ k₀ => XS.iload X53.here hx rfl (hb hby at_33) rfl k₀
  show Owes _ _ _ _ (T53.setTop (mkF m 35 #[.val (.int p0), .val (.int p1), .val (.int p2), .val (.int p3), .val (.int p4), .val (.int p5), .val (.int nI), .val (.int (47 : Int32)), .val (.int c1), .val (.int c2), .unset, .unset, .unset, .unset, .unset, .unset, .unset, .unset, .unset, .unset, .unset, .unset] [(.int p5), (.int p3)]))
  refine Owes.go ?_ fun t₀ k₀ => XS.iconst X53.here hx rfl (hb hby at_35) k₀
  show Owes _ _ _ _ (T53.setTop (mkF m 36 #[.val (.int p0), .val (.int p1), .val (.int p2), .val (.int p3), .val (.int p4), .val (.int p5), .val (.int nI), .val (.int (47 : Int32)), .val (.int c1), .val (.int c2), .unset, .unset, .unset, .unset, .unset, .unset, .unset, .unset, .unset, .unset, .unset, .unset] [(.int (2 : Int32)), (.int p5), (.int p3)]))
  refine Owes.callS X53 hx hZ hown (hw _ (List.mem_of_getElem? (i := 1) rfl)) (hw _ (List.mem_of_getElem? (i := 2) rfl)) (hw _ (List.mem_of_getElem? (i := 3) rfl)) (hw _ (List.mem_of_getElem? (i := 4) rfl)) (by decide) (argsL := [(.int p3), (.int p5), (.int (2 : Int32))]) (rest := []) (rm_f_pick l Z a0 hw [] p3 p5 (2 : Int32) h0 ) e53 (by rw [hml]; rfl) pd_21 rfl rfl (hb hby at_36) (by decide) (Nat.le_of_ble_eq_true rfl) (by decide) (by decide) ?_
  rintro T54 _ _ X54 ⟨rfl, rfl, e54⟩
  rw [List.append_nil] at X54
  show Owes _ _ _ _ (T54.setTop (mkF m 39 #[.val (.int p0), .val (.int p1), .val (.int p2), .val (.int p3), .val (.int p4), .val (.int p5), .val (.int nI), .val (.int (47 : Int32)), .val (.int c1), .val (.int c2), .unset, .unset, .unset, .unset, .unset, .unset, .unset, .unset, .unset, .unset, .unset, .unset] [(.int (f_pick p3 p5 (2 : Int32)))]))
  refine Owes.go ?_ fun t₀ k₀ => XS.istore X54.here hx rfl (hb hby at_39) rfl (l' := #[.val (.int p0), .val (.int p1), .val (.int p2), .val (.int p3), .val (.int p4), .val (.int p5), .val (.int nI), .val (.int (47 : Int32)), .val (.int c1), .val (.int c2), .val (.int (f_pick p3 p5 (2 : Int32))), .unset, .unset, .unset, .unset, .unset, .unset, .unset, .unset, .unset, .unset, .unset]) rfl k₀
  show Owes _ _ _ _ (T54.setTop (mkF m 41 #[.val (.int p0), .val (.int p1), .val (.int p2), .val (.int p3), .val (.int p4), .val (.int p5), .val (.int nI), .val (.int (47 : Int32)), .val (.int c1), .val (.int c2), .val (.int (f_pick p3 p5 (2 : Int32))), .unset, .unset, .unset, .unset, .unset, .unset, .unset, .unset, .unset, .unset, .unset] []))
  have hb3 := own_pick p3 p5 (2 : Int32)
  generalize (f_pick p3 p5 (2 : Int32)) = c3 at *
  refine Owes.go ?_ fun t₀ k₀ => XS.iload X54.here hx rfl (hb hby at_41) rfl k₀
  show Owes _ _ _ _ (T54.setTop (mkF m 43 #[.val (.int p0), .val (.int p1), .val (.int p2), .val (.int p3), .val (.int p4), .val (.int p5), .val (.int nI), .val (.int (47 : Int32)), .val (.int c1), .val (.int c2), .val (.int c3), .unset, .unset, .unset, .unset, .unset, .unset, .unset, .unset, .unset, .unset, .unset] [(.int p4)]))
  refine Owes.go ?_ fun t₀ k₀ => XS.iload X54.here hx rfl (hb hby at_43) rfl k₀
  show Owes _ _ _ _ (T54.setTop (mkF m 45 #[.val (.int p0), .val (.int p1), .val (.int p2), .val (.int p3), .val (.int p4), .val (.int p5), .val (.int nI), .val (.int (47 : Int32)), .val (.int c1), .val (.int c2), .val (.int c3), .unset, .unset, .unset, .unset, .unset, .unset, .unset, .unset, .unset, .unset, .unset] [(.int p5), (.int p4)]))
  refine Owes.go ?_ fun t₀ k₀ => XS.iconst X54.here hx rfl (hb hby at_45) k₀
  show Owes _ _ _ _ (T54.setTop (mkF m 46 #[.val (.int p0), .val (.int p1), .val (.int p2), .val (.int p3), .val (.int p4), .val (.int p5), .val (.int nI), .val (.int (47 : Int32)), .val (.int c1), .val (.int c2), .val (.int c3), .unset, .unset, .unset, .unset, .unset, .unset, .unset, .unset, .unset, .unset, .unset] [(.int (3 : Int32)), (.int p5), (.int p4)]))
  refine Owes.callS X54 hx hZ hown (hw _ (List.mem_of_getElem? (i := 1) rfl)) (hw _ (List.mem_of_getElem? (i := 2) rfl)) (hw _ (List.mem_of_getElem? (i := 3) rfl)) (hw _ (List.mem_of_getElem? (i := 4) rfl)) (by decide) (argsL := [(.int p4), (.int p5), (.int (3 : Int32))]) (rest := []) (rm_f_pick l Z a0 hw [] p4 p5 (3 : Int32) h0 ) e54 (by rw [hml]; rfl) pd_21 rfl rfl (hb hby at_46) (by decide) (Nat.le_of_ble_eq_true rfl) (by decide) (by decide) ?_
  rintro T55 _ _ X55 ⟨rfl, rfl, e55⟩
  rw [List.append_nil] at X55
  show Owes _ _ _ _ (T55.setTop (mkF m 49 #[.val (.int p0), .val (.int p1), .val (.int p2), .val (.int p3), .val (.int p4), .val (.int p5), .val (.int nI), .val (.int (47 : Int32)), .val (.int c1), .val (.int c2), .val (.int c3), .unset, .unset, .unset, .unset, .unset, .unset, .unset, .unset, .unset, .unset, .unset] [(.int (f_pick p4 p5 (3 : Int32)))]))
  refine Owes.go ?_ fun t₀ k₀ => XS.istore X55.here hx rfl (hb hby at_49) rfl (l' := #[.val (.int p0), .val (.int p1), .val (.int p2), .val (.int p3), .val (.int p4), .val (.int p5), .val (.int nI), .val (.int (47 : Int32)), .val (.int c1), .val (.int c2), .val (.int c3), .val (.int (f_pick p4 p5 (3 : Int32))), .unset, .unset, .unset, .unset, .unset, .unset, .unset, .unset, .unset, .unset]) rfl k₀
  show Owes _ _ _ _ (T55.setTop (mkF m 51 #[.val (.int p0), .val (.int p1), .val (.int p2), .val (.int p3), .val (.int p4), .val (.int p5), .val (.int nI), .val (.int (47 : Int32)), .val (.int c1), .val (.int c2), .val (.int c3), .val (.int (f_pick p4 p5 (3 : Int32))), .unset, .unset, .unset, .unset, .unset, .unset, .unset, .unset, .unset, .unset] []))
  have hb4 := own_pick p4 p5 (3 : Int32)
  generalize (f_pick p4 p5 (3 : Int32)) = c4 at *
  refine Owes.go ?_ fun t₀ k₀ => XS.iconst X55.here hx rfl (hb hby at_51) k₀
  show Owes _ _ _ _ (T55.setTop (mkF m 52 #[.val (.int p0), .val (.int p1), .val (.int p2), .val (.int p3), .val (.int p4), .val (.int p5), .val (.int nI), .val (.int (47 : Int32)), .val (.int c1), .val (.int c2), .val (.int c3), .val (.int c4), .unset, .unset, .unset, .unset, .unset, .unset, .unset, .unset, .unset, .unset] [(.int (1 : Int32))]))
  refine Owes.newArr X55 hx hZ (aty := .char) (hw _ (List.mem_of_getElem? (i := 5) rfl)) e55 (n := 1) rfl (by omega) (by decide) (by decide) (ad := "[C") (by decide) (hb hby at_52) ?_
  intro T56 h56 X56 e56 E56 G56 EX56
  obtain ⟨x1, gx1⟩ : ∃ z, z = h0.size := ⟨_, rfl⟩
  rw [← gx1] at G56 EX56 ⊢
  have ge_x1 : h0.size ≤ x1 := by rw [gx1]; exact K0.1
  have gn_x1 : n0 ≤ x1 := Nat.le_trans Z0 ge_x1
  have K_56 := K0.ext E56
  have ST_56 := ST0.ext E56
  have G56 : GA Z h56 x1 .char 1 (fun _ => .int 0) := G56
  show Owes _ _ _ _ (T56.setTop (mkF m 54 #[.val (.int p0), .val (.int p1), .val (.int p2), .val (.int p3), .val (.int p4), .val (.int p5), .val (.int nI), .val (.int (47 : Int32)), .val (.int c1), .val (.int c2), .val (.int c3), .val (.int c4), .unset, .unset, .unset, .unset, .unset, .unset, .unset, .unset, .unset, .unset] [(.ref x1)]))
  refine Owes.go ?_ fun t₀ k₀ => XS.dup X56.here hx rfl (hb hby at_54) rfl rfl k₀
  show Owes _ _ _ _ (T56.setTop (mkF m 55 #[.val (.int p0), .val (.int p1), .val (.int p2), .val (.int p3), .val (.int p4), .val (.int p5), .val (.int nI), .val (.int (47 : Int32)), .val (.int c1), .val (.int c2), .val (.int c3), .val (.int c4), .unset, .unset, .unset, .unset, .unset, .unset, .unset, .unset, .unset, .unset] [(.ref x1), (.ref x1)]))
  refine Owes.go ?_ fun t₀ k₀ => XS.iconst X56.here hx rfl (hb hby at_55) k₀
  show Owes _ _ _ _ (T56.setTop (mkF m 56 #[.val (.int p0), .val (.int p1), .val (.int p2), .val (.int p3), .val (.int p4), .val (.int p5), .val (.int nI), .val (.int (47 : Int32)), .val (.int c1), .val (.int c2), .val (.int c3), .val (.int c4), .unset, .unset, .unset, .unset, .unset, .unset, .unset, .unset, .unset, .unset] [(.int (0 : Int32)), (.ref x1), (.ref x1)]))
  refine Owes.go ?_ fun t₀ k₀ => XS.iload X56.here hx rfl (hb hby at_56) rfl k₀
  show Owes _ _ _ _ (T56.setTop (mkF m 58 #[.val (.int p0), .val (.int p1), .val (.int p2), .val (.int p3), .val (.int p4), .val (.int p5), .val (.int nI), .val (.int (47 : Int32)), .val (.int c1), .val (.int c2), .val (.int c3), .val (.int c4), .unset, .unset, .unset, .unset, .unset, .unset, .unset, .unset, .unset, .unset] [(.int (47 : Int32)), (.int (0 : Int32)), (.ref x1), (.ref x1)]))
  refine Owes.sC X56 hx hZ e56 G56 (i := 0) rfl (by decide) (y := 47) (by decide) (hb hby at_58) ?_
  intro T57 h57 X57 e57 W57 G57
  have GF_x1 : GA Z h57 x1 .char 1 (fun i => .int ((cf5 c1 c2 c3 c4) i)) := G57.congr fun i hi => by
    rcases (show i = 0 by omega) with rfl <;> rfl
  have K_57 := K_56.wr W57 (Or.inr ge_x1)
  have ST_57 := ST_56.wr W57
  have N57 := Fr.snoc X57 N0 gn_x1
  show Owes _ _ _ _ (T57.setTop (mkF m 59 #[.val (.int p0), .val (.int p1), .val (.int p2), .val (.int p3), .val (.int p4), .val (.int p5), .val (.int nI), .val (.int (47 : Int32)), .val (.int c1), .val (.int c2), .val (.int c3), .val (.int c4), .unset, .unset, .unset, .unset, .unset, .unset, .unset, .unset, .unset, .unset] [(.ref x1)]))
  refine Owes.go ?_ fun t₀ k₀ => XS.astore X57.here hx rfl (hb hby at_59) rfl rfl (l' := #[.val (.int p0), .val (.int p1), .val (.int p2), .val (.int p3), .val (.int p4), .val (.int p5), .val (.int nI), .val (.int (47 : Int32)), .val (.int c1), .val (.int c2), .val (.int c3), .val (.int c4), .val (.ref x1), .unset, .unset, .unset, .unset, .unset, .unset, .unset, .unset, .unset]) rfl k₀
  show Owes _ _ _ _ (T57.setTop (mkF m 61 #[.val (.int p0), .val (.int p1), .val (.int p2), .val (.int p3), .val (.int p4), .val (.int p5), .val (.int nI), .val (.int (47 : Int32)), .val (.int c1), .val (.int c2), .val (.int c3), .val (.int c4), .val (.ref x1), .unset, .unset, .unset, .unset, .unset, .unset, .unset, .unset, .unset] []))
  refine Owes.go ?_ fun t₀ k₀ => XS.iconst X57.here hx rfl (hb hby at_61) k₀
  show Owes _ _ _ _ (T57.setTop (mkF m 62 #[.val (.int p0), .val (.int p1), .val (.int p2), .val (.int p3), .val (.int p4), .val (.int p5), .val (.int nI), .val (.int (47 : Int32)), .val (.int c1), .val (.int c2), .val (.int c3), .val (.int c4), .val (.ref x1), .unset, .unset, .unset, .unset, .unset, .unset, .unset, .unset, .unset] [(.int (2 : Int32))]))
  refine Owes.newArr X57 hx hZ (aty := .char) (hw _ (List.mem_of_getElem? (i := 5) rfl)) e57 (n := 2) rfl (by omega) (by decide) (by decide) (ad := "[C") (by decide) (hb hby at_62) ?_
  intro T58 h58 X58 e58 E58 G58 EX58
  obtain ⟨x2, gx2⟩ : ∃ z, z = h57.size := ⟨_, rfl⟩
  rw [← gx2] at G58 EX58 ⊢
  have lt_x1_x2 : x1 < x2 := by rw [gx2]; exact (GF_x1).lt
  have ge_x2 : h0.size ≤ x2 := by rw [gx2]; exact K_57.1
  have gn_x2 : n0 ≤ x2 := Nat.le_trans Z0 ge_x2
  have G_x1_58 := GA.ext GF_x1 E58
  have K_58 := K_57.ext E58
  have ST_58 := ST_57.ext E58
  have G58 : GA Z h58 x2 .char 2 (fun _ => .int 0) := G58
  show Owes _ _ _ _ (T58.setTop (mkF m 64 #[.val (.int p0), .val (.int p1), .val (.int p2), .val (.int p3), .val (.int p4), .val (.int p5), .val (.int nI), .val (.int (47 : Int32)), .val (.int c1), .val (.int c2), .val (.int c3), .val (.int c4), .val (.ref x1), .unset, .unset, .unset, .unset, .unset, .unset, .unset, .unset, .unset] [(.ref x2)]))
  refine Owes.go ?_ fun t₀ k₀ => XS.dup X58.here hx rfl (hb hby at_64) rfl rfl k₀
  show Owes _ _ _ _ (T58.setTop (mkF m 65 #[.val (.int p0), .val (.int p1), .val (.int p2), .val (.int p3), .val (.int p4), .val (.int p5), .val (.int nI), .val (.int (47 : Int32)), .val (.int c1), .val (.int c2), .val (.int c3), .val (.int c4), .val (.ref x1), .unset, .unset, .unset, .unset, .unset, .unset, .unset, .unset, .unset] [(.ref x2), (.ref x2)]))
  refine Owes.go ?_ fun t₀ k₀ => XS.iconst X58.here hx rfl (hb hby at_65) k₀
  show Owes _ _ _ _ (T58.setTop (mkF m 66 #[.val (.int p0), .val (.int p1), .val (.int p2), .val (.int p3), .val (.int p4), .val (.int p5), .val (.int nI), .val (.int (47 : Int32)), .val (.int c1), .val (.int c2), .val (.int c3), .val (.int c4), .val (.ref x1), .unset, .unset, .unset, .unset, .unset, .unset, .unset, .unset, .unset] [(.int (0 : Int32)), (.ref x2), (.ref x2)]))
  refine Owes.go ?_ fun t₀ k₀ => XS.iload X58.here hx rfl (hb hby at_66) rfl k₀
  show Owes _ _ _ _ (T58.setTop (mkF m 68 #[.val (.int p0), .val (.int p1), .val (.int p2), .val (.int p3), .val (.int p4), .val (.int p5), .val (.int nI), .val (.int (47 : Int32)), .val (.int c1), .val (.int c2), .val (.int c3), .val (.int c4), .val (.ref x1), .unset, .unset, .unset, .unset, .unset, .unset, .unset, .unset, .unset] [(.int (47 : Int32)), (.int (0 : Int32)), (.ref x2), (.ref x2)]))
  refine Owes.sC X58 hx hZ e58 G58 (i := 0) rfl (by decide) (y := 47) (by decide) (hb hby at_68) ?_
  intro T59 h59 X59 e59 W59 G59
  have G_x1_59 := GA.other G_x1_58 W59 (Nat.ne_of_lt lt_x1_x2)
  have K_59 := K_58.wr W59 (Or.inr ge_x2)
  have ST_59 := ST_58.wr W59
  have N59 := Fr.snoc X59 N57 gn_x2
  show Owes _ _ _ _ (T59.setTop (mkF m 69 #[.val (.int p0), .val (.int p1), .val (.int p2), .val (.int p3), .val (.int p4), .val (.int p5), .val (.int nI), .val (.int (47 : Int32)), .val (.int c1), .val (.int c2), .val (.int c3), .val (.int c4), .val (.ref x1), .unset, .unset, .unset, .unset, .unset, .unset, .unset, .unset, .unset] [(.ref x2)]))
  refine Owes.go ?_ fun t₀ k₀ => XS.dup X59.here hx rfl (hb hby at_69) rfl rfl k₀
  show Owes _ _ _ _ (T59.setTop (mkF m 70 #[.val (.int p0), .val (.int p1), .val (.int p2), .val (.int p3), .val (.int p4), .val (.int p5), .val (.int nI), .val (.int (47 : Int32)), .val (.int c1), .val (.int c2), .val (.int c3), .val (.int c4), .val (.ref x1), .unset, .unset, .unset, .unset, .unset, .unset, .unset, .unset, .unset] [(.ref x2), (.ref x2)]))
  refine Owes.go ?_ fun t₀ k₀ => XS.iconst X59.here hx rfl (hb hby at_70) k₀
  show Owes _ _ _ _ (T59.setTop (mkF m 71 #[.val (.int p0), .val (.int p1), .val (.int p2), .val (.int p3), .val (.int p4), .val (.int p5), .val (.int nI), .val (.int (47 : Int32)), .val (.int c1), .val (.int c2), .val (.int c3), .val (.int c4), .val (.ref x1), .unset, .unset, .unset, .unset, .unset, .unset, .unset, .unset, .unset] [(.int (1 : Int32)), (.ref x2), (.ref x2)]))
  refine Owes.go ?_ fun t₀ k₀ => XS.iload X59.here hx rfl (hb hby at_71) rfl k₀
  show Owes _ _ _ _ (T59.setTop (mkF m 73 #[.val (.int p0), .val (.int p1), .val (.int p2), .val (.int p3), .val (.int p4), .val (.int p5), .val (.int nI), .val (.int (47 : Int32)), .val (.int c1), .val (.int c2), .val (.int c3), .val (.int c4), .val (.ref x1), .unset, .unset, .unset, .unset, .unset, .unset, .unset, .unset, .unset] [(.int c1), (.int (1 : Int32)), (.ref x2), (.ref x2)]))
  refine Owes.sC X59 hx hZ e59 G59 (i := 1) rfl (by decide) (own_narC hb1) (hb hby at_73) ?_
  intro T60 h60 X60 e60 W60 G60
  have G_x1_60 := GA.other G_x1_59 W60 (Nat.ne_of_lt lt_x1_x2)
  have GF_x2 : GA Z h60 x2 .char 2 (fun i => .int ((cf5 c1 c2 c3 c4) i)) := G60.congr fun i hi => by
    rcases (show i = 0 ∨ i = 1 by omega) with rfl | rfl <;> rfl
  have K_60 := K_59.wr W60 (Or.inr ge_x2)
  have ST_60 := ST_59.wr W60
  have N60 := Fr.snoc X60 N59 gn_x2
  show Owes _ _ _ _ (T60.setTop (mkF m 74 #[.val (.int p0), .val (.int p1), .val (.int p2), .val (.int p3), .val (.int p4), .val (.int p5), .val (.int nI), .val (.int (47 : Int32)), .val (.int c1), .val (.int c2), .val (.int c3), .val (.int c4), .val (.ref x1), .unset, .unset, .unset, .unset, .unset, .unset, .unset, .unset, .unset] [(.ref x2)]))
  refine Owes.go ?_ fun t₀ k₀ => XS.astore X60.here hx rfl (hb hby at_74) rfl rfl (l' := #[.val (.int p0), .val (.int p1), .val (.int p2), .val (.int p3), .val (.int p4), .val (.int p5), .val (.int nI), .val (.int (47 : Int32)), .val (.int c1), .val (.int c2), .val (.int c3), .val (.int c4), .val (.ref x1), .val (.ref x2), .unset, .unset, .unset, .unset, .unset, .unset, .unset, .unset]) rfl k₀
  show Owes _ _ _ _ (T60.setTop (mkF m 76 #[.val (.int p0), .val (.int p1), .val (.int p2), .val (.int p3), .val (.int p4), .val (.int p5), .val (.int nI), .val (.int (47 : Int32)), .val (.int c1), .val (.int c2), .val (.int c3), .val (.int c4), .val (.ref x1), .val (.ref x2), .unset, .unset, .unset, .unset, .unset, .unset, .unset, .unset] []))
  refine Owes.go ?_ fun t₀ k₀ => XS.iconst X60.here hx rfl (hb hby at_76) k₀
  show Owes _ _ _ _ (T60.setTop (mkF m 77 #[.val (.int p0), .val (.int p1), .val (.int p2), .val (.int p3), .val (.int p4), .val (.int p5), .val (.int nI), .val (.int (47 : Int32)), .val (.int c1), .val (.int c2), .val (.int c3), .val (.int c4), .val (.ref x1), .val (.ref x2), .unset, .unset, .unset, .unset, .unset, .unset, .unset, .unset] [(.int (3 : Int32))]))
  refine Owes.newArr X60 hx hZ (aty := .char) (hw _ (List.mem_of_getElem? (i := 5) rfl)) e60 (n := 3) rfl (by omega) (by decide) (by decide) (ad := "[C") (by decide) (hb hby at_77) ?_
  intro T61 h61 X61 e61 E61 G61 EX61
  obtain ⟨x3, gx3⟩ : ∃ z, z = h60.size := ⟨_, rfl⟩
  rw [← gx3] at G61 EX61 ⊢
  have lt_x1_x3 : x1 < x3 := by rw [gx3]; exact (G_x1_60).lt
  have lt_x2_x3 : x2 < x3 := by rw [gx3]; exact (GF_x2).lt
  have ge_x3 : h0.size ≤ x3 := by rw [gx3]; exact K_60.1
  have gn_x3 : n0 ≤ x3 := Nat.le_trans Z0 ge_x3
  have G_x1_61 := GA.ext G_x1_60 E61
  have G_x2_61 := GA.ext GF_x2 E61
  have K_61 := K_60.ext E61
  have ST_61 := ST_60.ext E61
  have G61 : GA Z h61 x3 .char 3 (fun _ => .int 0) := G61
  show Owes _ _ _ _ (T61.setTop (mkF m 79 #[.val (.int p0), .val (.int p1), .val (.int p2), .val (.int p3), .val (.int p4), .val (.int p5), .val (.int nI), .val (.int (47 : Int32)), .val (.int c1), .val (.int c2), .val (.int c3), .val (.int c4), .val (.ref x1), .val (.ref x2), .unset, .unset, .unset, .unset, .unset, .unset, .unset, .unset] [(.ref x3)]))
  refine Owes.go ?_ fun t₀ k₀ => XS.dup X61.here hx rfl (hb hby at_79) rfl rfl k₀
  show Owes _ _ _ _ (T61.setTop (mkF m 80 #[.val (.int p0), .val (.int p1), .val (.int p2), .val (.int p3), .val (.int p4), .val (.int p5), .val (.int nI), .val (.int (47 : Int32)), .val (.int c1), .val (.int c2), .val (.int c3), .val (.int c4), .val (.ref x1), .val (.ref x2), .unset, .unset, .unset, .unset, .unset, .unset, .unset, .unset] [(.ref x3), (.ref x3)]))
  refine Owes.go ?_ fun t₀ k₀ => XS.iconst X61.here hx rfl (hb hby at_80) k₀
  show Owes _ _ _ _ (T61.setTop (mkF m 81 #[.val (.int p0), .val (.int p1), .val (.int p2), .val (.int p3), .val (.int p4), .val (.int p5), .val (.int nI), .val (.int (47 : Int32)), .val (.int c1), .val (.int c2), .val (.int c3), .val (.int c4), .val (.ref x1), .val (.ref x2), .unset, .unset, .unset, .unset, .unset, .unset, .unset, .unset] [(.int (0 : Int32)), (.ref x3), (.ref x3)]))
  refine Owes.go ?_ fun t₀ k₀ => XS.iload X61.here hx rfl (hb hby at_81) rfl k₀
  show Owes _ _ _ _ (T61.setTop (mkF m 83 #[.val (.int p0), .val (.int p1), .val (.int p2), .val (.int p3), .val (.int p4), .val (.int p5), .val (.int nI), .val (.int (47 : Int32)), .val (.int c1), .val (.int c2), .val (.int c3), .val (.int c4), .val (.ref x1), .val (.ref x2), .unset, .unset, .unset, .unset, .unset, .unset, .unset, .unset] [(.int (47 : Int32)), (.int (0 : Int32)), (.ref x3), (.ref x3)]))
  refine Owes.sC X61 hx hZ e61 G61 (i := 0) rfl (by decide) (y := 47) (by decide) (hb hby at_83) ?_
  intro T62 h62 X62 e62 W62 G62
  have G_x1_62 := GA.other G_x1_61 W62 (Nat.ne_of_lt lt_x1_x3)
  have G_x2_62 := GA.other G_x2_61 W62 (Nat.ne_of_lt lt_x2_x3)
  have K_62 := K_61.wr W62 (Or.inr ge_x3)
  have ST_62 := ST_61.wr W62
  have N62 := Fr.snoc X62 N60 gn_x3
  show Owes _ _ _ _ (T62.setTop (mkF m 84 #[.val (.int p0), .val (.int p1), .val (.int p2), .val (.int p3), .val (.int p4), .val (.int p5), .val (.int nI), .val (.int (47 : Int32)), .val (.int c1), .val (.int c2), .val (.int c3), .val (.int c4), .val (.ref x1), .val (.ref x2), .unset, .unset, .unset, .unset, .unset, .unset, .unset, .unset] [(.ref x3)]))
  refine Owes.go ?_ fun t₀ k₀ => XS.dup X62.here hx rfl (hb hby at_84) rfl rfl k₀
  show Owes _ _ _ _ (T62.setTop (mkF m 85 #[.val (.int p0), .val (.int p1), .val (.int p2), .val (.int p3), .val (.int p4), .val (.int p5), .val (.int nI), .val (.int (47 : Int32)), .val (.int c1), .val (.int c2), .val (.int c3), .val (.int c4), .val (.ref x1), .val (.ref x2), .unset, .unset, .unset, .unset, .unset, .unset, .unset, .unset] [(.ref x3), (.ref x3)]))
  refine Owes.go ?_ fun t₀ k₀ => XS.iconst X62.here hx rfl (hb hby at_85) k₀
  show Owes _ _ _ _ (T62.setTop (mkF m 86 #[.val (.int p0), .val (.int p1), .val (.int p2), .val (.int p3), .val (.int p4), .val (.int p5), .val (.int nI), .val (.int (47 : Int32)), .val (.int c1), .val (.int c2), .val (.int c3), .val (.int c4), .val (.ref x1), .val (.ref x2), .unset, .unset, .unset, .unset, .unset, .unset, .unset, .unset] [(.int (1 : Int32)), (.ref x3), (.ref x3)]))
  refine Owes.go ?_ fun t₀ k₀ => XS.iload X62.here hx rfl (hb hby at_86) rfl k₀
  show Owes _ _ _ _ (T62.setTop (mkF m 88 #[.val (.int p0), .val (.int p1), .val (.int p2), .val (.int p3), .val (.int p4), .val (.int p5), .val (.int nI), .val (.int (47 : Int32)), .val (.int c1), .val (.int c2), .val (.int c3), .val (.int c4), .val (.ref x1), .val (.ref x2), .unset, .unset, .unset, .unset, .unset, .unset, .unset, .unset] [(.int c1), (.int (1 : Int32)), (.ref x3), (.ref x3)]))
  refine Owes.sC X62 hx hZ e62 G62 (i := 1) rfl (by decide) (own_narC hb1) (hb hby at_88) ?_
  intro T63 h63 X63 e63 W63 G63
  have G_x1_63 := GA.other G_x1_62 W63 (Nat.ne_of_lt lt_x1_x3)
  have G_x2_63 := GA.other G_x2_62 W63 (Nat.ne_of_lt lt_x2_x3)
  have K_63 := K_62.wr W63 (Or.inr ge_x3)
  have ST_63 := ST_62.wr W63
  have N63 := Fr.snoc X63 N62 gn_x3
  show Owes _ _ _ _ (T63.setTop (mkF m 89 #[.val (.int p0), .val (.int p1), .val (.int p2), .val (.int p3), .val (.int p4), .val (.int p5), .val (.int nI), .val (.int (47 : Int32)), .val (.int c1), .val (.int c2), .val (.int c3), .val (.int c4), .val (.ref x1), .val (.ref x2), .unset, .unset, .unset, .unset, .unset, .unset, .unset, .unset] [(.ref x3)]))
  refine Owes.go ?_ fun t₀ k₀ => XS.dup X63.here hx rfl (hb hby at_89) rfl rfl k₀
  show Owes _ _ _ _ (T63.setTop (mkF m 90 #[.val (.int p0), .val (.int p1), .val (.int p2), .val (.int p3), .val (.int p4), .val (.int p5), .val (.int nI), .val (.int (47 : Int32)), .val (.int c1), .val (.int c2), .val (.int c3), .val (.int c4), .val (.ref x1), .val (.ref x2), .unset, .unset, .unset, .unset, .unset, .unset, .unset, .unset] [(.ref x3), (.ref x3)]))
  refine Owes.go ?_ fun t₀ k₀ => XS.iconst X63.here hx rfl (hb hby at_90) k₀
  show Owes _ _ _ _ (T63.setTop (mkF m 91 #[.val (.int p0), .val (.int p1), .val (.int p2), .val (.int p3), .val (.int p4), .val (.int p5), .val (.int nI), .val (.int (47 : Int32)), .val (.int c1), .val (.int c2), .val (.int c3), .val (.int c4), .val (.ref x1), .val (.ref x2), .unset, .unset, .unset, .unset, .unset, .unset, .unset, .unset] [(.int (2 : Int32)), (.ref x3), (.ref x3)]))
  refine Owes.go ?_ fun t₀ k₀ => XS.iload X63.here hx rfl (hb hby at_91) rfl k₀
  show Owes _ _ _ _ (T63.setTop (mkF m 93 #[.val (.int p0), .val (.int p1), .val (.int p2), .val (.int p3), .val (.int p4), .val (.int p5), .val (.int nI), .val (.int (47 : Int32)), .val (.int c1), .val (.int c2), .val (.int c3), .val (.int c4), .val (.ref x1), .val (.ref x2), .unset, .unset, .unset, .unset, .unset, .unset, .unset, .unset] [(.int c2), (.int (2 : Int32)), (.ref x3), (.ref x3)]))
  refine Owes.sC X63 hx hZ e63 G63 (i := 2) rfl (by decide) (own_narC hb2) (hb hby at_93) ?_
  intro T64 h64 X64 e64 W64 G64
  have G_x1_64 := GA.other G_x1_63 W64 (Nat.ne_of_lt lt_x1_x3)
  have G_x2_64 := GA.other G_x2_63 W64 (Nat.ne_of_lt lt_x2_x3)
  have GF_x3 : GA Z h64 x3 .char 3 (fun i => .int ((cf5 c1 c2 c3 c4) i)) := G64.congr fun i hi => by
    rcases (show i = 0 ∨ i = 1 ∨ i = 2 by omega) with rfl | rfl | rfl <;> rfl
  have K_64 := K_63.wr W64 (Or.inr ge_x3)
  have ST_64 := ST_63.wr W64
  have N64 := Fr.snoc X64 N63 gn_x3
  show Owes _ _ _ _ (T64.setTop (mkF m 94 #[.val (.int p0), .val (.int p1), .val (.int p2), .val (.int p3), .val (.int p4), .val (.int p5), .val (.int nI), .val (.int (47 : Int32)), .val (.int c1), .val (.int c2), .val (.int c3), .val (.int c4), .val (.ref x1), .val (.ref x2), .unset, .unset, .unset, .unset, .unset, .unset, .unset, .unset] [(.ref x3)]))
  refine Owes.go ?_ fun t₀ k₀ => XS.astore X64.here hx rfl (hb hby at_94) rfl rfl (l' := #[.val (.int p0), .val (.int p1), .val (.int p2), .val (.int p3), .val (.int p4), .val (.int p5), .val (.int nI), .val (.int (47 : Int32)), .val (.int c1), .val (.int c2), .val (.int c3), .val (.int c4), .val (.ref x1), .val (.ref x2), .val (.ref x3), .unset, .unset, .unset, .unset, .unset, .unset, .unset]) rfl k₀
  show Owes _ _ _ _ (T64.setTop (mkF m 96 #[.val (.int p0), .val (.int p1), .val (.int p2), .val (.int p3), .val (.int p4), .val (.int p5), .val (.int nI), .val (.int (47 : Int32)), .val (.int c1), .val (.int c2), .val (.int c3), .val (.int c4), .val (.ref x1), .val (.ref x2), .val (.ref x3), .unset, .unset, .unset, .unset, .unset, .unset, .unset] []))
  refine Owes.go ?_ fun t₀ k₀ => XS.iconst X64.here hx rfl (hb hby at_96) k₀
  show Owes _ _ _ _ (T64.setTop (mkF m 97 #[.val (.int p0), .val (.int p1), .val (.int p2), .val (.int p3), .val (.int p4), .val (.int p5), .val (.int nI), .val (.int (47 : Int32)), .val (.int c1), .val (.int c2), .val (.int c3), .val (.int c4), .val (.ref x1), .val (.ref x2), .val (.ref x3), .unset, .unset, .unset, .unset, .unset, .unset, .unset] [(.int (4 : Int32))]))
  refine Owes.newArr X64 hx hZ (aty := .char) (hw _ (List.mem_of_getElem? (i := 5) rfl)) e64 (n := 4) rfl (by omega) (by decide) (by decide) (ad := "[C") (by decide) (hb hby at_97) ?_
  intro T65 h65 X65 e65 E65 G65 EX65
  obtain ⟨x4, gx4⟩ : ∃ z, z = h64.size := ⟨_, rfl⟩
  rw [← gx4] at G65 EX65 ⊢
  have lt_x1_x4 : x1 < x4 := by rw [gx4]; exact (G_x1_64).lt
  have lt_x2_x4 : x2 < x4 := by rw [gx4]; exact (G_x2_64).lt
  have lt_x3_x4 : x3 < x4 := by rw [gx4]; exact (GF_x3).lt
  have ge_x4 : h0.size ≤ x4 := by rw [gx4]; exact K_64.1
  have gn_x4 : n0 ≤ x4 := Nat.le_trans Z0 ge_x4
  have G_x1_65 := GA.ext G_x1_64 E65
  have G_x2_65 := GA.ext G_x2_64 E65
  have G_x3_65 := GA.ext GF_x3 E65
  have K_65 := K_64.ext E65
  have ST_65 := ST_64.ext E65
  have G65 : GA Z h65 x4 .char 4 (fun _ => .int 0) := G65
  show Owes _ _ _ _ (T65.setTop (mkF m 99 #[.val (.int p0), .val (.int p1), .val (.int p2), .val (.int p3), .val (.int p4), .val (.int p5), .val (.int nI), .val (.int (47 : Int32)), .val (.int c1), .val (.int c2), .val (.int c3), .val (.int c4), .val (.ref x1), .val (.ref x2), .val (.ref x3), .unset, .unset, .unset, .unset, .unset, .unset, .unset] [(.ref x4)]))
  refine Owes.go ?_ fun t₀ k₀ => XS.dup X65.here hx rfl (hb hby at_99) rfl rfl k₀
  show Owes _ _ _ _ (T65.setTop (mkF m 100 #[.val (.int p0), .val (.int p1), .val (.int p2), .val (.int p3), .val (.int p4), .val (.int p5), .val (.int nI), .val (.int (47 : Int32)), .val (.int c1), .val (.int c2), .val (.int c3), .val (.int c4), .val (.ref x1), .val (.ref x2), .val (.ref x3), .unset, .unset, .unset, .unset, .unset, .unset, .unset] [(.ref x4), (.ref x4)]))
  refine Owes.go ?_ fun t₀ k₀ => XS.iconst X65.here hx rfl (hb hby at_100) k₀
  show Owes _ _ _ _ (T65.setTop (mkF m 101 #[.val (.int p0), .val (.int p1), .val (.int p2), .val (.int p3), .val (.int p4), .val (.int p5), .val (.int nI), .val (.int (47 : Int32)), .val (.int c1), .val (.int c2), .val (.int c3), .val (.int c4), .val (.ref x1), .val (.ref x2), .val (.ref x3), .unset, .unset, .unset, .unset, .unset, .unset, .unset] [(.int (0 : Int32)), (.ref x4), (.ref x4)]))
  refine Owes.go ?_ fun t₀ k₀ => XS.iload X65.here hx rfl (hb hby at_101) rfl k₀
  show Owes _ _ _ _ (T65.setTop (mkF m 103 #[.val (.int p0), .val (.int p1), .val (.int p2), .val (.int p3), .val (.int p4), .val (.int p5), .val (.int nI), .val (.int (47 : Int32)), .val (.int c1), .val (.int c2), .val (.int c3), .val (.int c4), .val (.ref x1), .val (.ref x2), .val (.ref x3), .unset, .unset, .unset, .unset, .unset, .unset, .unset] [(.int (47 : Int32)), (.int (0 : Int32)), (.ref x4), (.ref x4)]))
  refine Owes.sC X65 hx hZ e65 G65 (i := 0) rfl (by decide) (y := 47) (by decide) (hb hby at_103) ?_
  intro T66 h66 X66 e66 W66 G66
  have G_x1_66 := GA.other G_x1_65 W66 (Nat.ne_of_lt lt_x1_x4)
  have G_x2_66 := GA.other G_x2_65 W66 (Nat.ne_of_lt lt_x2_x4)
  have G_x3_66 := GA.other G_x3_65 W66 (Nat.ne_of_lt lt_x3_x4)
  have K_66 := K_65.wr W66 (Or.inr ge_x4)
  have ST_66 := ST_65.wr W66
  have N66 := Fr.snoc X66 N64 gn_x4
  show Owes _ _ _ _ (T66.setTop (mkF m 104 #[.val (.int p0), .val (.int p1), .val (.int p2), .val (.int p3), .val (.int p4), .val (.int p5), .val (.int nI), .val (.int (47 : Int32)), .val (.int c1), .val (.int c2), .val (.int c3), .val (.int c4), .val (.ref x1), .val (.ref x2), .val (.ref x3), .unset, .unset, .unset, .unset, .unset, .unset, .unset] [(.ref x4)]))
  refine Owes.go ?_ fun t₀ k₀ => XS.dup X66.here hx rfl (hb hby at_104) rfl rfl k₀
  show Owes _ _ _ _ (T66.setTop (mkF m 105 #[.val (.int p0), .val (.int p1), .val (.int p2), .val (.int p3), .val (.int p4), .val (.int p5), .val (.int nI), .val (.int (47 : Int32)), .val (.int c1), .val (.int c2), .val (.int c3), .val (.int c4), .val (.ref x1), .val (.ref x2), .val (.ref x3), .unset, .unset, .unset, .unset, .unset, .unset, .unset] [(.ref x4), (.ref x4)]))
  refine Owes.go ?_ fun t₀ k₀ => XS.iconst X66.here hx rfl (hb hby at_105) k₀
  show Owes _ _ _ _ (T66.setTop (mkF m 106 #[.val (.int p0), .val (.int p1), .val (.int p2), .val (.int p3), .val (.int p4), .val (.int p5), .val (.int nI), .val (.int (47 : Int32)), .val (.int c1), .val (.int c2), .val (.int c3), .val (.int c4), .val (.ref x1), .val (.ref x2), .val (.ref x3), .unset, .unset, .unset, .unset, .unset, .unset, .unset] [(.int (1 : Int32)), (.ref x4), (.ref x4)]))
  refine Owes.go ?_ fun t₀ k₀ => XS.iload X66.here hx rfl (hb hby at_106) rfl k₀
  show Owes _ _ _ _ (T66.setTop (mkF m 108 #[.val (.int p0), .val (.int p1), .val (.int p2), .val (.int p3), .val (.int p4), .val (.int p5), .val (.int nI), .val (.int (47 : Int32)), .val (.int c1), .val (.int c2), .val (.int c3), .val (.int c4), .val (.ref x1), .val (.ref x2), .val (.ref x3), .unset, .unset, .unset, .unset, .unset, .unset, .unset] [(.int c1), (.int (1 : Int32)), (.ref x4), (.ref x4)]))
  refine Owes.sC X66 hx hZ e66 G66 (i := 1) rfl (by decide) (own_narC hb1) (hb hby at_108) ?_
  intro T67 h67 X67 e67 W67 G67
  have G_x1_67 := GA.other G_x1_66 W67 (Nat.ne_of_lt lt_x1_x4)
  have G_x2_67 := GA.other G_x2_66 W67 (Nat.ne_of_lt lt_x2_x4)
  have G_x3_67 := GA.other G_x3_66 W67 (Nat.ne_of_lt lt_x3_x4)
  have K_67 := K_66.wr W67 (Or.inr ge_x4)
  have ST_67 := ST_66.wr W67
  have N67 := Fr.snoc X67 N66 gn_x4
  show Owes _ _ _ _ (T67.setTop (mkF m 109 #[.val (.int p0), .val (.int p1), .val (.int p2), .val (.int p3), .val (.int p4), .val (.int p5), .val (.int nI), .val (.int (47 : Int32)), .val (.int c1), .val (.int c2), .val (.int c3), .val (.int c4), .val (.ref x1), .val (.ref x2), .val (.ref x3), .unset, .unset, .unset, .unset, .unset, .unset, .unset] [(.ref x4)]))
  refine Owes.go ?_ fun t₀ k₀ => XS.dup X67.here hx rfl (hb hby at_109) rfl rfl k₀
  show Owes _ _ _ _ (T67.setTop (mkF m 110 #[.val (.int p0), .val (.int p1), .val (.int p2), .val (.int p3), .val (.int p4), .val (.int p5), .val (.int nI), .val (.int (47 : Int32)), .val (.int c1), .val (.int c2), .val (.int c3), .val (.int c4), .val (.ref x1), .val (.ref x2), .val (.ref x3), .unset, .unset, .unset, .unset, .unset, .unset, .unset] [(.ref x4), (.ref x4)]))
  refine Owes.go ?_ fun t₀ k₀ => XS.iconst X67.here hx rfl (hb hby at_110) k₀
  show Owes _ _ _ _ (T67.setTop (mkF m 111 #[.val (.int p0), .val (.int p1), .val (.int p2), .val (.int p3), .val (.int p4), .val (.int p5), .val (.int nI), .val (.int (47 : Int32)), .val (.int c1), .val (.int c2), .val (.int c3), .val (.int c4), .val (.ref x1), .val (.ref x2), .val (.ref x3), .unset, .unset, .unset, .unset, .unset, .unset, .unset] [(.int (2 : Int32)), (.ref x4), (.ref x4)]))
  refine Owes.go ?_ fun t₀ k₀ => XS.iload X67.here hx rfl (hb hby at_111) rfl k₀
  show Owes _ _ _ _ (T67.setTop (mkF m 113 #[.val (.int p0), .val (.int p1), .val (.int p2), .val (.int p3), .val (.int p4), .val (.int p5), .val (.int nI), .val (.int (47 : Int32)), .val (.int c1), .val (.int c2), .val (.int c3), .val (.int c4), .val (.ref x1), .val (.ref x2), .val (.ref x3), .unset, .unset, .unset, .unset, .unset, .unset, .unset] [(.int c2), (.int (2 : Int32)), (.ref x4), (.ref x4)]))
  refine Owes.sC X67 hx hZ e67 G67 (i := 2) rfl (by decide) (own_narC hb2) (hb hby at_113) ?_
  intro T68 h68 X68 e68 W68 G68
  have G_x1_68 := GA.other G_x1_67 W68 (Nat.ne_of_lt lt_x1_x4)
  have G_x2_68 := GA.other G_x2_67 W68 (Nat.ne_of_lt lt_x2_x4)
  have G_x3_68 := GA.other G_x3_67 W68 (Nat.ne_of_lt lt_x3_x4)
  have K_68 := K_67.wr W68 (Or.inr ge_x4)
  have ST_68 := ST_67.wr W68
  have N68 := Fr.snoc X68 N67 gn_x4
  show Owes _ _ _ _ (T68.setTop (mkF m 114 #[.val (.int p0), .val (.int p1), .val (.int p2), .val (.int p3), .val (.int p4), .val (.int p5), .val (.int nI), .val (.int (47 : Int32)), .val (.int c1), .val (.int c2), .val (.int c3), .val (.int c4), .val (.ref x1), .val (.ref x2), .val (.ref x3), .unset, .unset, .unset, .unset, .unset, .unset, .unset] [(.ref x4)]))
  refine Owes.go ?_ fun t₀ k₀ => XS.dup X68.here hx rfl (hb hby at_114) rfl rfl k₀
  show Owes _ _ _ _ (T68.setTop (mkF m 115 #[.val (.int p0), .val (.int p1), .val (.int p2), .val (.int p3), .val (.int p4), .val (.int p5), .val (.int nI), .val (.int (47 : Int32)), .val (.int c1), .val (.int c2), .val (.int c3), .val (.int c4), .val (.ref x1), .val (.ref x2), .val (.ref x3), .unset, .unset, .unset, .unset, .unset, .unset, .unset] [(.ref x4), (.ref x4)]))
  refine Owes.go ?_ fun t₀ k₀ => XS.iconst X68.here hx rfl (hb hby at_115) k₀
  show Owes _ _ _ _ (T68.setTop (mkF m 116 #[.val (.int p0), .val (.int p1), .val (.int p2), .val (.int p3), .val (.int p4), .val (.int p5), .val (.int nI), .val (.int (47 : Int32)), .val (.int c1), .val (.int c2), .val (.int c3), .val (.int c4), .val (.ref x1), .val (.ref x2), .val (.ref x3), .unset, .unset, .unset, .unset, .unset, .unset, .unset] [(.int (3 : Int32)), (.ref x4), (.ref x4)]))
  refine Owes.go ?_ fun t₀ k₀ => XS.iload X68.here hx rfl (hb hby at_116) rfl k₀
  show Owes _ _ _ _ (T68.setTop (mkF m 118 #[.val (.int p0), .val (.int p1), .val (.int p2), .val (.int p3), .val (.int p4), .val (.int p5), .val (.int nI), .val (.int (47 : Int32)), .val (.int c1), .val (.int c2), .val (.int c3), .val (.int c4), .val (.ref x1), .val (.ref x2), .val (.ref x3), .unset, .unset, .unset, .unset, .unset, .unset, .unset] [(.int c3), (.int (3 : Int32)), (.ref x4), (.ref x4)]))
  refine Owes.sC X68 hx hZ e68 G68 (i := 3) rfl (by decide) (own_narC hb3) (hb hby at_118) ?_
  intro T69 h69 X69 e69 W69 G69
  have G_x1_69 := GA.other G_x1_68 W69 (Nat.ne_of_lt lt_x1_x4)
  have G_x2_69 := GA.other G_x2_68 W69 (Nat.ne_of_lt lt_x2_x4)
  have G_x3_69 := GA.other G_x3_68 W69 (Nat.ne_of_lt lt_x3_x4)
  have GF_x4 : GA Z h69 x4 .char 4 (fun i => .int ((cf5 c1 c2 c3 c4) i)) := G69.congr fun i hi => by
    rcases (show i = 0 ∨ i = 1 ∨ i = 2 ∨ i = 3 by omega) with rfl | rfl | rfl | rfl <;> rfl
  have K_69 := K_68.wr W69 (Or.inr ge_x4)
  have ST_69 := ST_68.wr W69
  have N69 := Fr.snoc X69 N68 gn_x4
  show Owes _ _ _ _ (T69.setTop (mkF m 119 #[.val (.int p0), .val (.int p1), .val (.int p2), .val (.int p3), .val (.int p4), .val (.int p5), .val (.int nI), .val (.int (47 : Int32)), .val (.int c1), .val (.int c2), .val (.int c3), .val (.int c4), .val (.ref x1), .val (.ref x2), .val (.ref x3), .unset, .unset, .unset, .unset, .unset, .unset, .unset] [(.ref x4)]))
  refine Owes.go ?_ fun t₀ k₀ => XS.astore X69.here hx rfl (hb hby at_119) rfl rfl (l' := #[.val (.int p0), .val (.int p1), .val (.int p2), .val (.int p3), .val (.int p4), .val (.int p5), .val (.int nI), .val (.int (47 : Int32)), .val (.int c1), .val (.int c2), .val (.int c3), .val (.int c4), .val (.ref x1), .val (.ref x2), .val (.ref x3), .val (.ref x4), .unset, .unset, .unset, .unset, .unset, .unset]) rfl k₀
  show Owes _ _ _ _ (T69.setTop (mkF m 121 #[.val (.int p0), .val (.int p1), .val (.int p2), .val (.int p3), .val (.int p4), .val (.int p5), .val (.int nI), .val (.int (47 : Int32)), .val (.int c1), .val (.int c2), .val (.int c3), .val (.int c4), .val (.ref x1), .val (.ref x2), .val (.ref x3), .val (.ref x4), .unset, .unset, .unset, .unset, .unset, .unset] []))
  refine Owes.go ?_ fun t₀ k₀ => XS.iconst X69.here hx rfl (hb hby at_121) k₀
  show Owes _ _ _ _ (T69.setTop (mkF m 122 #[.val (.int p0), .val (.int p1), .val (.int p2), .val (.int p3), .val (.int p4), .val (.int p5), .val (.int nI), .val (.int (47 : Int32)), .val (.int c1), .val (.int c2), .val (.int c3), .val (.int c4), .val (.ref x1), .val (.ref x2), .val (.ref x3), .val (.ref x4), .unset, .unset, .unset, .unset, .unset, .unset] [(.int (5 : Int32))]))
  refine Owes.newArr X69 hx hZ (aty := .char) (hw _ (List.mem_of_getElem? (i := 5) rfl)) e69 (n := 5) rfl (by omega) (by decide) (by decide) (ad := "[C") (by decide) (hb hby at_122) ?_
  intro T70 h70 X70 e70 E70 G70 EX70
  obtain ⟨x5, gx5⟩ : ∃ z, z = h69.size := ⟨_, rfl⟩
  rw [← gx5] at G70 EX70 ⊢
  have lt_x1_x5 : x1 < x5 := by rw [gx5]; exact (G_x1_69).lt
  have lt_x2_x5 : x2 < x5 := by rw [gx5]; exact (G_x2_69).lt
  have lt_x3_x5 : x3 < x5 := by rw [gx5]; exact (G_x3_69).lt
  have lt_x4_x5 : x4 < x5 := by rw [gx5]; exact (GF_x4).lt
  have ge_x5 : h0.size ≤ x5 := by rw [gx5]; exact K_69.1
  have gn_x5 : n0 ≤ x5 := Nat.le_trans Z0 ge_x5
  have G_x1_70 := GA.ext G_x1_69 E70
  have G_x2_70 := GA.ext G_x2_69 E70
  have G_x3_70 := GA.ext G_x3_69 E70
  have G_x4_70 := GA.ext GF_x4 E70
  have K_70 := K_69.ext E70
  have ST_70 := ST_69.ext E70
  have G70 : GA Z h70 x5 .char 5 (fun _ => .int 0) := G70
  show Owes _ _ _ _ (T70.setTop (mkF m 124 #[.val (.int p0), .val (.int p1), .val (.int p2), .val (.int p3), .val (.int p4), .val (.int p5), .val (.int nI), .val (.int (47 : Int32)), .val (.int c1), .val (.int c2), .val (.int c3), .val (.int c4), .val (.ref x1), .val (.ref x2), .val (.ref x3), .val (.ref x4), .unset, .unset, .unset, .unset, .unset, .unset] [(.ref x5)]))
  refine Owes.go ?_ fun t₀ k₀ => XS.dup X70.here hx rfl (hb hby at_124) rfl rfl k₀
  show Owes _ _ _ _ (T70.setTop (mkF m 125 #[.val (.int p0), .val (.int p1), .val (.int p2), .val (.int p3), .val (.int p4), .val (.int p5), .val (.int nI), .val (.int (47 : Int32)), .val (.int c1), .val (.int c2), .val (.int c3), .val (.int c4), .val (.ref x1), .val (.ref x2), .val (.ref x3), .val (.ref x4), .unset, .unset, .unset, .unset, .unset, .unset] [(.ref x5), (.ref x5)]))
  refine Owes.go ?_ fun t₀ k₀ => XS.iconst X70.here hx rfl (hb hby at_125) k₀
  show Owes _ _ _ _ (T70.setTop (mkF m 126 #[.val (.int p0), .val (.int p1), .val (.int p2), .val (.int p3), .val (.int p4), .val (.int p5), .val (.int nI), .val (.int (47 : Int32)), .val (.int c1), .val (.int c2), .val (.int c3), .val (.int c4), .val (.ref x1), .val (.ref x2), .val (.ref x3), .val (.ref x4), .unset, .unset, .unset, .unset, .unset, .unset] [(.int (0 : Int32)), (.ref x5), (.ref x5)]))
  refine Owes.go ?_ fun t₀ k₀ => XS.iload X70.here hx rfl (hb hby at_126) rfl k₀
  show Owes _ _ _ _ (T70.setTop (mkF m 128 #[.val (.int p0), .val (.int p1), .val (.int p2), .val (.int p3), .val (.int p4), .val (.int p5), .val (.int nI), .val (.int (47 : Int32)), .val (.int c1), .val (.int c2), .val (.int c3), .val (.int c4), .val (.ref x1), .val (.ref x2), .val (.ref x3), .val (.ref x4), .unset, .unset, .unset, .unset, .unset, .unset] [(.int (47 : Int32)), (.int (0 : Int32)), (.ref x5), (.ref x5)]))
  refine Owes.sC X70 hx hZ e70 G70 (i := 0) rfl (by decide) (y := 47) (by decide) (hb hby at_128) ?_
  intro T71 h71 X71 e71 W71 G71
  have G_x1_71 := GA.other G_x1_70 W71 (Nat.ne_of_lt lt_x1_x5)
  have G_x2_71 := GA.other G_x2_70 W71 (Nat.ne_of_lt lt_x2_x5)
  have G_x3_71 := GA.other G_x3_70 W71 (Nat.ne_of_lt lt_x3_x5)
  have G_x4_71 := GA.other G_x4_70 W71 (Nat.ne_of_lt lt_x4_x5)
  have K_71 := K_70.wr W71 (Or.inr ge_x5)
  have ST_71 := ST_70.wr W71
  have N71 := Fr.snoc X71 N69 gn_x5
  show Owes _ _ _ _ (T71.setTop (mkF m 129 #[.val (.int p0), .val (.int p1), .val (.int p2), .val (.int p3), .val (.int p4), .val (.int p5), .val (.int nI), .val (.int (47 : Int32)), .val (.int c1), .val (.int c2), .val (.int c3), .val (.int c4), .val (.ref x1), .val (.ref x2), .val (.ref x3), .val (.ref x4), .unset, .unset, .unset, .unset, .unset, .unset] [(.ref x5)]))
  refine Owes.go ?_ fun t₀ k₀ => XS.dup X71.here hx rfl (hb hby at_129) rfl rfl k₀
  show Owes _ _ _ _ (T71.setTop (mkF m 130 #[.val (.int p0), .val (.int p1), .val (.int p2), .val (.int p3), .val (.int p4), .val (.int p5), .val (.int nI), .val (.int (47 : Int32)), .val (.int c1), .val (.int c2), .val (.int c3), .val (.int c4), .val (.ref x1), .val (.ref x2), .val (.ref x3), .val (.ref x4), .unset, .unset, .unset, .unset, .unset, .unset] [(.ref x5), (.ref x5)]))
  refine Owes.go ?_ fun t₀ k₀ => XS.iconst X71.here hx rfl (hb hby at_130) k₀
  show Owes _ _ _ _ (T71.setTop (mkF m 131 #[.val (.int p0), .val (.int p1), .val (.int p2), .val (.int p3), .val (.int p4), .val (.int p5), .val (.int nI), .val (.int (47 : Int32)), .val (.int c1), .val (.int c2), .val (.int c3), .val (.int c4), .val (.ref x1), .val (.ref x2), .val (.ref x3), .val (.ref x4), .unset, .unset, .unset, .unset, .unset, .unset] [(.int (1 : Int32)), (.ref x5), (.ref x5)]))
  refine Owes.go ?_ fun t₀ k₀ => XS.iload X71.here hx rfl (hb hby at_131) rfl k₀
  show Owes _ _ _ _ (T71.setTop (mkF m 133 #[.val (.int p0), .val (.int p1), .val (.int p2), .val (.int p3), .val (.int p4), .val (.int p5), .val (.int nI), .val (.int (47 : Int32)), .val (.int c1), .val (.int c2), .val (.int c3), .val (.int c4), .val (.ref x1), .val (.ref x2), .val (.ref x3), .val (.ref x4), .unset, .unset, .unset, .unset, .unset, .unset] [(.int c1), (.int (1 : Int32)), (.ref x5), (.ref x5)]))
  refine Owes.sC X71 hx hZ e71 G71 (i := 1) rfl (by decide) (own_narC hb1) (hb hby at_133) ?_
  intro T72 h72 X72 e72 W72 G72
  have G_x1_72 := GA.other G_x1_71 W72 (Nat.ne_of_lt lt_x1_x5)
  have G_x2_72 := GA.other G_x2_71 W72 (Nat.ne_of_lt lt_x2_x5)
  have G_x3_72 := GA.other G_x3_71 W72 (Nat.ne_of_lt lt_x3_x5)
  have G_x4_72 := GA.other G_x4_71 W72 (Nat.ne_of_lt lt_x4_x5)
  have K_72 := K_71.wr W72 (Or.inr ge_x5)
  have ST_72 := ST_71.wr W72
  have N72 := Fr.snoc X72 N71 gn_x5
  show Owes _ _ _ _ (T72.setTop (mkF m 134 #[.val (.int p0), .val (.int p1), .val (.int p2), .val (.int p3), .val (.int p4), .val (.int p5), .val (.int nI), .val (.int (47 : Int32)), .val (.int c1), .val (.int c2), .val (.int c3), .val (.int c4), .val (.ref x1), .val (.ref x2), .val (.ref x3), .val (.ref x4), .unset, .unset, .unset, .unset, .unset, .unset] [(.ref x5)]))
  refine Owes.go ?_ fun t₀ k₀ => XS.dup X72.here hx rfl (hb hby at_134) rfl rfl k₀
  show Owes _ _ _ _ (T72.setTop (mkF m 135 #[.val (.int p0), .val (.int p1), .val (.int p2), .val (.int p3), .val (.int p4), .val (.int p5), .val (.int nI), .val (.int (47 : Int32)), .val (.int c1), .val (.int c2), .val (.int c3), .val (.int c4), .val (.ref x1), .val (.ref x2), .val (.ref x3), .val (.ref x4), .unset, .unset, .unset, .unset, .unset, .unset] [(.ref x5), (.ref x5)]))
  refine Owes.go ?_ fun t₀ k₀ => XS.iconst X72.here hx rfl (hb hby at_135) k₀
  show Owes _ _ _ _ (T72.setTop (mkF m 136 #[.val (.int p0), .val (.int p1), .val (.int p2), .val (.int p3), .val (.int p4), .val (.int p5), .val (.int nI), .val (.int (47 : Int32)), .val (.int c1), .val (.int c2), .val (.int c3), .val (.int c4), .val (.ref x1), .val (.ref x2), .val (.ref x3), .val (.ref x4), .unset, .unset, .unset, .unset, .unset, .unset] [(.int (2 : Int32)), (.ref x5), (.ref x5)]))
  refine Owes.go ?_ fun t₀ k₀ => XS.iload X72.here hx rfl (hb hby at_136) rfl k₀
  show Owes _ _ _ _ (T72.setTop (mkF m 138 #[.val (.int p0), .val (.int p1), .val (.int p2), .val (.int p3), .val (.int p4), .val (.int p5), .val (.int nI), .val (.int (47 : Int32)), .val (.int c1), .val (.int c2), .val (.int c3), .val (.int c4), .val (.ref x1), .val (.ref x2), .val (.ref x3), .val (.ref x4), .unset, .unset, .unset, .unset, .unset, .unset] [(.int c2), (.int (2 : Int32)), (.ref x5), (.ref x5)]))
  refine Owes.sC X72 hx hZ e72 G72 (i := 2) rfl (by decide) (own_narC hb2) (hb hby at_138) ?_
  intro T73 h73 X73 e73 W73 G73
  have G_x1_73 := GA.other G_x1_72 W73 (Nat.ne_of_lt lt_x1_x5)
  have G_x2_73 := GA.other G_x2_72 W73 (Nat.ne_of_lt lt_x2_x5)
  have G_x3_73 := GA.other G_x3_72 W73 (Nat.ne_of_lt lt_x3_x5)
  have G_x4_73 := GA.other G_x4_72 W73 (Nat.ne_of_lt lt_x4_x5)
  have K_73 := K_72.wr W73 (Or.inr ge_x5)
  have ST_73 := ST_72.wr W73
  have N73 := Fr.snoc X73 N72 gn_x5
  show Owes _ _ _ _ (T73.setTop (mkF m 139 #[.val (.int p0), .val (.int p1), .val (.int p2), .val (.int p3), .val (.int p4), .val (.int p5), .val (.int nI), .val (.int (47 : Int32)), .val (.int c1), .val (.int c2), .val (.int c3), .val (.int c4), .val (.ref x1), .val (.ref x2), .val (.ref x3), .val (.ref x4), .unset, .unset, .unset, .unset, .unset, .unset] [(.ref x5)]))
  refine Owes.go ?_ fun t₀ k₀ => XS.dup X73.here hx rfl (hb hby at_139) rfl rfl k₀
  show Owes _ _ _ _ (T73.setTop (mkF m 140 #[.val (.int p0), .val (.int p1), .val (.int p2), .val (.int p3), .val (.int p4), .val (.int p5), .val (.int nI), .val (.int (47 : Int32)), .val (.int c1), .val (.int c2), .val (.int c3), .val (.int c4), .val (.ref x1), .val (.ref x2), .val (.ref x3), .val (.ref x4), .unset, .unset, .unset, .unset, .unset, .unset] [(.ref x5), (.ref x5)]))
  refine Owes.go ?_ fun t₀ k₀ => XS.iconst X73.here hx rfl (hb hby at_140) k₀
  show Owes _ _ _ _ (T73.setTop (mkF m 141 #[.val (.int p0), .val (.int p1), .val (.int p2), .val (.int p3), .val (.int p4), .val (.int p5), .val (.int nI), .val (.int (47 : Int32)), .val (.int c1), .val (.int c2), .val (.int c3), .val (.int c4), .val (.ref x1), .val (.ref x2), .val (.ref x3), .val (.ref x4), .unset, .unset, .unset, .unset, .unset, .unset] [(.int (3 : Int32)), (.ref x5), (.ref x5)]))
  refine Owes.go ?_ fun t₀ k₀ => XS.iload X73.here hx rfl (hb hby at_141) rfl k₀
  show Owes _ _ _ _ (T73.setTop (mkF m 143 #[.val (.int p0), .val (.int p1), .val (.int p2), .val (.int p3), .val (.int p4), .val (.int p5), .val (.int nI), .val (.int (47 : Int32)), .val (.int c1), .val (.int c2), .val (.int c3), .val (.int c4), .val (.ref x1), .val (.ref x2), .val (.ref x3), .val (.ref x4), .unset, .unset, .unset, .unset, .unset, .unset] [(.int c3), (.int (3 : Int32)), (.ref x5), (.ref x5)]))
  refine Owes.sC X73 hx hZ e73 G73 (i := 3) rfl (by decide) (own_narC hb3) (hb hby at_143) ?_
  intro T74 h74 X74 e74 W74 G74
  have G_x1_74 := GA.other G_x1_73 W74 (Nat.ne_of_lt lt_x1_x5)
  have G_x2_74 := GA.other G_x2_73 W74 (Nat.ne_of_lt lt_x2_x5)
  have G_x3_74 := GA.other G_x3_73 W74 (Nat.ne_of_lt lt_x3_x5)
  have G_x4_74 := GA.other G_x4_73 W74 (Nat.ne_of_lt lt_x4_x5)
  have K_74 := K_73.wr W74 (Or.inr ge_x5)
  have ST_74 := ST_73.wr W74
  have N74 := Fr.snoc X74 N73 gn_x5
  show Owes _ _ _ _ (T74.setTop (mkF m 144 #[.val (.int p0), .val (.int p1), .val (.int p2), .val (.int p3), .val (.int p4), .val (.int p5), .val (.int nI), .val (.int (47 : Int32)), .val (.int c1), .val (.int c2), .val (.int c3), .val (.int c4), .val (.ref x1), .val (.ref x2), .val (.ref x3), .val (.ref x4), .unset, .unset, .unset, .unset, .unset, .unset] [(.ref x5)]))
  refine Owes.go ?_ fun t₀ k₀ => XS.dup X74.here hx rfl (hb hby at_144) rfl rfl k₀
  show Owes _ _ _ _ (T74.setTop (mkF m 145 #[.val (.int p0), .val (.int p1), .val (.int p2), .val (.int p3), .val (.int p4), .val (.int p5), .val (.int nI), .val (.int (47 : Int32)), .val (.int c1), .val (.int c2), .val (.int c3), .val (.int c4), .val (.ref x1), .val (.ref x2), .val (.ref x3), .val (.ref x4), .unset, .unset, .unset, .unset, .unset, .unset] [(.ref x5), (.ref x5)]))
  refine Owes.go ?_ fun t₀ k₀ => XS.iconst X74.here hx rfl (hb hby at_145) k₀
  show Owes _ _ _ _ (T74.setTop (mkF m 146 #[.val (.int p0), .val (.int p1), .val (.int p2), .val (.int p3), .val (.int p4), .val (.int p5), .val (.int nI), .val (.int (47 : Int32)), .val (.int c1), .val (.int c2), .val (.int c3), .val (.int c4), .val (.ref x1), .val (.ref x2), .val (.ref x3), .val (.ref x4), .unset, .unset, .unset, .unset, .unset, .unset] [(.int (4 : Int32)), (.ref x5), (.ref x5)]))
  refine Owes.go ?_ fun t₀ k₀ => XS.iload X74.here hx rfl (hb hby at_146) rfl k₀
  show Owes _ _ _ _ (T74.setTop (mkF m 148 #[.val (.int p0), .val (.int p1), .val (.int p2), .val (.int p3), .val (.int p4), .val (.int p5), .val (.int nI), .val (.int (47 : Int32)), .val (.int c1), .val (.int c2), .val (.int c3), .val (.int c4), .val (.ref x1), .val (.ref x2), .val (.ref x3), .val (.ref x4), .unset, .unset, .unset, .unset, .unset, .unset] [(.int c4), (.int (4 : Int32)), (.ref x5), (.ref x5)]))
  refine Owes.sC X74 hx hZ e74 G74 (i := 4) rfl (by decide) (own_narC hb4) (hb hby at_148) ?_
  intro T75 h75 X75 e75 W75 G75
  have G_x1_75 := GA.other G_x1_74 W75 (Nat.ne_of_lt lt_x1_x5)
  have G_x2_75 := GA.other G_x2_74 W75 (Nat.ne_of_lt lt_x2_x5)
  have G_x3_75 := GA.other G_x3_74 W75 (Nat.ne_of_lt lt_x3_x5)
  have G_x4_75 := GA.other G_x4_74 W75 (Nat.ne_of_lt lt_x4_x5)
  have GF_x5 : GA Z h75 x5 .char 5 (fun i => .int ((cf5 c1 c2 c3 c4) i)) := G75.congr fun i hi => by
    rcases (show i = 0 ∨ i = 1 ∨ i = 2 ∨ i = 3 ∨ i = 4 by omega) with rfl | rfl | rfl | rfl | rfl <;> rfl
  have K_75 := K_74.wr W75 (Or.inr ge_x5)
  have ST_75 := ST_74.wr W75
  have N75 := Fr.snoc X75 N74 gn_x5
  show Owes _ _ _ _ (T75.setTop (mkF m 149 #[.val (.int p0), .val (.int p1), .val (.int p2), .val (.int p3), .val (.int p4), .val (.int p5), .val (.int nI), .val (.int (47 : Int32)), .val (.int c1), .val (.int c2), .val (.int c3), .val (.int c4), .val (.ref x1), .val (.ref x2), .val (.ref x3), .val (.ref x4), .unset, .unset, .unset, .unset, .unset, .unset] [(.ref x5)]))
  refine Owes.go ?_ fun t₀ k₀ => XS.astore X75.here hx rfl (hb hby at_149) rfl rfl (l' := #[.val (.int p0), .val (.int p1), .val (.int p2), .val (.int p3), .val (.int p4), .val (.int p5), .val (.int nI), .val (.int (47 : Int32)), .val (.int c1), .val (.int c2), .val (.int c3), .val (.int c4), .val (.ref x1), .val (.ref x2), .val (.ref x3), .val (.ref x4), .val (.ref x5), .unset, .unset, .unset, .unset, .unset]) rfl k₀
  show Owes _ _ _ _ (T75.setTop (mkF m 151 #[.val (.int p0), .val (.int p1), .val (.int p2), .val (.int p3), .val (.int p4), .val (.int p5), .val (.int nI), .val (.int (47 : Int32)), .val (.int c1), .val (.int c2), .val (.int c3), .val (.int c4), .val (.ref x1), .val (.ref x2), .val (.ref x3), .val (.ref x4), .val (.ref x5), .unset, .unset, .unset, .unset, .unset] []))
  have J197_76 : ∀ (ra : Addr), (∃ n : Nat, nI.toInt = (n : Int) ∧ 1 ≤ n ∧ n ≤ 5 ∧ GA Z h75 ra .char n (fun i => .int ((cf5 c1 c2 c3 c4) i))) → Owes p e below (EndC Z EL0 s (QL n0) room_1.cells room_1.slots) (T75.setTop (mkF m 197 #[.val (.int p0), .val (.int p1), .val (.int p2), .val (.int p3), .val (.int p4), .val (.int p5), .val (.int nI), .val (.int (47 : Int32)), .val (.int c1), .val (.int c2), .val (.int c3), .val (.int c4), .val (.ref x1), .val (.ref x2), .val (.ref x3), .val (.ref x4), .val (.ref x5), .unset, .unset, .unset, .unset, .unset] [(.ref ra)])) := by
    intro ra HA
    obtain ⟨n, hzn, hnA, hnB, GX⟩ := HA
    refine Owes.go ?_ fun t₀ k₀ => XS.astore X75.here hx rfl (hb hby at_197) rfl rfl (l' := #[.val (.int p0), .val (.int p1), .val (.int p2), .val (.int p3), .val (.int p4), .val (.int p5), .val (.int nI), .val (.int (47 : Int32)), .val (.int c1), .val (.int c2), .val (.int c3), .val (.int c4), .val (.ref x1), .val (.ref x2), .val (.ref x3), .val (.ref x4), .val (.ref x5), .val (.ref ra), .unset, .unset, .unset, .unset]) rfl k₀
    show Owes _ _ _ _ (T75.setTop (mkF m 199 #[.val (.int p0), .val (.int p1), .val (.int p2), .val (.int p3), .val (.int p4), .val (.int p5), .val (.int nI), .val (.int (47 : Int32)), .val (.int c1), .val (.int c2), .val (.int c3), .val (.int c4), .val (.ref x1), .val (.ref x2), .val (.ref x3), .val (.ref x4), .val (.ref x5), .val (.ref ra), .unset, .unset, .unset, .unset] []))
    refine Owes.newO X75 hx hZ hown (hw _ (List.mem_of_getElem? (i := 6) rfl)) (hw _ (List.mem_of_getElem? (i := 7) rfl)) (hw _ (List.mem_of_getElem? (i := 8) rfl)) e75 (hb hby at_199) (by decide) (by decide) ?_
    intro T77 h77 X77 e77 E77 A77 D77
    obtain ⟨rn, grn⟩ : ∃ z, z = h75.size := ⟨_, rfl⟩
    rw [← grn] at A77 ⊢
    have lt_ra_rn : ra < rn := by rw [grn]; exact (GX).lt
    have ge_rn : h0.size ≤ rn := by rw [grn]; exact K_75.1
    have gn_rn : n0 ≤ rn := Nat.le_trans Z0 ge_rn
    have G_ra_77 := GA.ext GX E77
    have K_77 := K_75.ext E77
    have ST_77 := ST_75.ext E77
    have F_rn_value_77 : Fld Z h77 rn "java/lang/String" "value" "[B" .null := by rw [grn]; exact D77 (Or.inr (hw _ (List.mem_of_getElem? (i := 34) rfl))) (ty := (.array .byte)) (by decide)
    have F_rn_coder_77 : Fld Z h77 rn "java/lang/String" "coder" "B" (.int (0 : Int32)) := by rw [grn]; exact D77 (Or.inr (hw _ (List.mem_of_getElem? (i := 32) rfl))) (ty := .byte) (by decide)
    show Owes _ _ _ _ (T77.setTop (mkF m 202 #[.val (.int p0), .val (.int p1), .val (.int p2), .val (.int p3), .val (.int p4), .val (.int p5), .val (.int nI), .val (.int (47 : Int32)), .val (.int c1), .val (.int c2), .val (.int c3), .val (.int c4), .val (.ref x1), .val (.ref x2), .val (.ref x3), .val (.ref x4), .val (.ref x5), .val (.ref ra), .unset, .unset, .unset, .unset] [(.ref rn)]))
    refine Owes.go ?_ fun t₀ k₀ => XS.dup X77.here hx rfl (hb hby at_202) rfl rfl k₀
    show Owes _ _ _ _ (T77.setTop (mkF m 203 #[.val (.int p0), .val (.int p1), .val (.int p2), .val (.int p3), .val (.int p4), .val (.int p5), .val (.int nI), .val (.int (47 : Int32)), .val (.int c1), .val (.int c2), .val (.int c3), .val (.int c4), .val (.ref x1), .val (.ref x2), .val (.ref x3), .val (.ref x4), .val (.ref x5), .val (.ref ra), .unset, .unset, .unset, .unset] [(.ref rn), (.ref rn)]))
    refine Owes.go ?_ fun t₀ k₀ => XS.aload X77.here hx rfl (hb hby at_203) rfl rfl k₀
    show Owes _ _ _ _ (T77.setTop (mkF m 205 #[.val (.int p0), .val (.int p1), .val (.int p2), .val (.int p3), .val (.int p4), .val (.int p5), .val (.int nI), .val (.int (47 : Int32)), .val (.int c1), .val (.int c2), .val (.int c3), .val (.int c4), .val (.ref x1), .val (.ref x2), .val (.ref x3), .val (.ref x4), .val (.ref x5), .val (.ref ra), .unset, .unset, .unset, .unset] [(.ref ra), (.ref rn), (.ref rn)]))
    have hc8 := own_cf8 hb1 hb2 hb3 hb4 n
    have SC1 := ST_77 _ _ _ _ SC
    refine Owes.callC X77 hx hZ rfl hown (hw _ (List.mem_of_getElem? (i := 9) rfl)) (hw _ (List.mem_of_getElem? (i := 10) rfl)) (hw _ (List.mem_of_getElem? (i := 8) rfl)) (hw _ (List.mem_of_getElem? (i := 11) rfl)) (by decide) (a := rn) (argsL := [(.ref ra)]) (rest := [(.ref rn)]) (rm_in1 l Z a0 hw [] rn ra h77 n0 (Nat.le_trans Z0 K_77.1) n (cf5 c1 c2 c3 c4) G_ra_77 nI hzn hc8 hnA (by omega) gn_rn A77 F_rn_coder_77 F_rn_value_77 cs SC1 hcs) e77 (by rw [hml]; rfl) pd_22 rfl rfl (hb hby at_205) (by decide) (Nat.le_of_ble_eq_true rfl) (by decide) (by decide) ?_
    rintro T78 v78 L78 X78 ⟨rfl, N78, K78, ST78, bS, SP⟩
    have NF78 := Fr.app N75 N78
    have KK := K_77.trans K78 (fun x hx => Or.inr (by rw [List.mem_singleton.mp hx]; exact ge_rn))
    have STT := ST_77.trans ST78
    show Owes _ _ _ _ (T78.setTop (mkF m 208 #[.val (.int p0), .val (.int p1), .val (.int p2), .val (.int p3), .val (.int p4), .val (.int p5), .val (.int nI), .val (.int (47 : Int32)), .val (.int c1), .val (.int c2), .val (.int c3), .val (.int c4), .val (.ref x1), .val (.ref x2), .val (.ref x3), .val (.ref x4), .val (.ref x5), .val (.ref ra), .unset, .unset, .unset, .unset] [(.ref rn)]))
    refine Owes.go ?_ fun t₀ k₀ => XS.astore X78.here hx rfl (hb hby at_208) rfl rfl (l' := #[.val (.int p0), .val (.int p1), .val (.int p2), .val (.int p3), .val (.int p4), .val (.int p5), .val (.int nI), .val (.int (47 : Int32)), .val (.int c1), .val (.int c2), .val (.int c3), .val (.int c4), .val (.ref x1), .val (.ref x2), .val (.ref x3), .val (.ref x4), .val (.ref x5), .val (.ref ra), .val (.ref rn), .unset, .unset, .unset]) rfl k₀
    show Owes _ _ _ _ (T78.setTop (mkF m 210 #[.val (.int p0), .val (.int p1), .val (.int p2), .val (.int p3), .val (.int p4), .val (.int p5), .val (.int nI), .val (.int (47 : Int32)), .val (.int c1), .val (.int c2), .val (.int c3), .val (.int c4), .val (.ref x1), .val (.ref x2), .val (.ref x3), .val (.ref x4), .val (.ref x5), .val (.ref ra), .val (.ref rn), .unset, .unset, .unset] []))
    refine Owes.go ?_ fun t₀ k₀ => XS.aload X78.here hx rfl (hb hby at_210) rfl rfl k₀
    show Owes _ _ _ _ (T78.setTop (mkF m 212 #[.val (.int p0), .val (.int p1), .val (.int p2), .val (.int p3), .val (.int p4), .val (.int p5), .val (.int nI), .val (.int (47 : Int32)), .val (.int c1), .val (.int c2), .val (.int c3), .val (.int c4), .val (.ref x1), .val (.ref x2), .val (.ref x3), .val (.ref x4), .val (.ref x5), .val (.ref ra), .val (.ref rn), .unset, .unset, .unset] [(.ref rn)]))
    obtain ⟨mx, HM⟩ := LS.ex (c := (cf5 c1 c2 c3 c4)) (n := n) rfl hnA 4
    have hmI : (Int32.ofNat mx).toInt = (mx : Int) := own_ofNat (by have := HM.1; omega)
    have hC1 := hC0.keep KK (fun x hx => absurd hx List.not_mem_nil)
    refine Owes.callSC X78 hx hZ hEL hC1 (own_since s 0) (Nat.zero_le _) hown (hw _ (List.mem_of_getElem? (i := 35) rfl)) (hw _ (List.mem_of_getElem? (i := 36) rfl)) (hw _ (List.mem_of_getElem? (i := 37) rfl)) (hw _ (List.mem_of_getElem? (i := 38) rfl)) (by decide) (argsL := [(.ref rn)]) (rest := []) (rm_par l Z a0 hw hEL [] rn T78.heap n0 (Nat.le_trans Z0 KK.1) bS n (cf5 c1 c2 c3 c4) SP nI hzn cs (STT _ _ _ _ SC) hcs vf hcat_vf (STT _ _ _ _ SF) (by omega) hc8 mx (Int32.ofNat mx) hmI HM.2.1 HM.2.2.1 (fun j a b => HM.2.2.2 j a (by omega) b)) rfl (by rw [hml]; rfl) pd_23 rfl rfl (hb hby at_212) (by decide) (Nat.le_of_ble_eq_true rfl) (by decide) (by decide) ?_
    rintro T79 _ L79 X79 hS79 hg79 hZ hown hC79 ⟨rr, bR, rfl, N79, ST79, SR⟩
    have NF79 := Fr.app NF78 N79
    have SC2 := ST79 _ _ _ _ (STT _ _ _ _ SC)
    have SF2 := ST79 _ _ _ _ (STT _ _ _ _ SF)
    have hc8R : C8 (if mx = 0 then 1 else mx) (cf5 c1 c2 c3 c4) := own_cf8 hb1 hb2 hb3 hb4 _
    have hmx4 := HM.1
    have hel : (Int32.ofNat (if mx = 0 then 1 else mx)).toInt = (((if mx = 0 then 1 else mx) : Nat) : Int) := own_ofNat (by split <;> omega)
    show Owes _ _ _ _ (T79.setTop (mkF m 215 #[.val (.int p0), .val (.int p1), .val (.int p2), .val (.int p3), .val (.int p4), .val (.int p5), .val (.int nI), .val (.int (47 : Int32)), .val (.int c1), .val (.int c2), .val (.int c3), .val (.int c4), .val (.ref x1), .val (.ref x2), .val (.ref x3), .val (.ref x4), .val (.ref x5), .val (.ref ra), .val (.ref rn), .unset, .unset, .unset] [(.ref rr)]))
    refine Owes.go ?_ fun t₀ k₀ => XS.astore X79.here hx rfl (hb hby at_215) rfl rfl (l' := #[.val (.int p0), .val (.int p1), .val (.int p2), .val (.int p3), .val (.int p4), .val (.int p5), .val (.int nI), .val (.int (47 : Int32)), .val (.int c1), .val (.int c2), .val (.int c3), .val (.int c4), .val (.ref x1), .val (.ref x2), .val (.ref x3), .val (.ref x4), .val (.ref x5), .val (.ref ra), .val (.ref rn), .val (.ref rr), .unset, .unset]) rfl k₀
    show Owes _ _ _ _ (T79.setTop (mkF m 217 #[.val (.int p0), .val (.int p1), .val (.int p2), .val (.int p3), .val (.int p4), .val (.int p5), .val (.int nI), .val (.int (47 : Int32)), .val (.int c1), .val (.int c2), .val (.int c3), .val (.int c4), .val (.ref x1), .val (.ref x2), .val (.ref x3), .val (.ref x4), .val (.ref x5), .val (.ref ra), .val (.ref rn), .val (.ref rr), .unset, .unset] []))
    refine Owes.go ?_ fun t₀ k₀ => XS.iconst X79.here hx rfl (hb hby at_217) k₀
    show Owes _ _ _ _ (T79.setTop (mkF m 218 #[.val (.int p0), .val (.int p1), .val (.int p2), .val (.int p3), .val (.int p4), .val (.int p5), .val (.int nI), .val (.int (47 : Int32)), .val (.int c1), .val (.int c2), .val (.int c3), .val (.int c4), .val (.ref x1), .val (.ref x2), .val (.ref x3), .val (.ref x4), .val (.ref x5), .val (.ref ra), .val (.ref rn), .val (.ref rr), .unset, .unset] [(.int (0 : Int32))]))
    refine Owes.go ?_ fun t₀ k₀ => XS.istore X79.here hx rfl (hb hby at_218) rfl (l' := #[.val (.int p0), .val (.int p1), .val (.int p2), .val (.int p3), .val (.int p4), .val (.int p5), .val (.int nI), .val (.int (47 : Int32)), .val (.int c1), .val (.int c2), .val (.int c3), .val (.int c4), .val (.ref x1), .val (.ref x2), .val (.ref x3), .val (.ref x4), .val (.ref x5), .val (.ref ra), .val (.ref rn), .val (.ref rr), .val (.int (0 : Int32)), .unset]) rfl k₀
    show Owes _ _ _ _ (T79.setTop (mkF m 220 #[.val (.int p0), .val (.int p1), .val (.int p2), .val (.int p3), .val (.int p4), .val (.int p5), .val (.int nI), .val (.int (47 : Int32)), .val (.int c1), .val (.int c2), .val (.int c3), .val (.int c4), .val (.ref x1), .val (.ref x2), .val (.ref x3), .val (.ref x4), .val (.ref x5), .val (.ref ra), .val (.ref rn), .val (.ref rr), .val (.int (0 : Int32)), .unset] []))
    have J236_80 : ∀ (l1 : Int32), (∃ q : Nat, l1.toInt = (q : Int) ∧ LS (cf5 c1 c2 c3 c4) n 1 q) → Owes p e below (EndC Z EL0 s (QL n0) room_1.cells room_1.slots) (T79.setTop (mkF m 236 #[.val (.int p0), .val (.int p1), .val (.int p2), .val (.int p3), .val (.int p4), .val (.int p5), .val (.int nI), .val (.int (47 : Int32)), .val (.int c1), .val (.int c2), .val (.int c3), .val (.int c4), .val (.ref x1), .val (.ref x2), .val (.ref x3), .val (.ref x4), .val (.ref x5), .val (.ref ra), .val (.ref rn), .val (.ref rr), .val (.int l1), .unset] [])) := by
      intro l1 HX1
      obtain ⟨q1, hq1, HL1⟩ := HX1
      have J252_81 : ∀ (l2 : Int32), (∃ q : Nat, l2.toInt = (q : Int) ∧ LS (cf5 c1 c2 c3 c4) n 2 q) → Owes p e below (EndC Z EL0 s (QL n0) room_1.cells room_1.slots) (T79.setTop (mkF m 252 #[.val (.int p0), .val (.int p1), .val (.int p2), .val (.int p3), .val (.int p4), .val (.int p5), .val (.int nI), .val (.int (47 : Int32)), .val (.int c1), .val (.int c2), .val (.int c3), .val (.int c4), .val (.ref x1), .val (.ref x2), .val (.ref x3), .val (.ref x4), .val (.ref x5), .val (.ref ra), .val (.ref rn), .val (.ref rr), .val (.int l2), .unset] [])) := by
        intro l2 HX2
        obtain ⟨q2, hq2, HL2⟩ := HX2
        have J268_82 : ∀ (l3 : Int32), (∃ q : Nat, l3.toInt = (q : Int) ∧ LS (cf5 c1 c2 c3 c4) n 3 q) → Owes p e below (EndC Z EL0 s (QL n0) room_1.cells room_1.slots) (T79.setTop (mkF m 268 #[.val (.int p0), .val (.int p1), .val (.int p2), .val (.int p3), .val (.int p4), .val (.int p5), .val (.int nI), .val (.int (47 : Int32)), .val (.int c1), .val (.int c2), .val (.int c3), .val (.int c4), .val (.ref x1), .val (.ref x2), .val (.ref x3), .val (.ref x4), .val (.ref x5), .val (.ref ra), .val (.ref rn), .val (.ref rr), .val (.int l3), .unset] [])) := by
          intro l3 HX3
          obtain ⟨q3, hq3, HL3⟩ := HX3
          have J284_83 : ∀ (l4 : Int32), (∃ q : Nat, l4.toInt = (q : Int) ∧ LS (cf5 c1 c2 c3 c4) n 4 q) → Owes p e below (EndC Z EL0 s (QL n0) room_1.cells room_1.slots) (T79.setTop (mkF m 284 #[.val (.int p0), .val (.int p1), .val (.int p2), .val (.int p3), .val (.int p4), .val (.int p5), .val (.int nI), .val (.int (47 : Int32)), .val (.int c1), .val (.int c2), .val (.int c3), .val (.int c4), .val (.ref x1), .val (.ref x2), .val (.ref x3), .val (.ref x4), .val (.ref x5), .val (.ref ra), .val (.ref rn), .val (.ref rr), .val (.int l4), .unset] [])) := by
            intro l4 HX4
            obtain ⟨q4, hq4, HL4⟩ := HX4
            have hqm : q4 = mx := LS.one HL4 HM (by omega) (by omega)
            refine Owes.go ?_ fun t₀ k₀ => XS.iload X79.here hx rfl (hb hby at_284) rfl k₀
            show Owes _ _ _ _ (T79.setTop (mkF m 286 #[.val (.int p0), .val (.int p1), .val (.int p2), .val (.int p3), .val (.int p4), .val (.int p5), .val (.int nI), .val (.int (47 : Int32)), .val (.int c1), .val (.int c2), .val (.int c3), .val (.int c4), .val (.ref x1), .val (.ref x2), .val (.ref x3), .val (.ref x4), .val (.ref x5), .val (.ref ra), .val (.ref rn), .val (.ref rr), .val (.int l4), .unset] [(.int l4)]))
            by_cases hc1 : l4 = (0 : Int32)
            · skip
              refine Owes.go ?_ fun t₀ k₀ => XS.ifNo X79.here hx rfl (hb hby at_286) rfl ((if0 _ _).trans (teq hc1).2) k₀
              show Owes _ _ _ _ (T79.setTop (mkF m 289 #[.val (.int p0), .val (.int p1), .val (.int p2), .val (.int p3), .val (.int p4), .val (.int p5), .val (.int nI), .val (.int (47 : Int32)), .val (.int c1), .val (.int c2), .val (.int c3), .val (.int c4), .val (.ref x1), .val (.ref x2), .val (.ref x3), .val (.ref x4), .val (.ref x5), .val (.ref ra), .val (.ref rn), .val (.ref rr), .val (.int l4), .unset] []))
              refine Owes.go ?_ fun t₀ k₀ => XS.iconst X79.here hx rfl (hb hby at_289) k₀
              show Owes _ _ _ _ (T79.setTop (mkF m 290 #[.val (.int p0), .val (.int p1), .val (.int p2), .val (.int p3), .val (.int p4), .val (.int p5), .val (.int nI), .val (.int (47 : Int32)), .val (.int c1), .val (.int c2), .val (.int c3), .val (.int c4), .val (.ref x1), .val (.ref x2), .val (.ref x3), .val (.ref x4), .val (.ref x5), .val (.ref ra), .val (.ref rn), .val (.ref rr), .val (.int l4), .unset] [(.int (1 : Int32))]))
              refine Owes.go ?_ fun t₀ k₀ => XS.goto X79.here hx rfl (pc0 := 290) (pc' := 295) rfl (hb hby at_290) (by decide) (by decide) k₀
              show Owes _ _ _ _ (T79.setTop (mkF m 295 #[.val (.int p0), .val (.int p1), .val (.int p2), .val (.int p3), .val (.int p4), .val (.int p5), .val (.int nI), .val (.int (47 : Int32)), .val (.int c1), .val (.int c2), .val (.int c3), .val (.int c4), .val (.ref x1), .val (.ref x2), .val (.ref x3), .val (.ref x4), .val (.ref x5), .val (.ref ra), .val (.ref rn), .val (.ref rr), .val (.int l4), .unset] [(.int (1 : Int32))]))
              refine Owes.go ?_ fun t₀ k₀ => XS.istore X79.here hx rfl (hb hby at_295) rfl (l' := #[.val (.int p0), .val (.int p1), .val (.int p2), .val (.int p3), .val (.int p4), .val (.int p5), .val (.int nI), .val (.int (47 : Int32)), .val (.int c1), .val (.int c2), .val (.int c3), .val (.int c4), .val (.ref x1), .val (.ref x2), .val (.ref x3), .val (.ref x4), .val (.ref x5), .val (.ref ra), .val (.ref rn), .val (.ref rr), .val (.int l4), .val (.int (1 : Int32))]) rfl k₀
              show Owes _ _ _ _ (T79.setTop (mkF m 297 #[.val (.int p0), .val (.int p1), .val (.int p2), .val (.int p3), .val (.int p4), .val (.int p5), .val (.int nI), .val (.int (47 : Int32)), .val (.int c1), .val (.int c2), .val (.int c3), .val (.int c4), .val (.ref x1), .val (.ref x2), .val (.ref x3), .val (.ref x4), .val (.ref x5), .val (.ref ra), .val (.ref rn), .val (.ref rr), .val (.int l4), .val (.int (1 : Int32))] []))
              have hm0 : mx = 0 := by rw [← hqm]; exact own_mx0 hq4 hc1
              have helv : (1 : Int32).toInt = (((if mx = 0 then 1 else mx) : Nat) : Int) := by rw [if_pos hm0]; rfl
              refine Owes.go ?_ fun t₀ k₀ => XS.aload X79.here hx rfl (hb hby at_297) rfl rfl k₀
              show Owes _ _ _ _ (T79.setTop (mkF m 299 #[.val (.int p0), .val (.int p1), .val (.int p2), .val (.int p3), .val (.int p4), .val (.int p5), .val (.int nI), .val (.int (47 : Int32)), .val (.int c1), .val (.int c2), .val (.int c3), .val (.int c4), .val (.ref x1), .val (.ref x2), .val (.ref x3), .val (.ref x4), .val (.ref x5), .val (.ref ra), .val (.ref rn), .val (.ref rr), .val (.int l4), .val (.int (1 : Int32))] [(.ref rr)]))
              refine Owes.go ?_ fun t₀ k₀ => XS.ifnullNo X79.here hx rfl (hb hby at_299) rfl k₀
              show Owes _ _ _ _ (T79.setTop (mkF m 302 #[.val (.int p0), .val (.int p1), .val (.int p2), .val (.int p3), .val (.int p4), .val (.int p5), .val (.int nI), .val (.int (47 : Int32)), .val (.int c1), .val (.int c2), .val (.int c3), .val (.int c4), .val (.ref x1), .val (.ref x2), .val (.ref x3), .val (.ref x4), .val (.ref x5), .val (.ref ra), .val (.ref rn), .val (.ref rr), .val (.int l4), .val (.int (1 : Int32))] []))
              refine Owes.go ?_ fun t₀ k₀ => XS.aload X79.here hx rfl (hb hby at_302) rfl rfl k₀
              show Owes _ _ _ _ (T79.setTop (mkF m 304 #[.val (.int p0), .val (.int p1), .val (.int p2), .val (.int p3), .val (.int p4), .val (.int p5), .val (.int nI), .val (.int (47 : Int32)), .val (.int c1), .val (.int c2), .val (.int c3), .val (.int c4), .val (.ref x1), .val (.ref x2), .val (.ref x3), .val (.ref x4), .val (.ref x5), .val (.ref ra), .val (.ref rn), .val (.ref rr), .val (.int l4), .val (.int (1 : Int32))] [(.ref rr)]))
              refine Owes.callV X79 hx hZ hown (hw _ (List.mem_of_getElem? (i := 78) rfl)) (hw _ (List.mem_of_getElem? (i := 45) rfl)) (notFace_of_selects (args := #[]) (mvT hZ (hw _ (List.mem_of_getElem? (i := 47) rfl)))) (hw _ (List.mem_of_getElem? (i := 47) rfl)) (hw _ (List.mem_of_getElem? (i := 46) rfl)) (hw _ (List.mem_of_getElem? (i := 8) rfl)) (hw _ (List.mem_of_getElem? (i := 48) rfl)) (by decide) (a := rr) (argsL := []) (rest := []) (rm_len l Z a0 hw [] rr T79.heap bR (if mx = 0 then 1 else mx) (cf5 c1 c2 c3 c4) SR (Int32.ofNat (if mx = 0 then 1 else mx)) hel cs SC2 hcs) rfl SR.1 (by rw [hml]; rfl) pd_12 rfl rfl (hb hby at_304) (by decide) (Nat.le_of_ble_eq_true rfl) (by decide) (by decide) ?_
              rintro T84 _ _ X84 ⟨rfl, rfl, e84⟩
              rw [List.append_nil] at X84
              show Owes _ _ _ _ (T84.setTop (mkF m 307 #[.val (.int p0), .val (.int p1), .val (.int p2), .val (.int p3), .val (.int p4), .val (.int p5), .val (.int nI), .val (.int (47 : Int32)), .val (.int c1), .val (.int c2), .val (.int c3), .val (.int c4), .val (.ref x1), .val (.ref x2), .val (.ref x3), .val (.ref x4), .val (.ref x5), .val (.ref ra), .val (.ref rn), .val (.ref rr), .val (.int l4), .val (.int (1 : Int32))] [(.int (Int32.ofNat (if mx = 0 then 1 else mx)))]))
              refine Owes.go ?_ fun t₀ k₀ => XS.iload X84.here hx rfl (hb hby at_307) rfl k₀
              show Owes _ _ _ _ (T84.setTop (mkF m 309 #[.val (.int p0), .val (.int p1), .val (.int p2), .val (.int p3), .val (.int p4), .val (.int p5), .val (.int nI), .val (.int (47 : Int32)), .val (.int c1), .val (.int c2), .val (.int c3), .val (.int c4), .val (.ref x1), .val (.ref x2), .val (.ref x3), .val (.ref x4), .val (.ref x5), .val (.ref ra), .val (.ref rn), .val (.ref rr), .val (.int l4), .val (.int (1 : Int32))] [(.int (1 : Int32)), (.int (Int32.ofNat (if mx = 0 then 1 else mx)))]))
              refine Owes.go ?_ fun t₀ k₀ => XS.icmpYes X84.here hx rfl (pc0 := 309) (pc' := 314) rfl (hb hby at_309) rfl (teq (own_eqi hel helv rfl)).1 (by decide) (by decide) k₀
              show Owes _ _ _ _ (T84.setTop (mkF m 314 #[.val (.int p0), .val (.int p1), .val (.int p2), .val (.int p3), .val (.int p4), .val (.int p5), .val (.int nI), .val (.int (47 : Int32)), .val (.int c1), .val (.int c2), .val (.int c3), .val (.int c4), .val (.ref x1), .val (.ref x2), .val (.ref x3), .val (.ref x4), .val (.ref x5), .val (.ref ra), .val (.ref rn), .val (.ref rr), .val (.int l4), .val (.int (1 : Int32))] []))
              refine Owes.go ?_ fun t₀ k₀ => XS.aload X84.here hx rfl (hb hby at_314) rfl rfl k₀
              show Owes _ _ _ _ (T84.setTop (mkF m 316 #[.val (.int p0), .val (.int p1), .val (.int p2), .val (.int p3), .val (.int p4), .val (.int p5), .val (.int nI), .val (.int (47 : Int32)), .val (.int c1), .val (.int c2), .val (.int c3), .val (.int c4), .val (.ref x1), .val (.ref x2), .val (.ref x3), .val (.ref x4), .val (.ref x5), .val (.ref ra), .val (.ref rn), .val (.ref rr), .val (.int l4), .val (.int (1 : Int32))] [(.ref rr)]))
              refine Owes.go ?_ fun t₀ k₀ => XS.iconst X84.here hx rfl (hb hby at_316) k₀
              show Owes _ _ _ _ (T84.setTop (mkF m 317 #[.val (.int p0), .val (.int p1), .val (.int p2), .val (.int p3), .val (.int p4), .val (.int p5), .val (.int nI), .val (.int (47 : Int32)), .val (.int c1), .val (.int c2), .val (.int c3), .val (.int c4), .val (.ref x1), .val (.ref x2), .val (.ref x3), .val (.ref x4), .val (.ref x5), .val (.ref ra), .val (.ref rn), .val (.ref rr), .val (.int l4), .val (.int (1 : Int32))] [(.int (0 : Int32)), (.ref rr)]))
              refine Owes.callV X84 hx hZ hown (hw _ (List.mem_of_getElem? (i := 79) rfl)) (hw _ (List.mem_of_getElem? (i := 80) rfl)) (notFace_of_selects (args := #[]) (mvT hZ (hw _ (List.mem_of_getElem? (i := 82) rfl)))) (hw _ (List.mem_of_getElem? (i := 82) rfl)) (hw _ (List.mem_of_getElem? (i := 81) rfl)) (hw _ (List.mem_of_getElem? (i := 8) rfl)) (hw _ (List.mem_of_getElem? (i := 83) rfl)) (by decide) (a := rr) (argsL := [(.int (0 : Int32))]) (rest := []) (rm_ca l Z a0 hw [] rr (0 : Int32) T79.heap bR (if mx = 0 then 1 else mx) (cf5 c1 c2 c3 c4) SR (Int32.ofNat (if mx = 0 then 1 else mx)) hel cs SC2 hcs vf hcat_vf SF2 hc8R 0 rfl (by split <;> omega)) e84 SR.1 (by rw [hml]; rfl) pd_18 rfl rfl (hb hby at_317) (by decide) (Nat.le_of_ble_eq_true rfl) (by decide) (by decide) ?_
              rintro T85 _ _ X85 ⟨rfl, rfl, e85⟩
              rw [List.append_nil] at X85
              show Owes _ _ _ _ (T85.setTop (mkF m 320 #[.val (.int p0), .val (.int p1), .val (.int p2), .val (.int p3), .val (.int p4), .val (.int p5), .val (.int nI), .val (.int (47 : Int32)), .val (.int c1), .val (.int c2), .val (.int c3), .val (.int c4), .val (.ref x1), .val (.ref x2), .val (.ref x3), .val (.ref x4), .val (.ref x5), .val (.ref ra), .val (.ref rn), .val (.ref rr), .val (.int l4), .val (.int (1 : Int32))] [(.int ((cf5 c1 c2 c3 c4) 0))]))
              refine Owes.go ?_ fun t₀ k₀ => XS.bipush X85.here hx rfl (hb hby at_320) k₀
              show Owes _ _ _ _ (T85.setTop (mkF m 322 #[.val (.int p0), .val (.int p1), .val (.int p2), .val (.int p3), .val (.int p4), .val (.int p5), .val (.int nI), .val (.int (47 : Int32)), .val (.int c1), .val (.int c2), .val (.int c3), .val (.int c4), .val (.ref x1), .val (.ref x2), .val (.ref x3), .val (.ref x4), .val (.ref x5), .val (.ref ra), .val (.ref rn), .val (.ref rr), .val (.int l4), .val (.int (1 : Int32))] [(.int (47 : Int32)), (.int ((cf5 c1 c2 c3 c4) 0))]))
              refine Owes.go ?_ fun t₀ k₀ => XS.icmpNo X85.here hx rfl (hb hby at_322) rfl (teq (rfl : (cf5 c1 c2 c3 c4) 0 = 47)).2 k₀
              show Owes _ _ _ _ (T85.setTop (mkF m 325 #[.val (.int p0), .val (.int p1), .val (.int p2), .val (.int p3), .val (.int p4), .val (.int p5), .val (.int nI), .val (.int (47 : Int32)), .val (.int c1), .val (.int c2), .val (.int c3), .val (.int c4), .val (.ref x1), .val (.ref x2), .val (.ref x3), .val (.ref x4), .val (.ref x5), .val (.ref ra), .val (.ref rn), .val (.ref rr), .val (.int l4), .val (.int (1 : Int32))] []))
              refine Owes.go ?_ fun t₀ k₀ => XS.aload X85.here hx rfl (hb hby at_325) rfl rfl k₀
              show Owes _ _ _ _ (T85.setTop (mkF m 327 #[.val (.int p0), .val (.int p1), .val (.int p2), .val (.int p3), .val (.int p4), .val (.int p5), .val (.int nI), .val (.int (47 : Int32)), .val (.int c1), .val (.int c2), .val (.int c3), .val (.int c4), .val (.ref x1), .val (.ref x2), .val (.ref x3), .val (.ref x4), .val (.ref x5), .val (.ref ra), .val (.ref rn), .val (.ref rr), .val (.int l4), .val (.int (1 : Int32))] [(.ref rr)]))
              refine Owes.go ?_ fun t₀ k₀ => XS.iconst X85.here hx rfl (hb hby at_327) k₀
              show Owes _ _ _ _ (T85.setTop (mkF m 328 #[.val (.int p0), .val (.int p1), .val (.int p2), .val (.int p3), .val (.int p4), .val (.int p5), .val (.int nI), .val (.int (47 : Int32)), .val (.int c1), .val (.int c2), .val (.int c3), .val (.int c4), .val (.ref x1), .val (.ref x2), .val (.ref x3), .val (.ref x4), .val (.ref x5), .val (.ref ra), .val (.ref rn), .val (.ref rr), .val (.int l4), .val (.int (1 : Int32))] [(.int (1 : Int32)), (.ref rr)]))
              refine Owes.go ?_ fun t₀ k₀ => XS.iload X85.here hx rfl (hb hby at_328) rfl k₀
              show Owes _ _ _ _ (T85.setTop (mkF m 330 #[.val (.int p0), .val (.int p1), .val (.int p2), .val (.int p3), .val (.int p4), .val (.int p5), .val (.int nI), .val (.int (47 : Int32)), .val (.int c1), .val (.int c2), .val (.int c3), .val (.int c4), .val (.ref x1), .val (.ref x2), .val (.ref x3), .val (.ref x4), .val (.ref x5), .val (.ref ra), .val (.ref rn), .val (.ref rr), .val (.int l4), .val (.int (1 : Int32))] [(.int (1 : Int32)), (.int (1 : Int32)), (.ref rr)]))
              refine Owes.go ?_ fun t₀ k₀ => XS.iload X85.here hx rfl (hb hby at_330) rfl k₀
              show Owes _ _ _ _ (T85.setTop (mkF m 332 #[.val (.int p0), .val (.int p1), .val (.int p2), .val (.int p3), .val (.int p4), .val (.int p5), .val (.int nI), .val (.int (47 : Int32)), .val (.int c1), .val (.int c2), .val (.int c3), .val (.int c4), .val (.ref x1), .val (.ref x2), .val (.ref x3), .val (.ref x4), .val (.ref x5), .val (.ref ra), .val (.ref rn), .val (.ref rr), .val (.int l4), .val (.int (1 : Int32))] [(.int c1), (.int (1 : Int32)), (.int (1 : Int32)), (.ref rr)]))
              refine Owes.callS X85 hx hZ hown (hw _ (List.mem_of_getElem? (i := 95) rfl)) (hw _ (List.mem_of_getElem? (i := 96) rfl)) (hw _ (List.mem_of_getElem? (i := 3) rfl)) (hw _ (List.mem_of_getElem? (i := 97) rfl)) (by decide) (argsL := [(.ref rr), (.int (1 : Int32)), (.int (1 : Int32)), (.int c1)]) (rest := []) (rm_at l Z a0 hw [] rr (1 : Int32) (1 : Int32) c1 T79.heap bR (if mx = 0 then 1 else mx) (cf5 c1 c2 c3 c4) SR (Int32.ofNat (if mx = 0 then 1 else mx)) hel cs SC2 hcs vf hcat_vf SF2 hc8R (fun h => ⟨1, rfl, own_ltn (a := 1) rfl helv h, rfl⟩)) e85 (by rw [hml]; rfl) pd_24 rfl rfl (hb hby at_332) (by decide) (Nat.le_of_ble_eq_true rfl) (by decide) (by decide) ?_
              rintro T86 _ _ X86 ⟨rfl, rfl, e86⟩
              rw [List.append_nil] at X86
              show Owes _ _ _ _ (T86.setTop (mkF m 335 #[.val (.int p0), .val (.int p1), .val (.int p2), .val (.int p3), .val (.int p4), .val (.int p5), .val (.int nI), .val (.int (47 : Int32)), .val (.int c1), .val (.int c2), .val (.int c3), .val (.int c4), .val (.ref x1), .val (.ref x2), .val (.ref x3), .val (.ref x4), .val (.ref x5), .val (.ref ra), .val (.ref rn), .val (.ref rr), .val (.int l4), .val (.int (1 : Int32))] [(.int (1 : Int32))]))
              refine Owes.go ?_ fun t₀ k₀ => XS.ifNo X86.here hx rfl (hb hby at_335) rfl ((if0 _ _).trans (feq (by decide : ¬ ((1 : Int32) = (0 : Int32)))).1) k₀
              show Owes _ _ _ _ (T86.setTop (mkF m 338 #[.val (.int p0), .val (.int p1), .val (.int p2), .val (.int p3), .val (.int p4), .val (.int p5), .val (.int nI), .val (.int (47 : Int32)), .val (.int c1), .val (.int c2), .val (.int c3), .val (.int c4), .val (.ref x1), .val (.ref x2), .val (.ref x3), .val (.ref x4), .val (.ref x5), .val (.ref ra), .val (.ref rn), .val (.ref rr), .val (.int l4), .val (.int (1 : Int32))] []))
              refine Owes.go ?_ fun t₀ k₀ => XS.aload X86.here hx rfl (hb hby at_338) rfl rfl k₀
              show Owes _ _ _ _ (T86.setTop (mkF m 340 #[.val (.int p0), .val (.int p1), .val (.int p2), .val (.int p3), .val (.int p4), .val (.int p5), .val (.int nI), .val (.int (47 : Int32)), .val (.int c1), .val (.int c2), .val (.int c3), .val (.int c4), .val (.ref x1), .val (.ref x2), .val (.ref x3), .val (.ref x4), .val (.ref x5), .val (.ref ra), .val (.ref rn), .val (.ref rr), .val (.int l4), .val (.int (1 : Int32))] [(.ref rr)]))
              refine Owes.go ?_ fun t₀ k₀ => XS.iconst X86.here hx rfl (hb hby at_340) k₀
              show Owes _ _ _ _ (T86.setTop (mkF m 341 #[.val (.int p0), .val (.int p1), .val (.int p2), .val (.int p3), .val (.int p4), .val (.int p5), .val (.int nI), .val (.int (47 : Int32)), .val (.int c1), .val (.int c2), .val (.int c3), .val (.int c4), .val (.ref x1), .val (.ref x2), .val (.ref x3), .val (.ref x4), .val (.ref x5), .val (.ref ra), .val (.ref rn), .val (.ref rr), .val (.int l4), .val (.int (1 : Int32))] [(.int (2 : Int32)), (.ref rr)]))
              refine Owes.go ?_ fun t₀ k₀ => XS.iload X86.here hx rfl (hb hby at_341) rfl k₀
              show Owes _ _ _ _ (T86.setTop (mkF m 343 #[.val (.int p0), .val (.int p1), .val (.int p2), .val (.int p3), .val (.int p4), .val (.int p5), .val (.int nI), .val (.int (47 : Int32)), .val (.int c1), .val (.int c2), .val (.int c3), .val (.int c4), .val (.ref x1), .val (.ref x2), .val (.ref x3), .val (.ref x4), .val (.ref x5), .val (.ref ra), .val (.ref rn), .val (.ref rr), .val (.int l4), .val (.int (1 : Int32))] [(.int (1 : Int32)), (.int (2 : Int32)), (.ref rr)]))
              refine Owes.go ?_ fun t₀ k₀ => XS.iload X86.here hx rfl (hb hby at_343) rfl k₀
              show Owes _ _ _ _ (T86.setTop (mkF m 345 #[.val (.int p0), .val (.int p1), .val (.int p2), .val (.int p3), .val (.int p4), .val (.int p5), .val (.int nI), .val (.int (47 : Int32)), .val (.int c1), .val (.int c2), .val (.int c3), .val (.int c4), .val (.ref x1), .val (.ref x2), .val (.ref x3), .val (.ref x4), .val (.ref x5), .val (.ref ra), .val (.ref rn), .val (.ref rr), .val (.int l4), .val (.int (1 : Int32))] [(.int c2), (.int (1 : Int32)), (.int (2 : Int32)), (.ref rr)]))
              refine Owes.callS X86 hx hZ hown (hw _ (List.mem_of_getElem? (i := 95) rfl)) (hw _ (List.mem_of_getElem? (i := 96) rfl)) (hw _ (List.mem_of_getElem? (i := 3) rfl)) (hw _ (List.mem_of_getElem? (i := 97) rfl)) (by decide) (argsL := [(.ref rr), (.int (2 : Int32)), (.int (1 : Int32)), (.int c2)]) (rest := []) (rm_at l Z a0 hw [] rr (2 : Int32) (1 : Int32) c2 T79.heap bR (if mx = 0 then 1 else mx) (cf5 c1 c2 c3 c4) SR (Int32.ofNat (if mx = 0 then 1 else mx)) hel cs SC2 hcs vf hcat_vf SF2 hc8R (fun h => ⟨2, rfl, own_ltn (a := 2) rfl helv h, rfl⟩)) e86 (by rw [hml]; rfl) pd_24 rfl rfl (hb hby at_345) (by decide) (Nat.le_of_ble_eq_true rfl) (by decide) (by decide) ?_
              rintro T87 _ _ X87 ⟨rfl, rfl, e87⟩
              rw [List.append_nil] at X87
              show Owes _ _ _ _ (T87.setTop (mkF m 348 #[.val (.int p0), .val (.int p1), .val (.int p2), .val (.int p3), .val (.int p4), .val (.int p5), .val (.int nI), .val (.int (47 : Int32)), .val (.int c1), .val (.int c2), .val (.int c3), .val (.int c4), .val (.ref x1), .val (.ref x2), .val (.ref x3), .val (.ref x4), .val (.ref x5), .val (.ref ra), .val (.ref rn), .val (.ref rr), .val (.int l4), .val (.int (1 : Int32))] [(.int (1 : Int32))]))
              refine Owes.go ?_ fun t₀ k₀ => XS.ifNo X87.here hx rfl (hb hby at_348) rfl ((if0 _ _).trans (feq (by decide : ¬ ((1 : Int32) = (0 : Int32)))).1) k₀
              show Owes _ _ _ _ (T87.setTop (mkF m 351 #[.val (.int p0), .val (.int p1), .val (.int p2), .val (.int p3), .val (.int p4), .val (.int p5), .val (.int nI), .val (.int (47 : Int32)), .val (.int c1), .val (.int c2), .val (.int c3), .val (.int c4), .val (.ref x1), .val (.ref x2), .val (.ref x3), .val (.ref x4), .val (.ref x5), .val (.ref ra), .val (.ref rn), .val (.ref rr), .val (.int l4), .val (.int (1 : Int32))] []))
              refine Owes.go ?_ fun t₀ k₀ => XS.aload X87.here hx rfl (hb hby at_351) rfl rfl k₀
              show Owes _ _ _ _ (T87.setTop (mkF m 353 #[.val (.int p0), .val (.int p1), .val (.int p2), .val (.int p3), .val (.int p4), .val (.int p5), .val (.int nI), .val (.int (47 : Int32)), .val (.int c1), .val (.int c2), .val (.int c3), .val (.int c4), .val (.ref x1), .val (.ref x2), .val (.ref x3), .val (.ref x4), .val (.ref x5), .val (.ref ra), .val (.ref rn), .val (.ref rr), .val (.int l4), .val (.int (1 : Int32))] [(.ref rr)]))
              refine Owes.go ?_ fun t₀ k₀ => XS.iconst X87.here hx rfl (hb hby at_353) k₀
              show Owes _ _ _ _ (T87.setTop (mkF m 354 #[.val (.int p0), .val (.int p1), .val (.int p2), .val (.int p3), .val (.int p4), .val (.int p5), .val (.int nI), .val (.int (47 : Int32)), .val (.int c1), .val (.int c2), .val (.int c3), .val (.int c4), .val (.ref x1), .val (.ref x2), .val (.ref x3), .val (.ref x4), .val (.ref x5), .val (.ref ra), .val (.ref rn), .val (.ref rr), .val (.int l4), .val (.int (1 : Int32))] [(.int (3 : Int32)), (.ref rr)]))
              refine Owes.go ?_ fun t₀ k₀ => XS.iload X87.here hx rfl (hb hby at_354) rfl k₀
              show Owes _ _ _ _ (T87.setTop (mkF m 356 #[.val (.int p0), .val (.int p1), .val (.int p2), .val (.int p3), .val (.int p4), .val (.int p5), .val (.int nI), .val (.int (47 : Int32)), .val (.int c1), .val (.int c2), .val (.int c3), .val (.int c4), .val (.ref x1), .val (.ref x2), .val (.ref x3), .val (.ref x4), .val (.ref x5), .val (.ref ra), .val (.ref rn), .val (.ref rr), .val (.int l4), .val (.int (1 : Int32))] [(.int (1 : Int32)), (.int (3 : Int32)), (.ref rr)]))
              refine Owes.go ?_ fun t₀ k₀ => XS.iload X87.here hx rfl (hb hby at_356) rfl k₀
              show Owes _ _ _ _ (T87.setTop (mkF m 358 #[.val (.int p0), .val (.int p1), .val (.int p2), .val (.int p3), .val (.int p4), .val (.int p5), .val (.int nI), .val (.int (47 : Int32)), .val (.int c1), .val (.int c2), .val (.int c3), .val (.int c4), .val (.ref x1), .val (.ref x2), .val (.ref x3), .val (.ref x4), .val (.ref x5), .val (.ref ra), .val (.ref rn), .val (.ref rr), .val (.int l4), .val (.int (1 : Int32))] [(.int c3), (.int (1 : Int32)), (.int (3 : Int32)), (.ref rr)]))
              refine Owes.callS X87 hx hZ hown (hw _ (List.mem_of_getElem? (i := 95) rfl)) (hw _ (List.mem_of_getElem? (i := 96) rfl)) (hw _ (List.mem_of_getElem? (i := 3) rfl)) (hw _ (List.mem_of_getElem? (i := 97) rfl)) (by decide) (argsL := [(.ref rr), (.int (3 : Int32)), (.int (1 : Int32)), (.int c3)]) (rest := []) (rm_at l Z a0 hw [] rr (3 : Int32) (1 : Int32) c3 T79.heap bR (if mx = 0 then 1 else mx) (cf5 c1 c2 c3 c4) SR (Int32.ofNat (if mx = 0 then 1 else mx)) hel cs SC2 hcs vf hcat_vf SF2 hc8R (fun h => ⟨3, rfl, own_ltn (a := 3) rfl helv h, rfl⟩)) e87 (by rw [hml]; rfl) pd_24 rfl rfl (hb hby at_358) (by decide) (Nat.le_of_ble_eq_true rfl) (by decide) (by decide) ?_
              rintro T88 _ _ X88 ⟨rfl, rfl, e88⟩
              rw [List.append_nil] at X88
              show Owes _ _ _ _ (T88.setTop (mkF m 361 #[.val (.int p0), .val (.int p1), .val (.int p2), .val (.int p3), .val (.int p4), .val (.int p5), .val (.int nI), .val (.int (47 : Int32)), .val (.int c1), .val (.int c2), .val (.int c3), .val (.int c4), .val (.ref x1), .val (.ref x2), .val (.ref x3), .val (.ref x4), .val (.ref x5), .val (.ref ra), .val (.ref rn), .val (.ref rr), .val (.int l4), .val (.int (1 : Int32))] [(.int (1 : Int32))]))
              refine Owes.go ?_ fun t₀ k₀ => XS.ifNo X88.here hx rfl (hb hby at_361) rfl ((if0 _ _).trans (feq (by decide : ¬ ((1 : Int32) = (0 : Int32)))).1) k₀
              show Owes _ _ _ _ (T88.setTop (mkF m 364 #[.val (.int p0), .val (.int p1), .val (.int p2), .val (.int p3), .val (.int p4), .val (.int p5), .val (.int nI), .val (.int (47 : Int32)), .val (.int c1), .val (.int c2), .val (.int c3), .val (.int c4), .val (.ref x1), .val (.ref x2), .val (.ref x3), .val (.ref x4), .val (.ref x5), .val (.ref ra), .val (.ref rn), .val (.ref rr), .val (.int l4), .val (.int (1 : Int32))] []))
              refine Owes.go ?_ fun t₀ k₀ => XS.iconst X88.here hx rfl (hb hby at_364) k₀
              show Owes _ _ _ _ (T88.setTop (mkF m 365 #[.val (.int p0), .val (.int p1), .val (.int p2), .val (.int p3), .val (.int p4), .val (.int p5), .val (.int nI), .val (.int (47 : Int32)), .val (.int c1), .val (.int c2), .val (.int c3), .val (.int c4), .val (.ref x1), .val (.ref x2), .val (.ref x3), .val (.ref x4), .val (.ref x5), .val (.ref ra), .val (.ref rn), .val (.ref rr), .val (.int l4), .val (.int (1 : Int32))] [(.int (1 : Int32))]))
              refine Owes.go ?_ fun t₀ k₀ => XS.goto X88.here hx rfl (pc0 := 365) (pc' := 369) rfl (hb hby at_365) (by decide) (by decide) k₀
              show Owes _ _ _ _ (T88.setTop (mkF m 369 #[.val (.int p0), .val (.int p1), .val (.int p2), .val (.int p3), .val (.int p4), .val (.int p5), .val (.int nI), .val (.int (47 : Int32)), .val (.int c1), .val (.int c2), .val (.int c3), .val (.int c4), .val (.ref x1), .val (.ref x2), .val (.ref x3), .val (.ref x4), .val (.ref x5), .val (.ref ra), .val (.ref rn), .val (.ref rr), .val (.int l4), .val (.int (1 : Int32))] [(.int (1 : Int32))]))
              exact Owes.retNC X88 hZ hEL e88 hC79 hS79 (Nat.le_refl _) hx hlk hret (by simp) (hb hby at_369) (by decide) (by decide) ⟨rfl, NF79⟩
            · skip
              refine Owes.go ?_ fun t₀ k₀ => XS.ifYes X79.here hx rfl (pc0 := 286) (pc' := 293) rfl (hb hby at_286) rfl ((if0 _ _).trans (feq hc1).2) (by decide) (by decide) k₀
              show Owes _ _ _ _ (T79.setTop (mkF m 293 #[.val (.int p0), .val (.int p1), .val (.int p2), .val (.int p3), .val (.int p4), .val (.int p5), .val (.int nI), .val (.int (47 : Int32)), .val (.int c1), .val (.int c2), .val (.int c3), .val (.int c4), .val (.ref x1), .val (.ref x2), .val (.ref x3), .val (.ref x4), .val (.ref x5), .val (.ref ra), .val (.ref rn), .val (.ref rr), .val (.int l4), .unset] []))
              refine Owes.go ?_ fun t₀ k₀ => XS.iload X79.here hx rfl (hb hby at_293) rfl k₀
              show Owes _ _ _ _ (T79.setTop (mkF m 295 #[.val (.int p0), .val (.int p1), .val (.int p2), .val (.int p3), .val (.int p4), .val (.int p5), .val (.int nI), .val (.int (47 : Int32)), .val (.int c1), .val (.int c2), .val (.int c3), .val (.int c4), .val (.ref x1), .val (.ref x2), .val (.ref x3), .val (.ref x4), .val (.ref x5), .val (.ref ra), .val (.ref rn), .val (.ref rr), .val (.int l4), .unset] [(.int l4)]))
              refine Owes.go ?_ fun t₀ k₀ => XS.istore X79.here hx rfl (hb hby at_295) rfl (l' := #[.val (.int p0), .val (.int p1), .val (.int p2), .val (.int p3), .val (.int p4), .val (.int p5), .val (.int nI), .val (.int (47 : Int32)), .val (.int c1), .val (.int c2), .val (.int c3), .val (.int c4), .val (.ref x1), .val (.ref x2), .val (.ref x3), .val (.ref x4), .val (.ref x5), .val (.ref ra), .val (.ref rn), .val (.ref rr), .val (.int l4), .val (.int l4)]) rfl k₀
              show Owes _ _ _ _ (T79.setTop (mkF m 297 #[.val (.int p0), .val (.int p1), .val (.int p2), .val (.int p3), .val (.int p4), .val (.int p5), .val (.int nI), .val (.int (47 : Int32)), .val (.int c1), .val (.int c2), .val (.int c3), .val (.int c4), .val (.ref x1), .val (.ref x2), .val (.ref x3), .val (.ref x4), .val (.ref x5), .val (.ref ra), .val (.ref rn), .val (.ref rr), .val (.int l4), .val (.int l4)] []))
              have hm0 : ¬ mx = 0 := fun z => hc1 (Int32.toInt_inj.mp (by rw [hq4, hqm, z]; rfl))
              have helv : l4.toInt = (((if mx = 0 then 1 else mx) : Nat) : Int) := by rw [if_neg hm0, ← hqm]; exact hq4
              refine Owes.go ?_ fun t₀ k₀ => XS.aload X79.here hx rfl (hb hby at_297) rfl rfl k₀
              show Owes _ _ _ _ (T79.setTop (mkF m 299 #[.val (.int p0), .val (.int p1), .val (.int p2), .val (.int p3), .val (.int p4), .val (.int p5), .val (.int nI), .val (.int (47 : Int32)), .val (.int c1), .val (.int c2), .val (.int c3), .val (.int c4), .val (.ref x1), .val (.ref x2), .val (.ref x3), .val (.ref x4), .val (.ref x5), .val (.ref ra), .val (.ref rn), .val (.ref rr), .val (.int l4), .val (.int l4)] [(.ref rr)]))
              refine Owes.go ?_ fun t₀ k₀ => XS.ifnullNo X79.here hx rfl (hb hby at_299) rfl k₀
              show Owes _ _ _ _ (T79.setTop (mkF m 302 #[.val (.int p0), .val (.int p1), .val (.int p2), .val (.int p3), .val (.int p4), .val (.int p5), .val (.int nI), .val (.int (47 : Int32)), .val (.int c1), .val (.int c2), .val (.int c3), .val (.int c4), .val (.ref x1), .val (.ref x2), .val (.ref x3), .val (.ref x4), .val (.ref x5), .val (.ref ra), .val (.ref rn), .val (.ref rr), .val (.int l4), .val (.int l4)] []))
              refine Owes.go ?_ fun t₀ k₀ => XS.aload X79.here hx rfl (hb hby at_302) rfl rfl k₀
              show Owes _ _ _ _ (T79.setTop (mkF m 304 #[.val (.int p0), .val (.int p1), .val (.int p2), .val (.int p3), .val (.int p4), .val (.int p5), .val (.int nI), .val (.int (47 : Int32)), .val (.int c1), .val (.int c2), .val (.int c3), .val (.int c4), .val (.ref x1), .val (.ref x2), .val (.ref x3), .val (.ref x4), .val (.ref x5), .val (.ref ra), .val (.ref rn), .val (.ref rr), .val (.int l4), .val (.int l4)] [(.ref rr)]))
              refine Owes.callV X79 hx hZ hown (hw _ (List.mem_of_getElem? (i := 78) rfl)) (hw _ (List.mem_of_getElem? (i := 45) rfl)) (notFace_of_selects (args := #[]) (mvT hZ (hw _ (List.mem_of_getElem? (i := 47) rfl)))) (hw _ (List.mem_of_getElem? (i := 47) rfl)) (hw _ (List.mem_of_getElem? (i := 46) rfl)) (hw _ (List.mem_of_getElem? (i := 8) rfl)) (hw _ (List.mem_of_getElem? (i := 48) rfl)) (by decide) (a := rr) (argsL := []) (rest := []) (rm_len l Z a0 hw [] rr T79.heap bR (if mx = 0 then 1 else mx) (cf5 c1 c2 c3 c4) SR (Int32.ofNat (if mx = 0 then 1 else mx)) hel cs SC2 hcs) rfl SR.1 (by rw [hml]; rfl) pd_12 rfl rfl (hb hby at_304) (by decide) (Nat.le_of_ble_eq_true rfl) (by decide) (by decide) ?_
              rintro T89 _ _ X89 ⟨rfl, rfl, e89⟩
              rw [List.append_nil] at X89
              show Owes _ _ _ _ (T89.setTop (mkF m 307 #[.val (.int p0), .val (.int p1), .val (.int p2), .val (.int p3), .val (.int p4), .val (.int p5), .val (.int nI), .val (.int (47 : Int32)), .val (.int c1), .val (.int c2), .val (.int c3), .val (.int c4), .val (.ref x1), .val (.ref x2), .val (.ref x3), .val (.ref x4), .val (.ref x5), .val (.ref ra), .val (.ref rn), .val (.ref rr), .val (.int l4), .val (.int l4)] [(.int (Int32.ofNat (if mx = 0 then 1 else mx)))]))
              refine Owes.go ?_ fun t₀ k₀ => XS.iload X89.here hx rfl (hb hby at_307) rfl k₀
              show Owes _ _ _ _ (T89.setTop (mkF m 309 #[.val (.int p0), .val (.int p1), .val (.int p2), .val (.int p3), .val (.int p4), .val (.int p5), .val (.int nI), .val (.int (47 : Int32)), .val (.int c1), .val (.int c2), .val (.int c3), .val (.int c4), .val (.ref x1), .val (.ref x2), .val (.ref x3), .val (.ref x4), .val (.ref x5), .val (.ref ra), .val (.ref rn), .val (.ref rr), .val (.int l4), .val (.int l4)] [(.int l4), (.int (Int32.ofNat (if mx = 0 then 1 else mx)))]))
              refine Owes.go ?_ fun t₀ k₀ => XS.icmpYes X89.here hx rfl (pc0 := 309) (pc' := 314) rfl (hb hby at_309) rfl (teq (own_eqi hel helv rfl)).1 (by decide) (by decide) k₀
              show Owes _ _ _ _ (T89.setTop (mkF m 314 #[.val (.int p0), .val (.int p1), .val (.int p2), .val (.int p3), .val (.int p4), .val (.int p5), .val (.int nI), .val (.int (47 : Int32)), .val (.int c1), .val (.int c2), .val (.int c3), .val (.int c4), .val (.ref x1), .val (.ref x2), .val (.ref x3), .val (.ref x4), .val (.ref x5), .val (.ref ra), .val (.ref rn), .val (.ref rr), .val (.int l4), .val (.int l4)] []))
              refine Owes.go ?_ fun t₀ k₀ => XS.aload X89.here hx rfl (hb hby at_314) rfl rfl k₀
              show Owes _ _ _ _ (T89.setTop (mkF m 316 #[.val (.int p0), .val (.int p1), .val (.int p2), .val (.int p3), .val (.int p4), .val (.int p5), .val (.int nI), .val (.int (47 : Int32)), .val (.int c1), .val (.int c2), .val (.int c3), .val (.int c4), .val (.ref x1), .val (.ref x2), .val (.ref x3), .val (.ref x4), .val (.ref x5), .val (.ref ra), .val (.ref rn), .val (.ref rr), .val (.int l4), .val (.int l4)] [(.ref rr)]))
              refine Owes.go ?_ fun t₀ k₀ => XS.iconst X89.here hx rfl (hb hby at_316) k₀
              show Owes _ _ _ _ (T89.setTop (mkF m 317 #[.val (.int p0), .val (.int p1), .val (.int p2), .val (.int p3), .val (.int p4), .val (.int p5), .val (.int nI), .val (.int (47 : Int32)), .val (.int c1), .val (.int c2), .val (.int c3), .val (.int c4), .val (.ref x1), .val (.ref x2), .val (.ref x3), .val (.ref x4), .val (.ref x5), .val (.ref ra), .val (.ref rn), .val (.ref rr), .val (.int l4), .val (.int l4)] [(.int (0 : Int32)), (.ref rr)]))
              refine Owes.callV X89 hx hZ hown (hw _ (List.mem_of_getElem? (i := 79) rfl)) (hw _ (List.mem_of_getElem? (i := 80) rfl)) (notFace_of_selects (args := #[]) (mvT hZ (hw _ (List.mem_of_getElem? (i := 82) rfl)))) (hw _ (List.mem_of_getElem? (i := 82) rfl)) (hw _ (List.mem_of_getElem? (i := 81) rfl)) (hw _ (List.mem_of_getElem? (i := 8) rfl)) (hw _ (List.mem_of_getElem? (i := 83) rfl)) (by decide) (a := rr) (argsL := [(.int (0 : Int32))]) (rest := []) (rm_ca l Z a0 hw [] rr (0 : Int32) T79.heap bR (if mx = 0 then 1 else mx) (cf5 c1 c2 c3 c4) SR (Int32.ofNat (if mx = 0 then 1 else mx)) hel cs SC2 hcs vf hcat_vf SF2 hc8R 0 rfl (by split <;> omega)) e89 SR.1 (by rw [hml]; rfl) pd_18 rfl rfl (hb hby at_317) (by decide) (Nat.le_of_ble_eq_true rfl) (by decide) (by decide) ?_
              rintro T90 _ _ X90 ⟨rfl, rfl, e90⟩
              rw [List.append_nil] at X90
              show Owes _ _ _ _ (T90.setTop (mkF m 320 #[.val (.int p0), .val (.int p1), .val (.int p2), .val (.int p3), .val (.int p4), .val (.int p5), .val (.int nI), .val (.int (47 : Int32)), .val (.int c1), .val (.int c2), .val (.int c3), .val (.int c4), .val (.ref x1), .val (.ref x2), .val (.ref x3), .val (.ref x4), .val (.ref x5), .val (.ref ra), .val (.ref rn), .val (.ref rr), .val (.int l4), .val (.int l4)] [(.int ((cf5 c1 c2 c3 c4) 0))]))
              refine Owes.go ?_ fun t₀ k₀ => XS.bipush X90.here hx rfl (hb hby at_320) k₀
              show Owes _ _ _ _ (T90.setTop (mkF m 322 #[.val (.int p0), .val (.int p1), .val (.int p2), .val (.int p3), .val (.int p4), .val (.int p5), .val (.int nI), .val (.int (47 : Int32)), .val (.int c1), .val (.int c2), .val (.int c3), .val (.int c4), .val (.ref x1), .val (.ref x2), .val (.ref x3), .val (.ref x4), .val (.ref x5), .val (.ref ra), .val (.ref rn), .val (.ref rr), .val (.int l4), .val (.int l4)] [(.int (47 : Int32)), (.int ((cf5 c1 c2 c3 c4) 0))]))
              refine Owes.go ?_ fun t₀ k₀ => XS.icmpNo X90.here hx rfl (hb hby at_322) rfl (teq (rfl : (cf5 c1 c2 c3 c4) 0 = 47)).2 k₀
              show Owes _ _ _ _ (T90.setTop (mkF m 325 #[.val (.int p0), .val (.int p1), .val (.int p2), .val (.int p3), .val (.int p4), .val (.int p5), .val (.int nI), .val (.int (47 : Int32)), .val (.int c1), .val (.int c2), .val (.int c3), .val (.int c4), .val (.ref x1), .val (.ref x2), .val (.ref x3), .val (.ref x4), .val (.ref x5), .val (.ref ra), .val (.ref rn), .val (.ref rr), .val (.int l4), .val (.int l4)] []))
              refine Owes.go ?_ fun t₀ k₀ => XS.aload X90.here hx rfl (hb hby at_325) rfl rfl k₀
              show Owes _ _ _ _ (T90.setTop (mkF m 327 #[.val (.int p0), .val (.int p1), .val (.int p2), .val (.int p3), .val (.int p4), .val (.int p5), .val (.int nI), .val (.int (47 : Int32)), .val (.int c1), .val (.int c2), .val (.int c3), .val (.int c4), .val (.ref x1), .val (.ref x2), .val (.ref x3), .val (.ref x4), .val (.ref x5), .val (.ref ra), .val (.ref rn), .val (.ref rr), .val (.int l4), .val (.int l4)] [(.ref rr)]))
              refine Owes.go ?_ fun t₀ k₀ => XS.iconst X90.here hx rfl (hb hby at_327) k₀
              show Owes _ _ _ _ (T90.setTop (mkF m 328 #[.val (.int p0), .val (.int p1), .val (.int p2), .val (.int p3), .val (.int p4), .val (.int p5), .val (.int nI), .val (.int (47 : Int32)), .val (.int c1), .val (.int c2), .val (.int c3), .val (.int c4), .val (.ref x1), .val (.ref x2), .val (.ref x3), .val (.ref x4), .val (.ref x5), .val (.ref ra), .val (.ref rn), .val (.ref rr), .val (.int l4), .val (.int l4)] [(.int (1 : Int32)), (.ref rr)]))
              refine Owes.go ?_ fun t₀ k₀ => XS.iload X90.here hx rfl (hb hby at_328) rfl k₀
              show Owes _ _ _ _ (T90.setTop (mkF m 330 #[.val (.int p0), .val (.int p1), .val (.int p2), .val (.int p3), .val (.int p4), .val (.int p5), .val (.int nI), .val (.int (47 : Int32)), .val (.int c1), .val (.int c2), .val (.int c3), .val (.int c4), .val (.ref x1), .val (.ref x2), .val (.ref x3), .val (.ref x4), .val (.ref x5), .val (.ref ra), .val (.ref rn), .val (.ref rr), .val (.int l4), .val (.int l4)] [(.int l4), (.int (1 : Int32)), (.ref rr)]))
              refine Owes.go ?_ fun t₀ k₀ => XS.iload X90.here hx rfl (hb hby at_330) rfl k₀
              show Owes _ _ _ _ (T90.setTop (mkF m 332 #[.val (.int p0), .val (.int p1), .val (.int p2), .val (.int p3), .val (.int p4), .val (.int p5), .val (.int nI), .val (.int (47 : Int32)), .val (.int c1), .val (.int c2), .val (.int c3), .val (.int c4), .val (.ref x1), .val (.ref x2), .val (.ref x3), .val (.ref x4), .val (.ref x5), .val (.ref ra), .val (.ref rn), .val (.ref rr), .val (.int l4), .val (.int l4)] [(.int c1), (.int l4), (.int (1 : Int32)), (.ref rr)]))
              refine Owes.callS X90 hx hZ hown (hw _ (List.mem_of_getElem? (i := 95) rfl)) (hw _ (List.mem_of_getElem? (i := 96) rfl)) (hw _ (List.mem_of_getElem? (i := 3) rfl)) (hw _ (List.mem_of_getElem? (i := 97) rfl)) (by decide) (argsL := [(.ref rr), (.int (1 : Int32)), (.int l4), (.int c1)]) (rest := []) (rm_at l Z a0 hw [] rr (1 : Int32) l4 c1 T79.heap bR (if mx = 0 then 1 else mx) (cf5 c1 c2 c3 c4) SR (Int32.ofNat (if mx = 0 then 1 else mx)) hel cs SC2 hcs vf hcat_vf SF2 hc8R (fun h => ⟨1, rfl, own_ltn (a := 1) rfl helv h, rfl⟩)) e90 (by rw [hml]; rfl) pd_24 rfl rfl (hb hby at_332) (by decide) (Nat.le_of_ble_eq_true rfl) (by decide) (by decide) ?_
              rintro T91 _ _ X91 ⟨rfl, rfl, e91⟩
              rw [List.append_nil] at X91
              show Owes _ _ _ _ (T91.setTop (mkF m 335 #[.val (.int p0), .val (.int p1), .val (.int p2), .val (.int p3), .val (.int p4), .val (.int p5), .val (.int nI), .val (.int (47 : Int32)), .val (.int c1), .val (.int c2), .val (.int c3), .val (.int c4), .val (.ref x1), .val (.ref x2), .val (.ref x3), .val (.ref x4), .val (.ref x5), .val (.ref ra), .val (.ref rn), .val (.ref rr), .val (.int l4), .val (.int l4)] [(.int (1 : Int32))]))
              refine Owes.go ?_ fun t₀ k₀ => XS.ifNo X91.here hx rfl (hb hby at_335) rfl ((if0 _ _).trans (feq (by decide : ¬ ((1 : Int32) = (0 : Int32)))).1) k₀
              show Owes _ _ _ _ (T91.setTop (mkF m 338 #[.val (.int p0), .val (.int p1), .val (.int p2), .val (.int p3), .val (.int p4), .val (.int p5), .val (.int nI), .val (.int (47 : Int32)), .val (.int c1), .val (.int c2), .val (.int c3), .val (.int c4), .val (.ref x1), .val (.ref x2), .val (.ref x3), .val (.ref x4), .val (.ref x5), .val (.ref ra), .val (.ref rn), .val (.ref rr), .val (.int l4), .val (.int l4)] []))
              refine Owes.go ?_ fun t₀ k₀ => XS.aload X91.here hx rfl (hb hby at_338) rfl rfl k₀
              show Owes _ _ _ _ (T91.setTop (mkF m 340 #[.val (.int p0), .val (.int p1), .val (.int p2), .val (.int p3), .val (.int p4), .val (.int p5), .val (.int nI), .val (.int (47 : Int32)), .val (.int c1), .val (.int c2), .val (.int c3), .val (.int c4), .val (.ref x1), .val (.ref x2), .val (.ref x3), .val (.ref x4), .val (.ref x5), .val (.ref ra), .val (.ref rn), .val (.ref rr), .val (.int l4), .val (.int l4)] [(.ref rr)]))
              refine Owes.go ?_ fun t₀ k₀ => XS.iconst X91.here hx rfl (hb hby at_340) k₀
              show Owes _ _ _ _ (T91.setTop (mkF m 341 #[.val (.int p0), .val (.int p1), .val (.int p2), .val (.int p3), .val (.int p4), .val (.int p5), .val (.int nI), .val (.int (47 : Int32)), .val (.int c1), .val (.int c2), .val (.int c3), .val (.int c4), .val (.ref x1), .val (.ref x2), .val (.ref x3), .val (.ref x4), .val (.ref x5), .val (.ref ra), .val (.ref rn), .val (.ref rr), .val (.int l4), .val (.int l4)] [(.int (2 : Int32)), (.ref rr)]))
              refine Owes.go ?_ fun t₀ k₀ => XS.iload X91.here hx rfl (hb hby at_341) rfl k₀
              show Owes _ _ _ _ (T91.setTop (mkF m 343 #[.val (.int p0), .val (.int p1), .val (.int p2), .val (.int p3), .val (.int p4), .val (.int p5), .val (.int nI), .val (.int (47 : Int32)), .val (.int c1), .val (.int c2), .val (.int c3), .val (.int c4), .val (.ref x1), .val (.ref x2), .val (.ref x3), .val (.ref x4), .val (.ref x5), .val (.ref ra), .val (.ref rn), .val (.ref rr), .val (.int l4), .val (.int l4)] [(.int l4), (.int (2 : Int32)), (.ref rr)]))
              refine Owes.go ?_ fun t₀ k₀ => XS.iload X91.here hx rfl (hb hby at_343) rfl k₀
              show Owes _ _ _ _ (T91.setTop (mkF m 345 #[.val (.int p0), .val (.int p1), .val (.int p2), .val (.int p3), .val (.int p4), .val (.int p5), .val (.int nI), .val (.int (47 : Int32)), .val (.int c1), .val (.int c2), .val (.int c3), .val (.int c4), .val (.ref x1), .val (.ref x2), .val (.ref x3), .val (.ref x4), .val (.ref x5), .val (.ref ra), .val (.ref rn), .val (.ref rr), .val (.int l4), .val (.int l4)] [(.int c2), (.int l4), (.int (2 : Int32)), (.ref rr)]))
              refine Owes.callS X91 hx hZ hown (hw _ (List.mem_of_getElem? (i := 95) rfl)) (hw _ (List.mem_of_getElem? (i := 96) rfl)) (hw _ (List.mem_of_getElem? (i := 3) rfl)) (hw _ (List.mem_of_getElem? (i := 97) rfl)) (by decide) (argsL := [(.ref rr), (.int (2 : Int32)), (.int l4), (.int c2)]) (rest := []) (rm_at l Z a0 hw [] rr (2 : Int32) l4 c2 T79.heap bR (if mx = 0 then 1 else mx) (cf5 c1 c2 c3 c4) SR (Int32.ofNat (if mx = 0 then 1 else mx)) hel cs SC2 hcs vf hcat_vf SF2 hc8R (fun h => ⟨2, rfl, own_ltn (a := 2) rfl helv h, rfl⟩)) e91 (by rw [hml]; rfl) pd_24 rfl rfl (hb hby at_345) (by decide) (Nat.le_of_ble_eq_true rfl) (by decide) (by decide) ?_
              rintro T92 _ _ X92 ⟨rfl, rfl, e92⟩
              rw [List.append_nil] at X92
              show Owes _ _ _ _ (T92.setTop (mkF m 348 #[.val (.int p0), .val (.int p1), .val (.int p2), .val (.int p3), .val (.int p4), .val (.int p5), .val (.int nI), .val (.int (47 : Int32)), .val (.int c1), .val (.int c2), .val (.int c3), .val (.int c4), .val (.ref x1), .val (.ref x2), .val (.ref x3), .val (.ref x4), .val (.ref x5), .val (.ref ra), .val (.ref rn), .val (.ref rr), .val (.int l4), .val (.int l4)] [(.int (1 : Int32))]))
              refine Owes.go ?_ fun t₀ k₀ => XS.ifNo X92.here hx rfl (hb hby at_348) rfl ((if0 _ _).trans (feq (by decide : ¬ ((1 : Int32) = (0 : Int32)))).1) k₀
              show Owes _ _ _ _ (T92.setTop (mkF m 351 #[.val (.int p0), .val (.int p1), .val (.int p2), .val (.int p3), .val (.int p4), .val (.int p5), .val (.int nI), .val (.int (47 : Int32)), .val (.int c1), .val (.int c2), .val (.int c3), .val (.int c4), .val (.ref x1), .val (.ref x2), .val (.ref x3), .val (.ref x4), .val (.ref x5), .val (.ref ra), .val (.ref rn), .val (.ref rr), .val (.int l4), .val (.int l4)] []))
              refine Owes.go ?_ fun t₀ k₀ => XS.aload X92.here hx rfl (hb hby at_351) rfl rfl k₀
              show Owes _ _ _ _ (T92.setTop (mkF m 353 #[.val (.int p0), .val (.int p1), .val (.int p2), .val (.int p3), .val (.int p4), .val (.int p5), .val (.int nI), .val (.int (47 : Int32)), .val (.int c1), .val (.int c2), .val (.int c3), .val (.int c4), .val (.ref x1), .val (.ref x2), .val (.ref x3), .val (.ref x4), .val (.ref x5), .val (.ref ra), .val (.ref rn), .val (.ref rr), .val (.int l4), .val (.int l4)] [(.ref rr)]))
              refine Owes.go ?_ fun t₀ k₀ => XS.iconst X92.here hx rfl (hb hby at_353) k₀
              show Owes _ _ _ _ (T92.setTop (mkF m 354 #[.val (.int p0), .val (.int p1), .val (.int p2), .val (.int p3), .val (.int p4), .val (.int p5), .val (.int nI), .val (.int (47 : Int32)), .val (.int c1), .val (.int c2), .val (.int c3), .val (.int c4), .val (.ref x1), .val (.ref x2), .val (.ref x3), .val (.ref x4), .val (.ref x5), .val (.ref ra), .val (.ref rn), .val (.ref rr), .val (.int l4), .val (.int l4)] [(.int (3 : Int32)), (.ref rr)]))
              refine Owes.go ?_ fun t₀ k₀ => XS.iload X92.here hx rfl (hb hby at_354) rfl k₀
              show Owes _ _ _ _ (T92.setTop (mkF m 356 #[.val (.int p0), .val (.int p1), .val (.int p2), .val (.int p3), .val (.int p4), .val (.int p5), .val (.int nI), .val (.int (47 : Int32)), .val (.int c1), .val (.int c2), .val (.int c3), .val (.int c4), .val (.ref x1), .val (.ref x2), .val (.ref x3), .val (.ref x4), .val (.ref x5), .val (.ref ra), .val (.ref rn), .val (.ref rr), .val (.int l4), .val (.int l4)] [(.int l4), (.int (3 : Int32)), (.ref rr)]))
              refine Owes.go ?_ fun t₀ k₀ => XS.iload X92.here hx rfl (hb hby at_356) rfl k₀
              show Owes _ _ _ _ (T92.setTop (mkF m 358 #[.val (.int p0), .val (.int p1), .val (.int p2), .val (.int p3), .val (.int p4), .val (.int p5), .val (.int nI), .val (.int (47 : Int32)), .val (.int c1), .val (.int c2), .val (.int c3), .val (.int c4), .val (.ref x1), .val (.ref x2), .val (.ref x3), .val (.ref x4), .val (.ref x5), .val (.ref ra), .val (.ref rn), .val (.ref rr), .val (.int l4), .val (.int l4)] [(.int c3), (.int l4), (.int (3 : Int32)), (.ref rr)]))
              refine Owes.callS X92 hx hZ hown (hw _ (List.mem_of_getElem? (i := 95) rfl)) (hw _ (List.mem_of_getElem? (i := 96) rfl)) (hw _ (List.mem_of_getElem? (i := 3) rfl)) (hw _ (List.mem_of_getElem? (i := 97) rfl)) (by decide) (argsL := [(.ref rr), (.int (3 : Int32)), (.int l4), (.int c3)]) (rest := []) (rm_at l Z a0 hw [] rr (3 : Int32) l4 c3 T79.heap bR (if mx = 0 then 1 else mx) (cf5 c1 c2 c3 c4) SR (Int32.ofNat (if mx = 0 then 1 else mx)) hel cs SC2 hcs vf hcat_vf SF2 hc8R (fun h => ⟨3, rfl, own_ltn (a := 3) rfl helv h, rfl⟩)) e92 (by rw [hml]; rfl) pd_24 rfl rfl (hb hby at_358) (by decide) (Nat.le_of_ble_eq_true rfl) (by decide) (by decide) ?_
              rintro T93 _ _ X93 ⟨rfl, rfl, e93⟩
              rw [List.append_nil] at X93
              show Owes _ _ _ _ (T93.setTop (mkF m 361 #[.val (.int p0), .val (.int p1), .val (.int p2), .val (.int p3), .val (.int p4), .val (.int p5), .val (.int nI), .val (.int (47 : Int32)), .val (.int c1), .val (.int c2), .val (.int c3), .val (.int c4), .val (.ref x1), .val (.ref x2), .val (.ref x3), .val (.ref x4), .val (.ref x5), .val (.ref ra), .val (.ref rn), .val (.ref rr), .val (.int l4), .val (.int l4)] [(.int (1 : Int32))]))
              refine Owes.go ?_ fun t₀ k₀ => XS.ifNo X93.here hx rfl (hb hby at_361) rfl ((if0 _ _).trans (feq (by decide : ¬ ((1 : Int32) = (0 : Int32)))).1) k₀
              show Owes _ _ _ _ (T93.setTop (mkF m 364 #[.val (.int p0), .val (.int p1), .val (.int p2), .val (.int p3), .val (.int p4), .val (.int p5), .val (.int nI), .val (.int (47 : Int32)), .val (.int c1), .val (.int c2), .val (.int c3), .val (.int c4), .val (.ref x1), .val (.ref x2), .val (.ref x3), .val (.ref x4), .val (.ref x5), .val (.ref ra), .val (.ref rn), .val (.ref rr), .val (.int l4), .val (.int l4)] []))
              refine Owes.go ?_ fun t₀ k₀ => XS.iconst X93.here hx rfl (hb hby at_364) k₀
              show Owes _ _ _ _ (T93.setTop (mkF m 365 #[.val (.int p0), .val (.int p1), .val (.int p2), .val (.int p3), .val (.int p4), .val (.int p5), .val (.int nI), .val (.int (47 : Int32)), .val (.int c1), .val (.int c2), .val (.int c3), .val (.int c4), .val (.ref x1), .val (.ref x2), .val (.ref x3), .val (.ref x4), .val (.ref x5), .val (.ref ra), .val (.ref rn), .val (.ref rr), .val (.int l4), .val (.int l4)] [(.int (1 : Int32))]))
              refine Owes.go ?_ fun t₀ k₀ => XS.goto X93.here hx rfl (pc0 := 365) (pc' := 369) rfl (hb hby at_365) (by decide) (by decide) k₀
              show Owes _ _ _ _ (T93.setTop (mkF m 369 #[.val (.int p0), .val (.int p1), .val (.int p2), .val (.int p3), .val (.int p4), .val (.int p5), .val (.int nI), .val (.int (47 : Int32)), .val (.int c1), .val (.int c2), .val (.int c3), .val (.int c4), .val (.ref x1), .val (.ref x2), .val (.ref x3), .val (.ref x4), .val (.ref x5), .val (.ref ra), .val (.ref rn), .val (.ref rr), .val (.int l4), .val (.int l4)] [(.int (1 : Int32))]))
              exact Owes.retNC X93 hZ hEL e93 hC79 hS79 (Nat.le_refl _) hx hlk hret (by simp) (hb hby at_369) (by decide) (by decide) ⟨rfl, NF79⟩
          refine Owes.go ?_ fun t₀ k₀ => XS.iload X79.here hx rfl (hb hby at_268) rfl k₀
          show Owes _ _ _ _ (T79.setTop (mkF m 270 #[.val (.int p0), .val (.int p1), .val (.int p2), .val (.int p3), .val (.int p4), .val (.int p5), .val (.int nI), .val (.int (47 : Int32)), .val (.int c1), .val (.int c2), .val (.int c3), .val (.int c4), .val (.ref x1), .val (.ref x2), .val (.ref x3), .val (.ref x4), .val (.ref x5), .val (.ref ra), .val (.ref rn), .val (.ref rr), .val (.int l3), .unset] [(.int nI)]))
          refine Owes.go ?_ fun t₀ k₀ => XS.iconst X79.here hx rfl (hb hby at_270) k₀
          show Owes _ _ _ _ (T79.setTop (mkF m 271 #[.val (.int p0), .val (.int p1), .val (.int p2), .val (.int p3), .val (.int p4), .val (.int p5), .val (.int nI), .val (.int (47 : Int32)), .val (.int c1), .val (.int c2), .val (.int c3), .val (.int c4), .val (.ref x1), .val (.ref x2), .val (.ref x3), .val (.ref x4), .val (.ref x5), .val (.ref ra), .val (.ref rn), .val (.ref rr), .val (.int l3), .unset] [(.int (4 : Int32)), (.int nI)]))
          by_cases hc2 : (4 : Int32) < nI
          · skip
            refine Owes.go ?_ fun t₀ k₀ => XS.icmpNo X79.here hx rfl (hb hby at_271) rfl (tlt hc2).2.2.2 k₀
            show Owes _ _ _ _ (T79.setTop (mkF m 274 #[.val (.int p0), .val (.int p1), .val (.int p2), .val (.int p3), .val (.int p4), .val (.int p5), .val (.int nI), .val (.int (47 : Int32)), .val (.int c1), .val (.int c2), .val (.int c3), .val (.int c4), .val (.ref x1), .val (.ref x2), .val (.ref x3), .val (.ref x4), .val (.ref x5), .val (.ref ra), .val (.ref rn), .val (.ref rr), .val (.int l3), .unset] []))
            refine Owes.go ?_ fun t₀ k₀ => XS.iload X79.here hx rfl (hb hby at_274) rfl k₀
            show Owes _ _ _ _ (T79.setTop (mkF m 276 #[.val (.int p0), .val (.int p1), .val (.int p2), .val (.int p3), .val (.int p4), .val (.int p5), .val (.int nI), .val (.int (47 : Int32)), .val (.int c1), .val (.int c2), .val (.int c3), .val (.int c4), .val (.ref x1), .val (.ref x2), .val (.ref x3), .val (.ref x4), .val (.ref x5), .val (.ref ra), .val (.ref rn), .val (.ref rr), .val (.int l3), .unset] [(.int c4)]))
            refine Owes.go ?_ fun t₀ k₀ => XS.bipush X79.here hx rfl (hb hby at_276) k₀
            show Owes _ _ _ _ (T79.setTop (mkF m 278 #[.val (.int p0), .val (.int p1), .val (.int p2), .val (.int p3), .val (.int p4), .val (.int p5), .val (.int nI), .val (.int (47 : Int32)), .val (.int c1), .val (.int c2), .val (.int c3), .val (.int c4), .val (.ref x1), .val (.ref x2), .val (.ref x3), .val (.ref x4), .val (.ref x5), .val (.ref ra), .val (.ref rn), .val (.ref rr), .val (.int l3), .unset] [(.int (47 : Int32)), (.int c4)]))
            by_cases hc3 : c4 = (47 : Int32)
            · skip
              refine Owes.go ?_ fun t₀ k₀ => XS.icmpNo X79.here hx rfl (hb hby at_278) rfl (teq hc3).2 k₀
              show Owes _ _ _ _ (T79.setTop (mkF m 281 #[.val (.int p0), .val (.int p1), .val (.int p2), .val (.int p3), .val (.int p4), .val (.int p5), .val (.int nI), .val (.int (47 : Int32)), .val (.int c1), .val (.int c2), .val (.int c3), .val (.int c4), .val (.ref x1), .val (.ref x2), .val (.ref x3), .val (.ref x4), .val (.ref x5), .val (.ref ra), .val (.ref rn), .val (.ref rr), .val (.int l3), .unset] []))
              refine Owes.go ?_ fun t₀ k₀ => XS.iconst X79.here hx rfl (hb hby at_281) k₀
              show Owes _ _ _ _ (T79.setTop (mkF m 282 #[.val (.int p0), .val (.int p1), .val (.int p2), .val (.int p3), .val (.int p4), .val (.int p5), .val (.int nI), .val (.int (47 : Int32)), .val (.int c1), .val (.int c2), .val (.int c3), .val (.int c4), .val (.ref x1), .val (.ref x2), .val (.ref x3), .val (.ref x4), .val (.ref x5), .val (.ref ra), .val (.ref rn), .val (.ref rr), .val (.int l3), .unset] [(.int (4 : Int32))]))
              refine Owes.go ?_ fun t₀ k₀ => XS.istore X79.here hx rfl (hb hby at_282) rfl (l' := #[.val (.int p0), .val (.int p1), .val (.int p2), .val (.int p3), .val (.int p4), .val (.int p5), .val (.int nI), .val (.int (47 : Int32)), .val (.int c1), .val (.int c2), .val (.int c3), .val (.int c4), .val (.ref x1), .val (.ref x2), .val (.ref x3), .val (.ref x4), .val (.ref x5), .val (.ref ra), .val (.ref rn), .val (.ref rr), .val (.int (4 : Int32)), .unset]) rfl k₀
              show Owes _ _ _ _ (T79.setTop (mkF m 284 #[.val (.int p0), .val (.int p1), .val (.int p2), .val (.int p3), .val (.int p4), .val (.int p5), .val (.int nI), .val (.int (47 : Int32)), .val (.int c1), .val (.int c2), .val (.int c3), .val (.int c4), .val (.ref x1), .val (.ref x2), .val (.ref x3), .val (.ref x4), .val (.ref x5), .val (.ref ra), .val (.ref rn), .val (.ref rr), .val (.int (4 : Int32)), .unset] []))
              exact J284_83 (4 : Int32) ⟨4, rfl, LS.yes (own_ltn (a := 4) rfl hzn hc2) hc3⟩
            · skip
              refine Owes.go ?_ fun t₀ k₀ => XS.icmpYes X79.here hx rfl (pc0 := 278) (pc' := 284) rfl (hb hby at_278) rfl (feq hc3).2 (by decide) (by decide) k₀
              show Owes _ _ _ _ (T79.setTop (mkF m 284 #[.val (.int p0), .val (.int p1), .val (.int p2), .val (.int p3), .val (.int p4), .val (.int p5), .val (.int nI), .val (.int (47 : Int32)), .val (.int c1), .val (.int c2), .val (.int c3), .val (.int c4), .val (.ref x1), .val (.ref x2), .val (.ref x3), .val (.ref x4), .val (.ref x5), .val (.ref ra), .val (.ref rn), .val (.ref rr), .val (.int l3), .unset] []))
              exact J284_83 l3 ⟨q3, hq3, LS.no HL3 hc3⟩
          · skip
            refine Owes.go ?_ fun t₀ k₀ => XS.icmpYes X79.here hx rfl (pc0 := 271) (pc' := 284) rfl (hb hby at_271) rfl (flt hc2).2.2.2 (by decide) (by decide) k₀
            show Owes _ _ _ _ (T79.setTop (mkF m 284 #[.val (.int p0), .val (.int p1), .val (.int p2), .val (.int p3), .val (.int p4), .val (.int p5), .val (.int nI), .val (.int (47 : Int32)), .val (.int c1), .val (.int c2), .val (.int c3), .val (.int c4), .val (.ref x1), .val (.ref x2), .val (.ref x3), .val (.ref x4), .val (.ref x5), .val (.ref ra), .val (.ref rn), .val (.ref rr), .val (.int l3), .unset] []))
            exact J284_83 l3 ⟨q3, hq3, LS.out HL3 (own_nltn (a := 4) rfl hzn hc2)⟩
        refine Owes.go ?_ fun t₀ k₀ => XS.iload X79.here hx rfl (hb hby at_252) rfl k₀
        show Owes _ _ _ _ (T79.setTop (mkF m 254 #[.val (.int p0), .val (.int p1), .val (.int p2), .val (.int p3), .val (.int p4), .val (.int p5), .val (.int nI), .val (.int (47 : Int32)), .val (.int c1), .val (.int c2), .val (.int c3), .val (.int c4), .val (.ref x1), .val (.ref x2), .val (.ref x3), .val (.ref x4), .val (.ref x5), .val (.ref ra), .val (.ref rn), .val (.ref rr), .val (.int l2), .unset] [(.int nI)]))
        refine Owes.go ?_ fun t₀ k₀ => XS.iconst X79.here hx rfl (hb hby at_254) k₀
        show Owes _ _ _ _ (T79.setTop (mkF m 255 #[.val (.int p0), .val (.int p1), .val (.int p2), .val (.int p3), .val (.int p4), .val (.int p5), .val (.int nI), .val (.int (47 : Int32)), .val (.int c1), .val (.int c2), .val (.int c3), .val (.int c4), .val (.ref x1), .val (.ref x2), .val (.ref x3), .val (.ref x4), .val (.ref x5), .val (.ref ra), .val (.ref rn), .val (.ref rr), .val (.int l2), .unset] [(.int (3 : Int32)), (.int nI)]))
        by_cases hc4 : (3 : Int32) < nI
        · skip
          refine Owes.go ?_ fun t₀ k₀ => XS.icmpNo X79.here hx rfl (hb hby at_255) rfl (tlt hc4).2.2.2 k₀
          show Owes _ _ _ _ (T79.setTop (mkF m 258 #[.val (.int p0), .val (.int p1), .val (.int p2), .val (.int p3), .val (.int p4), .val (.int p5), .val (.int nI), .val (.int (47 : Int32)), .val (.int c1), .val (.int c2), .val (.int c3), .val (.int c4), .val (.ref x1), .val (.ref x2), .val (.ref x3), .val (.ref x4), .val (.ref x5), .val (.ref ra), .val (.ref rn), .val (.ref rr), .val (.int l2), .unset] []))
          refine Owes.go ?_ fun t₀ k₀ => XS.iload X79.here hx rfl (hb hby at_258) rfl k₀
          show Owes _ _ _ _ (T79.setTop (mkF m 260 #[.val (.int p0), .val (.int p1), .val (.int p2), .val (.int p3), .val (.int p4), .val (.int p5), .val (.int nI), .val (.int (47 : Int32)), .val (.int c1), .val (.int c2), .val (.int c3), .val (.int c4), .val (.ref x1), .val (.ref x2), .val (.ref x3), .val (.ref x4), .val (.ref x5), .val (.ref ra), .val (.ref rn), .val (.ref rr), .val (.int l2), .unset] [(.int c3)]))
          refine Owes.go ?_ fun t₀ k₀ => XS.bipush X79.here hx rfl (hb hby at_260) k₀
          show Owes _ _ _ _ (T79.setTop (mkF m 262 #[.val (.int p0), .val (.int p1), .val (.int p2), .val (.int p3), .val (.int p4), .val (.int p5), .val (.int nI), .val (.int (47 : Int32)), .val (.int c1), .val (.int c2), .val (.int c3), .val (.int c4), .val (.ref x1), .val (.ref x2), .val (.ref x3), .val (.ref x4), .val (.ref x5), .val (.ref ra), .val (.ref rn), .val (.ref rr), .val (.int l2), .unset] [(.int (47 : Int32)), (.int c3)]))
          by_cases hc5 : c3 = (47 : Int32)
          · skip
            refine Owes.go ?_ fun t₀ k₀ => XS.icmpNo X79.here hx rfl (hb hby at_262) rfl (teq hc5).2 k₀
            show Owes _ _ _ _ (T79.setTop (mkF m 265 #[.val (.int p0), .val (.int p1), .val (.int p2), .val (.int p3), .val (.int p4), .val (.int p5), .val (.int nI), .val (.int (47 : Int32)), .val (.int c1), .val (.int c2), .val (.int c3), .val (.int c4), .val (.ref x1), .val (.ref x2), .val (.ref x3), .val (.ref x4), .val (.ref x5), .val (.ref ra), .val (.ref rn), .val (.ref rr), .val (.int l2), .unset] []))
            refine Owes.go ?_ fun t₀ k₀ => XS.iconst X79.here hx rfl (hb hby at_265) k₀
            show Owes _ _ _ _ (T79.setTop (mkF m 266 #[.val (.int p0), .val (.int p1), .val (.int p2), .val (.int p3), .val (.int p4), .val (.int p5), .val (.int nI), .val (.int (47 : Int32)), .val (.int c1), .val (.int c2), .val (.int c3), .val (.int c4), .val (.ref x1), .val (.ref x2), .val (.ref x3), .val (.ref x4), .val (.ref x5), .val (.ref ra), .val (.ref rn), .val (.ref rr), .val (.int l2), .unset] [(.int (3 : Int32))]))
            refine Owes.go ?_ fun t₀ k₀ => XS.istore X79.here hx rfl (hb hby at_266) rfl (l' := #[.val (.int p0), .val (.int p1), .val (.int p2), .val (.int p3), .val (.int p4), .val (.int p5), .val (.int nI), .val (.int (47 : Int32)), .val (.int c1), .val (.int c2), .val (.int c3), .val (.int c4), .val (.ref x1), .val (.ref x2), .val (.ref x3), .val (.ref x4), .val (.ref x5), .val (.ref ra), .val (.ref rn), .val (.ref rr), .val (.int (3 : Int32)), .unset]) rfl k₀
            show Owes _ _ _ _ (T79.setTop (mkF m 268 #[.val (.int p0), .val (.int p1), .val (.int p2), .val (.int p3), .val (.int p4), .val (.int p5), .val (.int nI), .val (.int (47 : Int32)), .val (.int c1), .val (.int c2), .val (.int c3), .val (.int c4), .val (.ref x1), .val (.ref x2), .val (.ref x3), .val (.ref x4), .val (.ref x5), .val (.ref ra), .val (.ref rn), .val (.ref rr), .val (.int (3 : Int32)), .unset] []))
            exact J268_82 (3 : Int32) ⟨3, rfl, LS.yes (own_ltn (a := 3) rfl hzn hc4) hc5⟩
          · skip
            refine Owes.go ?_ fun t₀ k₀ => XS.icmpYes X79.here hx rfl (pc0 := 262) (pc' := 268) rfl (hb hby at_262) rfl (feq hc5).2 (by decide) (by decide) k₀
            show Owes _ _ _ _ (T79.setTop (mkF m 268 #[.val (.int p0), .val (.int p1), .val (.int p2), .val (.int p3), .val (.int p4), .val (.int p5), .val (.int nI), .val (.int (47 : Int32)), .val (.int c1), .val (.int c2), .val (.int c3), .val (.int c4), .val (.ref x1), .val (.ref x2), .val (.ref x3), .val (.ref x4), .val (.ref x5), .val (.ref ra), .val (.ref rn), .val (.ref rr), .val (.int l2), .unset] []))
            exact J268_82 l2 ⟨q2, hq2, LS.no HL2 hc5⟩
        · skip
          refine Owes.go ?_ fun t₀ k₀ => XS.icmpYes X79.here hx rfl (pc0 := 255) (pc' := 268) rfl (hb hby at_255) rfl (flt hc4).2.2.2 (by decide) (by decide) k₀
          show Owes _ _ _ _ (T79.setTop (mkF m 268 #[.val (.int p0), .val (.int p1), .val (.int p2), .val (.int p3), .val (.int p4), .val (.int p5), .val (.int nI), .val (.int (47 : Int32)), .val (.int c1), .val (.int c2), .val (.int c3), .val (.int c4), .val (.ref x1), .val (.ref x2), .val (.ref x3), .val (.ref x4), .val (.ref x5), .val (.ref ra), .val (.ref rn), .val (.ref rr), .val (.int l2), .unset] []))
          exact J268_82 l2 ⟨q2, hq2, LS.out HL2 (own_nltn (a := 3) rfl hzn hc4)⟩
      refine Owes.go ?_ fun t₀ k₀ => XS.iload X79.here hx rfl (hb hby at_236) rfl k₀
      show Owes _ _ _ _ (T79.setTop (mkF m 238 #[.val (.int p0), .val (.int p1), .val (.int p2), .val (.int p3), .val (.int p4), .val (.int p5), .val (.int nI), .val (.int (47 : Int32)), .val (.int c1), .val (.int c2), .val (.int c3), .val (.int c4), .val (.ref x1), .val (.ref x2), .val (.ref x3), .val (.ref x4), .val (.ref x5), .val (.ref ra), .val (.ref rn), .val (.ref rr), .val (.int l1), .unset] [(.int nI)]))
      refine Owes.go ?_ fun t₀ k₀ => XS.iconst X79.here hx rfl (hb hby at_238) k₀
      show Owes _ _ _ _ (T79.setTop (mkF m 239 #[.val (.int p0), .val (.int p1), .val (.int p2), .val (.int p3), .val (.int p4), .val (.int p5), .val (.int nI), .val (.int (47 : Int32)), .val (.int c1), .val (.int c2), .val (.int c3), .val (.int c4), .val (.ref x1), .val (.ref x2), .val (.ref x3), .val (.ref x4), .val (.ref x5), .val (.ref ra), .val (.ref rn), .val (.ref rr), .val (.int l1), .unset] [(.int (2 : Int32)), (.int nI)]))
      by_cases hc6 : (2 : Int32) < nI
      · skip
        refine Owes.go ?_ fun t₀ k₀ => XS.icmpNo X79.here hx rfl (hb hby at_239) rfl (tlt hc6).2.2.2 k₀
        show Owes _ _ _ _ (T79.setTop (mkF m 242 #[.val (.int p0), .val (.int p1), .val (.int p2), .val (.int p3), .val (.int p4), .val (.int p5), .val (.int nI), .val (.int (47 : Int32)), .val (.int c1), .val (.int c2), .val (.int c3), .val (.int c4), .val (.ref x1), .val (.ref x2), .val (.ref x3), .val (.ref x4), .val (.ref x5), .val (.ref ra), .val (.ref rn), .val (.ref rr), .val (.int l1), .unset] []))
        refine Owes.go ?_ fun t₀ k₀ => XS.iload X79.here hx rfl (hb hby at_242) rfl k₀
        show Owes _ _ _ _ (T79.setTop (mkF m 244 #[.val (.int p0), .val (.int p1), .val (.int p2), .val (.int p3), .val (.int p4), .val (.int p5), .val (.int nI), .val (.int (47 : Int32)), .val (.int c1), .val (.int c2), .val (.int c3), .val (.int c4), .val (.ref x1), .val (.ref x2), .val (.ref x3), .val (.ref x4), .val (.ref x5), .val (.ref ra), .val (.ref rn), .val (.ref rr), .val (.int l1), .unset] [(.int c2)]))
        refine Owes.go ?_ fun t₀ k₀ => XS.bipush X79.here hx rfl (hb hby at_244) k₀
        show Owes _ _ _ _ (T79.setTop (mkF m 246 #[.val (.int p0), .val (.int p1), .val (.int p2), .val (.int p3), .val (.int p4), .val (.int p5), .val (.int nI), .val (.int (47 : Int32)), .val (.int c1), .val (.int c2), .val (.int c3), .val (.int c4), .val (.ref x1), .val (.ref x2), .val (.ref x3), .val (.ref x4), .val (.ref x5), .val (.ref ra), .val (.ref rn), .val (.ref rr), .val (.int l1), .unset] [(.int (47 : Int32)), (.int c2)]))
        by_cases hc7 : c2 = (47 : Int32)
        · skip
          refine Owes.go ?_ fun t₀ k₀ => XS.icmpNo X79.here hx rfl (hb hby at_246) rfl (teq hc7).2 k₀
          show Owes _ _ _ _ (T79.setTop (mkF m 249 #[.val (.int p0), .val (.int p1), .val (.int p2), .val (.int p3), .val (.int p4), .val (.int p5), .val (.int nI), .val (.int (47 : Int32)), .val (.int c1), .val (.int c2), .val (.int c3), .val (.int c4), .val (.ref x1), .val (.ref x2), .val (.ref x3), .val (.ref x4), .val (.ref x5), .val (.ref ra), .val (.ref rn), .val (.ref rr), .val (.int l1), .unset] []))
          refine Owes.go ?_ fun t₀ k₀ => XS.iconst X79.here hx rfl (hb hby at_249) k₀
          show Owes _ _ _ _ (T79.setTop (mkF m 250 #[.val (.int p0), .val (.int p1), .val (.int p2), .val (.int p3), .val (.int p4), .val (.int p5), .val (.int nI), .val (.int (47 : Int32)), .val (.int c1), .val (.int c2), .val (.int c3), .val (.int c4), .val (.ref x1), .val (.ref x2), .val (.ref x3), .val (.ref x4), .val (.ref x5), .val (.ref ra), .val (.ref rn), .val (.ref rr), .val (.int l1), .unset] [(.int (2 : Int32))]))
          refine Owes.go ?_ fun t₀ k₀ => XS.istore X79.here hx rfl (hb hby at_250) rfl (l' := #[.val (.int p0), .val (.int p1), .val (.int p2), .val (.int p3), .val (.int p4), .val (.int p5), .val (.int nI), .val (.int (47 : Int32)), .val (.int c1), .val (.int c2), .val (.int c3), .val (.int c4), .val (.ref x1), .val (.ref x2), .val (.ref x3), .val (.ref x4), .val (.ref x5), .val (.ref ra), .val (.ref rn), .val (.ref rr), .val (.int (2 : Int32)), .unset]) rfl k₀
          show Owes _ _ _ _ (T79.setTop (mkF m 252 #[.val (.int p0), .val (.int p1), .val (.int p2), .val (.int p3), .val (.int p4), .val (.int p5), .val (.int nI), .val (.int (47 : Int32)), .val (.int c1), .val (.int c2), .val (.int c3), .val (.int c4), .val (.ref x1), .val (.ref x2), .val (.ref x3), .val (.ref x4), .val (.ref x5), .val (.ref ra), .val (.ref rn), .val (.ref rr), .val (.int (2 : Int32)), .unset] []))
          exact J252_81 (2 : Int32) ⟨2, rfl, LS.yes (own_ltn (a := 2) rfl hzn hc6) hc7⟩
        · skip
          refine Owes.go ?_ fun t₀ k₀ => XS.icmpYes X79.here hx rfl (pc0 := 246) (pc' := 252) rfl (hb hby at_246) rfl (feq hc7).2 (by decide) (by decide) k₀
          show Owes _ _ _ _ (T79.setTop (mkF m 252 #[.val (.int p0), .val (.int p1), .val (.int p2), .val (.int p3), .val (.int p4), .val (.int p5), .val (.int nI), .val (.int (47 : Int32)), .val (.int c1), .val (.int c2), .val (.int c3), .val (.int c4), .val (.ref x1), .val (.ref x2), .val (.ref x3), .val (.ref x4), .val (.ref x5), .val (.ref ra), .val (.ref rn), .val (.ref rr), .val (.int l1), .unset] []))
          exact J252_81 l1 ⟨q1, hq1, LS.no HL1 hc7⟩
      · skip
        refine Owes.go ?_ fun t₀ k₀ => XS.icmpYes X79.here hx rfl (pc0 := 239) (pc' := 252) rfl (hb hby at_239) rfl (flt hc6).2.2.2 (by decide) (by decide) k₀
        show Owes _ _ _ _ (T79.setTop (mkF m 252 #[.val (.int p0), .val (.int p1), .val (.int p2), .val (.int p3), .val (.int p4), .val (.int p5), .val (.int nI), .val (.int (47 : Int32)), .val (.int c1), .val (.int c2), .val (.int c3), .val (.int c4), .val (.ref x1), .val (.ref x2), .val (.ref x3), .val (.ref x4), .val (.ref x5), .val (.ref ra), .val (.ref rn), .val (.ref rr), .val (.int l1), .unset] []))
        exact J252_81 l1 ⟨q1, hq1, LS.out HL1 (own_nltn (a := 2) rfl hzn hc6)⟩
    refine Owes.go ?_ fun t₀ k₀ => XS.iload X79.here hx rfl (hb hby at_220) rfl k₀
    show Owes _ _ _ _ (T79.setTop (mkF m 222 #[.val (.int p0), .val (.int p1), .val (.int p2), .val (.int p3), .val (.int p4), .val (.int p5), .val (.int nI), .val (.int (47 : Int32)), .val (.int c1), .val (.int c2), .val (.int c3), .val (.int c4), .val (.ref x1), .val (.ref x2), .val (.ref x3), .val (.ref x4), .val (.ref x5), .val (.ref ra), .val (.ref rn), .val (.ref rr), .val (.int (0 : Int32)), .unset] [(.int nI)]))
    refine Owes.go ?_ fun t₀ k₀ => XS.iconst X79.here hx rfl (hb hby at_222) k₀
    show Owes _ _ _ _ (T79.setTop (mkF m 223 #[.val (.int p0), .val (.int p1), .val (.int p2), .val (.int p3), .val (.int p4), .val (.int p5), .val (.int nI), .val (.int (47 : Int32)), .val (.int c1), .val (.int c2), .val (.int c3), .val (.int c4), .val (.ref x1), .val (.ref x2), .val (.ref x3), .val (.ref x4), .val (.ref x5), .val (.ref ra), .val (.ref rn), .val (.ref rr), .val (.int (0 : Int32)), .unset] [(.int (1 : Int32)), (.int nI)]))
    by_cases hc8 : (1 : Int32) < nI
    · skip
      refine Owes.go ?_ fun t₀ k₀ => XS.icmpNo X79.here hx rfl (hb hby at_223) rfl (tlt hc8).2.2.2 k₀
      show Owes _ _ _ _ (T79.setTop (mkF m 226 #[.val (.int p0), .val (.int p1), .val (.int p2), .val (.int p3), .val (.int p4), .val (.int p5), .val (.int nI), .val (.int (47 : Int32)), .val (.int c1), .val (.int c2), .val (.int c3), .val (.int c4), .val (.ref x1), .val (.ref x2), .val (.ref x3), .val (.ref x4), .val (.ref x5), .val (.ref ra), .val (.ref rn), .val (.ref rr), .val (.int (0 : Int32)), .unset] []))
      refine Owes.go ?_ fun t₀ k₀ => XS.iload X79.here hx rfl (hb hby at_226) rfl k₀
      show Owes _ _ _ _ (T79.setTop (mkF m 228 #[.val (.int p0), .val (.int p1), .val (.int p2), .val (.int p3), .val (.int p4), .val (.int p5), .val (.int nI), .val (.int (47 : Int32)), .val (.int c1), .val (.int c2), .val (.int c3), .val (.int c4), .val (.ref x1), .val (.ref x2), .val (.ref x3), .val (.ref x4), .val (.ref x5), .val (.ref ra), .val (.ref rn), .val (.ref rr), .val (.int (0 : Int32)), .unset] [(.int c1)]))
      refine Owes.go ?_ fun t₀ k₀ => XS.bipush X79.here hx rfl (hb hby at_228) k₀
      show Owes _ _ _ _ (T79.setTop (mkF m 230 #[.val (.int p0), .val (.int p1), .val (.int p2), .val (.int p3), .val (.int p4), .val (.int p5), .val (.int nI), .val (.int (47 : Int32)), .val (.int c1), .val (.int c2), .val (.int c3), .val (.int c4), .val (.ref x1), .val (.ref x2), .val (.ref x3), .val (.ref x4), .val (.ref x5), .val (.ref ra), .val (.ref rn), .val (.ref rr), .val (.int (0 : Int32)), .unset] [(.int (47 : Int32)), (.int c1)]))
      by_cases hc9 : c1 = (47 : Int32)
      · skip
        refine Owes.go ?_ fun t₀ k₀ => XS.icmpNo X79.here hx rfl (hb hby at_230) rfl (teq hc9).2 k₀
        show Owes _ _ _ _ (T79.setTop (mkF m 233 #[.val (.int p0), .val (.int p1), .val (.int p2), .val (.int p3), .val (.int p4), .val (.int p5), .val (.int nI), .val (.int (47 : Int32)), .val (.int c1), .val (.int c2), .val (.int c3), .val (.int c4), .val (.ref x1), .val (.ref x2), .val (.ref x3), .val (.ref x4), .val (.ref x5), .val (.ref ra), .val (.ref rn), .val (.ref rr), .val (.int (0 : Int32)), .unset] []))
        refine Owes.go ?_ fun t₀ k₀ => XS.iconst X79.here hx rfl (hb hby at_233) k₀
        show Owes _ _ _ _ (T79.setTop (mkF m 234 #[.val (.int p0), .val (.int p1), .val (.int p2), .val (.int p3), .val (.int p4), .val (.int p5), .val (.int nI), .val (.int (47 : Int32)), .val (.int c1), .val (.int c2), .val (.int c3), .val (.int c4), .val (.ref x1), .val (.ref x2), .val (.ref x3), .val (.ref x4), .val (.ref x5), .val (.ref ra), .val (.ref rn), .val (.ref rr), .val (.int (0 : Int32)), .unset] [(.int (1 : Int32))]))
        refine Owes.go ?_ fun t₀ k₀ => XS.istore X79.here hx rfl (hb hby at_234) rfl (l' := #[.val (.int p0), .val (.int p1), .val (.int p2), .val (.int p3), .val (.int p4), .val (.int p5), .val (.int nI), .val (.int (47 : Int32)), .val (.int c1), .val (.int c2), .val (.int c3), .val (.int c4), .val (.ref x1), .val (.ref x2), .val (.ref x3), .val (.ref x4), .val (.ref x5), .val (.ref ra), .val (.ref rn), .val (.ref rr), .val (.int (1 : Int32)), .unset]) rfl k₀
        show Owes _ _ _ _ (T79.setTop (mkF m 236 #[.val (.int p0), .val (.int p1), .val (.int p2), .val (.int p3), .val (.int p4), .val (.int p5), .val (.int nI), .val (.int (47 : Int32)), .val (.int c1), .val (.int c2), .val (.int c3), .val (.int c4), .val (.ref x1), .val (.ref x2), .val (.ref x3), .val (.ref x4), .val (.ref x5), .val (.ref ra), .val (.ref rn), .val (.ref rr), .val (.int (1 : Int32)), .unset] []))
        exact J236_80 (1 : Int32) ⟨1, rfl, LS.yes (own_ltn (a := 1) rfl hzn hc8) hc9⟩
      · skip
        refine Owes.go ?_ fun t₀ k₀ => XS.icmpYes X79.here hx rfl (pc0 := 230) (pc' := 236) rfl (hb hby at_230) rfl (feq hc9).2 (by decide) (by decide) k₀
        show Owes _ _ _ _ (T79.setTop (mkF m 236 #[.val (.int p0), .val (.int p1), .val (.int p2), .val (.int p3), .val (.int p4), .val (.int p5), .val (.int nI), .val (.int (47 : Int32)), .val (.int c1), .val (.int c2), .val (.int c3), .val (.int c4), .val (.ref x1), .val (.ref x2), .val (.ref x3), .val (.ref x4), .val (.ref x5), .val (.ref ra), .val (.ref rn), .val (.ref rr), .val (.int (0 : Int32)), .unset] []))
        exact J236_80 (0 : Int32) ⟨0, rfl, LS.no (LS.start rfl hnA) hc9⟩
    · skip
      refine Owes.go ?_ fun t₀ k₀ => XS.icmpYes X79.here hx rfl (pc0 := 223) (pc' := 236) rfl (hb hby at_223) rfl (flt hc8).2.2.2 (by decide) (by decide) k₀
      show Owes _ _ _ _ (T79.setTop (mkF m 236 #[.val (.int p0), .val (.int p1), .val (.int p2), .val (.int p3), .val (.int p4), .val (.int p5), .val (.int nI), .val (.int (47 : Int32)), .val (.int c1), .val (.int c2), .val (.int c3), .val (.int c4), .val (.ref x1), .val (.ref x2), .val (.ref x3), .val (.ref x4), .val (.ref x5), .val (.ref ra), .val (.ref rn), .val (.ref rr), .val (.int (0 : Int32)), .unset] []))
      exact J236_80 (0 : Int32) ⟨0, rfl, LS.out (LS.start rfl hnA) (own_nltn (a := 1) rfl hzn hc8)⟩
  refine Owes.go ?_ fun t₀ k₀ => XS.iload X75.here hx rfl (hb hby at_151) rfl k₀
  show Owes _ _ _ _ (T75.setTop (mkF m 153 #[.val (.int p0), .val (.int p1), .val (.int p2), .val (.int p3), .val (.int p4), .val (.int p5), .val (.int nI), .val (.int (47 : Int32)), .val (.int c1), .val (.int c2), .val (.int c3), .val (.int c4), .val (.ref x1), .val (.ref x2), .val (.ref x3), .val (.ref x4), .val (.ref x5), .unset, .unset, .unset, .unset, .unset] [(.int nI)]))
  refine Owes.go ?_ fun t₀ k₀ => XS.iconst X75.here hx rfl (hb hby at_153) k₀
  show Owes _ _ _ _ (T75.setTop (mkF m 154 #[.val (.int p0), .val (.int p1), .val (.int p2), .val (.int p3), .val (.int p4), .val (.int p5), .val (.int nI), .val (.int (47 : Int32)), .val (.int c1), .val (.int c2), .val (.int c3), .val (.int c4), .val (.ref x1), .val (.ref x2), .val (.ref x3), .val (.ref x4), .val (.ref x5), .unset, .unset, .unset, .unset, .unset] [(.int (1 : Int32)), (.int nI)]))
  by_cases hc10 : nI = (1 : Int32)
  · skip
    refine Owes.go ?_ fun t₀ k₀ => XS.icmpNo X75.here hx rfl (hb hby at_154) rfl (teq hc10).2 k₀
    show Owes _ _ _ _ (T75.setTop (mkF m 157 #[.val (.int p0), .val (.int p1), .val (.int p2), .val (.int p3), .val (.int p4), .val (.int p5), .val (.int nI), .val (.int (47 : Int32)), .val (.int c1), .val (.int c2), .val (.int c3), .val (.int c4), .val (.ref x1), .val (.ref x2), .val (.ref x3), .val (.ref x4), .val (.ref x5), .unset, .unset, .unset, .unset, .unset] []))
    refine Owes.go ?_ fun t₀ k₀ => XS.aload X75.here hx rfl (hb hby at_157) rfl rfl k₀
    show Owes _ _ _ _ (T75.setTop (mkF m 159 #[.val (.int p0), .val (.int p1), .val (.int p2), .val (.int p3), .val (.int p4), .val (.int p5), .val (.int nI), .val (.int (47 : Int32)), .val (.int c1), .val (.int c2), .val (.int c3), .val (.int c4), .val (.ref x1), .val (.ref x2), .val (.ref x3), .val (.ref x4), .val (.ref x5), .unset, .unset, .unset, .unset, .unset] [(.ref x1)]))
    refine Owes.go ?_ fun t₀ k₀ => XS.goto X75.here hx rfl (pc0 := 159) (pc' := 197) rfl (hb hby at_159) (by decide) (by decide) k₀
    show Owes _ _ _ _ (T75.setTop (mkF m 197 #[.val (.int p0), .val (.int p1), .val (.int p2), .val (.int p3), .val (.int p4), .val (.int p5), .val (.int nI), .val (.int (47 : Int32)), .val (.int c1), .val (.int c2), .val (.int c3), .val (.int c4), .val (.ref x1), .val (.ref x2), .val (.ref x3), .val (.ref x4), .val (.ref x5), .unset, .unset, .unset, .unset, .unset] [(.ref x1)]))
    exact J197_76 x1 ⟨1, by rw [hc10]; rfl, by omega, by omega, G_x1_75⟩
  · skip
    refine Owes.go ?_ fun t₀ k₀ => XS.icmpYes X75.here hx rfl (pc0 := 154) (pc' := 162) rfl (hb hby at_154) rfl (feq hc10).2 (by decide) (by decide) k₀
    show Owes _ _ _ _ (T75.setTop (mkF m 162 #[.val (.int p0), .val (.int p1), .val (.int p2), .val (.int p3), .val (.int p4), .val (.int p5), .val (.int nI), .val (.int (47 : Int32)), .val (.int c1), .val (.int c2), .val (.int c3), .val (.int c4), .val (.ref x1), .val (.ref x2), .val (.ref x3), .val (.ref x4), .val (.ref x5), .unset, .unset, .unset, .unset, .unset] []))
    refine Owes.go ?_ fun t₀ k₀ => XS.iload X75.here hx rfl (hb hby at_162) rfl k₀
    show Owes _ _ _ _ (T75.setTop (mkF m 164 #[.val (.int p0), .val (.int p1), .val (.int p2), .val (.int p3), .val (.int p4), .val (.int p5), .val (.int nI), .val (.int (47 : Int32)), .val (.int c1), .val (.int c2), .val (.int c3), .val (.int c4), .val (.ref x1), .val (.ref x2), .val (.ref x3), .val (.ref x4), .val (.ref x5), .unset, .unset, .unset, .unset, .unset] [(.int nI)]))
    refine Owes.go ?_ fun t₀ k₀ => XS.iconst X75.here hx rfl (hb hby at_164) k₀
    show Owes _ _ _ _ (T75.setTop (mkF m 165 #[.val (.int p0), .val (.int p1), .val (.int p2), .val (.int p3), .val (.int p4), .val (.int p5), .val (.int nI), .val (.int (47 : Int32)), .val (.int c1), .val (.int c2), .val (.int c3), .val (.int c4), .val (.ref x1), .val (.ref x2), .val (.ref x3), .val (.ref x4), .val (.ref x5), .unset, .unset, .unset, .unset, .unset] [(.int (2 : Int32)), (.int nI)]))
    by_cases hc11 : nI = (2 : Int32)
    · skip
      refine Owes.go ?_ fun t₀ k₀ => XS.icmpNo X75.here hx rfl (hb hby at_165) rfl (teq hc11).2 k₀
      show Owes _ _ _ _ (T75.setTop (mkF m 168 #[.val (.int p0), .val (.int p1), .val (.int p2), .val (.int p3), .val (.int p4), .val (.int p5), .val (.int nI), .val (.int (47 : Int32)), .val (.int c1), .val (.int c2), .val (.int c3), .val (.int c4), .val (.ref x1), .val (.ref x2), .val (.ref x3), .val (.ref x4), .val (.ref x5), .unset, .unset, .unset, .unset, .unset] []))
      refine Owes.go ?_ fun t₀ k₀ => XS.aload X75.here hx rfl (hb hby at_168) rfl rfl k₀
      show Owes _ _ _ _ (T75.setTop (mkF m 170 #[.val (.int p0), .val (.int p1), .val (.int p2), .val (.int p3), .val (.int p4), .val (.int p5), .val (.int nI), .val (.int (47 : Int32)), .val (.int c1), .val (.int c2), .val (.int c3), .val (.int c4), .val (.ref x1), .val (.ref x2), .val (.ref x3), .val (.ref x4), .val (.ref x5), .unset, .unset, .unset, .unset, .unset] [(.ref x2)]))
      refine Owes.go ?_ fun t₀ k₀ => XS.goto X75.here hx rfl (pc0 := 170) (pc' := 197) rfl (hb hby at_170) (by decide) (by decide) k₀
      show Owes _ _ _ _ (T75.setTop (mkF m 197 #[.val (.int p0), .val (.int p1), .val (.int p2), .val (.int p3), .val (.int p4), .val (.int p5), .val (.int nI), .val (.int (47 : Int32)), .val (.int c1), .val (.int c2), .val (.int c3), .val (.int c4), .val (.ref x1), .val (.ref x2), .val (.ref x3), .val (.ref x4), .val (.ref x5), .unset, .unset, .unset, .unset, .unset] [(.ref x2)]))
      exact J197_76 x2 ⟨2, by rw [hc11]; rfl, by omega, by omega, G_x2_75⟩
    · skip
      refine Owes.go ?_ fun t₀ k₀ => XS.icmpYes X75.here hx rfl (pc0 := 165) (pc' := 173) rfl (hb hby at_165) rfl (feq hc11).2 (by decide) (by decide) k₀
      show Owes _ _ _ _ (T75.setTop (mkF m 173 #[.val (.int p0), .val (.int p1), .val (.int p2), .val (.int p3), .val (.int p4), .val (.int p5), .val (.int nI), .val (.int (47 : Int32)), .val (.int c1), .val (.int c2), .val (.int c3), .val (.int c4), .val (.ref x1), .val (.ref x2), .val (.ref x3), .val (.ref x4), .val (.ref x5), .unset, .unset, .unset, .unset, .unset] []))
      refine Owes.go ?_ fun t₀ k₀ => XS.iload X75.here hx rfl (hb hby at_173) rfl k₀
      show Owes _ _ _ _ (T75.setTop (mkF m 175 #[.val (.int p0), .val (.int p1), .val (.int p2), .val (.int p3), .val (.int p4), .val (.int p5), .val (.int nI), .val (.int (47 : Int32)), .val (.int c1), .val (.int c2), .val (.int c3), .val (.int c4), .val (.ref x1), .val (.ref x2), .val (.ref x3), .val (.ref x4), .val (.ref x5), .unset, .unset, .unset, .unset, .unset] [(.int nI)]))
      refine Owes.go ?_ fun t₀ k₀ => XS.iconst X75.here hx rfl (hb hby at_175) k₀
      show Owes _ _ _ _ (T75.setTop (mkF m 176 #[.val (.int p0), .val (.int p1), .val (.int p2), .val (.int p3), .val (.int p4), .val (.int p5), .val (.int nI), .val (.int (47 : Int32)), .val (.int c1), .val (.int c2), .val (.int c3), .val (.int c4), .val (.ref x1), .val (.ref x2), .val (.ref x3), .val (.ref x4), .val (.ref x5), .unset, .unset, .unset, .unset, .unset] [(.int (3 : Int32)), (.int nI)]))
      by_cases hc12 : nI = (3 : Int32)
      · skip
        refine Owes.go ?_ fun t₀ k₀ => XS.icmpNo X75.here hx rfl (hb hby at_176) rfl (teq hc12).2 k₀
        show Owes _ _ _ _ (T75.setTop (mkF m 179 #[.val (.int p0), .val (.int p1), .val (.int p2), .val (.int p3), .val (.int p4), .val (.int p5), .val (.int nI), .val (.int (47 : Int32)), .val (.int c1), .val (.int c2), .val (.int c3), .val (.int c4), .val (.ref x1), .val (.ref x2), .val (.ref x3), .val (.ref x4), .val (.ref x5), .unset, .unset, .unset, .unset, .unset] []))
        refine Owes.go ?_ fun t₀ k₀ => XS.aload X75.here hx rfl (hb hby at_179) rfl rfl k₀
        show Owes _ _ _ _ (T75.setTop (mkF m 181 #[.val (.int p0), .val (.int p1), .val (.int p2), .val (.int p3), .val (.int p4), .val (.int p5), .val (.int nI), .val (.int (47 : Int32)), .val (.int c1), .val (.int c2), .val (.int c3), .val (.int c4), .val (.ref x1), .val (.ref x2), .val (.ref x3), .val (.ref x4), .val (.ref x5), .unset, .unset, .unset, .unset, .unset] [(.ref x3)]))
        refine Owes.go ?_ fun t₀ k₀ => XS.goto X75.here hx rfl (pc0 := 181) (pc' := 197) rfl (hb hby at_181) (by decide) (by decide) k₀
        show Owes _ _ _ _ (T75.setTop (mkF m 197 #[.val (.int p0), .val (.int p1), .val (.int p2), .val (.int p3), .val (.int p4), .val (.int p5), .val (.int nI), .val (.int (47 : Int32)), .val (.int c1), .val (.int c2), .val (.int c3), .val (.int c4), .val (.ref x1), .val (.ref x2), .val (.ref x3), .val (.ref x4), .val (.ref x5), .unset, .unset, .unset, .unset, .unset] [(.ref x3)]))
        exact J197_76 x3 ⟨3, by rw [hc12]; rfl, by omega, by omega, G_x3_75⟩
      · skip
        refine Owes.go ?_ fun t₀ k₀ => XS.icmpYes X75.here hx rfl (pc0 := 176) (pc' := 184) rfl (hb hby at_176) rfl (feq hc12).2 (by decide) (by decide) k₀
        show Owes _ _ _ _ (T75.setTop (mkF m 184 #[.val (.int p0), .val (.int p1), .val (.int p2), .val (.int p3), .val (.int p4), .val (.int p5), .val (.int nI), .val (.int (47 : Int32)), .val (.int c1), .val (.int c2), .val (.int c3), .val (.int c4), .val (.ref x1), .val (.ref x2), .val (.ref x3), .val (.ref x4), .val (.ref x5), .unset, .unset, .unset, .unset, .unset] []))
        refine Owes.go ?_ fun t₀ k₀ => XS.iload X75.here hx rfl (hb hby at_184) rfl k₀
        show Owes _ _ _ _ (T75.setTop (mkF m 186 #[.val (.int p0), .val (.int p1), .val (.int p2), .val (.int p3), .val (.int p4), .val (.int p5), .val (.int nI), .val (.int (47 : Int32)), .val (.int c1), .val (.int c2), .val (.int c3), .val (.int c4), .val (.ref x1), .val (.ref x2), .val (.ref x3), .val (.ref x4), .val (.ref x5), .unset, .unset, .unset, .unset, .unset] [(.int nI)]))
        refine Owes.go ?_ fun t₀ k₀ => XS.iconst X75.here hx rfl (hb hby at_186) k₀
        show Owes _ _ _ _ (T75.setTop (mkF m 187 #[.val (.int p0), .val (.int p1), .val (.int p2), .val (.int p3), .val (.int p4), .val (.int p5), .val (.int nI), .val (.int (47 : Int32)), .val (.int c1), .val (.int c2), .val (.int c3), .val (.int c4), .val (.ref x1), .val (.ref x2), .val (.ref x3), .val (.ref x4), .val (.ref x5), .unset, .unset, .unset, .unset, .unset] [(.int (4 : Int32)), (.int nI)]))
        by_cases hc13 : nI = (4 : Int32)
        · skip
          refine Owes.go ?_ fun t₀ k₀ => XS.icmpNo X75.here hx rfl (hb hby at_187) rfl (teq hc13).2 k₀
          show Owes _ _ _ _ (T75.setTop (mkF m 190 #[.val (.int p0), .val (.int p1), .val (.int p2), .val (.int p3), .val (.int p4), .val (.int p5), .val (.int nI), .val (.int (47 : Int32)), .val (.int c1), .val (.int c2), .val (.int c3), .val (.int c4), .val (.ref x1), .val (.ref x2), .val (.ref x3), .val (.ref x4), .val (.ref x5), .unset, .unset, .unset, .unset, .unset] []))
          refine Owes.go ?_ fun t₀ k₀ => XS.aload X75.here hx rfl (hb hby at_190) rfl rfl k₀
          show Owes _ _ _ _ (T75.setTop (mkF m 192 #[.val (.int p0), .val (.int p1), .val (.int p2), .val (.int p3), .val (.int p4), .val (.int p5), .val (.int nI), .val (.int (47 : Int32)), .val (.int c1), .val (.int c2), .val (.int c3), .val (.int c4), .val (.ref x1), .val (.ref x2), .val (.ref x3), .val (.ref x4), .val (.ref x5), .unset, .unset, .unset, .unset, .unset] [(.ref x4)]))
          refine Owes.go ?_ fun t₀ k₀ => XS.goto X75.here hx rfl (pc0 := 192) (pc' := 197) rfl (hb hby at_192) (by decide) (by decide) k₀
          show Owes _ _ _ _ (T75.setTop (mkF m 197 #[.val (.int p0), .val (.int p1), .val (.int p2), .val (.int p3), .val (.int p4), .val (.int p5), .val (.int nI), .val (.int (47 : Int32)), .val (.int c1), .val (.int c2), .val (.int c3), .val (.int c4), .val (.ref x1), .val (.ref x2), .val (.ref x3), .val (.ref x4), .val (.ref x5), .unset, .unset, .unset, .unset, .unset] [(.ref x4)]))
          exact J197_76 x4 ⟨4, by rw [hc13]; rfl, by omega, by omega, G_x4_75⟩
        · skip
          refine Owes.go ?_ fun t₀ k₀ => XS.icmpYes X75.here hx rfl (pc0 := 187) (pc' := 195) rfl (hb hby at_187) rfl (feq hc13).2 (by decide) (by decide) k₀
          show Owes _ _ _ _ (T75.setTop (mkF m 195 #[.val (.int p0), .val (.int p1), .val (.int p2), .val (.int p3), .val (.int p4), .val (.int p5), .val (.int nI), .val (.int (47 : Int32)), .val (.int c1), .val (.int c2), .val (.int c3), .val (.int c4), .val (.ref x1), .val (.ref x2), .val (.ref x3), .val (.ref x4), .val (.ref x5), .unset, .unset, .unset, .unset, .unset] []))
          refine Owes.go ?_ fun t₀ k₀ => XS.aload X75.here hx rfl (hb hby at_195) rfl rfl k₀
          show Owes _ _ _ _ (T75.setTop (mkF m 197 #[.val (.int p0), .val (.int p1), .val (.int p2), .val (.int p3), .val (.int p4), .val (.int p5), .val (.int nI), .val (.int (47 : Int32)), .val (.int c1), .val (.int c2), .val (.int c3), .val (.int c4), .val (.ref x1), .val (.ref x2), .val (.ref x3), .val (.ref x4), .val (.ref x5), .unset, .unset, .unset, .unset, .unset] [(.ref x5)]))
          exact J197_76 x5 ⟨5, own_five hnn hn1 hn5 hc10 hc11 hc12 hc13, by omega, by omega, GF_x5⟩
theorem own_n0 {args : Array Value} {first s : State} {o : Option Outcome} {idx : List Nat} {t : Term} {x : Int32} (e : t.eval args first o idx s = some (.int x)) (h : (Cond.eq t (.int (0 : Int32))).value args first o s idx = some (!true)) : ¬ x = (0 : Int32) := fun q => by
  subst q
  simp only [Cond.value, Term.eval, e] at h
  simp at h
set_option maxRecDepth 65536 in
set_option maxHeartbeats 40000000 in
theorem comes_1 {Post : Tables → Env → Array Value → State → Outcome → State → Prop} (hpost : ∀ tb e args s v u, (limb_1_1.after args s (.returned v) u = true ∧ limb_1_2.after args s (.returned v) u = true ∧ True) → ReturnedEndW s (.returned v) u (Jvm.fieldLocs frame_1_writes args s ++ Jvm.arrayLocs frame_1_arrays args s ++ Jvm.staticLocs frame_1_statics s) 32 1216 → Post tb e args s (.returned v) u) :
    ArmFor flags0 classFile x code maxLocals ret World_1 tables_1 room_1 Calls_1 rest_1 Pre_1 Post := by
  intro l hfl _ _ p e ha hc hk s m args below hf hA hF happ hP
  obtain ⟨hcalls, hrest, hpre⟩ := hP
  obtain ⟨-, -, -, hnamed, -, -, -, hat⟩ := (Spec.applies_iff hf).mp happ
  obtain ⟨hg, hn⟩ := and_e (Cond.before_iff.mp (show (Jvm.Cond.and given_1 narrow_1).before args s = true from hpre))
  obtain ⟨g1, g2⟩ := and_e hg
  obtain ⟨g3, g4⟩ := and_e g2
  obtain ⟨g5, g6⟩ := and_e g4
  obtain ⟨g7, g8⟩ := and_e g6
  obtain ⟨g9, g10⟩ := and_e g8
  obtain ⟨g11, g12⟩ := and_e g10
  obtain ⟨w0, w1, w2, w3, w4, w5, rfl⟩ : ∃ w0 w1 w2 w3 w4 w5 : Value, args = #[w0, w1, w2, w3, w4, w5] := by
    have hs : args.size = 6 := by simpa [Cond.value, given_1] using g1
    obtain ⟨L⟩ := args
    match L, hs with
    | [w0, w1, w2, w3, w4, w5], _ => exact ⟨w0, w1, w2, w3, w4, w5, rfl⟩
  have hw := fun d (hd : d ∈ tables_1) => atoms_spec (ws := Jvm.Cond.code x code maxLocals ret :: tables_1) hat d (List.mem_cons_of_mem _ hd)
  have hfit : Fit s := fun {y c} hc i hi => by
    obtain ⟨ha, rfl⟩ := Array.getElem?_eq_some_iff.mp hc
    have q := List.all_eq_true.mp ((Array.all_eq_true_iff_forall_mem.mp hF) _ (Array.getElem_mem ha)) i (List.mem_range.mpr hi)
    simpa [Array.getElem?_eq_getElem hi] using q
  obtain ⟨hsets, hown0⟩ := atoms_of _ (rest_1_c_eq ▸ (show rest_1_c.before _ s = true from hrest))
  have hr0 := Cond.before_iff.mp hown0
  obtain ⟨i0, ei0⟩ := is_v g3
  obtain rfl : w0 = (.int i0) := Option.some.inj ei0
  obtain ⟨i1, ei1⟩ := is_v g5
  obtain rfl : w1 = (.int i1) := Option.some.inj ei1
  obtain ⟨i2, ei2⟩ := is_v g7
  obtain rfl : w2 = (.int i2) := Option.some.inj ei2
  obtain ⟨i3, ei3⟩ := is_v g9
  obtain rfl : w3 = (.int i3) := Option.some.inj ei3
  obtain ⟨i4, ei4⟩ := is_v g11
  obtain rfl : w4 = (.int i4) := Option.some.inj ei4
  obtain ⟨i5, ei5⟩ := is_v g12
  obtain rfl : w5 = (.int i5) := Option.some.inj ei5
  obtain ⟨cs, ecs⟩ := is_v (Cond.before_iff.mp (hsets _ (List.mem_of_getElem? (i := 1) rfl)))
  have SC : Sta s s.heap "java/lang/String" "COMPACT_STRINGS" "Z" (.int cs) := Sta.start ecs (Or.inl (hsets _ (List.mem_of_getElem? (i := 0) rfl)))
  have hcs : ¬ cs = (0 : Int32) := own_n0 ecs (not_v (Cond.before_iff.mp (hsets _ (List.mem_of_getElem? (i := 2) rfl))))
  obtain ⟨vf, evf, rvf⟩ := isR_v (Cond.before_iff.mp (hsets _ (List.mem_of_getElem? (i := 8) rfl)))
  have SF : Sta s s.heap "jdk/internal/util/Preconditions" "SIOOBE_FORMATTER" "Ljava/util/function/BiFunction;" vf := Sta.start evf (Or.inl (hsets _ (List.mem_of_getElem? (i := 7) rfl)))
  have hcat : vf.category = 1 := by rcases ref_cases rvf with rfl | ⟨_, rfl⟩ <;> rfl
  have hELs := own_EW s _ hw
  have hCs : CHv s EL0 s.vm s.heap := CHv.start hELs (fun p hp => hcalls.1 p hp) (hsets _ (List.mem_of_getElem? (i := 2) rfl)) (hw _ (List.mem_of_getElem? (i := 24) rfl)) (hw _ (List.mem_of_getElem? (i := 7) rfl))
  obtain ⟨n, o, h1, h2, h3, _, L, rfl, ⟨⟨rfl, N⟩, -⟩, hq⟩ := rm0 l s _ hw hELs tables_1 i0 i1 i2 i3 i4 i5 s.heap s.heap.size (Nat.le_refl _) cs SC hcs vf hcat SF p e ha hc hk s m _ below hf ((Spec.applies_iff_loose hf).mp happ).1 ⟨rfl, State.Warmed39.refl s, rfl, hCs⟩ trivial
  refine ⟨n, _, h1, h2, h3, hpost _ _ _ _ _ _ ⟨Cond.after_iff.mpr rfl, Cond.after_iff.mpr (eq_i res_at (Term.int_eval (1)) rfl), trivial⟩ ⟨hq.1, hq.2.1, hq.2.2.1, (hq.2.2.2.sift fun y hy => Or.inr (N y hy)).mono (by decide) (by decide)⟩⟩
theorem main_1_1 : Claimed_1_1 := comes_1 fun _ _ _ _ _ _ h hF => ⟨h.1, hF⟩
theorem main_1_2 : Claimed_1_2 := comes_1 fun _ _ _ _ _ _ h hF => ⟨h.2.1, hF⟩
end Jvm.Pilot.@@N@@
namespace Jvm.Pilot.@@N@@
open Jvm Jvm.ClassFile Sem Op Lib Jvm.Free Jvm.Stand Jvm.Pilot.@@N@@.Jvm.D
/-! MADE BY PROGRAM (witnessworld.py) out of the Statement's table words and the real class files: 23 classes; the members and pool entries that the words name. The judged class is class 1, her method 1. -/
namespace start1
open Jvm.ClassFile
def u (s : String) : CpInfo := .utf8 (stringToUtf16 s)
/-- a pool by its gaps: so many unusable entries, then the entry; so many at the end -/
def gap : Nat → List CpInfo → List CpInfo
  | 0, r => r
  | n + 1, r => .unusable :: gap n r
def poolList (es : List (Nat × CpInfo)) (last : Nat) : List CpInfo := es.foldr (fun e r => gap e.1 (e.2 :: r)) (gap last [])
def pool (es : List (Nat × CpInfo)) (last : Nat) : Array CpInfo := ⟨poolList es last⟩
def fileOf (pool : Array CpInfo) (this : Nat) (attrs : Array Attribute := #[]) (ms : Array MethodInfo := #[]) (fl : Nat := 33) (sup : Nat := 0) (ifs : Array Nat := #[]) (fds : Array FieldInfo := #[]) : ClassFile where
  minorVersion := 0
  majorVersion := 65
  constantPool := pool
  accessFlags := fl
  thisClass := this
  superClass := sup
  interfaces := ifs
  fields := fds
  methods := ms
  attributes := attrs
def plain (name : String) (sup : Option ClassId) : Class where
  name := name
  kind := .ordinary
  loader := none
  accessFlags := 33
  super := sup
  interfaces := #[]
  cf := none
  fields := #[]
  methods := #[]
  instanceTypes := #[]
  staticTypes := #[]
  resolved := #[]
  callSites := []
  init := .initialized
  statics := none
  mirror := none

def pool0 : Array CpInfo := pool [(5, u "<init>"), (0, u "()V"), (1, .class_ 10), (1, u "java/lang/Object")] 113

def k0c0 : Code := { maxStack := 0, maxLocals := 1, code := object_method_1_code, exceptionTable := #[], attributes := #[] }
def k0m0 : Method := { name := "<init>", desc := "()V", sig := { parameters := [], returnType := none }, accessFlags := 1, code := some k0c0 }
/-- java/lang/Object -/
def k0 : Class := { plain "java/lang/Object" none with
  accessFlags := 33
  interfaces := #[]
  cf := some (fileOf pool0 8 #[] #[{ accessFlags := 1, nameIndex := 5, descriptorIndex := 6, attributes := #[] }] 33 0 #[] #[])
  fields := #[]
  methods := #[k0m0]
  instanceTypes := #[]
  staticTypes := #[]
  resolved := Array.replicate 124 none
  statics := none }

def pool1 : Array CpInfo := pool [(2, .class_ 4), (1, u "java/lang/Object"), (0, u "<init>"), (0, u "()V"), (0, .integer 2147483647), (0, .methodref 9 10), (0, .class_ 11), (0, .nameAndType 12 13), (0, u "com/example/herring/herring/tree/NodePathsParentPinLaw"), (0, u "pick"), (0, u "(III)C"), (0, .class_ 15), (0, u "java/lang/String"), (0, .methodref 14 17), (0, .nameAndType 5 18), (0, u "([C)V"), (0, .methodref 20 21), (0, .class_ 22), (0, .nameAndType 23 24), (0, u "com/example/herring/herring/tree/NodePaths"), (0, u "parent"), (0, u "(Ljava/lang/String;)Ljava/lang/String;"), (0, .methodref 14 26), (0, .nameAndType 27 28), (0, u "length"), (0, u "()I"), (0, .methodref 14 30), (0, .nameAndType 31 32), (0, u "charAt"), (0, u "(I)C"), (0, .methodref 9 34), (0, .nameAndType 35 36), (0, u "at"), (0, u "(Ljava/lang/String;IIC)Z"), (2, u "law"), (0, u "(IIIIII)Z")] 5

def k1m0 : Method := { name := "<init>", desc := "()V", sig := { parameters := [], returnType := none }, accessFlags := 1, code := none }
def k1c1 : Code := { maxStack := 4, maxLocals := 22, code := code, exceptionTable := #[], attributes := #[] }
def k1m1 : Method := { name := "law", desc := "(IIIIII)Z", sig := { parameters := [.int, .int, .int, .int, .int, .int], returnType := some .boolean }, accessFlags := 9, code := some k1c1 }
def k1c2 : Code := { maxStack := 2, maxLocals := 3, code := method_3_code, exceptionTable := #[], attributes := #[] }
def k1m2 : Method := { name := "pick", desc := "(III)C", sig := { parameters := [.int, .int, .int], returnType := some .char }, accessFlags := 10, code := some k1c2 }
def k1c3 : Code := { maxStack := 2, maxLocals := 4, code := method_4_code, exceptionTable := #[], attributes := #[] }
def k1m3 : Method := { name := "at", desc := "(Ljava/lang/String;IIC)Z", sig := { parameters := [(.object "java/lang/String"), .int, .int, .char], returnType := some .boolean }, accessFlags := 10, code := some k1c3 }
/-- com/example/herring/herring/tree/NodePathsParentPinLaw -/
def k1 : Class := { plain "com/example/herring/herring/tree/NodePathsParentPinLaw" (some 0) with
  accessFlags := 49
  interfaces := #[]
  cf := some (fileOf pool1 9 #[] #[{ accessFlags := 1, nameIndex := 5, descriptorIndex := 6, attributes := #[] }, { accessFlags := 9, nameIndex := 39, descriptorIndex := 40, attributes := #[] }, { accessFlags := 10, nameIndex := 12, descriptorIndex := 13, attributes := #[] }, { accessFlags := 10, nameIndex := 35, descriptorIndex := 36, attributes := #[] }] 49 2 #[] #[])
  fields := #[]
  methods := #[k1m0, k1m1, k1m2, k1m3]
  instanceTypes := #[]
  staticTypes := #[]
  resolved := Array.replicate 46 none
  statics := none }

def pool2 : Array CpInfo := pool [(1, .class_ 2), (0, u "java/io/Serializable"), (0, .class_ 4), (0, u "java/lang/Object")] 2

/-- java/io/Serializable -/
def k2 : Class := { plain "java/io/Serializable" (some 0) with
  accessFlags := 1537
  interfaces := #[]
  cf := some (fileOf pool2 1 #[] #[] 1537 3 #[] #[])
  fields := #[]
  methods := #[]
  instanceTypes := #[]
  staticTypes := #[]
  resolved := Array.replicate 7 none
  statics := none }

def pool3 : Array CpInfo := pool [(1, .class_ 2), (0, u "java/lang/Comparable"), (0, .class_ 4), (0, u "java/lang/Object")] 7

/-- java/lang/Comparable -/
def k3 : Class := { plain "java/lang/Comparable" (some 0) with
  accessFlags := 1537
  interfaces := #[]
  cf := some (fileOf pool3 1 #[] #[] 1537 3 #[] #[])
  fields := #[]
  methods := #[]
  instanceTypes := #[]
  staticTypes := #[]
  resolved := Array.replicate 12 none
  statics := none }

def pool4 : Array CpInfo := pool [(2, .class_ 4), (1, u "java/lang/CharSequence"), (42, .class_ 48), (0, u "java/lang/CharSequence$1CodePointIterator"), (10, .class_ 60), (0, u "java/lang/CharSequence$1CharIterator"), (5, .class_ 67), (0, u "java/lang/Object")] 63

/-- java/lang/CharSequence -/
def k4 : Class := { plain "java/lang/CharSequence" (some 0) with
  accessFlags := 1537
  interfaces := #[]
  cf := some (fileOf pool4 2 #[.nestMembers #[47, 59]] #[] 1537 66 #[] #[])
  fields := #[]
  methods := #[]
  instanceTypes := #[]
  staticTypes := #[]
  resolved := Array.replicate 131 none
  statics := none }

def pool5 : Array CpInfo := pool [(1, .class_ 2), (0, u "java/lang/constant/Constable"), (0, .class_ 4), (0, u "java/lang/Object")] 6

/-- java/lang/constant/Constable -/
def k5 : Class := { plain "java/lang/constant/Constable" (some 0) with
  accessFlags := 1537
  interfaces := #[]
  cf := some (fileOf pool5 1 #[] #[] 1537 3 #[] #[])
  fields := #[]
  methods := #[]
  instanceTypes := #[]
  staticTypes := #[]
  resolved := Array.replicate 11 none
  statics := none }

def pool6 : Array CpInfo := pool [(1, .class_ 2), (0, u "java/lang/constant/ConstantDesc"), (0, .class_ 4), (0, u "java/lang/Object")] 32

/-- java/lang/constant/ConstantDesc -/
def k6 : Class := { plain "java/lang/constant/ConstantDesc" (some 0) with
  accessFlags := 1537
  interfaces := #[]
  cf := some (fileOf pool6 1 #[] #[] 1537 3 #[] #[])
  fields := #[]
  methods := #[]
  instanceTypes := #[]
  staticTypes := #[]
  resolved := Array.replicate 37 none
  statics := none }

def pool7 : Array CpInfo := pool [(1, .methodref 2 3), (0, .class_ 4), (0, .nameAndType 5 6), (0, u "java/lang/Object"), (0, u "<init>"), (0, u "()V"), (2, .fieldref 10 11), (0, .class_ 12), (0, .nameAndType 13 14), (0, u "java/lang/String"), (0, u "value"), (0, u "[B"), (0, .fieldref 10 16), (0, .nameAndType 17 18), (0, u "coder"), (0, u "B"), (2, u "hash"), (0, u "I"), (2, u "hashIsZero"), (0, u "Z"), (0, .methodref 10 28), (0, .nameAndType 5 29), (0, u "([CIILjava/lang/Void;)V"), (8, .fieldref 10 39), (0, .nameAndType 40 26), (0, u "COMPACT_STRINGS"), (1, .class_ 44), (1, u "java/lang/StringUTF16"), (0, u "compress"), (1, .methodref 42 48), (0, .nameAndType 49 50), (0, u "coderFromArrayLen"), (0, u "([BI)B"), (46, u "([BII)I"), (9, .class_ 109), (1, u "java/lang/StringLatin1"), (32, u "()Z"), (34, .methodref 42 178), (0, .nameAndType 45 179), (0, u "([CII)[B"), (31, u "([BB)V"), (122, u "()I"), (0, .methodref 10 336), (0, .nameAndType 17 337), (0, u "()B"), (25, u "([BI)C"), (27, u "(II)V"), (35, u "(I)C"), (64, .methodref 10 493), (0, .nameAndType 494 142), (0, u "isLatin1"), (0, .methodref 107 496), (0, .nameAndType 497 363), (0, u "charAt"), (3, u "checkIndex"), (3, .methodref 10 506), (0, .nameAndType 507 334), (0, u "length"), (5, u "checkFromToIndex"), (7, .methodref 10 522), (0, .nameAndType 523 524), (0, u "checkBoundsBeginEnd"), (0, u "(III)V"), (50, .class_ 576), (0, u "java/lang/CharSequence"), (22, u "CASE_INSENSITIVE_ORDER"), (0, u "Ljava/util/Comparator;"), (35, u "(II)I"), (4, .methodref 10 642), (0, .nameAndType 643 636), (0, u "lastIndexOf"), (0, .methodref 107 645), (0, .nameAndType 643 97), (37, u "substring"), (0, u "(II)Ljava/lang/String;"), (0, .methodref 107 686), (0, .nameAndType 687 688), (0, u "newString"), (0, u "([BII)Ljava/lang/String;"), (76, u "(I)I"), (244, u "([C)V"), (42, .fieldref 1054 1055), (0, .class_ 1056), (0, .nameAndType 1057 1058), (0, u "jdk/internal/util/Preconditions"), (0, u "SIOOBE_FORMATTER"), (0, u "Ljava/util/function/BiFunction;"), (0, .methodref 1054 1060), (0, .nameAndType 501 1061), (0, u "(IILjava/util/function/BiFunction;)I"), (0, .methodref 1054 1063), (0, .nameAndType 513 1064), (0, u "(IIILjava/util/function/BiFunction;)I"), (36, u "serialPersistentFields"), (0, u "[Ljava/io/ObjectStreamField;"), (0, .class_ 1104), (0, u "java/lang/String$CaseInsensitiveComparator"), (1, .class_ 1107), (0, u "java/io/Serializable"), (0, .class_ 1109), (0, u "java/lang/Comparable"), (0, .class_ 1111), (0, u "java/lang/constant/Constable"), (0, .class_ 1113), (0, u "java/lang/constant/ConstantDesc"), (2, u "serialVersionUID"), (0, u "J"), (3, u "REPL"), (0, u "C"), (2, u "LATIN1"), (1, u "UTF16")] 323

def k7m0 : Method := { name := "<init>", desc := "()V", sig := { parameters := [], returnType := none }, accessFlags := 1, code := none }
def k7c1 : Code := { maxStack := 5, maxLocals := 2, code := jdk_42_method_3_code, exceptionTable := #[], attributes := #[] }
def k7m1 : Method := { name := "<init>", desc := "([C)V", sig := { parameters := [(.array .char)], returnType := none }, accessFlags := 1, code := some k7c1 }
def k7c2 : Code := { maxStack := 2, maxLocals := 1, code := jdk_42_method_54_code, exceptionTable := #[], attributes := #[] }
def k7m2 : Method := { name := "length", desc := "()I", sig := { parameters := [], returnType := some .int }, accessFlags := 1, code := some k7c2 }
def k7c3 : Code := { maxStack := 2, maxLocals := 2, code := jdk_42_method_56_code, exceptionTable := #[], attributes := #[] }
def k7m3 : Method := { name := "charAt", desc := "(I)C", sig := { parameters := [.int], returnType := some .char }, accessFlags := 1, code := some k7c3 }
def k7c4 : Code := { maxStack := 4, maxLocals := 2, code := jdk_42_method_82_code, exceptionTable := #[], attributes := #[] }
def k7m4 : Method := { name := "lastIndexOf", desc := "(I)I", sig := { parameters := [.int], returnType := some .int }, accessFlags := 1, code := some k7c4 }
def k7c5 : Code := { maxStack := 3, maxLocals := 3, code := jdk_42_method_83_code, exceptionTable := #[], attributes := #[] }
def k7m5 : Method := { name := "lastIndexOf", desc := "(II)I", sig := { parameters := [.int, .int], returnType := some .int }, accessFlags := 1, code := some k7c5 }
def k7c6 : Code := { maxStack := 3, maxLocals := 5, code := jdk_42_method_92_code, exceptionTable := #[], attributes := #[] }
def k7m6 : Method := { name := "substring", desc := "(II)Ljava/lang/String;", sig := { parameters := [.int, .int], returnType := some (.object "java/lang/String") }, accessFlags := 1, code := some k7c6 }
def k7c7 : Code := { maxStack := 4, maxLocals := 6, code := jdk_42_method_149_code, exceptionTable := #[], attributes := #[] }
def k7m7 : Method := { name := "<init>", desc := "([CIILjava/lang/Void;)V", sig := { parameters := [(.array .char), .int, .int, (.object "java/lang/Void")], returnType := none }, accessFlags := 2, code := some k7c7 }
def k7c8 : Code := { maxStack := 2, maxLocals := 3, code := jdk_42_method_151_code, exceptionTable := #[], attributes := #[] }
def k7m8 : Method := { name := "<init>", desc := "([BB)V", sig := { parameters := [(.array .byte), .byte], returnType := none }, accessFlags := 0, code := some k7c8 }
def k7c9 : Code := { maxStack := 1, maxLocals := 1, code := jdk_42_method_152_code, exceptionTable := #[], attributes := #[] }
def k7m9 : Method := { name := "coder", desc := "()B", sig := { parameters := [], returnType := some .byte }, accessFlags := 0, code := some k7c9 }
def k7c10 : Code := { maxStack := 1, maxLocals := 1, code := jdk_42_method_154_code, exceptionTable := #[], attributes := #[] }
def k7m10 : Method := { name := "isLatin1", desc := "()Z", sig := { parameters := [], returnType := some .boolean }, accessFlags := 0, code := some k7c10 }
def k7c11 : Code := { maxStack := 3, maxLocals := 2, code := jdk_42_method_155_code, exceptionTable := #[], attributes := #[] }
def k7m11 : Method := { name := "checkIndex", desc := "(II)V", sig := { parameters := [.int, .int], returnType := none }, accessFlags := 8, code := some k7c11 }
def k7c12 : Code := { maxStack := 4, maxLocals := 3, code := jdk_42_method_158_code, exceptionTable := #[], attributes := #[] }
def k7m12 : Method := { name := "checkBoundsBeginEnd", desc := "(III)V", sig := { parameters := [.int, .int, .int], returnType := none }, accessFlags := 8, code := some k7c12 }
/-- java/lang/String -/
def k7 : Class := { plain "java/lang/String" (some 0) with
  accessFlags := 49
  interfaces := #[2, 3, 4, 5, 6]
  cf := some (fileOf pool7 10 #[.nestMembers #[1103]] #[{ accessFlags := 1, nameIndex := 5, descriptorIndex := 6, attributes := #[] }, { accessFlags := 1, nameIndex := 5, descriptorIndex := 1010, attributes := #[] }, { accessFlags := 1, nameIndex := 507, descriptorIndex := 334, attributes := #[] }, { accessFlags := 1, nameIndex := 497, descriptorIndex := 427, attributes := #[] }, { accessFlags := 1, nameIndex := 643, descriptorIndex := 765, attributes := #[] }, { accessFlags := 1, nameIndex := 643, descriptorIndex := 636, attributes := #[] }, { accessFlags := 1, nameIndex := 683, descriptorIndex := 684, attributes := #[] }, { accessFlags := 2, nameIndex := 5, descriptorIndex := 29, attributes := #[] }, { accessFlags := 0, nameIndex := 5, descriptorIndex := 211, attributes := #[] }, { accessFlags := 0, nameIndex := 17, descriptorIndex := 337, attributes := #[] }, { accessFlags := 0, nameIndex := 494, descriptorIndex := 142, attributes := #[] }, { accessFlags := 8, nameIndex := 501, descriptorIndex := 391, attributes := #[] }, { accessFlags := 8, nameIndex := 523, descriptorIndex := 524, attributes := #[] }] 49 2 #[1106, 1108, 575, 1110, 1112] #[{ accessFlags := 18, nameIndex := 13, descriptorIndex := 14, attributes := #[] }, { accessFlags := 18, nameIndex := 17, descriptorIndex := 18, attributes := #[] }, { accessFlags := 2, nameIndex := 21, descriptorIndex := 22, attributes := #[] }, { accessFlags := 2, nameIndex := 25, descriptorIndex := 26, attributes := #[] }, { accessFlags := 26, nameIndex := 1116, descriptorIndex := 1117, attributes := #[] }, { accessFlags := 24, nameIndex := 40, descriptorIndex := 26, attributes := #[] }, { accessFlags := 26, nameIndex := 1101, descriptorIndex := 1102, attributes := #[] }, { accessFlags := 26, nameIndex := 1121, descriptorIndex := 1122, attributes := #[] }, { accessFlags := 25, nameIndex := 599, descriptorIndex := 600, attributes := #[] }, { accessFlags := 24, nameIndex := 1125, descriptorIndex := 18, attributes := #[] }, { accessFlags := 24, nameIndex := 1127, descriptorIndex := 18, attributes := #[] }])
  fields := #[{ name := "value", type := (.array .byte), accessFlags := 18, slot := 0, constantValue := 0 }, { name := "coder", type := .byte, accessFlags := 18, slot := 1, constantValue := 0 }, { name := "hash", type := .int, accessFlags := 2, slot := 2, constantValue := 0 }, { name := "hashIsZero", type := .boolean, accessFlags := 2, slot := 3, constantValue := 0 }, { name := "serialVersionUID", type := .long, accessFlags := 26, slot := 0, constantValue := 0 }, { name := "COMPACT_STRINGS", type := .boolean, accessFlags := 24, slot := 1, constantValue := 0 }, { name := "serialPersistentFields", type := (.array (.object "java/io/ObjectStreamField")), accessFlags := 26, slot := 2, constantValue := 0 }, { name := "REPL", type := .char, accessFlags := 26, slot := 3, constantValue := 0 }, { name := "CASE_INSENSITIVE_ORDER", type := (.object "java/util/Comparator"), accessFlags := 25, slot := 4, constantValue := 0 }, { name := "LATIN1", type := .byte, accessFlags := 24, slot := 5, constantValue := 0 }, { name := "UTF16", type := .byte, accessFlags := 24, slot := 6, constantValue := 0 }]
  methods := #[k7m0, k7m1, k7m2, k7m3, k7m4, k7m5, k7m6, k7m7, k7m8, k7m9, k7m10, k7m11, k7m12]
  instanceTypes := #[(.array .byte), .byte, .int, .boolean]
  staticTypes := #[.long, .boolean, (.array (.object "java/io/ObjectStreamField")), .char, (.object "java/util/Comparator"), .byte, .byte]
  resolved := Array.replicate 1451 none
  statics := some 0 }

def pool8 : Array CpInfo := pool [(6, .class_ 8), (1, u "java/lang/Object"), (0, u "<init>"), (0, u "()V"), (1, .class_ 14), (1, u "java/lang/StringUTF16"), (31, u "$assertionsDisabled"), (0, u "Z"), (13, u "HI_BYTE_SHIFT"), (0, u "I"), (2, u "LO_BYTE_SHIFT"), (49, .methodref 12 116), (0, .nameAndType 117 118), (0, u "compress"), (0, u "([CI[BII)I"), (3, u "([CII)[B"), (138, u "coderFromArrayLen"), (0, u "([BI)B"), (106, .class_ 371), (1, u "java/lang/StringUTF16$LinesSpliterator"), (58, u "MAX_LENGTH"), (196, .class_ 628), (0, u "java/lang/StringUTF16$CodePointsSpliterator"), (0, .class_ 630), (0, u "java/lang/StringUTF16$CharsSpliterator")] 4

def k8m0 : Method := { name := "<init>", desc := "()V", sig := { parameters := [], returnType := none }, accessFlags := 0, code := none }
def k8c1 : Code := { maxStack := 2, maxLocals := 2, code := jdk_52_method_15_code, exceptionTable := #[], attributes := #[] }
def k8m1 : Method := { name := "coderFromArrayLen", desc := "([BI)B", sig := { parameters := [(.array .byte), .int], returnType := some .byte }, accessFlags := 8, code := some k8c1 }
def k8c2 : Code := { maxStack := 5, maxLocals := 6, code := jdk_52_method_16_code, exceptionTable := #[], attributes := #[] }
def k8m2 : Method := { name := "compress", desc := "([CII)[B", sig := { parameters := [(.array .char), .int, .int], returnType := some (.array .byte) }, accessFlags := 9, code := some k8c2 }
def k8c3 : Code := { maxStack := 3, maxLocals := 7, code := jdk_52_method_21_code, exceptionTable := #[], attributes := #[] }
def k8m3 : Method := { name := "compress", desc := "([CI[BII)I", sig := { parameters := [(.array .char), .int, (.array .byte), .int, .int], returnType := some .int }, accessFlags := 9, code := some k8c3 }
/-- java/lang/StringUTF16 -/
def k8 : Class := { plain "java/lang/StringUTF16" (some 0) with
  accessFlags := 48
  interfaces := #[]
  cf := some (fileOf pool8 12 #[.nestMembers #[627, 629, 369]] #[{ accessFlags := 0, nameIndex := 9, descriptorIndex := 10, attributes := #[] }, { accessFlags := 8, nameIndex := 261, descriptorIndex := 262, attributes := #[] }, { accessFlags := 9, nameIndex := 117, descriptorIndex := 122, attributes := #[] }, { accessFlags := 9, nameIndex := 117, descriptorIndex := 118, attributes := #[] }] 48 6 #[] #[{ accessFlags := 26, nameIndex := 61, descriptorIndex := 62, attributes := #[] }, { accessFlags := 26, nameIndex := 65, descriptorIndex := 62, attributes := #[] }, { accessFlags := 24, nameIndex := 430, descriptorIndex := 62, attributes := #[] }, { accessFlags := 4120, nameIndex := 46, descriptorIndex := 47, attributes := #[] }])
  fields := #[{ name := "HI_BYTE_SHIFT", type := .int, accessFlags := 26, slot := 0, constantValue := 0 }, { name := "LO_BYTE_SHIFT", type := .int, accessFlags := 26, slot := 1, constantValue := 0 }, { name := "MAX_LENGTH", type := .int, accessFlags := 24, slot := 2, constantValue := 0 }, { name := "$assertionsDisabled", type := .boolean, accessFlags := 4120, slot := 3, constantValue := 0 }]
  methods := #[k8m0, k8m1, k8m2, k8m3]
  instanceTypes := #[]
  staticTypes := #[.int, .int, .int, .boolean]
  resolved := Array.replicate 635 none
  statics := none }

def pool9 : Array CpInfo := pool [(2, .class_ 4), (1, u "java/lang/Object"), (0, u "<init>"), (0, u "()V"), (0, .class_ 8), (0, u "com/example/herring/herring/tree/NodePaths"), (0, .string 10), (0, u "/"), (1, .class_ 14), (1, u "java/lang/String"), (15, u "(I)I"), (33, .methodref 12 65), (0, .nameAndType 66 67), (0, u "substring"), (0, u "(II)Ljava/lang/String;"), (3, u "(Ljava/lang/String;)Ljava/lang/String;"), (8, .methodref 12 81), (0, .nameAndType 82 30), (0, u "lastIndexOf"), (34, u "ROOT"), (0, u "Ljava/lang/String;"), (1, u "MAX_SEQUENCE"), (0, u "J"), (8, u "parent")] 20

def k9m0 : Method := { name := "<init>", desc := "()V", sig := { parameters := [], returnType := none }, accessFlags := 2, code := none }
def k9c1 : Code := { maxStack := 3, maxLocals := 2, code := prog_8_method_4_code, exceptionTable := #[], attributes := #[] }
def k9m1 : Method := { name := "parent", desc := "(Ljava/lang/String;)Ljava/lang/String;", sig := { parameters := [(.object "java/lang/String")], returnType := some (.object "java/lang/String") }, accessFlags := 9, code := some k9c1 }
/-- com/example/herring/herring/tree/NodePaths -/
def k9 : Class := { plain "com/example/herring/herring/tree/NodePaths" (some 0) with
  accessFlags := 33
  interfaces := #[]
  cf := some (fileOf pool9 7 #[] #[{ accessFlags := 2, nameIndex := 5, descriptorIndex := 6, attributes := #[] }, { accessFlags := 9, nameIndex := 130, descriptorIndex := 71, attributes := #[] }] 33 2 #[] #[{ accessFlags := 25, nameIndex := 117, descriptorIndex := 118, attributes := #[] }, { accessFlags := 25, nameIndex := 120, descriptorIndex := 121, attributes := #[] }])
  fields := #[{ name := "ROOT", type := (.object "java/lang/String"), accessFlags := 25, slot := 0, constantValue := 0 }, { name := "MAX_SEQUENCE", type := .long, accessFlags := 25, slot := 1, constantValue := 0 }]
  methods := #[k9m0, k9m1]
  instanceTypes := #[]
  staticTypes := #[(.object "java/lang/String"), .long]
  resolved := Array.replicate 151 none
  statics := none }

def pool10 : Array CpInfo := pool [(1, .class_ 2), (0, u "java/lang/String"), (1, .class_ 6), (1, u "java/lang/Object"), (0, u "<init>"), (0, u "()V"), (0, .methodref 1 10), (0, .nameAndType 11 12), (0, u "checkIndex"), (0, u "(II)V"), (1, .class_ 16), (1, u "java/lang/StringLatin1"), (21, .methodref 39 40), (0, .class_ 41), (0, .nameAndType 42 43), (0, u "java/lang/Math"), (0, u "min"), (0, u "(II)I"), (9, u "([BI)C"), (34, .methodref 14 89), (0, .nameAndType 90 91), (0, u "canEncode"), (0, u "(I)Z"), (20, .methodref 1 113), (0, .nameAndType 7 114), (0, u "([BB)V"), (6, u "$assertionsDisabled"), (0, u "Z"), (8, .class_ 133), (1, u "java/util/Arrays"), (62, u "newString"), (0, u "([BII)Ljava/lang/String;"), (23, .class_ 223), (1, u "java/lang/StringLatin1$LinesSpliterator"), (8, .methodref 131 233), (0, .nameAndType 234 235), (0, u "copyOfRange"), (0, u "([BII)[B"), (16, u "charAt"), (8, u "([BII)I"), (47, u "lastIndexOf"), (80, .class_ 391), (0, u "java/lang/StringLatin1$CharsSpliterator")] 3

def k10m0 : Method := { name := "<init>", desc := "()V", sig := { parameters := [], returnType := none }, accessFlags := 0, code := none }
def k10c1 : Code := { maxStack := 2, maxLocals := 2, code := jdk_43_method_2_code, exceptionTable := #[], attributes := #[] }
def k10m1 : Method := { name := "charAt", desc := "([BI)C", sig := { parameters := [(.array .byte), .int], returnType := some .char }, accessFlags := 9, code := some k10c1 }
def k10c2 : Code := { maxStack := 2, maxLocals := 1, code := jdk_43_method_4_code, exceptionTable := #[], attributes := #[] }
def k10m2 : Method := { name := "canEncode", desc := "(I)Z", sig := { parameters := [.int], returnType := some .boolean }, accessFlags := 9, code := some k10c2 }
def k10c3 : Code := { maxStack := 3, maxLocals := 4, code := jdk_43_method_27_code, exceptionTable := #[], attributes := #[] }
def k10m3 : Method := { name := "lastIndexOf", desc := "([BII)I", sig := { parameters := [(.array .byte), .int, .int], returnType := some .int }, accessFlags := 9, code := some k10c3 }
def k10c4 : Code := { maxStack := 6, maxLocals := 3, code := jdk_43_method_47_code, exceptionTable := #[], attributes := #[] }
def k10m4 : Method := { name := "newString", desc := "([BII)Ljava/lang/String;", sig := { parameters := [(.array .byte), .int, .int], returnType := some (.object "java/lang/String") }, accessFlags := 9, code := some k10c4 }
/-- java/lang/StringLatin1 -/
def k10 : Class := { plain "java/lang/StringLatin1" (some 0) with
  accessFlags := 48
  interfaces := #[]
  cf := some (fileOf pool10 14 #[.nestMembers #[390, 221]] #[{ accessFlags := 0, nameIndex := 7, descriptorIndex := 8, attributes := #[] }, { accessFlags := 9, nameIndex := 252, descriptorIndex := 53, attributes := #[] }, { accessFlags := 9, nameIndex := 90, descriptorIndex := 91, attributes := #[] }, { accessFlags := 9, nameIndex := 309, descriptorIndex := 261, attributes := #[] }, { accessFlags := 9, nameIndex := 196, descriptorIndex := 197, attributes := #[] }] 48 4 #[] #[{ accessFlags := 4120, nameIndex := 121, descriptorIndex := 122, attributes := #[] }])
  fields := #[{ name := "$assertionsDisabled", type := .boolean, accessFlags := 4120, slot := 0, constantValue := 0 }]
  methods := #[k10m0, k10m1, k10m2, k10m3, k10m4]
  instanceTypes := #[]
  staticTypes := #[.boolean]
  resolved := Array.replicate 395 none
  statics := none }

def pool11 : Array CpInfo := pool [(1, .class_ 2), (0, u "java/lang/Math"), (1, .class_ 6), (1, u "java/lang/Object"), (0, u "<init>"), (0, u "()V"), (89, .class_ 100), (1, u "java/lang/Math$RandomNumberGeneratorHolder"), (71, u "negativeZeroFloatBits"), (0, u "J"), (2, u "negativeZeroDoubleBits"), (24, u "min"), (43, u "$assertionsDisabled"), (0, u "Z"), (88, u "(II)I"), (2, u "twoToTheDoubleScaleDown"), (0, u "D"), (4, u "twoToTheDoubleScaleUp"), (9, u "E"), (3, u "PI"), (2, u "TAU"), (2, u "DEGREES_TO_RADIANS"), (0, u "RADIANS_TO_DEGREES")] 94

def k11m0 : Method := { name := "<init>", desc := "()V", sig := { parameters := [], returnType := none }, accessFlags := 2, code := none }
def k11c1 : Code := { maxStack := 2, maxLocals := 2, code := jdk_29_method_69_code, exceptionTable := #[], attributes := #[] }
def k11m1 : Method := { name := "min", desc := "(II)I", sig := { parameters := [.int, .int], returnType := some .int }, accessFlags := 9, code := some k11c1 }
/-- java/lang/Math -/
def k11 : Class := { plain "java/lang/Math" (some 0) with
  accessFlags := 49
  interfaces := #[]
  cf := some (fileOf pool11 1 #[.nestMembers #[98]] #[{ accessFlags := 2, nameIndex := 7, descriptorIndex := 8, attributes := #[] }, { accessFlags := 9, nameIndex := 201, descriptorIndex := 335, attributes := #[] }] 49 4 #[] #[{ accessFlags := 25, nameIndex := 354, descriptorIndex := 339, attributes := #[] }, { accessFlags := 25, nameIndex := 358, descriptorIndex := 339, attributes := #[] }, { accessFlags := 25, nameIndex := 361, descriptorIndex := 339, attributes := #[] }, { accessFlags := 26, nameIndex := 364, descriptorIndex := 339, attributes := #[] }, { accessFlags := 26, nameIndex := 365, descriptorIndex := 339, attributes := #[] }, { accessFlags := 26, nameIndex := 172, descriptorIndex := 173, attributes := #[] }, { accessFlags := 26, nameIndex := 176, descriptorIndex := 173, attributes := #[] }, { accessFlags := 8, nameIndex := 344, descriptorIndex := 339, attributes := #[] }, { accessFlags := 8, nameIndex := 338, descriptorIndex := 339, attributes := #[] }, { accessFlags := 4120, nameIndex := 245, descriptorIndex := 246, attributes := #[] }])
  fields := #[{ name := "E", type := .double, accessFlags := 25, slot := 0, constantValue := 0 }, { name := "PI", type := .double, accessFlags := 25, slot := 1, constantValue := 0 }, { name := "TAU", type := .double, accessFlags := 25, slot := 2, constantValue := 0 }, { name := "DEGREES_TO_RADIANS", type := .double, accessFlags := 26, slot := 3, constantValue := 0 }, { name := "RADIANS_TO_DEGREES", type := .double, accessFlags := 26, slot := 4, constantValue := 0 }, { name := "negativeZeroFloatBits", type := .long, accessFlags := 26, slot := 5, constantValue := 0 }, { name := "negativeZeroDoubleBits", type := .long, accessFlags := 26, slot := 6, constantValue := 0 }, { name := "twoToTheDoubleScaleUp", type := .double, accessFlags := 8, slot := 7, constantValue := 0 }, { name := "twoToTheDoubleScaleDown", type := .double, accessFlags := 8, slot := 8, constantValue := 0 }, { name := "$assertionsDisabled", type := .boolean, accessFlags := 4120, slot := 9, constantValue := 0 }]
  methods := #[k11m0, k11m1]
  instanceTypes := #[]
  staticTypes := #[.double, .double, .double, .double, .double, .long, .long, .double, .double, .boolean]
  resolved := Array.replicate 460 none
  statics := none }

def pool12 : Array CpInfo := pool [(2, .class_ 4), (1, u "java/lang/Object"), (0, u "<init>"), (0, u "()V"), (17, .class_ 26), (1, u "jdk/internal/util/Preconditions"), (6, u "checkIndex"), (13, u "checkFromToIndex"), (7, .class_ 56), (0, u "jdk/internal/util/Preconditions$4"), (57, .class_ 115), (0, u "jdk/internal/util/Preconditions$1"), (7, u "SIOOBE_FORMATTER"), (0, u "Ljava/util/function/BiFunction;"), (0, .class_ 126), (0, u "jdk/internal/util/Preconditions$2"), (3, u "AIOOBE_FORMATTER"), (0, .class_ 132), (0, u "jdk/internal/util/Preconditions$3"), (3, u "IOOBE_FORMATTER"), (41, u "(IILjava/util/function/BiFunction;)I"), (4, u "(IIILjava/util/function/BiFunction;)I")] 10

def k12m0 : Method := { name := "<init>", desc := "()V", sig := { parameters := [], returnType := none }, accessFlags := 1, code := none }
def k12c1 : Code := { maxStack := 3, maxLocals := 3, code := jdk_41_method_11_code, exceptionTable := #[], attributes := #[] }
def k12m1 : Method := { name := "checkIndex", desc := "(IILjava/util/function/BiFunction;)I", sig := { parameters := [.int, .int, (.object "java/util/function/BiFunction")], returnType := some .int }, accessFlags := 9, code := some k12c1 }
def k12c2 : Code := { maxStack := 4, maxLocals := 4, code := jdk_41_method_12_code, exceptionTable := #[], attributes := #[] }
def k12m2 : Method := { name := "checkFromToIndex", desc := "(IIILjava/util/function/BiFunction;)I", sig := { parameters := [.int, .int, .int, (.object "java/util/function/BiFunction")], returnType := some .int }, accessFlags := 9, code := some k12c2 }
/-- jdk/internal/util/Preconditions -/
def k12 : Class := { plain "jdk/internal/util/Preconditions" (some 0) with
  accessFlags := 33
  interfaces := #[]
  cf := some (fileOf pool12 24 #[.nestMembers #[55, 131, 125, 114]] #[{ accessFlags := 1, nameIndex := 5, descriptorIndex := 6, attributes := #[] }, { accessFlags := 9, nameIndex := 33, descriptorIndex := 178, attributes := #[] }, { accessFlags := 9, nameIndex := 47, descriptorIndex := 183, attributes := #[] }] 33 2 #[] #[{ accessFlags := 25, nameIndex := 123, descriptorIndex := 124, attributes := #[] }, { accessFlags := 25, nameIndex := 130, descriptorIndex := 124, attributes := #[] }, { accessFlags := 25, nameIndex := 136, descriptorIndex := 124, attributes := #[] }])
  fields := #[{ name := "SIOOBE_FORMATTER", type := (.object "java/util/function/BiFunction"), accessFlags := 25, slot := 0, constantValue := 0 }, { name := "AIOOBE_FORMATTER", type := (.object "java/util/function/BiFunction"), accessFlags := 25, slot := 1, constantValue := 0 }, { name := "IOOBE_FORMATTER", type := (.object "java/util/function/BiFunction"), accessFlags := 25, slot := 2, constantValue := 0 }]
  methods := #[k12m0, k12m1, k12m2]
  instanceTypes := #[]
  staticTypes := #[(.object "java/util/function/BiFunction"), (.object "java/util/function/BiFunction"), (.object "java/util/function/BiFunction")]
  resolved := Array.replicate 194 none
  statics := some 1 }

def pool13 : Array CpInfo := pool [(2, .class_ 4), (1, u "java/lang/Object"), (0, u "<init>"), (0, u "()V"), (7, .class_ 16), (1, u "java/util/Arrays"), (57, .class_ 76), (1, u "java/util/Arrays$NaturalOrder"), (36, .class_ 115), (1, u "java/util/Arrays$LegacyMergeSort"), (1, u "Z"), (21, u "copyOfRange"), (10, .methodref 151 152), (0, .class_ 153), (0, .nameAndType 154 155), (0, u "java/lang/System"), (0, u "arraycopy"), (0, u "(Ljava/lang/Object;ILjava/lang/Object;II)V"), (148, .methodref 305 306), (0, .class_ 307), (0, .nameAndType 308 309), (0, u "java/lang/Math"), (0, u "min"), (0, u "(II)I"), (29, .methodref 14 340), (0, .nameAndType 341 342), (0, u "copyOfRangeByte"), (0, u "([BII)[B"), (0, .methodref 14 344), (0, .nameAndType 345 346), (0, u "checkLength"), (0, u "(II)V"), (28, .class_ 376), (0, u "java/util/Arrays$ArrayList"), (68, u "$assertionsDisabled"), (269, u "MIN_ARRAY_SORT_GRAN"), (0, u "I"), (2, u "INSERTIONSORT_THRESHOLD"), (255, .class_ 976), (0, u "java/util/Arrays$ArrayItr")] 52

def k13m0 : Method := { name := "<init>", desc := "()V", sig := { parameters := [], returnType := none }, accessFlags := 2, code := none }
def k13c1 : Code := { maxStack := 4, maxLocals := 2, code := jdk_65_method_131_code, exceptionTable := #[], attributes := #[] }
def k13m1 : Method := { name := "checkLength", desc := "(II)V", sig := { parameters := [.int, .int], returnType := none }, accessFlags := 10, code := some k13c1 }
def k13c2 : Code := { maxStack := 3, maxLocals := 3, code := jdk_65_method_132_code, exceptionTable := #[], attributes := #[] }
def k13m2 : Method := { name := "copyOfRange", desc := "([BII)[B", sig := { parameters := [(.array .byte), .int, .int], returnType := some (.array .byte) }, accessFlags := 9, code := some k13c2 }
def k13c3 : Code := { maxStack := 6, maxLocals := 5, code := jdk_65_method_133_code, exceptionTable := #[], attributes := #[] }
def k13m3 : Method := { name := "copyOfRangeByte", desc := "([BII)[B", sig := { parameters := [(.array .byte), .int, .int], returnType := some (.array .byte) }, accessFlags := 10, code := some k13c3 }
/-- java/util/Arrays -/
def k13 : Class := { plain "java/util/Arrays" (some 0) with
  accessFlags := 49
  interfaces := #[]
  cf := some (fileOf pool13 14 #[.nestMembers #[975, 375, 113, 74]] #[{ accessFlags := 2, nameIndex := 5, descriptorIndex := 6, attributes := #[] }, { accessFlags := 10, nameIndex := 345, descriptorIndex := 346, attributes := #[] }, { accessFlags := 9, nameIndex := 139, descriptorIndex := 342, attributes := #[] }, { accessFlags := 10, nameIndex := 341, descriptorIndex := 342, attributes := #[] }] 49 2 #[] #[{ accessFlags := 26, nameIndex := 715, descriptorIndex := 716, attributes := #[] }, { accessFlags := 26, nameIndex := 719, descriptorIndex := 716, attributes := #[] }, { accessFlags := 4120, nameIndex := 445, descriptorIndex := 117, attributes := #[] }])
  fields := #[{ name := "MIN_ARRAY_SORT_GRAN", type := .int, accessFlags := 26, slot := 0, constantValue := 0 }, { name := "INSERTIONSORT_THRESHOLD", type := .int, accessFlags := 26, slot := 1, constantValue := 0 }, { name := "$assertionsDisabled", type := .boolean, accessFlags := 4120, slot := 2, constantValue := 0 }]
  methods := #[k13m0, k13m1, k13m2, k13m3]
  instanceTypes := #[]
  staticTypes := #[.int, .int, .boolean]
  resolved := Array.replicate 1029 none
  statics := none }

def pool14 : Array CpInfo := pool [(2, .class_ 4), (1, u "java/lang/Object"), (0, u "<init>"), (0, u "()V"), (1, .class_ 10), (1, u "java/lang/System"), (0, u "allowSecurityManager"), (0, u "I"), (16, u "cons"), (0, u "Ljava/io/Console;"), (77, .class_ 110), (1, u "java/lang/System$CallersHolder"), (43, u "initialErrStream"), (0, u "Ljava/io/PrintStream;"), (19, u "security"), (0, u "Ljava/lang/SecurityManager;"), (31, .class_ 209), (0, u "java/lang/System$1"), (7, u "props"), (0, u "Ljava/util/Properties;"), (2, u "lineSeparator"), (0, u "Ljava/lang/String;"), (96, .class_ 321), (1, u "java/lang/System$LoggerFinder"), (5, .class_ 328), (0, u "java/lang/System$Logger"), (67, u "err"), (2, u "out"), (91, u "notSupportedJnuEncoding"), (15, u "in"), (17, u "initialIn"), (0, u "Ljava/io/InputStream;"), (35, u "bootLayer"), (0, u "Ljava/lang/ModuleLayer;"), (99, .class_ 664), (0, u "java/lang/System$2"), (9, u "NEVER"), (2, u "MAYBE"), (49, u "arraycopy"), (0, u "(Ljava/lang/Object;ILjava/lang/Object;II)V"), (72, .class_ 802), (0, u "java/lang/System$Logger$Level")] 31

def k14m0 : Method := { name := "<init>", desc := "()V", sig := { parameters := [], returnType := none }, accessFlags := 2, code := none }
def k14m1 : Method := { name := "arraycopy", desc := "(Ljava/lang/Object;ILjava/lang/Object;II)V", sig := { parameters := [(.object "java/lang/Object"), .int, (.object "java/lang/Object"), .int, .int], returnType := none }, accessFlags := 265, code := none }
/-- java/lang/System -/
def k14 : Class := { plain "java/lang/System" (some 0) with
  accessFlags := 49
  interfaces := #[]
  cf := some (fileOf pool14 8 #[.nestMembers #[319, 327, 801, 108, 663, 208]] #[{ accessFlags := 2, nameIndex := 5, descriptorIndex := 6, attributes := #[] }, { accessFlags := 265, nameIndex := 727, descriptorIndex := 728, attributes := #[] }] 49 2 #[] #[{ accessFlags := 25, nameIndex := 507, descriptorIndex := 526, attributes := #[] }, { accessFlags := 25, nameIndex := 399, descriptorIndex := 155, attributes := #[] }, { accessFlags := 25, nameIndex := 396, descriptorIndex := 155, attributes := #[] }, { accessFlags := 10, nameIndex := 525, descriptorIndex := 526, attributes := #[] }, { accessFlags := 26, nameIndex := 674, descriptorIndex := 12, attributes := #[] }, { accessFlags := 26, nameIndex := 677, descriptorIndex := 12, attributes := #[] }, { accessFlags := 10, nameIndex := 11, descriptorIndex := 12, attributes := #[] }, { accessFlags := 74, nameIndex := 175, descriptorIndex := 176, attributes := #[] }, { accessFlags := 10, nameIndex := 491, descriptorIndex := 222, attributes := #[] }, { accessFlags := 74, nameIndex := 29, descriptorIndex := 30, attributes := #[] }, { accessFlags := 74, nameIndex := 154, descriptorIndex := 155, attributes := #[] }, { accessFlags := 10, nameIndex := 217, descriptorIndex := 218, attributes := #[] }, { accessFlags := 10, nameIndex := 221, descriptorIndex := 222, attributes := #[] }, { accessFlags := 8, nameIndex := 562, descriptorIndex := 563, attributes := #[] }])
  fields := #[{ name := "in", type := (.object "java/io/InputStream"), accessFlags := 25, slot := 0, constantValue := 0 }, { name := "out", type := (.object "java/io/PrintStream"), accessFlags := 25, slot := 1, constantValue := 0 }, { name := "err", type := (.object "java/io/PrintStream"), accessFlags := 25, slot := 2, constantValue := 0 }, { name := "initialIn", type := (.object "java/io/InputStream"), accessFlags := 10, slot := 3, constantValue := 0 }, { name := "NEVER", type := .int, accessFlags := 26, slot := 4, constantValue := 0 }, { name := "MAYBE", type := .int, accessFlags := 26, slot := 5, constantValue := 0 }, { name := "allowSecurityManager", type := .int, accessFlags := 10, slot := 6, constantValue := 0 }, { name := "security", type := (.object "java/lang/SecurityManager"), accessFlags := 74, slot := 7, constantValue := 0 }, { name := "notSupportedJnuEncoding", type := (.object "java/lang/String"), accessFlags := 10, slot := 8, constantValue := 0 }, { name := "cons", type := (.object "java/io/Console"), accessFlags := 74, slot := 9, constantValue := 0 }, { name := "initialErrStream", type := (.object "java/io/PrintStream"), accessFlags := 74, slot := 10, constantValue := 0 }, { name := "props", type := (.object "java/util/Properties"), accessFlags := 10, slot := 11, constantValue := 0 }, { name := "lineSeparator", type := (.object "java/lang/String"), accessFlags := 10, slot := 12, constantValue := 0 }, { name := "bootLayer", type := (.object "java/lang/ModuleLayer"), accessFlags := 8, slot := 13, constantValue := 0 }]
  methods := #[k14m0, k14m1]
  instanceTypes := #[]
  staticTypes := #[(.object "java/io/InputStream"), (.object "java/io/PrintStream"), (.object "java/io/PrintStream"), (.object "java/io/InputStream"), .int, .int, .int, (.object "java/lang/SecurityManager"), (.object "java/lang/String"), (.object "java/io/Console"), (.object "java/io/PrintStream"), (.object "java/util/Properties"), (.object "java/lang/String"), (.object "java/lang/ModuleLayer")]
  resolved := Array.replicate 834 none
  statics := none }

def pool15 : Array CpInfo := pool [(9, u "<init>"), (6, .class_ 18), (1, u "java/lang/Object"), (0, u "()V"), (1, .class_ 23), (1, u "jdk/internal/util/ArraysSupport"), (0, u "LOG2_ARRAY_LONG_INDEX_SCALE"), (0, u "I"), (2, u "U"), (0, u "Ljdk/internal/misc/Unsafe;"), (8, u "BIG_ENDIAN"), (0, u "Z"), (8, u "LOG2_BYTE_BIT_SIZE"), (4, u "LOG2_ARRAY_INT_INDEX_SCALE"), (54, u "JLA"), (0, u "Ljdk/internal/access/JavaLangAccess;"), (11, u "LOG2_ARRAY_BOOLEAN_INDEX_SCALE"), (9, u "LOG2_ARRAY_BYTE_INDEX_SCALE"), (5, u "LOG2_ARRAY_CHAR_INDEX_SCALE"), (5, u "LOG2_ARRAY_SHORT_INDEX_SCALE"), (18, u "LOG2_ARRAY_FLOAT_INDEX_SCALE"), (24, u "LOG2_ARRAY_DOUBLE_INDEX_SCALE"), (89, u "T_BOOLEAN"), (2, u "T_CHAR"), (1, u "T_FLOAT"), (1, u "T_DOUBLE"), (1, u "T_BYTE"), (1, u "T_SHORT"), (1, u "T_INT"), (1, u "T_LONG"), (1, u "SOFT_MAX_ARRAY_LENGTH")] 83

def k15m0 : Method := { name := "<init>", desc := "()V", sig := { parameters := [], returnType := none }, accessFlags := 2, code := none }
/-- jdk/internal/util/ArraysSupport -/
def k15 : Class := { plain "jdk/internal/util/ArraysSupport" (some 0) with
  accessFlags := 33
  interfaces := #[]
  cf := some (fileOf pool15 21 #[] #[{ accessFlags := 2, nameIndex := 9, descriptorIndex := 19, attributes := #[] }] 33 16 #[] #[{ accessFlags := 24, nameIndex := 28, descriptorIndex := 29, attributes := #[] }, { accessFlags := 26, nameIndex := 38, descriptorIndex := 39, attributes := #[] }, { accessFlags := 25, nameIndex := 121, descriptorIndex := 25, attributes := #[] }, { accessFlags := 25, nameIndex := 131, descriptorIndex := 25, attributes := #[] }, { accessFlags := 25, nameIndex := 137, descriptorIndex := 25, attributes := #[] }, { accessFlags := 25, nameIndex := 143, descriptorIndex := 25, attributes := #[] }, { accessFlags := 25, nameIndex := 53, descriptorIndex := 25, attributes := #[] }, { accessFlags := 25, nameIndex := 24, descriptorIndex := 25, attributes := #[] }, { accessFlags := 25, nameIndex := 162, descriptorIndex := 25, attributes := #[] }, { accessFlags := 25, nameIndex := 187, descriptorIndex := 25, attributes := #[] }, { accessFlags := 26, nameIndex := 48, descriptorIndex := 25, attributes := #[] }, { accessFlags := 25, nameIndex := 277, descriptorIndex := 25, attributes := #[] }, { accessFlags := 25, nameIndex := 280, descriptorIndex := 25, attributes := #[] }, { accessFlags := 25, nameIndex := 282, descriptorIndex := 25, attributes := #[] }, { accessFlags := 25, nameIndex := 284, descriptorIndex := 25, attributes := #[] }, { accessFlags := 25, nameIndex := 286, descriptorIndex := 25, attributes := #[] }, { accessFlags := 25, nameIndex := 288, descriptorIndex := 25, attributes := #[] }, { accessFlags := 25, nameIndex := 290, descriptorIndex := 25, attributes := #[] }, { accessFlags := 25, nameIndex := 292, descriptorIndex := 25, attributes := #[] }, { accessFlags := 26, nameIndex := 108, descriptorIndex := 109, attributes := #[] }, { accessFlags := 25, nameIndex := 294, descriptorIndex := 25, attributes := #[] }])
  fields := #[{ name := "U", type := (.object "jdk/internal/misc/Unsafe"), accessFlags := 24, slot := 0, constantValue := 0 }, { name := "BIG_ENDIAN", type := .boolean, accessFlags := 26, slot := 1, constantValue := 0 }, { name := "LOG2_ARRAY_BOOLEAN_INDEX_SCALE", type := .int, accessFlags := 25, slot := 2, constantValue := 0 }, { name := "LOG2_ARRAY_BYTE_INDEX_SCALE", type := .int, accessFlags := 25, slot := 3, constantValue := 0 }, { name := "LOG2_ARRAY_CHAR_INDEX_SCALE", type := .int, accessFlags := 25, slot := 4, constantValue := 0 }, { name := "LOG2_ARRAY_SHORT_INDEX_SCALE", type := .int, accessFlags := 25, slot := 5, constantValue := 0 }, { name := "LOG2_ARRAY_INT_INDEX_SCALE", type := .int, accessFlags := 25, slot := 6, constantValue := 0 }, { name := "LOG2_ARRAY_LONG_INDEX_SCALE", type := .int, accessFlags := 25, slot := 7, constantValue := 0 }, { name := "LOG2_ARRAY_FLOAT_INDEX_SCALE", type := .int, accessFlags := 25, slot := 8, constantValue := 0 }, { name := "LOG2_ARRAY_DOUBLE_INDEX_SCALE", type := .int, accessFlags := 25, slot := 9, constantValue := 0 }, { name := "LOG2_BYTE_BIT_SIZE", type := .int, accessFlags := 26, slot := 10, constantValue := 0 }, { name := "T_BOOLEAN", type := .int, accessFlags := 25, slot := 11, constantValue := 0 }, { name := "T_CHAR", type := .int, accessFlags := 25, slot := 12, constantValue := 0 }, { name := "T_FLOAT", type := .int, accessFlags := 25, slot := 13, constantValue := 0 }, { name := "T_DOUBLE", type := .int, accessFlags := 25, slot := 14, constantValue := 0 }, { name := "T_BYTE", type := .int, accessFlags := 25, slot := 15, constantValue := 0 }, { name := "T_SHORT", type := .int, accessFlags := 25, slot := 16, constantValue := 0 }, { name := "T_INT", type := .int, accessFlags := 25, slot := 17, constantValue := 0 }, { name := "T_LONG", type := .int, accessFlags := 25, slot := 18, constantValue := 0 }, { name := "JLA", type := (.object "jdk/internal/access/JavaLangAccess"), accessFlags := 26, slot := 19, constantValue := 0 }, { name := "SOFT_MAX_ARRAY_LENGTH", type := .int, accessFlags := 25, slot := 20, constantValue := 0 }]
  methods := #[k15m0]
  instanceTypes := #[]
  staticTypes := #[(.object "jdk/internal/misc/Unsafe"), .boolean, .int, .int, .int, .int, .int, .int, .int, .int, .int, .int, .int, .int, .int, .int, .int, .int, .int, (.object "jdk/internal/access/JavaLangAccess"), .int]
  resolved := Array.replicate 378 none
  statics := none }

def pool16 : Array CpInfo := pool [(1, u "java/lang/Cloneable"), (0, .class_ 1), (0, u "java/lang/Object"), (0, .class_ 3)] 3

/-- java/lang/Cloneable -/
def k16 : Class := { plain "java/lang/Cloneable" (some 0) with
  accessFlags := 1537
  interfaces := #[]
  cf := some (fileOf pool16 2 #[] #[] 1537 4 #[] #[])
  fields := #[]
  methods := #[]
  instanceTypes := #[]
  staticTypes := #[]
  resolved := Array.replicate 8 none
  statics := none }

/-- the primitive byte -/
def k17 : Class := { plain "byte" none with kind := .primitive 'B', accessFlags := 0x411 }
/-- [B -/
def k18 : Class := { plain "[B" (some 0) with kind := .array 17 .byte, interfaces := #[16, 2], accessFlags := 1041 }

/-- the primitive char -/
def k19 : Class := { plain "char" none with kind := .primitive 'C', accessFlags := 0x411 }
/-- [C -/
def k20 : Class := { plain "[C" (some 0) with kind := .array 19 .char, interfaces := #[16, 2], accessFlags := 1041 }

/-- the primitive int -/
def k21 : Class := { plain "int" none with kind := .primitive 'I', accessFlags := 0x411 }
/-- [I -/
def k22 : Class := { plain "[I" (some 0) with kind := .array 21 .int, interfaces := #[16, 2], accessFlags := 1041 }

def heap : Heap := #[{ cls := 7, slots := #[.long 0, .int 1, .null, .int 0, .null, .int 0, .int 0], vm := .statics 7 },
  { cls := 12, slots := #[.null, .null, .null], vm := .statics 12 }]
def classes : Array Class := #[k0, k1, k2, k3, k4, k5, k6, k7, k8, k9, k10, k11, k12, k13, k14, k15, k16, k17, k18, k19, k20, k21, k22]
def interned : List (Array UInt16 × Addr) := []
def slotsUsed : Nat := 10
def theMethod : MethodId := ⟨1, 1⟩
def args0 : Array Value := #[.int 5, .int 1, .int 2, .int 3, .int 4, .int 6]
def aboutOver (below : List Frame) : State where
  vm := { classes := classes, interned := interned.toArray }
  heap := heap
  slotsUsed := slotsUsed
  threads := #[{ frames := .invoking theMethod args0 :: below }]
def below0 : List Frame := [.native { method := ⟨0, 0⟩, args := #[] }]
def about1 : State := aboutOver below0
def p0 : Program := .bare "" "" ""
def e0 : Env := launch0.env 0 0 0
theorem w_frames : about1.frames = Frame.invoking theMethod args0 :: below0 := rfl
set_option maxRecDepth 65536 in
theorem w_args : argsFit about1.vm theMethod args0 = true := by decide +kernel
set_option maxRecDepth 65536 in
theorem w_heap : heapFits about1 = true := by decide +kernel
set_option maxRecDepth 65536 in
theorem w_runnable : about1.curStatus? = some .runnable := by decide +kernel
set_option maxRecDepth 65536 in
theorem w_alone : about1.alone = true := by decide +kernel
set_option maxRecDepth 65536 in
theorem w_named : about1.methodNamed? x = some theMethod := by decide +kernel
set_option maxRecDepth 65536 in
theorem w_hears : about1.hears theMethod below0 = true := by decide +kernel
set_option maxRecDepth 65536 in
theorem w_ripe : about1.ripe theMethod args0 below0 = true := by decide +kernel
theorem w_running : about1.status = .running := rfl
set_option maxRecDepth 65536 in
theorem w_room : about1.hasRoom e0.platform room_1 = true :=
  launch0.hasRoom_least _ room_1 (by decide +kernel) (by decide +kernel) (by decide +kernel) (by decide +kernel) (by decide +kernel) (by decide +kernel)
theorem allAtoms_all (ts : List Jvm.Cond) (a : Array Jvm.Value) (st : Jvm.State) : (allAtoms ts).before a st = ts.all (fun c => c.before a st) := by
  induction ts with
  | nil => rfl
  | cons c t ih =>
    show (Jvm.Cond.and c (allAtoms t)).before a st = _
    rw [Jvm.Cond.before_and, ih, List.all_cons]
def words1 : List Jvm.Cond := Jvm.Cond.code x code maxLocals ret :: tables_1
/-- a 'code' word, met by the world's own term for the bytes: nothing is compared byte by byte -/
theorem code_word {y : MethodName} {bytes : ByteArray} {mx : Nat} {rt : Option FieldType} {a : Array Value} {s : State} {m : MethodId} {meth : Method} {c : Code} (h1 : s.methodNamed? y = some m) (h2 : s.vm.method? m = some meth) (h3 : meth.code = some c) (h4 : c.code = bytes)
    (h5 : (c.maxLocals == mx && c.exceptionTable.isEmpty && decide (c.maxStack ≤ mostOperands) && decide (meth.sig.returnType = rt) && !meth.locks && decide (parseMethodDescriptor y.desc = some meth.sig)) = true) : (Jvm.Cond.code y bytes mx rt).before a s = true := by
  simp only [Bool.and_eq_true, beq_iff_eq, Bool.not_eq_true', decide_eq_true_eq] at h5
  obtain ⟨⟨⟨⟨⟨g1, g2⟩, g3⟩, g4⟩, g5⟩, g6⟩ := h5
  simp [Cond.before, Cond.holds, Cond.value, h1, h2, h3, h4, g1, g2, g3, g4, g5, g6]
def isCode : Jvm.Cond → Bool
  | .code _ _ _ _ => true
  | _ => false
theorem all_split {L : List Jvm.Cond} {P : Jvm.Cond → Bool} (h1 : L.all (fun c => isCode c || P c) = true) (h2 : ∀ c ∈ L.filter isCode, P c = true) : L.all P = true := by
  refine List.all_eq_true.mpr fun c hc => ?_
  have h := List.all_eq_true.mp h1 c hc
  rcases Bool.eq_false_or_eq_true (isCode c) with hi | hi
  · exact h2 c (List.mem_filter.mpr ⟨hc, hi⟩)
  · simpa [hi] using h
set_option maxRecDepth 65536 in
theorem w_c0 : (Jvm.Cond.code x code maxLocals ret).before args0 about1 = true := code_word (m := ⟨1, 1⟩) (meth := k1m1) (c := k1c1) (by decide +kernel) rfl rfl rfl (by decide +kernel)
set_option maxRecDepth 65536 in
theorem w_c1 : (Jvm.Cond.code ({ cls := "com/example/herring/herring/tree/NodePathsParentPinLaw", name := "pick", desc := "(III)C" } : Jvm.MethodName) method_3_code (3 : Nat) (Option.some Jvm.ClassFile.FieldType.char)).before args0 about1 = true := code_word (m := ⟨1, 2⟩) (meth := k1m2) (c := k1c2) (by decide +kernel) rfl rfl rfl (by decide +kernel)
set_option maxRecDepth 65536 in
theorem w_c2 : (Jvm.Cond.code ({ cls := "java/lang/String", name := "<init>", desc := "([C)V" } : Jvm.MethodName) jdk_42_method_3_code (2 : Nat) (Option.none : Option Jvm.ClassFile.FieldType)).before args0 about1 = true := code_word (m := ⟨7, 1⟩) (meth := k7m1) (c := k7c1) (by decide +kernel) rfl rfl rfl (by decide +kernel)
set_option maxRecDepth 65536 in
theorem w_c3 : (Jvm.Cond.code ({ cls := "java/lang/String", name := "<init>", desc := "([CIILjava/lang/Void;)V" } : Jvm.MethodName) jdk_42_method_149_code (6 : Nat) (Option.none : Option Jvm.ClassFile.FieldType)).before args0 about1 = true := code_word (m := ⟨7, 7⟩) (meth := k7m7) (c := k7c7) (by decide +kernel) rfl rfl rfl (by decide +kernel)
set_option maxRecDepth 65536 in
theorem w_c4 : (Jvm.Cond.code ({ cls := "java/lang/Object", name := "<init>", desc := "()V" } : Jvm.MethodName) object_method_1_code (1 : Nat) (Option.none : Option Jvm.ClassFile.FieldType)).before args0 about1 = true := code_word (m := ⟨0, 0⟩) (meth := k0m0) (c := k0c0) (by decide +kernel) rfl rfl rfl (by decide +kernel)
set_option maxRecDepth 65536 in
theorem w_c5 : (Jvm.Cond.code ({ cls := "java/lang/StringUTF16", name := "compress", desc := "([CII)[B" } : Jvm.MethodName) jdk_52_method_16_code (6 : Nat) (Option.some (Jvm.ClassFile.FieldType.array Jvm.ClassFile.FieldType.byte))).before args0 about1 = true := code_word (m := ⟨8, 2⟩) (meth := k8m2) (c := k8c2) (by decide +kernel) rfl rfl rfl (by decide +kernel)
set_option maxRecDepth 65536 in
theorem w_c6 : (Jvm.Cond.code ({ cls := "java/lang/StringUTF16", name := "compress", desc := "([CI[BII)I" } : Jvm.MethodName) jdk_52_method_21_code (7 : Nat) (Option.some Jvm.ClassFile.FieldType.int)).before args0 about1 = true := code_word (m := ⟨8, 3⟩) (meth := k8m3) (c := k8c3) (by decide +kernel) rfl rfl rfl (by decide +kernel)
set_option maxRecDepth 65536 in
theorem w_c7 : (Jvm.Cond.code ({ cls := "java/lang/StringUTF16", name := "coderFromArrayLen", desc := "([BI)B" } : Jvm.MethodName) jdk_52_method_15_code (2 : Nat) (Option.some Jvm.ClassFile.FieldType.byte)).before args0 about1 = true := code_word (m := ⟨8, 1⟩) (meth := k8m1) (c := k8c1) (by decide +kernel) rfl rfl rfl (by decide +kernel)
set_option maxRecDepth 65536 in
theorem w_c8 : (Jvm.Cond.code ({ cls := "com/example/herring/herring/tree/NodePaths", name := "parent", desc := "(Ljava/lang/String;)Ljava/lang/String;" } : Jvm.MethodName) prog_8_method_4_code (2 : Nat) (Option.some (Jvm.ClassFile.FieldType.object "java/lang/String"))).before args0 about1 = true := code_word (m := ⟨9, 1⟩) (meth := k9m1) (c := k9c1) (by decide +kernel) rfl rfl rfl (by decide +kernel)
set_option maxRecDepth 65536 in
theorem w_c9 : (Jvm.Cond.code ({ cls := "java/lang/String", name := "lastIndexOf", desc := "(I)I" } : Jvm.MethodName) jdk_42_method_82_code (2 : Nat) (Option.some Jvm.ClassFile.FieldType.int)).before args0 about1 = true := code_word (m := ⟨7, 4⟩) (meth := k7m4) (c := k7c4) (by decide +kernel) rfl rfl rfl (by decide +kernel)
set_option maxRecDepth 65536 in
theorem w_c10 : (Jvm.Cond.code ({ cls := "java/lang/String", name := "length", desc := "()I" } : Jvm.MethodName) jdk_42_method_54_code (1 : Nat) (Option.some Jvm.ClassFile.FieldType.int)).before args0 about1 = true := code_word (m := ⟨7, 2⟩) (meth := k7m2) (c := k7c2) (by decide +kernel) rfl rfl rfl (by decide +kernel)
set_option maxRecDepth 65536 in
theorem w_c11 : (Jvm.Cond.code ({ cls := "java/lang/String", name := "coder", desc := "()B" } : Jvm.MethodName) jdk_42_method_152_code (1 : Nat) (Option.some Jvm.ClassFile.FieldType.byte)).before args0 about1 = true := code_word (m := ⟨7, 9⟩) (meth := k7m9) (c := k7c9) (by decide +kernel) rfl rfl rfl (by decide +kernel)
set_option maxRecDepth 65536 in
theorem w_c12 : (Jvm.Cond.code ({ cls := "java/lang/String", name := "lastIndexOf", desc := "(II)I" } : Jvm.MethodName) jdk_42_method_83_code (3 : Nat) (Option.some Jvm.ClassFile.FieldType.int)).before args0 about1 = true := code_word (m := ⟨7, 5⟩) (meth := k7m5) (c := k7c5) (by decide +kernel) rfl rfl rfl (by decide +kernel)
set_option maxRecDepth 65536 in
theorem w_c13 : (Jvm.Cond.code ({ cls := "java/lang/String", name := "isLatin1", desc := "()Z" } : Jvm.MethodName) jdk_42_method_154_code (1 : Nat) (Option.some Jvm.ClassFile.FieldType.boolean)).before args0 about1 = true := code_word (m := ⟨7, 10⟩) (meth := k7m10) (c := k7c10) (by decide +kernel) rfl rfl rfl (by decide +kernel)
set_option maxRecDepth 65536 in
theorem w_c14 : (Jvm.Cond.code ({ cls := "java/lang/StringLatin1", name := "lastIndexOf", desc := "([BII)I" } : Jvm.MethodName) jdk_43_method_27_code (4 : Nat) (Option.some Jvm.ClassFile.FieldType.int)).before args0 about1 = true := code_word (m := ⟨10, 3⟩) (meth := k10m3) (c := k10c3) (by decide +kernel) rfl rfl rfl (by decide +kernel)
set_option maxRecDepth 65536 in
theorem w_c15 : (Jvm.Cond.code ({ cls := "java/lang/StringLatin1", name := "canEncode", desc := "(I)Z" } : Jvm.MethodName) jdk_43_method_4_code (1 : Nat) (Option.some Jvm.ClassFile.FieldType.boolean)).before args0 about1 = true := code_word (m := ⟨10, 2⟩) (meth := k10m2) (c := k10c2) (by decide +kernel) rfl rfl rfl (by decide +kernel)
set_option maxRecDepth 65536 in
theorem w_c16 : (Jvm.Cond.code ({ cls := "java/lang/Math", name := "min", desc := "(II)I" } : Jvm.MethodName) jdk_29_method_69_code (2 : Nat) (Option.some Jvm.ClassFile.FieldType.int)).before args0 about1 = true := code_word (m := ⟨11, 1⟩) (meth := k11m1) (c := k11c1) (by decide +kernel) rfl rfl rfl (by decide +kernel)
set_option maxRecDepth 65536 in
theorem w_c17 : (Jvm.Cond.code ({ cls := "java/lang/String", name := "charAt", desc := "(I)C" } : Jvm.MethodName) jdk_42_method_56_code (2 : Nat) (Option.some Jvm.ClassFile.FieldType.char)).before args0 about1 = true := code_word (m := ⟨7, 3⟩) (meth := k7m3) (c := k7c3) (by decide +kernel) rfl rfl rfl (by decide +kernel)
set_option maxRecDepth 65536 in
theorem w_c18 : (Jvm.Cond.code ({ cls := "java/lang/StringLatin1", name := "charAt", desc := "([BI)C" } : Jvm.MethodName) jdk_43_method_2_code (2 : Nat) (Option.some Jvm.ClassFile.FieldType.char)).before args0 about1 = true := code_word (m := ⟨10, 1⟩) (meth := k10m1) (c := k10c1) (by decide +kernel) rfl rfl rfl (by decide +kernel)
set_option maxRecDepth 65536 in
theorem w_c19 : (Jvm.Cond.code ({ cls := "java/lang/String", name := "checkIndex", desc := "(II)V" } : Jvm.MethodName) jdk_42_method_155_code (2 : Nat) (Option.none : Option Jvm.ClassFile.FieldType)).before args0 about1 = true := code_word (m := ⟨7, 11⟩) (meth := k7m11) (c := k7c11) (by decide +kernel) rfl rfl rfl (by decide +kernel)
set_option maxRecDepth 65536 in
theorem w_c20 : (Jvm.Cond.code ({ cls := "jdk/internal/util/Preconditions", name := "checkIndex", desc := "(IILjava/util/function/BiFunction;)I" } : Jvm.MethodName) jdk_41_method_11_code (3 : Nat) (Option.some Jvm.ClassFile.FieldType.int)).before args0 about1 = true := code_word (m := ⟨12, 1⟩) (meth := k12m1) (c := k12c1) (by decide +kernel) rfl rfl rfl (by decide +kernel)
set_option maxRecDepth 65536 in
theorem w_c21 : (Jvm.Cond.code ({ cls := "com/example/herring/herring/tree/NodePathsParentPinLaw", name := "at", desc := "(Ljava/lang/String;IIC)Z" } : Jvm.MethodName) method_4_code (4 : Nat) (Option.some Jvm.ClassFile.FieldType.boolean)).before args0 about1 = true := code_word (m := ⟨1, 3⟩) (meth := k1m3) (c := k1c3) (by decide +kernel) rfl rfl rfl (by decide +kernel)
set_option maxRecDepth 65536 in
theorem w_c22 : (Jvm.Cond.code ({ cls := "java/lang/String", name := "substring", desc := "(II)Ljava/lang/String;" } : Jvm.MethodName) jdk_42_method_92_code (5 : Nat) (Option.some (Jvm.ClassFile.FieldType.object "java/lang/String"))).before args0 about1 = true := code_word (m := ⟨7, 6⟩) (meth := k7m6) (c := k7c6) (by decide +kernel) rfl rfl rfl (by decide +kernel)
set_option maxRecDepth 65536 in
theorem w_c23 : (Jvm.Cond.code ({ cls := "java/lang/String", name := "checkBoundsBeginEnd", desc := "(III)V" } : Jvm.MethodName) jdk_42_method_158_code (3 : Nat) (Option.none : Option Jvm.ClassFile.FieldType)).before args0 about1 = true := code_word (m := ⟨7, 12⟩) (meth := k7m12) (c := k7c12) (by decide +kernel) rfl rfl rfl (by decide +kernel)
set_option maxRecDepth 65536 in
theorem w_c24 : (Jvm.Cond.code ({ cls := "jdk/internal/util/Preconditions", name := "checkFromToIndex", desc := "(IIILjava/util/function/BiFunction;)I" } : Jvm.MethodName) jdk_41_method_12_code (4 : Nat) (Option.some Jvm.ClassFile.FieldType.int)).before args0 about1 = true := code_word (m := ⟨12, 2⟩) (meth := k12m2) (c := k12c2) (by decide +kernel) rfl rfl rfl (by decide +kernel)
set_option maxRecDepth 65536 in
theorem w_c25 : (Jvm.Cond.code ({ cls := "java/lang/StringLatin1", name := "newString", desc := "([BII)Ljava/lang/String;" } : Jvm.MethodName) jdk_43_method_47_code (3 : Nat) (Option.some (Jvm.ClassFile.FieldType.object "java/lang/String"))).before args0 about1 = true := code_word (m := ⟨10, 4⟩) (meth := k10m4) (c := k10c4) (by decide +kernel) rfl rfl rfl (by decide +kernel)
set_option maxRecDepth 65536 in
theorem w_c26 : (Jvm.Cond.code ({ cls := "java/util/Arrays", name := "copyOfRange", desc := "([BII)[B" } : Jvm.MethodName) jdk_65_method_132_code (3 : Nat) (Option.some (Jvm.ClassFile.FieldType.array Jvm.ClassFile.FieldType.byte))).before args0 about1 = true := code_word (m := ⟨13, 2⟩) (meth := k13m2) (c := k13c2) (by decide +kernel) rfl rfl rfl (by decide +kernel)
set_option maxRecDepth 65536 in
theorem w_c27 : (Jvm.Cond.code ({ cls := "java/util/Arrays", name := "copyOfRangeByte", desc := "([BII)[B" } : Jvm.MethodName) jdk_65_method_133_code (5 : Nat) (Option.some (Jvm.ClassFile.FieldType.array Jvm.ClassFile.FieldType.byte))).before args0 about1 = true := code_word (m := ⟨13, 3⟩) (meth := k13m3) (c := k13c3) (by decide +kernel) rfl rfl rfl (by decide +kernel)
set_option maxRecDepth 65536 in
theorem w_c28 : (Jvm.Cond.code ({ cls := "java/util/Arrays", name := "checkLength", desc := "(II)V" } : Jvm.MethodName) jdk_65_method_131_code (2 : Nat) (Option.none : Option Jvm.ClassFile.FieldType)).before args0 about1 = true := code_word (m := ⟨13, 1⟩) (meth := k13m1) (c := k13c1) (by decide +kernel) rfl rfl rfl (by decide +kernel)
set_option maxRecDepth 65536 in
theorem w_c29 : (Jvm.Cond.code ({ cls := "java/lang/String", name := "<init>", desc := "([BB)V" } : Jvm.MethodName) jdk_42_method_151_code (3 : Nat) (Option.none : Option Jvm.ClassFile.FieldType)).before args0 about1 = true := code_word (m := ⟨7, 8⟩) (meth := k7m8) (c := k7c8) (by decide +kernel) rfl rfl rfl (by decide +kernel)
def codes1 : List Jvm.Cond := [Jvm.Cond.code x code maxLocals ret, Jvm.Cond.code ({ cls := "com/example/herring/herring/tree/NodePathsParentPinLaw", name := "pick", desc := "(III)C" } : Jvm.MethodName) method_3_code (3 : Nat) (Option.some Jvm.ClassFile.FieldType.char), Jvm.Cond.code ({ cls := "java/lang/String", name := "<init>", desc := "([C)V" } : Jvm.MethodName) jdk_42_method_3_code (2 : Nat) (Option.none : Option Jvm.ClassFile.FieldType), Jvm.Cond.code ({ cls := "java/lang/String", name := "<init>", desc := "([CIILjava/lang/Void;)V" } : Jvm.MethodName) jdk_42_method_149_code (6 : Nat) (Option.none : Option Jvm.ClassFile.FieldType), Jvm.Cond.code ({ cls := "java/lang/Object", name := "<init>", desc := "()V" } : Jvm.MethodName) object_method_1_code (1 : Nat) (Option.none : Option Jvm.ClassFile.FieldType), Jvm.Cond.code ({ cls := "java/lang/StringUTF16", name := "compress", desc := "([CII)[B" } : Jvm.MethodName) jdk_52_method_16_code (6 : Nat) (Option.some (Jvm.ClassFile.FieldType.array Jvm.ClassFile.FieldType.byte)), Jvm.Cond.code ({ cls := "java/lang/StringUTF16", name := "compress", desc := "([CI[BII)I" } : Jvm.MethodName) jdk_52_method_21_code (7 : Nat) (Option.some Jvm.ClassFile.FieldType.int), Jvm.Cond.code ({ cls := "java/lang/StringUTF16", name := "coderFromArrayLen", desc := "([BI)B" } : Jvm.MethodName) jdk_52_method_15_code (2 : Nat) (Option.some Jvm.ClassFile.FieldType.byte), Jvm.Cond.code ({ cls := "com/example/herring/herring/tree/NodePaths", name := "parent", desc := "(Ljava/lang/String;)Ljava/lang/String;" } : Jvm.MethodName) prog_8_method_4_code (2 : Nat) (Option.some (Jvm.ClassFile.FieldType.object "java/lang/String")), Jvm.Cond.code ({ cls := "java/lang/String", name := "lastIndexOf", desc := "(I)I" } : Jvm.MethodName) jdk_42_method_82_code (2 : Nat) (Option.some Jvm.ClassFile.FieldType.int), Jvm.Cond.code ({ cls := "java/lang/String", name := "length", desc := "()I" } : Jvm.MethodName) jdk_42_method_54_code (1 : Nat) (Option.some Jvm.ClassFile.FieldType.int), Jvm.Cond.code ({ cls := "java/lang/String", name := "coder", desc := "()B" } : Jvm.MethodName) jdk_42_method_152_code (1 : Nat) (Option.some Jvm.ClassFile.FieldType.byte), Jvm.Cond.code ({ cls := "java/lang/String", name := "lastIndexOf", desc := "(II)I" } : Jvm.MethodName) jdk_42_method_83_code (3 : Nat) (Option.some Jvm.ClassFile.FieldType.int), Jvm.Cond.code ({ cls := "java/lang/String", name := "isLatin1", desc := "()Z" } : Jvm.MethodName) jdk_42_method_154_code (1 : Nat) (Option.some Jvm.ClassFile.FieldType.boolean), Jvm.Cond.code ({ cls := "java/lang/StringLatin1", name := "lastIndexOf", desc := "([BII)I" } : Jvm.MethodName) jdk_43_method_27_code (4 : Nat) (Option.some Jvm.ClassFile.FieldType.int), Jvm.Cond.code ({ cls := "java/lang/StringLatin1", name := "canEncode", desc := "(I)Z" } : Jvm.MethodName) jdk_43_method_4_code (1 : Nat) (Option.some Jvm.ClassFile.FieldType.boolean), Jvm.Cond.code ({ cls := "java/lang/Math", name := "min", desc := "(II)I" } : Jvm.MethodName) jdk_29_method_69_code (2 : Nat) (Option.some Jvm.ClassFile.FieldType.int), Jvm.Cond.code ({ cls := "java/lang/String", name := "charAt", desc := "(I)C" } : Jvm.MethodName) jdk_42_method_56_code (2 : Nat) (Option.some Jvm.ClassFile.FieldType.char), Jvm.Cond.code ({ cls := "java/lang/StringLatin1", name := "charAt", desc := "([BI)C" } : Jvm.MethodName) jdk_43_method_2_code (2 : Nat) (Option.some Jvm.ClassFile.FieldType.char), Jvm.Cond.code ({ cls := "java/lang/String", name := "checkIndex", desc := "(II)V" } : Jvm.MethodName) jdk_42_method_155_code (2 : Nat) (Option.none : Option Jvm.ClassFile.FieldType), Jvm.Cond.code ({ cls := "jdk/internal/util/Preconditions", name := "checkIndex", desc := "(IILjava/util/function/BiFunction;)I" } : Jvm.MethodName) jdk_41_method_11_code (3 : Nat) (Option.some Jvm.ClassFile.FieldType.int), Jvm.Cond.code ({ cls := "com/example/herring/herring/tree/NodePathsParentPinLaw", name := "at", desc := "(Ljava/lang/String;IIC)Z" } : Jvm.MethodName) method_4_code (4 : Nat) (Option.some Jvm.ClassFile.FieldType.boolean), Jvm.Cond.code ({ cls := "java/lang/String", name := "substring", desc := "(II)Ljava/lang/String;" } : Jvm.MethodName) jdk_42_method_92_code (5 : Nat) (Option.some (Jvm.ClassFile.FieldType.object "java/lang/String")), Jvm.Cond.code ({ cls := "java/lang/String", name := "checkBoundsBeginEnd", desc := "(III)V" } : Jvm.MethodName) jdk_42_method_158_code (3 : Nat) (Option.none : Option Jvm.ClassFile.FieldType), Jvm.Cond.code ({ cls := "jdk/internal/util/Preconditions", name := "checkFromToIndex", desc := "(IIILjava/util/function/BiFunction;)I" } : Jvm.MethodName) jdk_41_method_12_code (4 : Nat) (Option.some Jvm.ClassFile.FieldType.int), Jvm.Cond.code ({ cls := "java/lang/StringLatin1", name := "newString", desc := "([BII)Ljava/lang/String;" } : Jvm.MethodName) jdk_43_method_47_code (3 : Nat) (Option.some (Jvm.ClassFile.FieldType.object "java/lang/String")), Jvm.Cond.code ({ cls := "java/util/Arrays", name := "copyOfRange", desc := "([BII)[B" } : Jvm.MethodName) jdk_65_method_132_code (3 : Nat) (Option.some (Jvm.ClassFile.FieldType.array Jvm.ClassFile.FieldType.byte)), Jvm.Cond.code ({ cls := "java/util/Arrays", name := "copyOfRangeByte", desc := "([BII)[B" } : Jvm.MethodName) jdk_65_method_133_code (5 : Nat) (Option.some (Jvm.ClassFile.FieldType.array Jvm.ClassFile.FieldType.byte)), Jvm.Cond.code ({ cls := "java/util/Arrays", name := "checkLength", desc := "(II)V" } : Jvm.MethodName) jdk_65_method_131_code (2 : Nat) (Option.none : Option Jvm.ClassFile.FieldType), Jvm.Cond.code ({ cls := "java/lang/String", name := "<init>", desc := "([BB)V" } : Jvm.MethodName) jdk_42_method_151_code (3 : Nat) (Option.none : Option Jvm.ClassFile.FieldType)]
set_option maxRecDepth 65536 in
theorem codes_eq : words1.filter isCode = codes1 := rfl
theorem w_codes : ∀ c ∈ words1.filter isCode, c.before args0 about1 = true := by
  rw [codes_eq]
  intro c hc
  simp only [codes1, List.mem_cons, List.not_mem_nil, or_false] at hc
  rcases hc with rfl | rfl | rfl | rfl | rfl | rfl | rfl | rfl | rfl | rfl | rfl | rfl | rfl | rfl | rfl | rfl | rfl | rfl | rfl | rfl | rfl | rfl | rfl | rfl | rfl | rfl | rfl | rfl | rfl | rfl
  · exact w_c0
  · exact w_c1
  · exact w_c2
  · exact w_c3
  · exact w_c4
  · exact w_c5
  · exact w_c6
  · exact w_c7
  · exact w_c8
  · exact w_c9
  · exact w_c10
  · exact w_c11
  · exact w_c12
  · exact w_c13
  · exact w_c14
  · exact w_c15
  · exact w_c16
  · exact w_c17
  · exact w_c18
  · exact w_c19
  · exact w_c20
  · exact w_c21
  · exact w_c22
  · exact w_c23
  · exact w_c24
  · exact w_c25
  · exact w_c26
  · exact w_c27
  · exact w_c28
  · exact w_c29
set_option maxRecDepth 65536 in
theorem w_t1 : (words1.take 24).all (fun c => isCode c || c.before args0 about1) = true := by decide +kernel
set_option maxRecDepth 65536 in
theorem w_t2 : ((words1.drop 24).take 24).all (fun c => isCode c || c.before args0 about1) = true := by decide +kernel
set_option maxRecDepth 65536 in
theorem w_t3 : (((words1.drop 24).drop 24).take 24).all (fun c => isCode c || c.before args0 about1) = true := by decide +kernel
set_option maxRecDepth 65536 in
theorem w_t4 : ((((words1.drop 24).drop 24).drop 24).take 24).all (fun c => isCode c || c.before args0 about1) = true := by decide +kernel
set_option maxRecDepth 65536 in
theorem w_t5 : (((((words1.drop 24).drop 24).drop 24).drop 24).take 24).all (fun c => isCode c || c.before args0 about1) = true := by decide +kernel
set_option maxRecDepth 65536 in
theorem w_t6 : (((((words1.drop 24).drop 24).drop 24).drop 24).drop 24).all (fun c => isCode c || c.before args0 about1) = true := by decide +kernel
theorem w_tables : (allAtoms (Jvm.Cond.code x code maxLocals ret :: tables_1)).before args0 about1 = true := by
  rw [allAtoms_all]
  show words1.all (fun c => c.before args0 about1) = true
  refine all_split ?_ w_codes
  rw [← List.take_append_drop 24 words1, List.all_append, w_t1, ← List.take_append_drop 24 (words1.drop 24), List.all_append, w_t2, ← List.take_append_drop 24 ((words1.drop 24).drop 24), List.all_append, w_t3, ← List.take_append_drop 24 (((words1.drop 24).drop 24).drop 24), List.all_append, w_t4, ← List.take_append_drop 24 ((((words1.drop 24).drop 24).drop 24).drop 24), List.all_append, w_t5, w_t6]
  rfl
set_option maxRecDepth 65536 in
theorem w_rest : rest_1_c.before args0 about1 = true := by decide +kernel
set_option maxRecDepth 65536 in
theorem w_case : (Jvm.Cond.and given_1 narrow_1).before args0 about1 = true := by decide +kernel
set_option maxRecDepth 65536 in
theorem w_consts : constsHeld consts_1 about1 := Jvm.Lit.constsHeldB_iff.mp (by decide +kernel)
theorem w_applies : (headSpec (Jvm.Cond.code x code maxLocals ret :: tables_1) room_1).applies x e0.platform about1 = true :=
  (Spec.applies_iff w_frames).mpr ⟨w_running, w_runnable, w_alone, w_named, w_hears, w_ripe, w_room, w_tables⟩
theorem atStart : AtStart classFile x code maxLocals ret World_1 tables_1 room_1 Calls_1 rest_1 Pre_1 launch0 p0 e0 about1 theMethod args0 below0 :=
  ⟨lists_1, trivial, launch0.admits_env _ _ _, launch0.least_env, fairChoices_fair.cas, fairChoices_fair.clock, w_frames, w_args, w_heap, w_applies, ⟨w_consts, trivial⟩, w_rest, w_case⟩
end start1
theorem witness_1 : WitnessClaimed_1 := ⟨start1.p0, start1.e0, start1.about1, start1.theMethod, start1.args0, start1.below0, start1.atStart⟩
end Jvm.Pilot.@@N@@
