import JvmDerived
import JvmDerived.Pilot.@@N@@Statement
import JvmDerived.Pilot.@@N@@Code
set_option linter.unusedVariables false
set_option linter.unusedSimpArgs false
namespace Jvm.Pilot.@@N@@
open Jvm Jvm.ClassFile Sem Op Lib Jvm.Free Jvm.Stand Jvm.LawKit Jvm.RoadKit Bundle Jvm.Pilot.@@N@@.Jvm.D
section Own
variable {p : Program} {l : Launch} {e : Env} {R : Room} {s : State} {m : MethodId} {args : Array Value} {below : List Frame} {meth : Method} {c : Code} {T : State} {locs : List Loc} {cells slots : Nat} {Z : State} {a0 : Array Value} {h h0 : Heap} {Q : Option Value → Heap → List Loc → Prop} {S S' : State}
/-- a body's contract: from the heap h0 with the arguments as' it returns, and Q says of the value, the heap and the places written -/
def own_Met (l : Launch) (Z : State) (y : MethodName) (bytes : ByteArray) (maxL : Nat) (rt : Option FieldType) (rm : Room) (as' : Array Value) (h0 : Heap) (Q : Option Value → Heap → List Loc → Prop) : Prop :=
  ∀ ws : List Jvm.Cond, MetFree l y (head1 (Jvm.Cond.code y bytes maxL rt :: ws) rm) (fun a U => a = as' ∧ Z.Warmed39 U.vm ∧ U.heap = h0) (fun _ _ _ _ _ => True) (fun _ U o U' => ∃ v L, o = .returned v ∧ Q v U'.heap L ∧ FrameEnd U o U' L rm.cells rm.slots)
/-- from S the body comes to its end, and Q holds there -/
def own_Ends (p : Program) (e : Env) (below : List Frame) (s : State) (rm : Room) (Q : Option Value → Heap → List Loc → Prop) (S : State) : Prop :=
  ∃ s₂ o, Steps p.tables e below S s₂ ∧ s₂.status = .running ∧ Ended s₂ below o ∧ ∃ v L, o = .returned v ∧ Q v s₂.heap L ∧ FrameEnd s o s₂ L rm.cells rm.slots
theorem own_of (hs : ∀ t, Steps p.tables e below S' t → Steps p.tables e below S t) (k : own_Ends p e below s R Q S') : own_Ends p e below s R Q S := by
  obtain ⟨s₂, o, h1, h2⟩ := k; exact ⟨s₂, o, hs _ h1, h2⟩
theorem own_tr (hs : Steps p.tables e below S S') (k : own_Ends p e below s R Q S') : own_Ends p e below s R Q S := by
  obtain ⟨s₂, o, h1, h2⟩ := k; exact ⟨s₂, o, hs.trans h1, h2⟩
theorem own_ends_mono {Q' : Option Value → Heap → List Loc → Prop} (hq : ∀ v h L, Q v h L → Q' v h L) (k : own_Ends p e below s R Q S) : own_Ends p e below s R Q' S := by
  obtain ⟨s₂, o, h1, h2, h3, v, L, h4, h5, h6⟩ := k; exact ⟨s₂, o, h1, h2, h3, v, L, h4, hq _ _ _ h5, h6⟩
theorem own_met_mono {y : MethodName} {bytes : ByteArray} {maxL : Nat} {rt : Option FieldType} {rm : Room} {as' : Array Value} {Q' : Option Value → Heap → List Loc → Prop} (k : own_Met l Z y bytes maxL rt rm as' h0 Q) (hq : ∀ v h L, Q v h L → Q' v h L) : own_Met l Z y bytes maxL rt rm as' h0 Q' := by
  intro ws p e ha hc hk s m args below hf happ hP hK
  obtain ⟨n, o, g1, g2, g3, v, L, g4, g5, g6⟩ := k ws p e ha hc hk s m args below hf happ hP hK
  exact ⟨n, o, g1, g2, g3, v, L, g4, hq _ _ _ g5, g6⟩
theorem own_body {y : MethodName} {bytes : ByteArray} {maxL : Nat} {rt : Option FieldType} {rm : Room} {as' : Array Value} (hpl : plainFor y = true)
    (body : ∀ (p : Program) (e : Env) (s : State) (m : MethodId) (below : List Frame) (meth : Method) (c : Code) (T : State), Stand p l e rm s m as' below meth c T [] 0 0 → T.heap = h0 → p.tables.exec = Jvm.exec → c.code = bytes → c.maxLocals = maxL → s.vm.findClass y.cls = some m.cls → meth.name = y.name → meth.sig.returnType = rt → meth.locks = false → Z.Warmed39 s.vm → own_Ends p e below s rm Q (T.setTop (entryFrame m as' maxL))) :
    own_Met l Z y bytes maxL rt rm as' h0 Q := by
  intro ws
  refine MetFree.of_bodySF hpl hisR ?_
  intro p e s m args below meth c s₁ Bd hml0 hP hK
  obtain ⟨rfl, hZ, hh⟩ := hP
  exact body p e s m below meth c s₁ (Stand.of_body Bd) (by rw [← hh, Bd.state]; rfl) Bd.exec Bd.bytes hml0 (findClass_of_methodNamed Bd.named) (name_of_methodNamed Bd.named Bd.method).1 Bd.returns Bd.notSynchronized hZ
theorem own_ret (X : Stand p l e R s m args below meth c T locs cells slots) (hlk : meth.locks = false) {v : Option Value} (hv : meth.sig.returnType = none → v = none) (eT : T.heap = h) (hc : cells ≤ R.cells) (hs : slots ≤ R.slots) (hq : Q v h locs)
    (st : ∀ fs : List Frame, (∀ (f : JFrame) (acts : List Action), f.method = m → f.locked = none → f.entered = [] → (doReturn e (T.setTop f) acts v).1 = T.setFrames fs) → Steps p.tables e below S (T.setFrames fs)) : own_Ends p e below s R Q S := by
  subst eT
  obtain ⟨fs, hr, hrun, hended, hW, hsame⟩ := X.leave hv hlk
  exact ⟨_, _, st fs hr, hrun, hended, _, _, rfl, hq, ⟨_, rfl⟩, hW, hsame.mono hc hs⟩
theorem own_retI (X : Stand p l e R s m args below meth c T locs cells slots) (hx : p.tables.exec = Jvm.exec) (hlk : meth.locks = false) (eT : T.heap = h) {pc : Nat} {Ls : Array Slot} {z : Int32} {rest : List Value} (hret : meth.sig.returnType = some .int) (hd : decode c.code pc = .ok (.ireturn, 1))
    (hc : cells ≤ R.cells) (hs : slots ≤ R.slots) (hq : Q (some (.int z)) h locs) : own_Ends p e below s R Q (T.setTop (mkF m pc Ls (.int z :: rest))) :=
  own_ret X hlk (fun q => by rw [hret] at q; cases q) eT hc hs hq fun fs hr => retOut X hx hret rfl (Or.inl ⟨rfl, Or.inl rfl, z, rfl⟩) hd hr
theorem own_retN (X : Stand p l e R s m args below meth c T locs cells slots) (hx : p.tables.exec = Jvm.exec) (hlk : meth.locks = false) (eT : T.heap = h) {pc : Nat} {Ls : Array Slot} {z z' : Int32} {rest : List Value} {t : FieldType} (hret : meth.sig.returnType = some t) (ht : t = .boolean ∨ t = .byte ∨ t = .char ∨ t = .short) (hz : nar t z = z') (hd : decode c.code pc = .ok (.ireturn, 1))
    (hc : cells ≤ R.cells) (hs : slots ≤ R.slots) (hq : Q (some (.int z')) h locs) : own_Ends p e below s R Q (T.setTop (mkF m pc Ls (.int z :: rest))) := by
  subst hz
  exact own_ret X hlk (fun q => by rw [hret] at q; cases q) eT hc hs hq fun fs hr => retN X hx hret ht hd hr
theorem own_retJ (X : Stand p l e R s m args below meth c T locs cells slots) (hx : p.tables.exec = Jvm.exec) (hlk : meth.locks = false) (eT : T.heap = h) {pc : Nat} {Ls : Array Slot} {z : Int64} {rest : List Value} (hret : meth.sig.returnType = some .long) (hd : decode c.code pc = .ok (.lreturn, 1))
    (hc : cells ≤ R.cells) (hs : slots ≤ R.slots) (hq : Q (some (.long z)) h locs) : own_Ends p e below s R Q (T.setTop (mkF m pc Ls (.long z :: rest))) :=
  own_ret X hlk (fun q => by rw [hret] at q; cases q) eT hc hs hq fun fs hr => retOut X hx hret rfl (Or.inr (Or.inl ⟨rfl, rfl, z, rfl⟩)) hd hr
theorem own_retA (X : Stand p l e R s m args below meth c T locs cells slots) (hx : p.tables.exec = Jvm.exec) (hlk : meth.locks = false) (eT : T.heap = h) {pc : Nat} {Ls : Array Slot} {w : Value} {rest : List Value} {t : FieldType} (hret : meth.sig.returnType = some t) (ht : t.isReference = true) (hw : w.isRef = true) (hd : decode c.code pc = .ok (.areturn, 1))
    (hc : cells ≤ R.cells) (hs : slots ≤ R.slots) (hq : Q (some w) h locs) : own_Ends p e below s R Q (T.setTop (mkF m pc Ls (w :: rest))) :=
  own_ret X hlk (fun q => by rw [hret] at q; cases q) eT hc hs hq fun fs hr => retOut X hx hret (by rcases ref_cases hw with rfl | ⟨z, rfl⟩ <;> cases t <;> first | rfl | (simp [FieldType.isReference] at ht)) (Or.inr (Or.inr (Or.inr (Or.inr ⟨rfl, ht, hw⟩)))) hd hr
theorem own_retV (X : Stand p l e R s m args below meth c T locs cells slots) (hx : p.tables.exec = Jvm.exec) (hlk : meth.locks = false) (eT : T.heap = h) {pc : Nat} {Ls : Array Slot} (hret : meth.sig.returnType = none) (hd : decode c.code pc = .ok (.return_, 1))
    (hc : cells ≤ R.cells) (hs : slots ≤ R.slots) (hq : Q none h locs) : own_Ends p e below s R Q (T.setTop (mkF m pc Ls [])) :=
  own_ret X hlk (fun _ => rfl) eT hc hs hq fun fs hr => X.returnOut hx hret hd hr
/-! calls by the callee's contract -/
variable {y z : MethodName} {bytes : ByteArray} {maxL : Nat} {rt : Option FieldType} {rm : Room} {Qc : Option Value → Heap → List Loc → Prop} {own C : String} {index : Nat} {g : JFrame} {argsL rest : List Value} {b : Addr}
theorem own_static (X : Stand p l e R s m args below meth c T locs cells slots) (hx : p.tables.exec = Jvm.exec) (hZ : Z.Warmed39 s.vm) (hown : s.vm.findClass own = some m.cls) (eT : T.heap = h)
    (w1 : (Jvm.Cond.methodLink own index y).before a0 Z = true) (w2 : (Jvm.Cond.static y).before a0 Z = true) (w3 : (Jvm.Cond.initialized y.cls).before a0 Z = true) (w4 : (Jvm.Cond.code y bytes maxL rt).before a0 Z = true)
    (hy : y.cls ≠ "java/lang/invoke/MethodHandle" ∧ y.cls ≠ "java/lang/invoke/VarHandle") (hM : own_Met l Z y bytes maxL rt rm argsL.toArray h Qc)
    (hg : g.method = m) (hsz : g.locals.size = c.maxLocals) (hlen : ∀ sig, parseMethodDescriptor y.desc = some sig → argsL.length = sig.parameters.length) (hst : g.stack = argsL.reverse ++ rest)
    (hf : rm.frames + 1 ≤ R.frames) (hl : (2 * g.monitorRoom + (rest.map fun v => v.category).sum) + (maxL + 11) + rm.locals ≤ R.locals) (hc : cells + rm.cells ≤ R.cells) (hs : slots + rm.slots ≤ R.slots)
    (hd : decode c.code g.pc = .ok (.invokestatic index, 3)) :
    ∃ (v : Option Value) (T' : State) (L : List Loc) (h' : Heap), Stand p l e R s m args below meth c T' (locs ++ L) (cells + rm.cells) (slots + rm.slots) ∧ T'.heap = h' ∧ Qc v h' L ∧ ∀ t, Steps p.tables e below (T'.setTop { g with pc := g.pc + 3, stack := v.toList ++ rest }) t → Steps p.tables e below (T.setTop g) t := by
  obtain ⟨v, _, ⟨T', L', k', n'⟩, -, X', ⟨Lc, hQ, e1, e2, e3⟩, st⟩ := Jvm.LawKit.callS X hx hown (mvT hZ w1) (mvT hZ w2) (mvT hZ w3) (mvT hZ w4) hy (backOf (hM []) hZ w4 w3 hf hl) hg hsz hlen hst (Nat.le_refl _) hd (fun _ _ => ⟨rfl, eT, hc, hs⟩)
  dsimp only [Pt.U, Pt.locs, Pt.cells, Pt.slots] at X' e1 e2 e3 st hQ
  subst e1 e2 e3
  exact ⟨v, T', Lc, _, X', rfl, hQ, st⟩
theorem own_special (X : Stand p l e R s m args below meth c T locs cells slots) (hx : p.tables.exec = Jvm.exec) (hZ : Z.Warmed39 s.vm) (hown : s.vm.findClass own = some m.cls) (eT : T.heap = h) (hy1 : y.name = "<init>")
    (w1 : (Jvm.Cond.methodLink own index y).before a0 Z = true) (w2 : (Jvm.Cond.instanceMethod y).before a0 Z = true) (w3 : (Jvm.Cond.initialized y.cls).before a0 Z = true) (w4 : (Jvm.Cond.code y bytes maxL none).before a0 Z = true)
    (hy : y.cls ≠ "java/lang/invoke/MethodHandle" ∧ y.cls ≠ "java/lang/invoke/VarHandle") (hM : own_Met l Z y bytes maxL none rm (.ref b :: argsL).toArray h Qc)
    (hg : g.method = m) (hsz : g.locals.size = c.maxLocals) (hlen : ∀ sig, parseMethodDescriptor y.desc = some sig → argsL.length = sig.parameters.length) (hst : g.stack = argsL.reverse ++ .ref b :: rest)
    (hf : rm.frames + 1 ≤ R.frames) (hl : (2 * g.monitorRoom + (rest.map fun v => v.category).sum) + (maxL + 11) + rm.locals ≤ R.locals) (hc : cells + rm.cells ≤ R.cells) (hs : slots + rm.slots ≤ R.slots)
    (hd : decode c.code g.pc = .ok (.invokespecial index, 3)) :
    ∃ (v : Option Value) (T' : State) (L : List Loc) (h' : Heap), Stand p l e R s m args below meth c T' (locs ++ L) (cells + rm.cells) (slots + rm.slots) ∧ T'.heap = h' ∧ Qc v h' L ∧ ∀ t, Steps p.tables e below (T'.setTop { g with pc := g.pc + 3, stack := v.toList ++ rest }) t → Steps p.tables e below (T.setTop g) t := by
  obtain ⟨v, _, ⟨T', L', k', n'⟩, -, X', ⟨Lc, hQ, e1, e2, e3⟩, st⟩ := X.specialBack hx hy1 hown (mvT hZ w1) (mvT hZ w2) (mvT hZ w4) hy (backOf (hM []) hZ w4 w3 hf hl) hg hsz (Steps.refl _) hlen hst (Nat.le_refl _) hd (fun _ _ => ⟨rfl, eT, hc, hs⟩)
  dsimp only [Pt.U, Pt.locs, Pt.cells, Pt.slots] at X' e1 e2 e3 st hQ
  subst e1 e2 e3
  exact ⟨v, T', Lc, _, X', rfl, hQ, fun t k => st.trans k⟩
theorem own_virtual (X : Stand p l e R s m args below meth c T locs cells slots) (hx : p.tables.exec = Jvm.exec) (hZ : Z.Warmed39 s.vm) (hown : s.vm.findClass own = some m.cls) (eT : T.heap = h) (E : Exa Z h b C)
    (w1 : (Jvm.Cond.methodLink own index y).before a0 Z = true) (w2 : (Jvm.Cond.declares y).before a0 Z = true) (hnf : NotFace s y) (w5 : (Jvm.Cond.selects C y z).before a0 Z = true) (w6 : (Jvm.Cond.instanceMethod z).before a0 Z = true) (w3 : (Jvm.Cond.initialized z.cls).before a0 Z = true) (w4 : (Jvm.Cond.code z bytes maxL rt).before a0 Z = true)
    (hy : y.cls ≠ "java/lang/invoke/MethodHandle" ∧ y.cls ≠ "java/lang/invoke/VarHandle") (hM : own_Met l Z z bytes maxL rt rm (.ref b :: argsL).toArray h Qc)
    (hg : g.method = m) (hsz : g.locals.size = c.maxLocals) (hlen : ∀ sig, parseMethodDescriptor y.desc = some sig → argsL.length = sig.parameters.length) (hst : g.stack = argsL.reverse ++ .ref b :: rest)
    (hf : rm.frames + 1 ≤ R.frames) (hl : (2 * g.monitorRoom + (rest.map fun v => v.category).sum) + (maxL + 11) + rm.locals ≤ R.locals) (hc : cells + rm.cells ≤ R.cells) (hs : slots + rm.slots ≤ R.slots)
    (hd : decode c.code g.pc = .ok (.invokevirtual index, 3)) :
    ∃ (v : Option Value) (T' : State) (L : List Loc) (h' : Heap), Stand p l e R s m args below meth c T' (locs ++ L) (cells + rm.cells) (slots + rm.slots) ∧ T'.heap = h' ∧ Qc v h' L ∧ ∀ t, Steps p.tables e below (T'.setTop { g with pc := g.pc + 3, stack := v.toList ++ rest }) t → Steps p.tables e below (T.setTop g) t := by
  obtain ⟨cq, kq, qa, qb, qc⟩ := isOf hZ eT E
  obtain ⟨v, _, ⟨T', L', k', n'⟩, -, X', ⟨Lc, hQ, e1, e2, e3⟩, st⟩ := X.virtualBack hx hown (mvT hZ w1) (mvT hZ w2) hnf (mvT hZ w5) (mvT hZ w6) hy (backOf (hM []) hZ w4 w3 hf hl) qa qc hg hsz (Steps.refl _) hlen hst (Nat.le_refl _) hd (fun _ _ => ⟨rfl, eT, hc, hs⟩)
  dsimp only [Pt.U, Pt.locs, Pt.cells, Pt.slots] at X' e1 e2 e3 st hQ
  subst e1 e2 e3
  exact ⟨v, T', Lc, _, X', rfl, hQ, fun t k => st.trans k⟩
theorem own_virtualUp {owner : String} (X : Stand p l e R s m args below meth c T locs cells slots) (hx : p.tables.exec = Jvm.exec) (hZ : Z.Warmed39 s.vm) (hown : s.vm.findClass own = some m.cls) (eT : T.heap = h) (E : Exa Z h b C)
    (w1 : (Jvm.Cond.methodLink own index y).before a0 Z = true) (w7 : (Jvm.Cond.sameMethod y.cls owner y.name y.desc).before a0 Z = true) (w2 : (Jvm.Cond.declares ⟨owner, y.name, y.desc⟩).before a0 Z = true) (w5 : (Jvm.Cond.selects C y z).before a0 Z = true) (w6 : (Jvm.Cond.instanceMethod z).before a0 Z = true) (w3 : (Jvm.Cond.initialized z.cls).before a0 Z = true) (w4 : (Jvm.Cond.code z bytes maxL rt).before a0 Z = true)
    (hy : owner ≠ "java/lang/invoke/MethodHandle" ∧ owner ≠ "java/lang/invoke/VarHandle") (hM : own_Met l Z z bytes maxL rt rm (.ref b :: argsL).toArray h Qc)
    (hg : g.method = m) (hsz : g.locals.size = c.maxLocals) (hlen : ∀ sig, parseMethodDescriptor y.desc = some sig → argsL.length = sig.parameters.length) (hst : g.stack = argsL.reverse ++ .ref b :: rest)
    (hf : rm.frames + 1 ≤ R.frames) (hl : (2 * g.monitorRoom + (rest.map fun v => v.category).sum) + (maxL + 11) + rm.locals ≤ R.locals) (hc : cells + rm.cells ≤ R.cells) (hs : slots + rm.slots ≤ R.slots)
    (hd : decode c.code g.pc = .ok (.invokevirtual index, 3)) :
    ∃ (v : Option Value) (T' : State) (L : List Loc) (h' : Heap), Stand p l e R s m args below meth c T' (locs ++ L) (cells + rm.cells) (slots + rm.slots) ∧ T'.heap = h' ∧ Qc v h' L ∧ ∀ t, Steps p.tables e below (T'.setTop { g with pc := g.pc + 3, stack := v.toList ++ rest }) t → Steps p.tables e below (T.setTop g) t := by
  obtain ⟨cq, kq, qa, qb, qc⟩ := isOf hZ eT E
  obtain ⟨v, _, ⟨T', L', k', n'⟩, -, X', ⟨Lc, hQ, e1, e2, e3⟩, st⟩ := X.virtualBackUp hx hown (mvT hZ w1) (mvT hZ w7) (mvT hZ w2) hy (mvT hZ w5) (mvT hZ w6) (backOf (hM []) hZ w4 w3 hf hl) qa qc hg hsz (Steps.refl _) hlen hst (Nat.le_refl _) hd (fun _ _ => ⟨rfl, eT, hc, hs⟩)
  dsimp only [Pt.U, Pt.locs, Pt.cells, Pt.slots] at X' e1 e2 e3 st hQ
  subst e1 e2 e3
  exact ⟨v, T', Lc, _, X', rfl, hQ, fun t k => st.trans k⟩
end Own
section OwnW
variable {p : Program} {l : Launch} {e : Env} {R : Room} {s : State} {m : MethodId} {args : Array Value} {below : List Frame} {meth : Method} {c : Code} {T : State} {locs : List Loc} {cells slots : Nat} {Z : State} {a0 : Array Value} {h h0 : Heap} {Q : Option Value → Heap → List Loc → Prop} {S S' : State} {EL : List (String × Nat)} {vm0 : Vm} {k0 : Nat}
/-- a body's contract, where it may load String constants: the booked constants of EL say their texts, and go on doing so -/
def own_MetW (l : Launch) (Z : State) (EL : List (String × Nat)) (y : MethodName) (bytes : ByteArray) (maxL : Nat) (rt : Option FieldType) (rm : Room) (as' : Array Value) (h0 : Heap) (Q : Option Value → Heap → List Loc → Prop) : Prop :=
  ∀ ws : List Jvm.Cond, MetFree l y (head1 (Jvm.Cond.code y bytes maxL rt :: ws) rm) (fun a U => a = as' ∧ Z.Warmed39 U.vm ∧ U.heap = h0 ∧ CHv Z EL U.vm h0) (fun _ _ _ _ _ => True) (fun _ U o U' => ∃ v L, o = .returned v ∧ Q v U'.heap L ∧ CHr Z EL U.vm U.heap U'.vm U'.heap ∧ ReturnedEndW U o U' L rm.cells rm.slots)
def own_EndsW (Z : State) (EL : List (String × Nat)) (p : Program) (e : Env) (below : List Frame) (s : State) (rm : Room) (Q : Option Value → Heap → List Loc → Prop) (S : State) : Prop :=
  ∃ s₂ o, Steps p.tables e below S s₂ ∧ s₂.status = .running ∧ Ended s₂ below o ∧ ∃ v L, o = .returned v ∧ Q v s₂.heap L ∧ CHr Z EL s.vm s.heap s₂.vm s₂.heap ∧ ReturnedEndW s o s₂ L rm.cells rm.slots
theorem own_ofW (hs : ∀ t, Steps p.tables e below S' t → Steps p.tables e below S t) (k : own_EndsW Z EL p e below s R Q S') : own_EndsW Z EL p e below s R Q S := by
  obtain ⟨s₂, o, h1, h2⟩ := k; exact ⟨s₂, o, hs _ h1, h2⟩
theorem own_metW_mono {y : MethodName} {bytes : ByteArray} {maxL : Nat} {rt : Option FieldType} {rm : Room} {as' : Array Value} {Q' : Option Value → Heap → List Loc → Prop} (k : own_MetW l Z EL y bytes maxL rt rm as' h0 Q) (hq : ∀ v h L, Q v h L → Q' v h L) : own_MetW l Z EL y bytes maxL rt rm as' h0 Q' := by
  intro ws p e ha hc hk s m args below hf happ hP hK
  obtain ⟨n, o, g1, g2, g3, v, L, g4, g5, g6⟩ := k ws p e ha hc hk s m args below hf happ hP hK
  exact ⟨n, o, g1, g2, g3, v, L, g4, hq _ _ _ g5, g6⟩
theorem own_bodyW {y : MethodName} {bytes : ByteArray} {maxL : Nat} {rt : Option FieldType} {rm : Room} {as' : Array Value} (hpl : plainFor y = true)
    (body : ∀ (p : Program) (e : Env) (s : State) (m : MethodId) (below : List Frame) (meth : Method) (c : Code) (T : State), Stand p l e rm (s.setVm s.vm) m as' below meth c T [] 0 0 → T.heap = h0 → s.heap = h0 → p.tables.exec = Jvm.exec → c.code = bytes → c.maxLocals = maxL → (s.setVm s.vm).vm.findClass y.cls = some m.cls → meth.name = y.name → meth.sig.returnType = rt → meth.locks = false → Z.Warmed39 (s.setVm s.vm).vm → s.Since s.vm 0 → CHr Z EL s.vm h0 s.vm h0 → own_EndsW Z EL p e below s rm Q (T.setTop (entryFrame m as' maxL))) :
    own_MetW l Z EL y bytes maxL rt rm as' h0 Q := by
  intro ws
  refine MetFree.of_bodySF hpl hisR ?_
  intro p e s m args below meth c s₁ Bd hml0 hP hK
  obtain ⟨rfl, hZ, hh, hC⟩ := hP
  exact body p e s m below meth c s₁ (Stand.of_body Bd) (by rw [← hh, Bd.state]; rfl) hh Bd.exec Bd.bytes hml0 (findClass_of_methodNamed Bd.named) (name_of_methodNamed Bd.named Bd.method).1 Bd.returns Bd.notSynchronized hZ ((State.WarmedH.refl s).since 0) (CHr.refl hC)
theorem own_retW (X : Stand p l e R (s.setVm vm0) m args below meth c T locs cells slots) (hlk : meth.locks = false) {v : Option Value} (hv : meth.sig.returnType = none → v = none) (hZ : Z.Warmed39 (s.setVm vm0).vm) (hS : s.Since vm0 k0) (eT : T.heap = h) (hk : k0 ≤ h.size) (es : s.heap = h0) (hEL : EW Z a0 EL) (HC : CHr Z EL s.vm h0 vm0 h) (hc : cells ≤ R.cells) (hs : slots ≤ R.slots) (hq : Q v h locs)
    (st : ∀ fs : List Frame, (∀ (f : JFrame) (acts : List Action), f.method = m → f.locked = none → f.entered = [] → (doReturn e (T.setTop f) acts v).1 = T.setFrames fs) → Steps p.tables e below S (T.setFrames fs)) : own_EndsW Z EL p e below s R Q S := by
  subst eT es
  obtain ⟨fs, hr, hrun, hended, g1, g2, g3, g4⟩ := X.leaveW hS hk hv hlk
  have A := HC.trans (CHv.at X hZ hEL HC.1)
  exact ⟨_, _, st fs hr, hrun, hended, _, _, rfl, hq, A, g1, g2, g3, g4.mono hc hs⟩
theorem own_retIW (X : Stand p l e R (s.setVm vm0) m args below meth c T locs cells slots) (hx : p.tables.exec = Jvm.exec) (hlk : meth.locks = false) (hZ : Z.Warmed39 (s.setVm vm0).vm) (hS : s.Since vm0 k0) (eT : T.heap = h) (hk : k0 ≤ h.size) (es : s.heap = h0) (hEL : EW Z a0 EL) (HC : CHr Z EL s.vm h0 vm0 h) {pc : Nat} {Ls : Array Slot} {z : Int32} {rest : List Value} (hret : meth.sig.returnType = some .int) (hd : decode c.code pc = .ok (.ireturn, 1))
    (hc : cells ≤ R.cells) (hs : slots ≤ R.slots) (hq : Q (some (.int z)) h locs) : own_EndsW Z EL p e below s R Q (T.setTop (mkF m pc Ls (.int z :: rest))) :=
  own_retW X hlk (fun q => by rw [hret] at q; cases q) hZ hS eT hk es hEL HC hc hs hq fun fs hr => retOut X hx hret rfl (Or.inl ⟨rfl, Or.inl rfl, z, rfl⟩) hd hr
theorem own_retNW (X : Stand p l e R (s.setVm vm0) m args below meth c T locs cells slots) (hx : p.tables.exec = Jvm.exec) (hlk : meth.locks = false) (hZ : Z.Warmed39 (s.setVm vm0).vm) (hS : s.Since vm0 k0) (eT : T.heap = h) (hk : k0 ≤ h.size) (es : s.heap = h0) (hEL : EW Z a0 EL) (HC : CHr Z EL s.vm h0 vm0 h) {pc : Nat} {Ls : Array Slot} {z z' : Int32} {rest : List Value} {t : FieldType} (hret : meth.sig.returnType = some t) (ht : t = .boolean ∨ t = .byte ∨ t = .char ∨ t = .short) (hz : nar t z = z') (hd : decode c.code pc = .ok (.ireturn, 1))
    (hc : cells ≤ R.cells) (hs : slots ≤ R.slots) (hq : Q (some (.int z')) h locs) : own_EndsW Z EL p e below s R Q (T.setTop (mkF m pc Ls (.int z :: rest))) := by
  subst hz
  exact own_retW X hlk (fun q => by rw [hret] at q; cases q) hZ hS eT hk es hEL HC hc hs hq fun fs hr => retN X hx hret ht hd hr
theorem own_retAW (X : Stand p l e R (s.setVm vm0) m args below meth c T locs cells slots) (hx : p.tables.exec = Jvm.exec) (hlk : meth.locks = false) (hZ : Z.Warmed39 (s.setVm vm0).vm) (hS : s.Since vm0 k0) (eT : T.heap = h) (hk : k0 ≤ h.size) (es : s.heap = h0) (hEL : EW Z a0 EL) (HC : CHr Z EL s.vm h0 vm0 h) {pc : Nat} {Ls : Array Slot} {w : Value} {rest : List Value} {t : FieldType} (hret : meth.sig.returnType = some t) (ht : t.isReference = true) (hw : w.isRef = true) (hd : decode c.code pc = .ok (.areturn, 1))
    (hc : cells ≤ R.cells) (hs : slots ≤ R.slots) (hq : Q (some w) h locs) : own_EndsW Z EL p e below s R Q (T.setTop (mkF m pc Ls (w :: rest))) :=
  own_retW X hlk (fun q => by rw [hret] at q; cases q) hZ hS eT hk es hEL HC hc hs hq fun fs hr => retOut X hx hret (by rcases ref_cases hw with rfl | ⟨z, rfl⟩ <;> cases t <;> first | rfl | (simp [FieldType.isReference] at ht)) (Or.inr (Or.inr (Or.inr (Or.inr ⟨rfl, ht, hw⟩)))) hd hr
theorem own_retVW (X : Stand p l e R (s.setVm vm0) m args below meth c T locs cells slots) (hx : p.tables.exec = Jvm.exec) (hlk : meth.locks = false) (hZ : Z.Warmed39 (s.setVm vm0).vm) (hS : s.Since vm0 k0) (eT : T.heap = h) (hk : k0 ≤ h.size) (es : s.heap = h0) (hEL : EW Z a0 EL) (HC : CHr Z EL s.vm h0 vm0 h) {pc : Nat} {Ls : Array Slot} (hret : meth.sig.returnType = none) (hd : decode c.code pc = .ok (.return_, 1))
    (hc : cells ≤ R.cells) (hs : slots ≤ R.slots) (hq : Q none h locs) : own_EndsW Z EL p e below s R Q (T.setTop (mkF m pc Ls [])) :=
  own_retW X hlk (fun _ => rfl) hZ hS eT hk es hEL HC hc hs hq fun fs hr => X.returnOut hx hret hd hr
/-! calls of a body that may load String constants -/
variable {y z : MethodName} {bytes : ByteArray} {maxL : Nat} {rt : Option FieldType} {rm : Room} {Qc : Option Value → Heap → List Loc → Prop} {own C : String} {index : Nat} {g : JFrame} {argsL rest : List Value} {b : Addr}
theorem own_staticW (X : Stand p l e R (s.setVm vm0) m args below meth c T locs cells slots) (hx : p.tables.exec = Jvm.exec) (hZ : Z.Warmed39 (s.setVm vm0).vm) (hown : (s.setVm vm0).vm.findClass own = some m.cls) (eT : T.heap = h) (hS : s.Since vm0 k0) (hk : k0 ≤ h.size) (hEL : EW Z a0 EL) (H : CHv Z EL vm0 h)
    (w1 : (Jvm.Cond.methodLink own index y).before a0 Z = true) (w2 : (Jvm.Cond.static y).before a0 Z = true) (w3 : (Jvm.Cond.initialized y.cls).before a0 Z = true) (w4 : (Jvm.Cond.code y bytes maxL rt).before a0 Z = true)
    (hy : y.cls ≠ "java/lang/invoke/MethodHandle" ∧ y.cls ≠ "java/lang/invoke/VarHandle") (hM : own_MetW l Z EL y bytes maxL rt rm argsL.toArray h Qc)
    (hg : g.method = m) (hsz : g.locals.size = c.maxLocals) (hlen : ∀ sig, parseMethodDescriptor y.desc = some sig → argsL.length = sig.parameters.length) (hst : g.stack = argsL.reverse ++ rest)
    (hf : rm.frames + 1 ≤ R.frames) (hl : (2 * g.monitorRoom + (rest.map fun v => v.category).sum) + (maxL + 11) + rm.locals ≤ R.locals) (hc : cells + rm.cells ≤ R.cells) (hs : slots + rm.slots ≤ R.slots)
    (hd : decode c.code g.pc = .ok (.invokestatic index, 3)) :
    ∃ (v : Option Value) (T' : State) (L : List Loc) (h' : Heap) (k' : Nat), Stand p l e R (s.setVm T'.vm) m args below meth c T' (locs ++ L) (cells + rm.cells) (slots + rm.slots) ∧ T'.heap = h' ∧ Qc v h' L ∧ Z.Warmed39 (s.setVm T'.vm).vm ∧ (s.setVm T'.vm).vm.findClass own = some m.cls ∧ s.Since T'.vm k' ∧ k' ≤ h'.size ∧ CHr Z EL vm0 h T'.vm h' ∧ ∀ t, Steps p.tables e below (T'.setTop { g with pc := g.pc + 3, stack := v.toList ++ rest }) t → Steps p.tables e below (T.setTop g) t := by
  obtain ⟨v, _, ⟨T', L', k', n'⟩, -, X', hS', hgr, ⟨Lc, hQ, e1, e2, e3, hC⟩, st⟩ := callSS X hx hown (mvT hZ w1) (mvT hZ w2) (mvT hZ w3) (mvT hZ w4) hy (backOfSH (hM []) hZ w4 w3 hf hl hEL H) hg hsz hlen hst (Nat.le_refl _) hd (fun _ _ => ⟨rfl, eT, hc, hs⟩)
  dsimp only [Pt.U, Pt.locs, Pt.cells, Pt.slots] at X' e1 e2 e3 st hQ hS' hgr hC
  subst e1 e2 e3
  obtain ⟨X2, hS2, hZ2, hown2⟩ := rebS hS (eT ▸ hk) X' hS' hgr hZ hown
  exact ⟨v, T', Lc, _, _, X2, rfl, hQ, hZ2, hown2, hS2, Nat.le_refl _, hC, fun t k => st.trans k⟩
theorem own_specialW (X : Stand p l e R (s.setVm vm0) m args below meth c T locs cells slots) (hx : p.tables.exec = Jvm.exec) (hZ : Z.Warmed39 (s.setVm vm0).vm) (hown : (s.setVm vm0).vm.findClass own = some m.cls) (eT : T.heap = h) (hS : s.Since vm0 k0) (hk : k0 ≤ h.size) (hEL : EW Z a0 EL) (H : CHv Z EL vm0 h) (hy1 : y.name = "<init>")
    (w1 : (Jvm.Cond.methodLink own index y).before a0 Z = true) (w2 : (Jvm.Cond.instanceMethod y).before a0 Z = true) (w3 : (Jvm.Cond.initialized y.cls).before a0 Z = true) (w4 : (Jvm.Cond.code y bytes maxL none).before a0 Z = true)
    (hy : y.cls ≠ "java/lang/invoke/MethodHandle" ∧ y.cls ≠ "java/lang/invoke/VarHandle") (hM : own_MetW l Z EL y bytes maxL none rm (.ref b :: argsL).toArray h Qc)
    (hg : g.method = m) (hsz : g.locals.size = c.maxLocals) (hlen : ∀ sig, parseMethodDescriptor y.desc = some sig → argsL.length = sig.parameters.length) (hst : g.stack = argsL.reverse ++ .ref b :: rest)
    (hf : rm.frames + 1 ≤ R.frames) (hl : (2 * g.monitorRoom + (rest.map fun v => v.category).sum) + (maxL + 11) + rm.locals ≤ R.locals) (hc : cells + rm.cells ≤ R.cells) (hs : slots + rm.slots ≤ R.slots)
    (hd : decode c.code g.pc = .ok (.invokespecial index, 3)) :
    ∃ (v : Option Value) (T' : State) (L : List Loc) (h' : Heap) (k' : Nat), Stand p l e R (s.setVm T'.vm) m args below meth c T' (locs ++ L) (cells + rm.cells) (slots + rm.slots) ∧ T'.heap = h' ∧ Qc v h' L ∧ Z.Warmed39 (s.setVm T'.vm).vm ∧ (s.setVm T'.vm).vm.findClass own = some m.cls ∧ s.Since T'.vm k' ∧ k' ≤ h'.size ∧ CHr Z EL vm0 h T'.vm h' ∧ ∀ t, Steps p.tables e below (T'.setTop { g with pc := g.pc + 3, stack := v.toList ++ rest }) t → Steps p.tables e below (T.setTop g) t := by
  obtain ⟨v, _, ⟨T', L', k', n'⟩, -, X', hS', hgr, ⟨Lc, hQ, e1, e2, e3, hC⟩, st⟩ := X.specialBackS hx hy1 hown (mvT hZ w1) (mvT hZ w2) (mvT hZ w4) hy (backOfSH (hM []) hZ w4 w3 hf hl hEL H) hg hsz (Steps.refl _) hlen hst (Nat.le_refl _) hd (fun _ _ => ⟨rfl, eT, hc, hs⟩)
  dsimp only [Pt.U, Pt.locs, Pt.cells, Pt.slots] at X' e1 e2 e3 st hQ hS' hgr hC
  subst e1 e2 e3
  obtain ⟨X2, hS2, hZ2, hown2⟩ := rebS hS (eT ▸ hk) X' hS' hgr hZ hown
  exact ⟨v, T', Lc, _, _, X2, rfl, hQ, hZ2, hown2, hS2, Nat.le_refl _, hC, fun t k => st.trans k⟩
theorem own_virtualW (X : Stand p l e R (s.setVm vm0) m args below meth c T locs cells slots) (hx : p.tables.exec = Jvm.exec) (hZ : Z.Warmed39 (s.setVm vm0).vm) (hown : (s.setVm vm0).vm.findClass own = some m.cls) (eT : T.heap = h) (hS : s.Since vm0 k0) (hk : k0 ≤ h.size) (hEL : EW Z a0 EL) (H : CHv Z EL vm0 h) (E : Exa Z h b C)
    (w1 : (Jvm.Cond.methodLink own index y).before a0 Z = true) (w2 : (Jvm.Cond.declares y).before a0 Z = true) (hnf : NotFace (s.setVm vm0) y) (w5 : (Jvm.Cond.selects C y z).before a0 Z = true) (w6 : (Jvm.Cond.instanceMethod z).before a0 Z = true) (w3 : (Jvm.Cond.initialized z.cls).before a0 Z = true) (w4 : (Jvm.Cond.code z bytes maxL rt).before a0 Z = true)
    (hy : y.cls ≠ "java/lang/invoke/MethodHandle" ∧ y.cls ≠ "java/lang/invoke/VarHandle") (hM : own_MetW l Z EL z bytes maxL rt rm (.ref b :: argsL).toArray h Qc)
    (hg : g.method = m) (hsz : g.locals.size = c.maxLocals) (hlen : ∀ sig, parseMethodDescriptor y.desc = some sig → argsL.length = sig.parameters.length) (hst : g.stack = argsL.reverse ++ .ref b :: rest)
    (hf : rm.frames + 1 ≤ R.frames) (hl : (2 * g.monitorRoom + (rest.map fun v => v.category).sum) + (maxL + 11) + rm.locals ≤ R.locals) (hc : cells + rm.cells ≤ R.cells) (hs : slots + rm.slots ≤ R.slots)
    (hd : decode c.code g.pc = .ok (.invokevirtual index, 3)) :
    ∃ (v : Option Value) (T' : State) (L : List Loc) (h' : Heap) (k' : Nat), Stand p l e R (s.setVm T'.vm) m args below meth c T' (locs ++ L) (cells + rm.cells) (slots + rm.slots) ∧ T'.heap = h' ∧ Qc v h' L ∧ Z.Warmed39 (s.setVm T'.vm).vm ∧ (s.setVm T'.vm).vm.findClass own = some m.cls ∧ s.Since T'.vm k' ∧ k' ≤ h'.size ∧ CHr Z EL vm0 h T'.vm h' ∧ ∀ t, Steps p.tables e below (T'.setTop { g with pc := g.pc + 3, stack := v.toList ++ rest }) t → Steps p.tables e below (T.setTop g) t := by
  obtain ⟨cq, kq, qa, qb, qc⟩ := isOf hZ eT E
  obtain ⟨v, _, ⟨T', L', k', n'⟩, -, X', hS', hgr, ⟨Lc, hQ, e1, e2, e3, hC⟩, st⟩ := X.virtualBackS hx hown (mvT hZ w1) (mvT hZ w2) hnf (mvT hZ w5) (mvT hZ w6) hy (backOfSH (hM []) hZ w4 w3 hf hl hEL H) qa qc hg hsz (Steps.refl _) hlen hst (Nat.le_refl _) hd (fun _ _ => ⟨rfl, eT, hc, hs⟩)
  dsimp only [Pt.U, Pt.locs, Pt.cells, Pt.slots] at X' e1 e2 e3 st hQ hS' hgr hC
  subst e1 e2 e3
  obtain ⟨X2, hS2, hZ2, hown2⟩ := rebS hS (eT ▸ hk) X' hS' hgr hZ hown
  exact ⟨v, T', Lc, _, _, X2, rfl, hQ, hZ2, hown2, hS2, Nat.le_refl _, hC, fun t k => st.trans k⟩
end OwnW
theorem own_eq_int {args : Array Value} {s : State} {t : Jvm.Term} {k : Int32} (h : (Jvm.Cond.eq t (.int k)).value args s none s [] = some true) : t.eval args s none [] s = some (.int k) := by
  simp only [Cond.value, Term.eval] at h
  cases ht : t.eval args s none [] s with
  | none => simp [ht] at h
  | some v => cases v <;> simp [ht] at h; rw [h]
theorem own_i2c (x : Int32) : nar .char ((x &&& (255 : Int32)).toUInt32.toUInt16.toUInt32.toInt32) = x &&& 255 := by
  show ((x &&& (255 : Int32)).toUInt32.toUInt16.toUInt32.toInt32).toUInt32.toUInt16.toUInt32.toInt32 = _
  rw [i2c_mask, i2c_mask]
theorem own_lat (x : Int32) : ¬ (x &&& (255 : Int32)) < 0 ∧ ¬ (255 : Int32) < (x &&& (255 : Int32)) := by
  have h : (x &&& (255 : Int32)).toInt = x.toInt % 256 := c_mask x (255 : Int32) 8 (by decide) (by decide)
  have e1 : (0 : Int32).toInt = 0 := rfl
  have e2 : (255 : Int32).toInt = 255 := rfl
  rw [Int32.lt_iff_toInt_lt, Int32.lt_iff_toInt_lt, h, e1, e2]; omega
theorem own_latc {c x : Int32} (e : c = nar .char ((x &&& (255 : Int32)).toUInt32.toUInt16.toUInt32.toInt32)) : ¬ c < 0 ∧ ¬ (255 : Int32) < c := by rw [e, own_i2c]; exact own_lat x
theorem own_one {c : Int32} {P : Int32 → Prop} (h : P c) : ∀ d ∈ [c], P d := fun d hd => by rw [List.mem_singleton.mp hd]; exact h
abbrev own_EL : List (String × Nat) := consts_1
theorem own_narb (x : Int32) : nar .byte (x.toInt8.toInt32) = x.toInt8.toInt32 := by simp [nar]
theorem pn_java_lang_StringLatin1 : plainName "java/lang/StringLatin1" = true := by first | (simp [plainName, overriddenIn]; done) | decide +kernel
theorem ef_jdk_43_method_3_codeI (m : MethodId) (z0 : Int32) : entryFrame m #[(.int z0)] 1 = mkF m 0 #[.val (.int z0)] [] := by first | (simp [entryFrame, mkF, argsToLocals, Value.category]; done) | rfl
theorem d_jdk_43_method_3_code_0 : decode jdk_43_method_3_code 0 = .ok (.iload_n 0, 1) := by decide +kernel
theorem d_jdk_43_method_3_code_1 : decode jdk_43_method_3_code 1 = .ok (.sipush 255, 3) := by decide +kernel
theorem d_jdk_43_method_3_code_4 : decode jdk_43_method_3_code 4 = .ok (.if_icmp .gt 7, 3) := by decide +kernel
theorem d_jdk_43_method_3_code_7 : decode jdk_43_method_3_code 7 = .ok (.iconst 1, 1) := by decide +kernel
theorem d_jdk_43_method_3_code_8 : decode jdk_43_method_3_code 8 = .ok (.goto 4, 3) := by decide +kernel
theorem d_jdk_43_method_3_code_12 : decode jdk_43_method_3_code 12 = .ok (.ireturn, 1) := by decide +kernel
set_option maxRecDepth 65536 in
set_option maxHeartbeats 40000000 in
theorem rm_canEncode (l : Launch) (Z : State) (a0 : Array Value) (hw : ∀ d ∈ tables_1, d.before a0 Z = true) (ch : Int32) (h0 : Heap) (n0 : Nat) (Z0 : n0 ≤ h0.size) (hle : ¬ (255 : Int32) < ch) :
    own_Met l Z (⟨"java/lang/StringLatin1", "canEncode", "(C)Z"⟩ : MethodName) jdk_43_method_3_code 1 (some .boolean) ({ frames := 0, cells := 0, slots := 0, locals := 0 } : Room) #[(.int ch)] h0 (fun v h L => v = some (.int (1 : Int32)) ∧ Fr n0 L ∧ h = h0) := by
  refine own_body (plainFor_of_name pn_java_lang_StringLatin1) ?_
  intro p e s m below meth c T0 X0 e0 hx hby hml hown hnm hret hlk hZ
  replace hown : s.vm.findClass "java/lang/StringLatin1" = some m.cls := hown
  have N0 := Fr.nil n0
  refine own_of (fun tt_ kk_ => castTop (ef_jdk_43_method_3_codeI m ch) kk_) ?_
  show own_Ends _ _ _ _ _ _ (T0.setTop (mkF m 0 #[.val (.int ch)] []))
  refine own_of (fun tt_ kk_ => XS.iloadN X0.here hx rfl (hb hby d_jdk_43_method_3_code_0) rfl  kk_) ?_
  show own_Ends _ _ _ _ _ _ (T0.setTop (mkF m 1 #[.val (.int ch)] [(.int ch)]))
  refine own_of (fun tt_ kk_ => XS.sipush X0.here hx rfl (hb hby d_jdk_43_method_3_code_1) kk_) ?_
  show own_Ends _ _ _ _ _ _ (T0.setTop (mkF m 4 #[.val (.int ch)] [(.int (255 : Int32)), (.int ch)]))
  refine own_of (fun tt_ kk_ => XS.icmpNo X0.here hx rfl (hb hby d_jdk_43_method_3_code_4) rfl (flt hle).2.2.1 kk_) ?_
  show own_Ends _ _ _ _ _ _ (T0.setTop (mkF m 7 #[.val (.int ch)] []))
  refine own_of (fun tt_ kk_ => XS.iconst X0.here hx rfl (hb hby d_jdk_43_method_3_code_7) kk_) ?_
  show own_Ends _ _ _ _ _ _ (T0.setTop (mkF m 8 #[.val (.int ch)] [(.int (1 : Int32))]))
  refine own_of (fun tt_ kk_ => XS.goto X0.here hx rfl (pc0 := 8) (pc' := 12) rfl (hb hby d_jdk_43_method_3_code_8) (by decide) (by decide) kk_) ?_
  show own_Ends _ _ _ _ _ _ (T0.setTop (mkF m 12 #[.val (.int ch)] [(.int (1 : Int32))]))
  refine own_retN X0 hx hlk e0 (t := .boolean) hret (by simp) (z' := (1 : Int32)) rfl (hb hby d_jdk_43_method_3_code_12) (by decide) (by decide) ?_
  exact ⟨rfl, N0, rfl⟩
theorem ef_jdk_43_method_46_codeI (m : MethodId) (z0 : Int32) : entryFrame m #[(.int z0)] 1 = mkF m 0 #[.val (.int z0)] [] := by first | (simp [entryFrame, mkF, argsToLocals, Value.category]; done) | rfl
theorem d_jdk_43_method_46_code_0 : decode jdk_43_method_46_code 0 = .ok (.iconst 1, 1) := by decide +kernel
theorem d_jdk_43_method_46_code_1 : decode jdk_43_method_46_code 1 = .ok (.newarray .byte, 2) := by decide +kernel
theorem d_jdk_43_method_46_code_3 : decode jdk_43_method_46_code 3 = .ok (.dup, 1) := by decide +kernel
theorem d_jdk_43_method_46_code_4 : decode jdk_43_method_46_code 4 = .ok (.iconst 0, 1) := by decide +kernel
theorem d_jdk_43_method_46_code_5 : decode jdk_43_method_46_code 5 = .ok (.iload_n 0, 1) := by decide +kernel
theorem d_jdk_43_method_46_code_6 : decode jdk_43_method_46_code 6 = .ok (.i2b, 1) := by decide +kernel
theorem d_jdk_43_method_46_code_7 : decode jdk_43_method_46_code 7 = .ok (.bastore, 1) := by decide +kernel
theorem d_jdk_43_method_46_code_8 : decode jdk_43_method_46_code 8 = .ok (.areturn, 1) := by decide +kernel
set_option maxRecDepth 65536 in
set_option maxHeartbeats 40000000 in
theorem rm_toBytes (l : Launch) (Z : State) (a0 : Array Value) (hw : ∀ d ∈ tables_1, d.before a0 Z = true) (ch : Int32) (h0 : Heap) (n0 : Nat) (Z0 : n0 ≤ h0.size) :
    own_Met l Z (⟨"java/lang/StringLatin1", "toBytes", "(C)[B"⟩ : MethodName) jdk_43_method_46_code 1 (some (.array .byte)) ({ frames := 0, cells := 1, slots := 1, locals := 0 } : Room) #[(.int ch)] h0 (fun v h L => ∃ (t : Addr) (k : ClassId), v = some (.ref t) ∧ Fr n0 L ∧ Keep h0 h [] ∧ h0.size ≤ t ∧ Arv Z h t k .byte (1 : Int32) [(.int (ch.toInt8.toInt32))] (.int (0 : Int32))) := by
  refine own_body (plainFor_of_name pn_java_lang_StringLatin1) ?_
  intro p e s m below meth c T0 X0 e0 hx hby hml hown hnm hret hlk hZ
  replace hown : s.vm.findClass "java/lang/StringLatin1" = some m.cls := hown
  have N0 := Fr.nil n0
  refine own_of (fun tt_ kk_ => castTop (ef_jdk_43_method_46_codeI m ch) kk_) ?_
  have K := Keep.refl h0 []
  show own_Ends _ _ _ _ _ _ (T0.setTop (mkF m 0 #[.val (.int ch)] []))
  refine own_of (fun tt_ kk_ => XS.iconst X0.here hx rfl (hb hby d_jdk_43_method_46_code_0) kk_) ?_
  show own_Ends _ _ _ _ _ _ (T0.setTop (mkF m 1 #[.val (.int ch)] [(.int (1 : Int32))]))
  obtain ⟨T1, h1, k1, X1, e1, E1, A1, st1⟩ := newP X0 hx hZ (hw _ (List.mem_of_getElem? (i := 7) rfl)) e0 (g := (mkF m 1 #[.val (.int ch)] [(.int (1 : Int32))])) rfl (hb hby d_jdk_43_method_46_code_1) rfl (by decide) (cap := 1) (by decide) (by decide) (by decide) (by decide)
  obtain ⟨b1, g1⟩ : ∃ z, z = h0.size := ⟨_, rfl⟩
  rw [← g1] at A1 st1
  have sz_b1 : h0.size ≤ b1 := Nat.le_trans K.1 (Nat.le_of_eq g1.symm)
  have g_b1 : n0 ≤ b1 := Nat.le_trans Z0 sz_b1
  have V1 : Arv Z h1 b1 k1 .byte (1 : Int32) [(.int (0 : Int32))] (.int (0 : Int32)) := (Arv.new A1 (by decide)).pad (pad_rep [] (.int (0 : Int32)) 1)
  replace K := K.ext E1
  refine own_of st1 ?_
  show own_Ends _ _ _ _ _ _ (T1.setTop (mkF m 3 #[.val (.int ch)] [(.ref b1)]))
  refine own_of (fun tt_ kk_ => XS.dup X1.here hx rfl (hb hby d_jdk_43_method_46_code_3) rfl rfl kk_) ?_
  show own_Ends _ _ _ _ _ _ (T1.setTop (mkF m 4 #[.val (.int ch)] [(.ref b1), (.ref b1)]))
  refine own_of (fun tt_ kk_ => XS.iconst X1.here hx rfl (hb hby d_jdk_43_method_46_code_4) kk_) ?_
  show own_Ends _ _ _ _ _ _ (T1.setTop (mkF m 5 #[.val (.int ch)] [(.int (0 : Int32)), (.ref b1), (.ref b1)]))
  refine own_of (fun tt_ kk_ => XS.iloadN X1.here hx rfl (hb hby d_jdk_43_method_46_code_5) rfl  kk_) ?_
  show own_Ends _ _ _ _ _ _ (T1.setTop (mkF m 6 #[.val (.int ch)] [(.int ch), (.int (0 : Int32)), (.ref b1), (.ref b1)]))
  refine own_of (fun tt_ kk_ => XS.i2b X1.here hx rfl (hb hby d_jdk_43_method_46_code_6) rfl kk_) ?_
  show own_Ends _ _ _ _ _ _ (T1.setTop (mkF m 7 #[.val (.int ch)] [(.int (ch.toInt8.toInt32)), (.int (0 : Int32)), (.ref b1), (.ref b1)]))
  obtain ⟨cl2, Ar2, q2, S2, N2', H2, G2⟩ := V1
  have hin2 : ¬ ((0 : Int32) < 0 ∨ cl2.slots.size ≤ ((0 : Int32)).toNatClampNeg) := inb_of S2 ⟨by decide, by decide⟩
  obtain ⟨T2, h2, X2, e2, W2, st2⟩ := stB X1 hx hZ e1 Ar2 (j := (0 : Int32)) hin2 (g := (mkF m 7 #[.val (.int ch)] [(.int (ch.toInt8.toInt32)), (.int (0 : Int32)), (.ref b1), (.ref b1)])) rfl rfl (hb hby d_jdk_43_method_46_code_7)
  have V2' : Arv Z h2 b1 k1 .byte (1 : Int32) [(.int (nar .byte (ch.toInt8.toInt32)))] (.int (0 : Int32)) := Arv.set Ar2 q2 S2 N2' H2 G2 (fits_nar_byte _) W2 0 rfl (Nat.le_of_ble_eq_true rfl)
  have N2 := Fr.snoc X2 N0 g_b1
  replace K := K.wr W2 (Or.inr sz_b1)
  refine own_of st2 ?_
  show own_Ends _ _ _ _ _ _ (T2.setTop (mkF m 8 #[.val (.int ch)] [(.ref b1)]))
  refine own_retA X2 hx hlk e2 hret rfl rfl (hb hby d_jdk_43_method_46_code_8) (by decide) (by decide) ?_
  rw [own_narb] at V2'
  exact ⟨b1, k1, rfl, N2, K, sz_b1, V2'⟩
theorem pn_java_lang_String : plainName "java/lang/String" = true := by first | (simp [plainName, overriddenIn]; done) | decide +kernel
theorem ef_jdk_42_method_151_codeRRI (m : MethodId) (z0 : Addr) (z1 : Addr) (z2 : Int32) : entryFrame m #[(.ref z0), (.ref z1), (.int z2)] 3 = mkF m 0 #[.val (.ref z0), .val (.ref z1), .val (.int z2)] [] := by first | (simp [entryFrame, mkF, argsToLocals, Value.category]; done) | rfl
theorem d_jdk_42_method_151_code_0 : decode jdk_42_method_151_code 0 = .ok (.aload_n 0, 1) := by decide +kernel
theorem d_jdk_42_method_151_code_1 : decode jdk_42_method_151_code 1 = .ok (.invokespecial 1, 3) := by decide +kernel
theorem d_jdk_42_method_151_code_4 : decode jdk_42_method_151_code 4 = .ok (.aload_n 0, 1) := by decide +kernel
theorem d_jdk_42_method_151_code_5 : decode jdk_42_method_151_code 5 = .ok (.aload_n 1, 1) := by decide +kernel
theorem d_jdk_42_method_151_code_6 : decode jdk_42_method_151_code 6 = .ok (.putfield 9, 3) := by decide +kernel
theorem d_jdk_42_method_151_code_9 : decode jdk_42_method_151_code 9 = .ok (.aload_n 0, 1) := by decide +kernel
theorem d_jdk_42_method_151_code_10 : decode jdk_42_method_151_code 10 = .ok (.iload_n 2, 1) := by decide +kernel
theorem d_jdk_42_method_151_code_11 : decode jdk_42_method_151_code 11 = .ok (.putfield 15, 3) := by decide +kernel
theorem d_jdk_42_method_151_code_14 : decode jdk_42_method_151_code 14 = .ok (.return_, 1) := by decide +kernel
set_option maxRecDepth 65536 in
set_option maxHeartbeats 40000000 in
theorem rm_initBB (l : Launch) (Z : State) (a0 : Array Value) (hw : ∀ d ∈ tables_1, d.before a0 Z = true) (a b : Addr) (h0 : Heap) (n0 : Nat) (Z0 : n0 ≤ h0.size) (E : Exa Z h0 a "java/lang/String") (FV : Fld Z h0 a "java/lang/String" "value" "[B" .null) (FC : Fld Z h0 a "java/lang/String" "coder" "B" (.int (0 : Int32))) (g_a : n0 ≤ a) :
    own_Met l Z (⟨"java/lang/String", "<init>", "([BB)V"⟩ : MethodName) jdk_42_method_151_code 3 none ({ frames := 1, cells := 0, slots := 0, locals := 12 } : Room) #[(.ref a), (.ref b), (.int (0 : Int32))] h0 (fun v h L => v = none ∧ Fr n0 L ∧ Keep h0 h [a] ∧ Exa Z h a "java/lang/String" ∧ Fld Z h a "java/lang/String" "value" "[B" (.ref b) ∧ Fld Z h a "java/lang/String" "coder" "B" (.int (0 : Int32))) := by
  refine own_body (plainFor_of_name pn_java_lang_String) ?_
  intro p e s m below meth c T0 X0 e0 hx hby hml hown hnm hret hlk hZ
  replace hown : s.vm.findClass "java/lang/String" = some m.cls := hown
  have N0 := Fr.nil n0
  refine own_of (fun tt_ kk_ => castTop (ef_jdk_42_method_151_codeRRI m a b (0 : Int32)) kk_) ?_
  have K := Keep.refl h0 [a]
  show own_Ends _ _ _ _ _ _ (T0.setTop (mkF m 0 #[.val (.ref a), .val (.ref b), .val (.int (0 : Int32))] []))
  refine own_of (fun tt_ kk_ => XS.aloadN X0.here hx rfl (hb hby d_jdk_42_method_151_code_0) rfl rfl kk_) ?_
  show own_Ends _ _ _ _ _ _ (T0.setTop (mkF m 1 #[.val (.ref a), .val (.ref b), .val (.int (0 : Int32))] [(.ref a)]))
  obtain ⟨T3, X3, e3, st3⟩ := initO X0 hx hZ hown (hw _ (List.mem_of_getElem? (i := 34) rfl)) (hw _ (List.mem_of_getElem? (i := 35) rfl)) (hw _ (List.mem_of_getElem? (i := 36) rfl)) e0 (g := (mkF m 1 #[.val (.ref a), .val (.ref b), .val (.int (0 : Int32))] [(.ref a)])) rfl (by rw [hml]; rfl) rfl (hb hby d_jdk_42_method_151_code_1) (by decide) (W := 0) (by show 2 * 0 + _ ≤ _; exact Nat.le_of_eq rfl) (by decide)
  refine own_of st3 ?_
  show own_Ends _ _ _ _ _ _ (T3.setTop (mkF m 4 #[.val (.ref a), .val (.ref b), .val (.int (0 : Int32))] []))
  refine own_of (fun tt_ kk_ => XS.aloadN X3.here hx rfl (hb hby d_jdk_42_method_151_code_4) rfl rfl kk_) ?_
  show own_Ends _ _ _ _ _ _ (T3.setTop (mkF m 5 #[.val (.ref a), .val (.ref b), .val (.int (0 : Int32))] [(.ref a)]))
  refine own_of (fun tt_ kk_ => XS.aloadN X3.here hx rfl (hb hby d_jdk_42_method_151_code_5) rfl rfl kk_) ?_
  show own_Ends _ _ _ _ _ _ (T3.setTop (mkF m 6 #[.val (.ref a), .val (.ref b), .val (.int (0 : Int32))] [(.ref b), (.ref a)]))
  obtain ⟨T4, h4, X4, e4, W4, st4⟩ := putF X3 hx hZ hown (host := "") (Or.inl (hw _ (List.mem_of_getElem? (i := 37) rfl))) Via.refl e3 FV E (Or.inr ⟨(hw _ (List.mem_of_getElem? (i := 8) rfl)), rfl, hnm⟩) (hw _ (List.mem_of_getElem? (i := 6) rfl)) (ty := (.array .byte)) (by decide) rfl rfl (g := (mkF m 6 #[.val (.ref a), .val (.ref b), .val (.int (0 : Int32))] [(.ref b), (.ref a)])) rfl rfl (hb hby d_jdk_42_method_151_code_6)
  replace FV := FV.same W4
  replace E := E.wr W4
  replace FC := FC.other W4 (Or.inr (slot_ne (Or.inr (hw _ (List.mem_of_getElem? (i := 9) rfl))) (Or.inr (hw _ (List.mem_of_getElem? (i := 8) rfl))) (by decide) (t := .byte) (t' := (.array .byte)) (by decide) (by decide)))
  have N4 := Fr.snoc X4 N0 g_a
  replace K := K.wr W4 (Or.inl (List.mem_of_getElem? (i := 0) rfl))
  refine own_of st4 ?_
  show own_Ends _ _ _ _ _ _ (T4.setTop (mkF m 9 #[.val (.ref a), .val (.ref b), .val (.int (0 : Int32))] []))
  refine own_of (fun tt_ kk_ => XS.aloadN X4.here hx rfl (hb hby d_jdk_42_method_151_code_9) rfl rfl kk_) ?_
  show own_Ends _ _ _ _ _ _ (T4.setTop (mkF m 10 #[.val (.ref a), .val (.ref b), .val (.int (0 : Int32))] [(.ref a)]))
  refine own_of (fun tt_ kk_ => XS.iloadN X4.here hx rfl (hb hby d_jdk_42_method_151_code_10) rfl  kk_) ?_
  show own_Ends _ _ _ _ _ _ (T4.setTop (mkF m 11 #[.val (.ref a), .val (.ref b), .val (.int (0 : Int32))] [(.int (0 : Int32)), (.ref a)]))
  obtain ⟨T5, h5, X5, e5, W5, st5⟩ := putFN X4 hx hZ hown (hw _ (List.mem_of_getElem? (i := 38) rfl)) Via.refl e4 FC E (Or.inr ⟨(hw _ (List.mem_of_getElem? (i := 9) rfl)), rfl, hnm⟩) (hw _ (List.mem_of_getElem? (i := 6) rfl)) (ty := .byte) (v' := (.int (0 : Int32))) (by decide) rfl rfl (g := (mkF m 11 #[.val (.ref a), .val (.ref b), .val (.int (0 : Int32))] [(.int (0 : Int32)), (.ref a)])) rfl rfl (hb hby d_jdk_42_method_151_code_11)
  replace FC := FC.same W5
  replace E := E.wr W5
  replace FV := FV.other W5 (Or.inr (slot_ne (Or.inr (hw _ (List.mem_of_getElem? (i := 8) rfl))) (Or.inr (hw _ (List.mem_of_getElem? (i := 9) rfl))) (by decide) (t := (.array .byte)) (t' := .byte) (by decide) (by decide)))
  have N5 := Fr.snoc X5 N4 g_a
  replace K := K.wr W5 (Or.inl (List.mem_of_getElem? (i := 0) rfl))
  refine own_of st5 ?_
  show own_Ends _ _ _ _ _ _ (T5.setTop (mkF m 14 #[.val (.ref a), .val (.ref b), .val (.int (0 : Int32))] []))
  refine own_retV X5 hx hlk e5 hret (hb hby d_jdk_42_method_151_code_14) (by decide) (by decide) ?_
  exact ⟨rfl, N5, K, E, FV, FC⟩
theorem ef_jdk_42_method_139_codeI (m : MethodId) (z0 : Int32) : entryFrame m #[(.int z0)] 1 = mkF m 0 #[.val (.int z0)] [] := by first | (simp [entryFrame, mkF, argsToLocals, Value.category]; done) | rfl
theorem d_jdk_42_method_139_code_0 : decode jdk_42_method_139_code 0 = .ok (.getstatic 38, 3) := by decide +kernel
theorem d_jdk_42_method_139_code_3 : decode jdk_42_method_139_code 3 = .ok (.ifCond .eq 23, 3) := by decide +kernel
theorem d_jdk_42_method_139_code_6 : decode jdk_42_method_139_code 6 = .ok (.iload_n 0, 1) := by decide +kernel
theorem pd__C_r_Z : parseMethodDescriptor "(C)Z" = some ⟨[.char], some .boolean⟩ := by decide +kernel
theorem d_jdk_42_method_139_code_7 : decode jdk_42_method_139_code 7 = .ok (.invokestatic 1015, 3) := by decide +kernel
theorem d_jdk_42_method_139_code_10 : decode jdk_42_method_139_code 10 = .ok (.ifCond .eq 16, 3) := by decide +kernel
theorem d_jdk_42_method_139_code_13 : decode jdk_42_method_139_code 13 = .ok (.new 10, 3) := by decide +kernel
theorem d_jdk_42_method_139_code_16 : decode jdk_42_method_139_code 16 = .ok (.dup, 1) := by decide +kernel
theorem d_jdk_42_method_139_code_17 : decode jdk_42_method_139_code 17 = .ok (.iload_n 0, 1) := by decide +kernel
theorem pd__C_r_AB : parseMethodDescriptor "(C)[B" = some ⟨[.char], some (.array .byte)⟩ := by decide +kernel
theorem d_jdk_42_method_139_code_18 : decode jdk_42_method_139_code 18 = .ok (.invokestatic 1018, 3) := by decide +kernel
theorem d_jdk_42_method_139_code_21 : decode jdk_42_method_139_code 21 = .ok (.iconst 0, 1) := by decide +kernel
theorem pd__ABB_r_V : parseMethodDescriptor "([BB)V" = some ⟨[(.array .byte), .byte], none⟩ := by decide +kernel
theorem d_jdk_42_method_139_code_22 : decode jdk_42_method_139_code 22 = .ok (.invokespecial 209, 3) := by decide +kernel
theorem d_jdk_42_method_139_code_25 : decode jdk_42_method_139_code 25 = .ok (.areturn, 1) := by decide +kernel
set_option maxRecDepth 65536 in
set_option maxHeartbeats 40000000 in
theorem rm_valueOf (l : Launch) (Z : State) (a0 : Array Value) (hw : ∀ d ∈ tables_1, d.before a0 Z = true) (ch G1 : Int32) (h0 : Heap) (n0 : Nat) (Z0 : n0 ≤ h0.size) (O2 : Sta Z Z.heap "java/lang/String" "COMPACT_STRINGS" "Z" (.int G1)) (P3 : ¬ (G1 = (0 : Int32))) (OL : Old Z n0 h0) (hle : ¬ (255 : Int32) < ch) :
    own_Met l Z (⟨"java/lang/String", "valueOf", "(C)Ljava/lang/String;"⟩ : MethodName) jdk_42_method_139_code 1 (some (.object "java/lang/String")) ({ frames := 2, cells := 2, slots := 5, locals := 27 } : Room) #[(.int ch)] h0 (fun v h L => ∃ (a t : Addr) (k : ClassId), v = some (.ref a) ∧ Fr n0 L ∧ Keep h0 h [] ∧ h0.size ≤ a ∧ h0.size ≤ t ∧ a ≠ t ∧ Exa Z h a "java/lang/String" ∧ Fld Z h a "java/lang/String" "value" "[B" (.ref t) ∧ Fld Z h a "java/lang/String" "coder" "B" (.int (0 : Int32)) ∧ Arv Z h t k .byte (1 : Int32) [(.int (ch.toInt8.toInt32))] (.int (0 : Int32))) := by
  refine own_body (plainFor_of_name pn_java_lang_String) ?_
  intro p e s m below meth c T0 X0 e0 hx hby hml hown hnm hret hlk hZ
  replace hown : s.vm.findClass "java/lang/String" = some m.cls := hown
  have N0 := Fr.nil n0
  refine own_of (fun tt_ kk_ => castTop (ef_jdk_42_method_139_codeI m ch) kk_) ?_
  have K := Keep.refl h0 []
  show own_Ends _ _ _ _ _ _ (T0.setTop (mkF m 0 #[.val (.int ch)] []))
  obtain ⟨T6, X6, e6, st6⟩ := getS2 X0 hx hZ hown (host := "") (Or.inl (hw _ (List.mem_of_getElem? (i := 21) rfl))) Via.refl e0 (O2.ext OL.2) (g := (mkF m 0 #[.val (.int ch)] [])) rfl (hb hby d_jdk_42_method_139_code_0)
  refine own_of st6 ?_
  show own_Ends _ _ _ _ _ _ (T6.setTop (mkF m 3 #[.val (.int ch)] [(.int G1)]))
  refine own_of (fun tt_ kk_ => XS.ifNo X6.here hx rfl (hb hby d_jdk_42_method_139_code_3) rfl ((if0 _ _).trans (feq P3).1) kk_) ?_
  show own_Ends _ _ _ _ _ _ (T6.setTop (mkF m 6 #[.val (.int ch)] []))
  refine own_of (fun tt_ kk_ => XS.iloadN X6.here hx rfl (hb hby d_jdk_42_method_139_code_6) rfl  kk_) ?_
  show own_Ends _ _ _ _ _ _ (T6.setTop (mkF m 7 #[.val (.int ch)] [(.int ch)]))
  obtain ⟨v7, T7, L7, h7, X7, e7, Q7, st7⟩ := own_static X6 hx hZ hown e6 (hw _ (List.mem_of_getElem? (i := 22) rfl)) (hw _ (List.mem_of_getElem? (i := 23) rfl)) (hw _ (List.mem_of_getElem? (i := 24) rfl)) (hw _ (List.mem_of_getElem? (i := 25) rfl)) (by decide) (argsL := [(.int ch)]) (rest := []) (rm_canEncode l Z a0 hw ch h0 n0 (Nat.le_trans Z0 K.1) hle) (g := (mkF m 7 #[.val (.int ch)] [(.int ch)])) rfl (by rw [hml]; rfl) (lenOf pd__C_r_Z rfl) rfl (by decide) (Nat.le_of_ble_eq_true rfl) (by decide) (by decide) (hb hby d_jdk_42_method_139_code_7)
  obtain ⟨rfl, Nq7, q7⟩ := Q7
  replace e7 := e7.trans q7
  have N7 := Fr.app N0 Nq7
  refine own_of st7 ?_
  show own_Ends _ _ _ _ _ _ (T7.setTop (mkF m 10 #[.val (.int ch)] [(.int (1 : Int32))]))
  refine own_of (fun tt_ kk_ => XS.ifNo X7.here hx rfl (hb hby d_jdk_42_method_139_code_10) rfl ((if0 _ _).trans (feq (by decide : ¬ ((1 : Int32) = (0 : Int32)))).1) kk_) ?_
  show own_Ends _ _ _ _ _ _ (T7.setTop (mkF m 13 #[.val (.int ch)] []))
  obtain ⟨T8, h8, X8, e8, E8, A8, D8, -, st8⟩ := newO X7 hx hZ hown (hw _ (List.mem_of_getElem? (i := 26) rfl)) (hw _ (List.mem_of_getElem? (i := 6) rfl)) (hw _ (List.mem_of_getElem? (i := 5) rfl)) e7 (g := (mkF m 13 #[.val (.int ch)] [])) rfl (hb hby d_jdk_42_method_139_code_13) (by decide) (by decide)
  obtain ⟨b8, g8⟩ : ∃ z, z = h0.size := ⟨_, rfl⟩
  rw [← g8] at A8 D8 st8
  have sz_b8 : h0.size ≤ b8 := Nat.le_trans K.1 (Nat.le_of_eq g8.symm)
  have g_b8 : n0 ≤ b8 := Nat.le_trans Z0 sz_b8
  replace OL := OL.ext E8
  have F_value_b8 : Fld Z h8 b8 "java/lang/String" "value" "[B" .null := D8 (Or.inr (hw _ (List.mem_of_getElem? (i := 8) rfl))) (ty := (.array .byte)) (by decide)
  have F_coder_b8 : Fld Z h8 b8 "java/lang/String" "coder" "B" (.int (0 : Int32)) := D8 (Or.inr (hw _ (List.mem_of_getElem? (i := 9) rfl))) (ty := .byte) (by decide)
  replace K := K.ext E8
  refine own_of st8 ?_
  show own_Ends _ _ _ _ _ _ (T8.setTop (mkF m 16 #[.val (.int ch)] [(.ref b8)]))
  refine own_of (fun tt_ kk_ => XS.dup X8.here hx rfl (hb hby d_jdk_42_method_139_code_16) rfl rfl kk_) ?_
  show own_Ends _ _ _ _ _ _ (T8.setTop (mkF m 17 #[.val (.int ch)] [(.ref b8), (.ref b8)]))
  refine own_of (fun tt_ kk_ => XS.iloadN X8.here hx rfl (hb hby d_jdk_42_method_139_code_17) rfl  kk_) ?_
  show own_Ends _ _ _ _ _ _ (T8.setTop (mkF m 18 #[.val (.int ch)] [(.int ch), (.ref b8), (.ref b8)]))
  obtain ⟨v9, T9, L9, h9, X9, e9, Q9, st9⟩ := own_static X8 hx hZ hown e8 (hw _ (List.mem_of_getElem? (i := 27) rfl)) (hw _ (List.mem_of_getElem? (i := 28) rfl)) (hw _ (List.mem_of_getElem? (i := 24) rfl)) (hw _ (List.mem_of_getElem? (i := 29) rfl)) (by decide) (argsL := [(.int ch)]) (rest := [(.ref b8), (.ref b8)]) (rm_toBytes l Z a0 hw ch h8 n0 (Nat.le_trans Z0 K.1)) (g := (mkF m 18 #[.val (.int ch)] [(.int ch), (.ref b8), (.ref b8)])) rfl (by rw [hml]; rfl) (lenOf pd__C_r_AB rfl) rfl (by decide) (Nat.le_of_ble_eq_true rfl) (by decide) (by decide) (hb hby d_jdk_42_method_139_code_18)
  obtain ⟨t9, k9, rfl, Nq9, Kq9, szq_t9, Vt9⟩ := Q9
  have ne_b8_t9 : b8 ≠ t9 := Nat.ne_of_lt (Nat.lt_of_lt_of_le A8.lt szq_t9)
  have sz_t9 : h0.size ≤ t9 := Nat.le_trans K.1 szq_t9
  have g_t9 : n0 ≤ t9 := Nat.le_trans Z0 sz_t9
  replace OL := OL.keep Kq9 all0
  replace A8 := A8.keep Kq9
  replace F_value_b8 := F_value_b8.keep Kq9 nin0
  replace F_coder_b8 := F_coder_b8.keep Kq9 nin0
  replace K := K.trans Kq9 all0
  have N9 := Fr.app N7 Nq9
  refine own_of st9 ?_
  show own_Ends _ _ _ _ _ _ (T9.setTop (mkF m 21 #[.val (.int ch)] [(.ref t9), (.ref b8), (.ref b8)]))
  refine own_of (fun tt_ kk_ => XS.iconst X9.here hx rfl (hb hby d_jdk_42_method_139_code_21) kk_) ?_
  show own_Ends _ _ _ _ _ _ (T9.setTop (mkF m 22 #[.val (.int ch)] [(.int (0 : Int32)), (.ref t9), (.ref b8), (.ref b8)]))
  obtain ⟨v10, T10, L10, h10, X10, e10, Q10, st10⟩ := own_special X9 hx hZ hown e9 (b := b8) rfl (hw _ (List.mem_of_getElem? (i := 30) rfl)) (hw _ (List.mem_of_getElem? (i := 31) rfl)) (hw _ (List.mem_of_getElem? (i := 5) rfl)) (hw _ (List.mem_of_getElem? (i := 33) rfl)) (by decide) (argsL := [(.ref t9), (.int (0 : Int32))]) (rest := [(.ref b8)]) (rm_initBB l Z a0 hw b8 t9 h9 n0 (Nat.le_trans Z0 K.1) A8 F_value_b8 F_coder_b8 g_b8) (g := (mkF m 22 #[.val (.int ch)] [(.int (0 : Int32)), (.ref t9), (.ref b8), (.ref b8)])) rfl (by rw [hml]; rfl) (lenOf pd__ABB_r_V rfl) rfl (by decide) (Nat.le_of_ble_eq_true rfl) (by decide) (by decide) (hb hby d_jdk_42_method_139_code_22)
  obtain ⟨rfl, Nq10, Kq10, A8', F_value_b8', F_coder_b8'⟩ := Q10
  replace OL := OL.keep Kq10 (allS g_b8 all0)
  replace A8 := A8.keep Kq10
  replace Vt9 := Vt9.keep Kq10 (ninS (Ne.symm ne_b8_t9) nin0)
  clear A8
  have A8 := A8'
  have F_value_b8 := F_value_b8'
  have F_coder_b8 := F_coder_b8'
  replace K := K.trans Kq10 (allS (Or.inr sz_b8) all0)
  have N10 := Fr.app N9 Nq10
  refine own_of st10 ?_
  show own_Ends _ _ _ _ _ _ (T10.setTop (mkF m 25 #[.val (.int ch)] [(.ref b8)]))
  refine own_retA X10 hx hlk e10 hret rfl rfl (hb hby d_jdk_42_method_139_code_25) (by decide) (by decide) ?_
  exact ⟨b8, t9, k9, rfl, N10, K, sz_b8, sz_t9, ne_b8_t9, A8, F_value_b8, F_coder_b8, Vt9⟩
theorem d_jdk_42_method_154_code_0 : decode jdk_42_method_154_code 0 = .ok (.getstatic 38, 3) := by decide +kernel
theorem d_jdk_42_method_154_code_3 : decode jdk_42_method_154_code 3 = .ok (.ifCond .eq 14, 3) := by decide +kernel
theorem d_jdk_42_method_154_code_6 : decode jdk_42_method_154_code 6 = .ok (.aload_n 0, 1) := by decide +kernel
theorem d_jdk_42_method_154_code_7 : decode jdk_42_method_154_code 7 = .ok (.getfield 15, 3) := by decide +kernel
theorem d_jdk_42_method_154_code_10 : decode jdk_42_method_154_code 10 = .ok (.ifCond .ne 7, 3) := by decide +kernel
theorem d_jdk_42_method_154_code_13 : decode jdk_42_method_154_code 13 = .ok (.iconst 1, 1) := by decide +kernel
theorem d_jdk_42_method_154_code_14 : decode jdk_42_method_154_code 14 = .ok (.goto 4, 3) := by decide +kernel
theorem d_jdk_42_method_154_code_18 : decode jdk_42_method_154_code 18 = .ok (.ireturn, 1) := by decide +kernel
theorem ef_jdk_42_method_154_codeR (m : MethodId) (z0 : Addr) : entryFrame m #[(.ref z0)] 1 = mkF m 0 #[.val (.ref z0)] [] := by first | (simp [entryFrame, mkF, argsToLocals, Value.category]; done) | rfl
set_option maxRecDepth 65536 in
set_option maxHeartbeats 40000000 in
theorem rm_isl (l : Launch) (Z : State) (a0 : Array Value) (hw : ∀ d ∈ tables_1, d.before a0 Z = true) (a : Addr) (G1 : Int32) (h0 : Heap) (n0 : Nat) (Z0 : n0 ≤ h0.size) (F : Fld Z h0 a "java/lang/String" "coder" "B" (.int (0 : Int32))) (O2 : Sta Z Z.heap "java/lang/String" "COMPACT_STRINGS" "Z" (.int G1)) (P3 : ¬ (G1 = (0 : Int32))) (OL : Old Z n0 h0) :
    own_Met l Z (⟨"java/lang/String", "isLatin1", "()Z"⟩ : MethodName) jdk_42_method_154_code 1 (some .boolean) ({ frames := 0, cells := 0, slots := 0, locals := 0 } : Room) #[(.ref a)] h0 (fun v h L => v = some (.int (1 : Int32)) ∧ Fr n0 L ∧ h = h0) := by
  refine own_body (plainFor_of_name pn_java_lang_String) ?_
  intro p e s m below meth c T0 X0 e0 hx hby hml hown hnm hret hlk hZ
  replace hown : s.vm.findClass "java/lang/String" = some m.cls := hown
  have N0 := Fr.nil n0
  refine own_of (fun tt_ kk_ => castTop (ef_jdk_42_method_154_codeR m a) kk_) ?_
  show own_Ends _ _ _ _ _ _ (T0.setTop (mkF m 0 #[.val (.ref a)] []))
  obtain ⟨T11, X11, e11, st11⟩ := getS2 X0 hx hZ hown (host := "") (Or.inl (hw _ (List.mem_of_getElem? (i := 21) rfl))) Via.refl e0 (O2.ext OL.2) (g := (mkF m 0 #[.val (.ref a)] [])) rfl (hb hby d_jdk_42_method_154_code_0)
  refine own_of st11 ?_
  show own_Ends _ _ _ _ _ _ (T11.setTop (mkF m 3 #[.val (.ref a)] [(.int G1)]))
  refine own_of (fun tt_ kk_ => XS.ifNo X11.here hx rfl (hb hby d_jdk_42_method_154_code_3) rfl ((if0 _ _).trans (feq P3).1) kk_) ?_
  show own_Ends _ _ _ _ _ _ (T11.setTop (mkF m 6 #[.val (.ref a)] []))
  refine own_of (fun tt_ kk_ => XS.aloadN X11.here hx rfl (hb hby d_jdk_42_method_154_code_6) rfl rfl kk_) ?_
  show own_Ends _ _ _ _ _ _ (T11.setTop (mkF m 7 #[.val (.ref a)] [(.ref a)]))
  obtain ⟨T12, X12, e12, st12⟩ := getF X11 hx hZ hown (host := "") (Or.inl (hw _ (List.mem_of_getElem? (i := 38) rfl))) Via.refl e11 F (g := (mkF m 7 #[.val (.ref a)] [(.ref a)])) rfl rfl (hb hby d_jdk_42_method_154_code_7)
  refine own_of st12 ?_
  show own_Ends _ _ _ _ _ _ (T12.setTop (mkF m 10 #[.val (.ref a)] [(.int (0 : Int32))]))
  refine own_of (fun tt_ kk_ => XS.ifNo X12.here hx rfl (hb hby d_jdk_42_method_154_code_10) rfl ((if0 _ _).trans (teq (by decide : ((0 : Int32) = (0 : Int32)))).2) kk_) ?_
  show own_Ends _ _ _ _ _ _ (T12.setTop (mkF m 13 #[.val (.ref a)] []))
  refine own_of (fun tt_ kk_ => XS.iconst X12.here hx rfl (hb hby d_jdk_42_method_154_code_13) kk_) ?_
  show own_Ends _ _ _ _ _ _ (T12.setTop (mkF m 14 #[.val (.ref a)] [(.int (1 : Int32))]))
  refine own_of (fun tt_ kk_ => XS.goto X12.here hx rfl (pc0 := 14) (pc' := 18) rfl (hb hby d_jdk_42_method_154_code_14) (by decide) (by decide) kk_) ?_
  show own_Ends _ _ _ _ _ _ (T12.setTop (mkF m 18 #[.val (.ref a)] [(.int (1 : Int32))]))
  refine own_retN X12 hx hlk e12 (t := .boolean) hret (by simp) (z' := (1 : Int32)) rfl (hb hby d_jdk_42_method_154_code_18) (by decide) (by decide) ?_
  exact ⟨rfl, N0, rfl⟩
theorem d_jdk_116_method_1_code_0 : decode jdk_116_method_1_code 0 = .ok (.iload_n 1, 1) := by decide +kernel
theorem d_jdk_116_method_1_code_1 : decode jdk_116_method_1_code 1 = .ok (.i2c, 1) := by decide +kernel
theorem d_jdk_116_method_1_code_2 : decode jdk_116_method_1_code 2 = .ok (.istore_n 2, 1) := by decide +kernel
theorem d_jdk_116_method_1_code_3 : decode jdk_116_method_1_code 3 = .ok (.getstatic 1, 3) := by decide +kernel
theorem d_jdk_116_method_1_code_6 : decode jdk_116_method_1_code 6 = .ok (.iload_n 2, 1) := by decide +kernel
theorem d_jdk_116_method_1_code_7 : decode jdk_116_method_1_code 7 = .ok (.iaload, 1) := by decide +kernel
theorem d_jdk_116_method_1_code_8 : decode jdk_116_method_1_code 8 = .ok (.istore_n 3, 1) := by decide +kernel
theorem d_jdk_116_method_1_code_9 : decode jdk_116_method_1_code 9 = .ok (.iload_n 3, 1) := by decide +kernel
theorem d_jdk_116_method_1_code_10 : decode jdk_116_method_1_code 10 = .ok (.ireturn, 1) := by decide +kernel
theorem pn_java_lang_CharacterDataLatin1 : plainName "java/lang/CharacterDataLatin1" = true := by first | (simp [plainName, overriddenIn]; done) | decide +kernel
theorem ef_jdk_116_method_1_codeRI (m : MethodId) (z0 : Addr) (z1 : Int32) : entryFrame m #[(.ref z0), (.int z1)] 4 = mkF m 0 #[.val (.ref z0), .val (.int z1), .unset, .unset] [] := by first | (simp [entryFrame, mkF, argsToLocals, Value.category]; done) | rfl
set_option maxRecDepth 65536 in
set_option maxHeartbeats 40000000 in
theorem rm_prop84 (l : Launch) (Z : State) (a0 : Array Value) (hw : ∀ d ∈ tables_1, d.before a0 Z = true) (a : Addr) (G1 : Int32) (wI wA wR wB wG tG : Addr) (clA : Cell) (kG : ClassId) (h0 : Heap) (n0 : Nat) (Z0 : n0 ≤ h0.size) (O2 : Sta Z Z.heap "java/lang/String" "COMPACT_STRINGS" "Z" (.int G1)) (P3 : ¬ (G1 = (0 : Int32))) (OL : Old Z n0 h0) (SI : Sta Z Z.heap "java/lang/CharacterDataLatin1" "instance" "Ljava/lang/CharacterDataLatin1;" (.ref wI)) (EI : Exa Z Z.heap wI "java/lang/CharacterDataLatin1") (SA : Sta Z Z.heap "java/lang/CharacterDataLatin1" "A" "[I" (.ref wA)) (AA : Arr Z Z.heap wA clA .int) (ZA : clA.slots.size = 256) (SL : Sta Z Z.heap "java/util/Locale" "ROOT" "Ljava/util/Locale;" (.ref wR)) (ER : Exa Z Z.heap wR "java/util/Locale") (FB : Fld Z Z.heap wR "java/util/Locale" "baseLocale" "Lsun/util/locale/BaseLocale;" (.ref wB)) (EB : Exa Z Z.heap wB "sun/util/locale/BaseLocale") (FG : Fld Z Z.heap wB "sun/util/locale/BaseLocale" "language" "Ljava/lang/String;" (.ref wG)) (FW : Fld Z Z.heap wG "java/lang/String" "value" "[B" (.ref tG)) (VG : Arv Z Z.heap tG kG .byte (0 : Int32) [] (.int (0 : Int32))) (A84 : clA.slots[84]? = some (.int (8552417 : Int32))) (A70 : clA.slots[70]? = some (.int (8552417 : Int32))) (A101 : clA.slots[101]? = some (.int (8486882 : Int32))) :
    own_Met l Z (⟨"java/lang/CharacterDataLatin1", "getProperties", "(I)I"⟩ : MethodName) jdk_116_method_1_code 4 (some .int) ({ frames := 0, cells := 0, slots := 0, locals := 0 } : Room) #[(.ref a), (.int (84 : Int32))] h0 (fun v h L => v = some (.int (8552417 : Int32)) ∧ Fr n0 L ∧ h = h0) := by
  refine own_body (plainFor_of_name pn_java_lang_CharacterDataLatin1) ?_
  intro p e s m below meth c T0 X0 e0 hx hby hml hown hnm hret hlk hZ
  replace hown : s.vm.findClass "java/lang/CharacterDataLatin1" = some m.cls := hown
  have N0 := Fr.nil n0
  refine own_of (fun tt_ kk_ => castTop (ef_jdk_116_method_1_codeRI m a (84 : Int32)) kk_) ?_
  show own_Ends _ _ _ _ _ _ (T0.setTop (mkF m 0 #[.val (.ref a), .val (.int (84 : Int32)), .unset, .unset] []))
  refine own_of (fun tt_ kk_ => XS.iloadN X0.here hx rfl (hb hby d_jdk_116_method_1_code_0) rfl  kk_) ?_
  show own_Ends _ _ _ _ _ _ (T0.setTop (mkF m 1 #[.val (.ref a), .val (.int (84 : Int32)), .unset, .unset] [(.int (84 : Int32))]))
  refine own_of (fun tt_ kk_ => XS.i2c X0.here hx rfl (hb hby d_jdk_116_method_1_code_1) rfl kk_) ?_
  show own_Ends _ _ _ _ _ _ (T0.setTop (mkF m 2 #[.val (.ref a), .val (.int (84 : Int32)), .unset, .unset] [(.int (84 : Int32))]))
  refine own_of (fun tt_ kk_ => XS.istoreN X0.here hx rfl (hb hby d_jdk_116_method_1_code_2) rfl (l' := #[.val (.ref a), .val (.int (84 : Int32)), .val (.int (84 : Int32)), .unset]) rfl kk_) ?_
  show own_Ends _ _ _ _ _ _ (T0.setTop (mkF m 3 #[.val (.ref a), .val (.int (84 : Int32)), .val (.int (84 : Int32)), .unset] []))
  obtain ⟨T13, X13, e13, st13⟩ := getS2 X0 hx hZ hown (host := "") (Or.inl (hw _ (List.mem_of_getElem? (i := 73) rfl))) Via.refl e0 (SA.ext OL.2) (g := (mkF m 3 #[.val (.ref a), .val (.int (84 : Int32)), .val (.int (84 : Int32)), .unset] [])) rfl (hb hby d_jdk_116_method_1_code_3)
  refine own_of st13 ?_
  show own_Ends _ _ _ _ _ _ (T13.setTop (mkF m 6 #[.val (.ref a), .val (.int (84 : Int32)), .val (.int (84 : Int32)), .unset] [(.ref wA)]))
  refine own_of (fun tt_ kk_ => XS.iloadN X13.here hx rfl (hb hby d_jdk_116_method_1_code_6) rfl  kk_) ?_
  show own_Ends _ _ _ _ _ _ (T13.setTop (mkF m 7 #[.val (.ref a), .val (.int (84 : Int32)), .val (.int (84 : Int32)), .unset] [(.int (84 : Int32)), (.ref wA)]))
  have Ar14 := AA.ext OL.2
  have hin14 : ¬ ((84 : Int32) < 0 ∨ clA.slots.size ≤ ((84 : Int32)).toNatClampNeg) := by rw [ZA]; decide
  have hat14 : clA.slots[((84 : Int32)).toNatClampNeg]? = some (.int (8552417 : Int32)) := A84
  refine own_of (fun tt_ kk_ => X13.iaload hx (j := (84 : Int32)) (v := (.int (8552417 : Int32))) (by rw [e13]; exact Ar14.1) (State.isArrayOf_alike hZ.alike Ar14.2.1) Ar14.2.2 hin14 hat14 (g := (mkF m 7 #[.val (.ref a), .val (.int (84 : Int32)), .val (.int (84 : Int32)), .unset] [(.int (84 : Int32)), (.ref wA)])) rfl rfl (hb hby d_jdk_116_method_1_code_7) _ kk_) ?_
  show own_Ends _ _ _ _ _ _ (T13.setTop (mkF m 8 #[.val (.ref a), .val (.int (84 : Int32)), .val (.int (84 : Int32)), .unset] [(.int (8552417 : Int32))]))
  refine own_of (fun tt_ kk_ => XS.istoreN X13.here hx rfl (hb hby d_jdk_116_method_1_code_8) rfl (l' := #[.val (.ref a), .val (.int (84 : Int32)), .val (.int (84 : Int32)), .val (.int (8552417 : Int32))]) rfl kk_) ?_
  show own_Ends _ _ _ _ _ _ (T13.setTop (mkF m 9 #[.val (.ref a), .val (.int (84 : Int32)), .val (.int (84 : Int32)), .val (.int (8552417 : Int32))] []))
  refine own_of (fun tt_ kk_ => XS.iloadN X13.here hx rfl (hb hby d_jdk_116_method_1_code_9) rfl  kk_) ?_
  show own_Ends _ _ _ _ _ _ (T13.setTop (mkF m 10 #[.val (.ref a), .val (.int (84 : Int32)), .val (.int (84 : Int32)), .val (.int (8552417 : Int32))] [(.int (8552417 : Int32))]))
  refine own_retI X13 hx hlk e13 hret (hb hby d_jdk_116_method_1_code_10) (by decide) (by decide) ?_
  exact ⟨rfl, N0, rfl⟩
theorem d_jdk_116_method_26_code_0 : decode jdk_116_method_26_code 0 = .ok (.aload_n 0, 1) := by decide +kernel
theorem d_jdk_116_method_26_code_1 : decode jdk_116_method_26_code 1 = .ok (.iload_n 1, 1) := by decide +kernel
theorem pd__I_r_I : parseMethodDescriptor "(I)I" = some ⟨[.int], some .int⟩ := by decide +kernel
theorem d_jdk_116_method_26_code_2 : decode jdk_116_method_26_code 2 = .ok (.invokevirtual 15, 3) := by decide +kernel
theorem d_jdk_116_method_26_code_5 : decode jdk_116_method_26_code 5 = .ok (.istore_n 2, 1) := by decide +kernel
theorem d_jdk_116_method_26_code_6 : decode jdk_116_method_26_code 6 = .ok (.iload_n 2, 1) := by decide +kernel
theorem d_jdk_116_method_26_code_7 : decode jdk_116_method_26_code 7 = .ok (.sipush 28672, 3) := by decide +kernel
theorem d_jdk_116_method_26_code_10 : decode jdk_116_method_26_code 10 = .ok (.iand, 1) := by decide +kernel
theorem d_jdk_116_method_26_code_11 : decode jdk_116_method_26_code 11 = .ok (.sipush 16384, 3) := by decide +kernel
theorem d_jdk_116_method_26_code_14 : decode jdk_116_method_26_code 14 = .ok (.if_icmp .ne 7, 3) := by decide +kernel
theorem d_jdk_116_method_26_code_21 : decode jdk_116_method_26_code 21 = .ok (.iconst 0, 1) := by decide +kernel
theorem d_jdk_116_method_26_code_22 : decode jdk_116_method_26_code 22 = .ok (.ireturn, 1) := by decide +kernel
theorem ef_jdk_116_method_26_codeRI (m : MethodId) (z0 : Addr) (z1 : Int32) : entryFrame m #[(.ref z0), (.int z1)] 3 = mkF m 0 #[.val (.ref z0), .val (.int z1), .unset] [] := by first | (simp [entryFrame, mkF, argsToLocals, Value.category]; done) | rfl
set_option maxRecDepth 65536 in
set_option maxHeartbeats 40000000 in
theorem rm_ws84 (l : Launch) (Z : State) (a0 : Array Value) (hw : ∀ d ∈ tables_1, d.before a0 Z = true) (G1 : Int32) (wI wA wR wB wG tG : Addr) (clA : Cell) (kG : ClassId) (h0 : Heap) (n0 : Nat) (Z0 : n0 ≤ h0.size) (O2 : Sta Z Z.heap "java/lang/String" "COMPACT_STRINGS" "Z" (.int G1)) (P3 : ¬ (G1 = (0 : Int32))) (OL : Old Z n0 h0) (SI : Sta Z Z.heap "java/lang/CharacterDataLatin1" "instance" "Ljava/lang/CharacterDataLatin1;" (.ref wI)) (EI : Exa Z Z.heap wI "java/lang/CharacterDataLatin1") (SA : Sta Z Z.heap "java/lang/CharacterDataLatin1" "A" "[I" (.ref wA)) (AA : Arr Z Z.heap wA clA .int) (ZA : clA.slots.size = 256) (SL : Sta Z Z.heap "java/util/Locale" "ROOT" "Ljava/util/Locale;" (.ref wR)) (ER : Exa Z Z.heap wR "java/util/Locale") (FB : Fld Z Z.heap wR "java/util/Locale" "baseLocale" "Lsun/util/locale/BaseLocale;" (.ref wB)) (EB : Exa Z Z.heap wB "sun/util/locale/BaseLocale") (FG : Fld Z Z.heap wB "sun/util/locale/BaseLocale" "language" "Ljava/lang/String;" (.ref wG)) (FW : Fld Z Z.heap wG "java/lang/String" "value" "[B" (.ref tG)) (VG : Arv Z Z.heap tG kG .byte (0 : Int32) [] (.int (0 : Int32))) (A84 : clA.slots[84]? = some (.int (8552417 : Int32))) (A70 : clA.slots[70]? = some (.int (8552417 : Int32))) (A101 : clA.slots[101]? = some (.int (8486882 : Int32))) :
    own_Met l Z (⟨"java/lang/CharacterDataLatin1", "isWhitespace", "(I)Z"⟩ : MethodName) jdk_116_method_26_code 3 (some .boolean) ({ frames := 1, cells := 0, slots := 0, locals := 15 } : Room) #[(.ref wI), (.int (84 : Int32))] h0 (fun v h L => v = some (.int (0 : Int32)) ∧ Fr n0 L ∧ h = h0) := by
  refine own_body (plainFor_of_name pn_java_lang_CharacterDataLatin1) ?_
  intro p e s m below meth c T0 X0 e0 hx hby hml hown hnm hret hlk hZ
  replace hown : s.vm.findClass "java/lang/CharacterDataLatin1" = some m.cls := hown
  have N0 := Fr.nil n0
  refine own_of (fun tt_ kk_ => castTop (ef_jdk_116_method_26_codeRI m wI (84 : Int32)) kk_) ?_
  show own_Ends _ _ _ _ _ _ (T0.setTop (mkF m 0 #[.val (.ref wI), .val (.int (84 : Int32)), .unset] []))
  refine own_of (fun tt_ kk_ => XS.aloadN X0.here hx rfl (hb hby d_jdk_116_method_26_code_0) rfl rfl kk_) ?_
  show own_Ends _ _ _ _ _ _ (T0.setTop (mkF m 1 #[.val (.ref wI), .val (.int (84 : Int32)), .unset] [(.ref wI)]))
  refine own_of (fun tt_ kk_ => XS.iloadN X0.here hx rfl (hb hby d_jdk_116_method_26_code_1) rfl  kk_) ?_
  show own_Ends _ _ _ _ _ _ (T0.setTop (mkF m 2 #[.val (.ref wI), .val (.int (84 : Int32)), .unset] [(.int (84 : Int32)), (.ref wI)]))
  obtain ⟨v15, T15, L15, h15, X15, e15, Q15, st15⟩ := own_virtual X0 hx hZ hown e0 (EI.ext OL.2) (hw _ (List.mem_of_getElem? (i := 68) rfl)) (hw _ (List.mem_of_getElem? (i := 69) rfl)) (notFace_of_selects (args := #[]) (mvT hZ (hw _ (List.mem_of_getElem? (i := 71) rfl)))) (hw _ (List.mem_of_getElem? (i := 71) rfl)) (hw _ (List.mem_of_getElem? (i := 70) rfl)) (hw _ (List.mem_of_getElem? (i := 62) rfl)) (hw _ (List.mem_of_getElem? (i := 72) rfl)) (by decide) (argsL := [(.int (84 : Int32))]) (rest := []) (rm_prop84 l Z a0 hw wI G1 wI wA wR wB wG tG clA kG h0 n0 Z0 O2 P3 OL SI EI SA AA ZA SL ER FB EB FG FW VG A84 A70 A101) (g := (mkF m 2 #[.val (.ref wI), .val (.int (84 : Int32)), .unset] [(.int (84 : Int32)), (.ref wI)])) rfl (by rw [hml]; rfl) (lenOf pd__I_r_I rfl) rfl (by decide) (Nat.le_of_ble_eq_true rfl) (by decide) (by decide) (hb hby d_jdk_116_method_26_code_2)
  obtain ⟨rfl, Nq15, q15⟩ := Q15
  replace e15 := e15.trans q15
  have N15 := Fr.app N0 Nq15
  refine own_of st15 ?_
  show own_Ends _ _ _ _ _ _ (T15.setTop (mkF m 5 #[.val (.ref wI), .val (.int (84 : Int32)), .unset] [(.int (8552417 : Int32))]))
  refine own_of (fun tt_ kk_ => XS.istoreN X15.here hx rfl (hb hby d_jdk_116_method_26_code_5) rfl (l' := #[.val (.ref wI), .val (.int (84 : Int32)), .val (.int (8552417 : Int32))]) rfl kk_) ?_
  show own_Ends _ _ _ _ _ _ (T15.setTop (mkF m 6 #[.val (.ref wI), .val (.int (84 : Int32)), .val (.int (8552417 : Int32))] []))
  refine own_of (fun tt_ kk_ => XS.iloadN X15.here hx rfl (hb hby d_jdk_116_method_26_code_6) rfl  kk_) ?_
  show own_Ends _ _ _ _ _ _ (T15.setTop (mkF m 7 #[.val (.ref wI), .val (.int (84 : Int32)), .val (.int (8552417 : Int32))] [(.int (8552417 : Int32))]))
  refine own_of (fun tt_ kk_ => XS.sipush X15.here hx rfl (hb hby d_jdk_116_method_26_code_7) kk_) ?_
  show own_Ends _ _ _ _ _ _ (T15.setTop (mkF m 10 #[.val (.ref wI), .val (.int (84 : Int32)), .val (.int (8552417 : Int32))] [(.int (28672 : Int32)), (.int (8552417 : Int32))]))
  refine own_of (fun tt_ kk_ => XS.iand X15.here hx rfl (hb hby d_jdk_116_method_26_code_10) rfl kk_) ?_
  show own_Ends _ _ _ _ _ _ (T15.setTop (mkF m 11 #[.val (.ref wI), .val (.int (84 : Int32)), .val (.int (8552417 : Int32))] [(.int (28672 : Int32))]))
  refine own_of (fun tt_ kk_ => XS.sipush X15.here hx rfl (hb hby d_jdk_116_method_26_code_11) kk_) ?_
  show own_Ends _ _ _ _ _ _ (T15.setTop (mkF m 14 #[.val (.ref wI), .val (.int (84 : Int32)), .val (.int (8552417 : Int32))] [(.int (16384 : Int32)), (.int (28672 : Int32))]))
  refine own_of (fun tt_ kk_ => XS.icmpYes X15.here hx rfl (pc0 := 14) (pc' := 21) rfl (hb hby d_jdk_116_method_26_code_14) rfl (feq (by decide : ¬ ((28672 : Int32) = (16384 : Int32)))).2 (by decide) (by decide) kk_) ?_
  show own_Ends _ _ _ _ _ _ (T15.setTop (mkF m 21 #[.val (.ref wI), .val (.int (84 : Int32)), .val (.int (8552417 : Int32))] []))
  refine own_of (fun tt_ kk_ => XS.iconst X15.here hx rfl (hb hby d_jdk_116_method_26_code_21) kk_) ?_
  show own_Ends _ _ _ _ _ _ (T15.setTop (mkF m 22 #[.val (.ref wI), .val (.int (84 : Int32)), .val (.int (8552417 : Int32))] [(.int (0 : Int32))]))
  refine own_retN X15 hx hlk e15 (t := .boolean) hret (by simp) (z' := (0 : Int32)) rfl (hb hby d_jdk_116_method_26_code_22) (by decide) (by decide) ?_
  exact ⟨rfl, N15, rfl⟩
set_option maxRecDepth 65536 in
set_option maxHeartbeats 40000000 in
theorem rm_prop70 (l : Launch) (Z : State) (a0 : Array Value) (hw : ∀ d ∈ tables_1, d.before a0 Z = true) (a : Addr) (G1 : Int32) (wI wA wR wB wG tG : Addr) (clA : Cell) (kG : ClassId) (h0 : Heap) (n0 : Nat) (Z0 : n0 ≤ h0.size) (O2 : Sta Z Z.heap "java/lang/String" "COMPACT_STRINGS" "Z" (.int G1)) (P3 : ¬ (G1 = (0 : Int32))) (OL : Old Z n0 h0) (SI : Sta Z Z.heap "java/lang/CharacterDataLatin1" "instance" "Ljava/lang/CharacterDataLatin1;" (.ref wI)) (EI : Exa Z Z.heap wI "java/lang/CharacterDataLatin1") (SA : Sta Z Z.heap "java/lang/CharacterDataLatin1" "A" "[I" (.ref wA)) (AA : Arr Z Z.heap wA clA .int) (ZA : clA.slots.size = 256) (SL : Sta Z Z.heap "java/util/Locale" "ROOT" "Ljava/util/Locale;" (.ref wR)) (ER : Exa Z Z.heap wR "java/util/Locale") (FB : Fld Z Z.heap wR "java/util/Locale" "baseLocale" "Lsun/util/locale/BaseLocale;" (.ref wB)) (EB : Exa Z Z.heap wB "sun/util/locale/BaseLocale") (FG : Fld Z Z.heap wB "sun/util/locale/BaseLocale" "language" "Ljava/lang/String;" (.ref wG)) (FW : Fld Z Z.heap wG "java/lang/String" "value" "[B" (.ref tG)) (VG : Arv Z Z.heap tG kG .byte (0 : Int32) [] (.int (0 : Int32))) (A84 : clA.slots[84]? = some (.int (8552417 : Int32))) (A70 : clA.slots[70]? = some (.int (8552417 : Int32))) (A101 : clA.slots[101]? = some (.int (8486882 : Int32))) :
    own_Met l Z (⟨"java/lang/CharacterDataLatin1", "getProperties", "(I)I"⟩ : MethodName) jdk_116_method_1_code 4 (some .int) ({ frames := 0, cells := 0, slots := 0, locals := 0 } : Room) #[(.ref a), (.int (70 : Int32))] h0 (fun v h L => v = some (.int (8552417 : Int32)) ∧ Fr n0 L ∧ h = h0) := by
  refine own_body (plainFor_of_name pn_java_lang_CharacterDataLatin1) ?_
  intro p e s m below meth c T0 X0 e0 hx hby hml hown hnm hret hlk hZ
  replace hown : s.vm.findClass "java/lang/CharacterDataLatin1" = some m.cls := hown
  have N0 := Fr.nil n0
  refine own_of (fun tt_ kk_ => castTop (ef_jdk_116_method_1_codeRI m a (70 : Int32)) kk_) ?_
  show own_Ends _ _ _ _ _ _ (T0.setTop (mkF m 0 #[.val (.ref a), .val (.int (70 : Int32)), .unset, .unset] []))
  refine own_of (fun tt_ kk_ => XS.iloadN X0.here hx rfl (hb hby d_jdk_116_method_1_code_0) rfl  kk_) ?_
  show own_Ends _ _ _ _ _ _ (T0.setTop (mkF m 1 #[.val (.ref a), .val (.int (70 : Int32)), .unset, .unset] [(.int (70 : Int32))]))
  refine own_of (fun tt_ kk_ => XS.i2c X0.here hx rfl (hb hby d_jdk_116_method_1_code_1) rfl kk_) ?_
  show own_Ends _ _ _ _ _ _ (T0.setTop (mkF m 2 #[.val (.ref a), .val (.int (70 : Int32)), .unset, .unset] [(.int (70 : Int32))]))
  refine own_of (fun tt_ kk_ => XS.istoreN X0.here hx rfl (hb hby d_jdk_116_method_1_code_2) rfl (l' := #[.val (.ref a), .val (.int (70 : Int32)), .val (.int (70 : Int32)), .unset]) rfl kk_) ?_
  show own_Ends _ _ _ _ _ _ (T0.setTop (mkF m 3 #[.val (.ref a), .val (.int (70 : Int32)), .val (.int (70 : Int32)), .unset] []))
  obtain ⟨T16, X16, e16, st16⟩ := getS2 X0 hx hZ hown (host := "") (Or.inl (hw _ (List.mem_of_getElem? (i := 73) rfl))) Via.refl e0 (SA.ext OL.2) (g := (mkF m 3 #[.val (.ref a), .val (.int (70 : Int32)), .val (.int (70 : Int32)), .unset] [])) rfl (hb hby d_jdk_116_method_1_code_3)
  refine own_of st16 ?_
  show own_Ends _ _ _ _ _ _ (T16.setTop (mkF m 6 #[.val (.ref a), .val (.int (70 : Int32)), .val (.int (70 : Int32)), .unset] [(.ref wA)]))
  refine own_of (fun tt_ kk_ => XS.iloadN X16.here hx rfl (hb hby d_jdk_116_method_1_code_6) rfl  kk_) ?_
  show own_Ends _ _ _ _ _ _ (T16.setTop (mkF m 7 #[.val (.ref a), .val (.int (70 : Int32)), .val (.int (70 : Int32)), .unset] [(.int (70 : Int32)), (.ref wA)]))
  have Ar17 := AA.ext OL.2
  have hin17 : ¬ ((70 : Int32) < 0 ∨ clA.slots.size ≤ ((70 : Int32)).toNatClampNeg) := by rw [ZA]; decide
  have hat17 : clA.slots[((70 : Int32)).toNatClampNeg]? = some (.int (8552417 : Int32)) := A70
  refine own_of (fun tt_ kk_ => X16.iaload hx (j := (70 : Int32)) (v := (.int (8552417 : Int32))) (by rw [e16]; exact Ar17.1) (State.isArrayOf_alike hZ.alike Ar17.2.1) Ar17.2.2 hin17 hat17 (g := (mkF m 7 #[.val (.ref a), .val (.int (70 : Int32)), .val (.int (70 : Int32)), .unset] [(.int (70 : Int32)), (.ref wA)])) rfl rfl (hb hby d_jdk_116_method_1_code_7) _ kk_) ?_
  show own_Ends _ _ _ _ _ _ (T16.setTop (mkF m 8 #[.val (.ref a), .val (.int (70 : Int32)), .val (.int (70 : Int32)), .unset] [(.int (8552417 : Int32))]))
  refine own_of (fun tt_ kk_ => XS.istoreN X16.here hx rfl (hb hby d_jdk_116_method_1_code_8) rfl (l' := #[.val (.ref a), .val (.int (70 : Int32)), .val (.int (70 : Int32)), .val (.int (8552417 : Int32))]) rfl kk_) ?_
  show own_Ends _ _ _ _ _ _ (T16.setTop (mkF m 9 #[.val (.ref a), .val (.int (70 : Int32)), .val (.int (70 : Int32)), .val (.int (8552417 : Int32))] []))
  refine own_of (fun tt_ kk_ => XS.iloadN X16.here hx rfl (hb hby d_jdk_116_method_1_code_9) rfl  kk_) ?_
  show own_Ends _ _ _ _ _ _ (T16.setTop (mkF m 10 #[.val (.ref a), .val (.int (70 : Int32)), .val (.int (70 : Int32)), .val (.int (8552417 : Int32))] [(.int (8552417 : Int32))]))
  refine own_retI X16 hx hlk e16 hret (hb hby d_jdk_116_method_1_code_10) (by decide) (by decide) ?_
  exact ⟨rfl, N0, rfl⟩
set_option maxRecDepth 65536 in
set_option maxHeartbeats 40000000 in
theorem rm_ws70 (l : Launch) (Z : State) (a0 : Array Value) (hw : ∀ d ∈ tables_1, d.before a0 Z = true) (G1 : Int32) (wI wA wR wB wG tG : Addr) (clA : Cell) (kG : ClassId) (h0 : Heap) (n0 : Nat) (Z0 : n0 ≤ h0.size) (O2 : Sta Z Z.heap "java/lang/String" "COMPACT_STRINGS" "Z" (.int G1)) (P3 : ¬ (G1 = (0 : Int32))) (OL : Old Z n0 h0) (SI : Sta Z Z.heap "java/lang/CharacterDataLatin1" "instance" "Ljava/lang/CharacterDataLatin1;" (.ref wI)) (EI : Exa Z Z.heap wI "java/lang/CharacterDataLatin1") (SA : Sta Z Z.heap "java/lang/CharacterDataLatin1" "A" "[I" (.ref wA)) (AA : Arr Z Z.heap wA clA .int) (ZA : clA.slots.size = 256) (SL : Sta Z Z.heap "java/util/Locale" "ROOT" "Ljava/util/Locale;" (.ref wR)) (ER : Exa Z Z.heap wR "java/util/Locale") (FB : Fld Z Z.heap wR "java/util/Locale" "baseLocale" "Lsun/util/locale/BaseLocale;" (.ref wB)) (EB : Exa Z Z.heap wB "sun/util/locale/BaseLocale") (FG : Fld Z Z.heap wB "sun/util/locale/BaseLocale" "language" "Ljava/lang/String;" (.ref wG)) (FW : Fld Z Z.heap wG "java/lang/String" "value" "[B" (.ref tG)) (VG : Arv Z Z.heap tG kG .byte (0 : Int32) [] (.int (0 : Int32))) (A84 : clA.slots[84]? = some (.int (8552417 : Int32))) (A70 : clA.slots[70]? = some (.int (8552417 : Int32))) (A101 : clA.slots[101]? = some (.int (8486882 : Int32))) :
    own_Met l Z (⟨"java/lang/CharacterDataLatin1", "isWhitespace", "(I)Z"⟩ : MethodName) jdk_116_method_26_code 3 (some .boolean) ({ frames := 1, cells := 0, slots := 0, locals := 15 } : Room) #[(.ref wI), (.int (70 : Int32))] h0 (fun v h L => v = some (.int (0 : Int32)) ∧ Fr n0 L ∧ h = h0) := by
  refine own_body (plainFor_of_name pn_java_lang_CharacterDataLatin1) ?_
  intro p e s m below meth c T0 X0 e0 hx hby hml hown hnm hret hlk hZ
  replace hown : s.vm.findClass "java/lang/CharacterDataLatin1" = some m.cls := hown
  have N0 := Fr.nil n0
  refine own_of (fun tt_ kk_ => castTop (ef_jdk_116_method_26_codeRI m wI (70 : Int32)) kk_) ?_
  show own_Ends _ _ _ _ _ _ (T0.setTop (mkF m 0 #[.val (.ref wI), .val (.int (70 : Int32)), .unset] []))
  refine own_of (fun tt_ kk_ => XS.aloadN X0.here hx rfl (hb hby d_jdk_116_method_26_code_0) rfl rfl kk_) ?_
  show own_Ends _ _ _ _ _ _ (T0.setTop (mkF m 1 #[.val (.ref wI), .val (.int (70 : Int32)), .unset] [(.ref wI)]))
  refine own_of (fun tt_ kk_ => XS.iloadN X0.here hx rfl (hb hby d_jdk_116_method_26_code_1) rfl  kk_) ?_
  show own_Ends _ _ _ _ _ _ (T0.setTop (mkF m 2 #[.val (.ref wI), .val (.int (70 : Int32)), .unset] [(.int (70 : Int32)), (.ref wI)]))
  obtain ⟨v18, T18, L18, h18, X18, e18, Q18, st18⟩ := own_virtual X0 hx hZ hown e0 (EI.ext OL.2) (hw _ (List.mem_of_getElem? (i := 68) rfl)) (hw _ (List.mem_of_getElem? (i := 69) rfl)) (notFace_of_selects (args := #[]) (mvT hZ (hw _ (List.mem_of_getElem? (i := 71) rfl)))) (hw _ (List.mem_of_getElem? (i := 71) rfl)) (hw _ (List.mem_of_getElem? (i := 70) rfl)) (hw _ (List.mem_of_getElem? (i := 62) rfl)) (hw _ (List.mem_of_getElem? (i := 72) rfl)) (by decide) (argsL := [(.int (70 : Int32))]) (rest := []) (rm_prop70 l Z a0 hw wI G1 wI wA wR wB wG tG clA kG h0 n0 Z0 O2 P3 OL SI EI SA AA ZA SL ER FB EB FG FW VG A84 A70 A101) (g := (mkF m 2 #[.val (.ref wI), .val (.int (70 : Int32)), .unset] [(.int (70 : Int32)), (.ref wI)])) rfl (by rw [hml]; rfl) (lenOf pd__I_r_I rfl) rfl (by decide) (Nat.le_of_ble_eq_true rfl) (by decide) (by decide) (hb hby d_jdk_116_method_26_code_2)
  obtain ⟨rfl, Nq18, q18⟩ := Q18
  replace e18 := e18.trans q18
  have N18 := Fr.app N0 Nq18
  refine own_of st18 ?_
  show own_Ends _ _ _ _ _ _ (T18.setTop (mkF m 5 #[.val (.ref wI), .val (.int (70 : Int32)), .unset] [(.int (8552417 : Int32))]))
  refine own_of (fun tt_ kk_ => XS.istoreN X18.here hx rfl (hb hby d_jdk_116_method_26_code_5) rfl (l' := #[.val (.ref wI), .val (.int (70 : Int32)), .val (.int (8552417 : Int32))]) rfl kk_) ?_
  show own_Ends _ _ _ _ _ _ (T18.setTop (mkF m 6 #[.val (.ref wI), .val (.int (70 : Int32)), .val (.int (8552417 : Int32))] []))
  refine own_of (fun tt_ kk_ => XS.iloadN X18.here hx rfl (hb hby d_jdk_116_method_26_code_6) rfl  kk_) ?_
  show own_Ends _ _ _ _ _ _ (T18.setTop (mkF m 7 #[.val (.ref wI), .val (.int (70 : Int32)), .val (.int (8552417 : Int32))] [(.int (8552417 : Int32))]))
  refine own_of (fun tt_ kk_ => XS.sipush X18.here hx rfl (hb hby d_jdk_116_method_26_code_7) kk_) ?_
  show own_Ends _ _ _ _ _ _ (T18.setTop (mkF m 10 #[.val (.ref wI), .val (.int (70 : Int32)), .val (.int (8552417 : Int32))] [(.int (28672 : Int32)), (.int (8552417 : Int32))]))
  refine own_of (fun tt_ kk_ => XS.iand X18.here hx rfl (hb hby d_jdk_116_method_26_code_10) rfl kk_) ?_
  show own_Ends _ _ _ _ _ _ (T18.setTop (mkF m 11 #[.val (.ref wI), .val (.int (70 : Int32)), .val (.int (8552417 : Int32))] [(.int (28672 : Int32))]))
  refine own_of (fun tt_ kk_ => XS.sipush X18.here hx rfl (hb hby d_jdk_116_method_26_code_11) kk_) ?_
  show own_Ends _ _ _ _ _ _ (T18.setTop (mkF m 14 #[.val (.ref wI), .val (.int (70 : Int32)), .val (.int (8552417 : Int32))] [(.int (16384 : Int32)), (.int (28672 : Int32))]))
  refine own_of (fun tt_ kk_ => XS.icmpYes X18.here hx rfl (pc0 := 14) (pc' := 21) rfl (hb hby d_jdk_116_method_26_code_14) rfl (feq (by decide : ¬ ((28672 : Int32) = (16384 : Int32)))).2 (by decide) (by decide) kk_) ?_
  show own_Ends _ _ _ _ _ _ (T18.setTop (mkF m 21 #[.val (.ref wI), .val (.int (70 : Int32)), .val (.int (8552417 : Int32))] []))
  refine own_of (fun tt_ kk_ => XS.iconst X18.here hx rfl (hb hby d_jdk_116_method_26_code_21) kk_) ?_
  show own_Ends _ _ _ _ _ _ (T18.setTop (mkF m 22 #[.val (.ref wI), .val (.int (70 : Int32)), .val (.int (8552417 : Int32))] [(.int (0 : Int32))]))
  refine own_retN X18 hx hlk e18 (t := .boolean) hret (by simp) (z' := (0 : Int32)) rfl (hb hby d_jdk_116_method_26_code_22) (by decide) (by decide) ?_
  exact ⟨rfl, N18, rfl⟩
set_option maxRecDepth 65536 in
set_option maxHeartbeats 40000000 in
theorem rm_prop101 (l : Launch) (Z : State) (a0 : Array Value) (hw : ∀ d ∈ tables_1, d.before a0 Z = true) (a : Addr) (G1 : Int32) (wI wA wR wB wG tG : Addr) (clA : Cell) (kG : ClassId) (h0 : Heap) (n0 : Nat) (Z0 : n0 ≤ h0.size) (O2 : Sta Z Z.heap "java/lang/String" "COMPACT_STRINGS" "Z" (.int G1)) (P3 : ¬ (G1 = (0 : Int32))) (OL : Old Z n0 h0) (SI : Sta Z Z.heap "java/lang/CharacterDataLatin1" "instance" "Ljava/lang/CharacterDataLatin1;" (.ref wI)) (EI : Exa Z Z.heap wI "java/lang/CharacterDataLatin1") (SA : Sta Z Z.heap "java/lang/CharacterDataLatin1" "A" "[I" (.ref wA)) (AA : Arr Z Z.heap wA clA .int) (ZA : clA.slots.size = 256) (SL : Sta Z Z.heap "java/util/Locale" "ROOT" "Ljava/util/Locale;" (.ref wR)) (ER : Exa Z Z.heap wR "java/util/Locale") (FB : Fld Z Z.heap wR "java/util/Locale" "baseLocale" "Lsun/util/locale/BaseLocale;" (.ref wB)) (EB : Exa Z Z.heap wB "sun/util/locale/BaseLocale") (FG : Fld Z Z.heap wB "sun/util/locale/BaseLocale" "language" "Ljava/lang/String;" (.ref wG)) (FW : Fld Z Z.heap wG "java/lang/String" "value" "[B" (.ref tG)) (VG : Arv Z Z.heap tG kG .byte (0 : Int32) [] (.int (0 : Int32))) (A84 : clA.slots[84]? = some (.int (8552417 : Int32))) (A70 : clA.slots[70]? = some (.int (8552417 : Int32))) (A101 : clA.slots[101]? = some (.int (8486882 : Int32))) :
    own_Met l Z (⟨"java/lang/CharacterDataLatin1", "getProperties", "(I)I"⟩ : MethodName) jdk_116_method_1_code 4 (some .int) ({ frames := 0, cells := 0, slots := 0, locals := 0 } : Room) #[(.ref a), (.int (101 : Int32))] h0 (fun v h L => v = some (.int (8486882 : Int32)) ∧ Fr n0 L ∧ h = h0) := by
  refine own_body (plainFor_of_name pn_java_lang_CharacterDataLatin1) ?_
  intro p e s m below meth c T0 X0 e0 hx hby hml hown hnm hret hlk hZ
  replace hown : s.vm.findClass "java/lang/CharacterDataLatin1" = some m.cls := hown
  have N0 := Fr.nil n0
  refine own_of (fun tt_ kk_ => castTop (ef_jdk_116_method_1_codeRI m a (101 : Int32)) kk_) ?_
  show own_Ends _ _ _ _ _ _ (T0.setTop (mkF m 0 #[.val (.ref a), .val (.int (101 : Int32)), .unset, .unset] []))
  refine own_of (fun tt_ kk_ => XS.iloadN X0.here hx rfl (hb hby d_jdk_116_method_1_code_0) rfl  kk_) ?_
  show own_Ends _ _ _ _ _ _ (T0.setTop (mkF m 1 #[.val (.ref a), .val (.int (101 : Int32)), .unset, .unset] [(.int (101 : Int32))]))
  refine own_of (fun tt_ kk_ => XS.i2c X0.here hx rfl (hb hby d_jdk_116_method_1_code_1) rfl kk_) ?_
  show own_Ends _ _ _ _ _ _ (T0.setTop (mkF m 2 #[.val (.ref a), .val (.int (101 : Int32)), .unset, .unset] [(.int (101 : Int32))]))
  refine own_of (fun tt_ kk_ => XS.istoreN X0.here hx rfl (hb hby d_jdk_116_method_1_code_2) rfl (l' := #[.val (.ref a), .val (.int (101 : Int32)), .val (.int (101 : Int32)), .unset]) rfl kk_) ?_
  show own_Ends _ _ _ _ _ _ (T0.setTop (mkF m 3 #[.val (.ref a), .val (.int (101 : Int32)), .val (.int (101 : Int32)), .unset] []))
  obtain ⟨T19, X19, e19, st19⟩ := getS2 X0 hx hZ hown (host := "") (Or.inl (hw _ (List.mem_of_getElem? (i := 73) rfl))) Via.refl e0 (SA.ext OL.2) (g := (mkF m 3 #[.val (.ref a), .val (.int (101 : Int32)), .val (.int (101 : Int32)), .unset] [])) rfl (hb hby d_jdk_116_method_1_code_3)
  refine own_of st19 ?_
  show own_Ends _ _ _ _ _ _ (T19.setTop (mkF m 6 #[.val (.ref a), .val (.int (101 : Int32)), .val (.int (101 : Int32)), .unset] [(.ref wA)]))
  refine own_of (fun tt_ kk_ => XS.iloadN X19.here hx rfl (hb hby d_jdk_116_method_1_code_6) rfl  kk_) ?_
  show own_Ends _ _ _ _ _ _ (T19.setTop (mkF m 7 #[.val (.ref a), .val (.int (101 : Int32)), .val (.int (101 : Int32)), .unset] [(.int (101 : Int32)), (.ref wA)]))
  have Ar20 := AA.ext OL.2
  have hin20 : ¬ ((101 : Int32) < 0 ∨ clA.slots.size ≤ ((101 : Int32)).toNatClampNeg) := by rw [ZA]; decide
  have hat20 : clA.slots[((101 : Int32)).toNatClampNeg]? = some (.int (8486882 : Int32)) := A101
  refine own_of (fun tt_ kk_ => X19.iaload hx (j := (101 : Int32)) (v := (.int (8486882 : Int32))) (by rw [e19]; exact Ar20.1) (State.isArrayOf_alike hZ.alike Ar20.2.1) Ar20.2.2 hin20 hat20 (g := (mkF m 7 #[.val (.ref a), .val (.int (101 : Int32)), .val (.int (101 : Int32)), .unset] [(.int (101 : Int32)), (.ref wA)])) rfl rfl (hb hby d_jdk_116_method_1_code_7) _ kk_) ?_
  show own_Ends _ _ _ _ _ _ (T19.setTop (mkF m 8 #[.val (.ref a), .val (.int (101 : Int32)), .val (.int (101 : Int32)), .unset] [(.int (8486882 : Int32))]))
  refine own_of (fun tt_ kk_ => XS.istoreN X19.here hx rfl (hb hby d_jdk_116_method_1_code_8) rfl (l' := #[.val (.ref a), .val (.int (101 : Int32)), .val (.int (101 : Int32)), .val (.int (8486882 : Int32))]) rfl kk_) ?_
  show own_Ends _ _ _ _ _ _ (T19.setTop (mkF m 9 #[.val (.ref a), .val (.int (101 : Int32)), .val (.int (101 : Int32)), .val (.int (8486882 : Int32))] []))
  refine own_of (fun tt_ kk_ => XS.iloadN X19.here hx rfl (hb hby d_jdk_116_method_1_code_9) rfl  kk_) ?_
  show own_Ends _ _ _ _ _ _ (T19.setTop (mkF m 10 #[.val (.ref a), .val (.int (101 : Int32)), .val (.int (101 : Int32)), .val (.int (8486882 : Int32))] [(.int (8486882 : Int32))]))
  refine own_retI X19 hx hlk e19 hret (hb hby d_jdk_116_method_1_code_10) (by decide) (by decide) ?_
  exact ⟨rfl, N0, rfl⟩
set_option maxRecDepth 65536 in
set_option maxHeartbeats 40000000 in
theorem rm_ws101 (l : Launch) (Z : State) (a0 : Array Value) (hw : ∀ d ∈ tables_1, d.before a0 Z = true) (G1 : Int32) (wI wA wR wB wG tG : Addr) (clA : Cell) (kG : ClassId) (h0 : Heap) (n0 : Nat) (Z0 : n0 ≤ h0.size) (O2 : Sta Z Z.heap "java/lang/String" "COMPACT_STRINGS" "Z" (.int G1)) (P3 : ¬ (G1 = (0 : Int32))) (OL : Old Z n0 h0) (SI : Sta Z Z.heap "java/lang/CharacterDataLatin1" "instance" "Ljava/lang/CharacterDataLatin1;" (.ref wI)) (EI : Exa Z Z.heap wI "java/lang/CharacterDataLatin1") (SA : Sta Z Z.heap "java/lang/CharacterDataLatin1" "A" "[I" (.ref wA)) (AA : Arr Z Z.heap wA clA .int) (ZA : clA.slots.size = 256) (SL : Sta Z Z.heap "java/util/Locale" "ROOT" "Ljava/util/Locale;" (.ref wR)) (ER : Exa Z Z.heap wR "java/util/Locale") (FB : Fld Z Z.heap wR "java/util/Locale" "baseLocale" "Lsun/util/locale/BaseLocale;" (.ref wB)) (EB : Exa Z Z.heap wB "sun/util/locale/BaseLocale") (FG : Fld Z Z.heap wB "sun/util/locale/BaseLocale" "language" "Ljava/lang/String;" (.ref wG)) (FW : Fld Z Z.heap wG "java/lang/String" "value" "[B" (.ref tG)) (VG : Arv Z Z.heap tG kG .byte (0 : Int32) [] (.int (0 : Int32))) (A84 : clA.slots[84]? = some (.int (8552417 : Int32))) (A70 : clA.slots[70]? = some (.int (8552417 : Int32))) (A101 : clA.slots[101]? = some (.int (8486882 : Int32))) :
    own_Met l Z (⟨"java/lang/CharacterDataLatin1", "isWhitespace", "(I)Z"⟩ : MethodName) jdk_116_method_26_code 3 (some .boolean) ({ frames := 1, cells := 0, slots := 0, locals := 15 } : Room) #[(.ref wI), (.int (101 : Int32))] h0 (fun v h L => v = some (.int (0 : Int32)) ∧ Fr n0 L ∧ h = h0) := by
  refine own_body (plainFor_of_name pn_java_lang_CharacterDataLatin1) ?_
  intro p e s m below meth c T0 X0 e0 hx hby hml hown hnm hret hlk hZ
  replace hown : s.vm.findClass "java/lang/CharacterDataLatin1" = some m.cls := hown
  have N0 := Fr.nil n0
  refine own_of (fun tt_ kk_ => castTop (ef_jdk_116_method_26_codeRI m wI (101 : Int32)) kk_) ?_
  show own_Ends _ _ _ _ _ _ (T0.setTop (mkF m 0 #[.val (.ref wI), .val (.int (101 : Int32)), .unset] []))
  refine own_of (fun tt_ kk_ => XS.aloadN X0.here hx rfl (hb hby d_jdk_116_method_26_code_0) rfl rfl kk_) ?_
  show own_Ends _ _ _ _ _ _ (T0.setTop (mkF m 1 #[.val (.ref wI), .val (.int (101 : Int32)), .unset] [(.ref wI)]))
  refine own_of (fun tt_ kk_ => XS.iloadN X0.here hx rfl (hb hby d_jdk_116_method_26_code_1) rfl  kk_) ?_
  show own_Ends _ _ _ _ _ _ (T0.setTop (mkF m 2 #[.val (.ref wI), .val (.int (101 : Int32)), .unset] [(.int (101 : Int32)), (.ref wI)]))
  obtain ⟨v21, T21, L21, h21, X21, e21, Q21, st21⟩ := own_virtual X0 hx hZ hown e0 (EI.ext OL.2) (hw _ (List.mem_of_getElem? (i := 68) rfl)) (hw _ (List.mem_of_getElem? (i := 69) rfl)) (notFace_of_selects (args := #[]) (mvT hZ (hw _ (List.mem_of_getElem? (i := 71) rfl)))) (hw _ (List.mem_of_getElem? (i := 71) rfl)) (hw _ (List.mem_of_getElem? (i := 70) rfl)) (hw _ (List.mem_of_getElem? (i := 62) rfl)) (hw _ (List.mem_of_getElem? (i := 72) rfl)) (by decide) (argsL := [(.int (101 : Int32))]) (rest := []) (rm_prop101 l Z a0 hw wI G1 wI wA wR wB wG tG clA kG h0 n0 Z0 O2 P3 OL SI EI SA AA ZA SL ER FB EB FG FW VG A84 A70 A101) (g := (mkF m 2 #[.val (.ref wI), .val (.int (101 : Int32)), .unset] [(.int (101 : Int32)), (.ref wI)])) rfl (by rw [hml]; rfl) (lenOf pd__I_r_I rfl) rfl (by decide) (Nat.le_of_ble_eq_true rfl) (by decide) (by decide) (hb hby d_jdk_116_method_26_code_2)
  obtain ⟨rfl, Nq21, q21⟩ := Q21
  replace e21 := e21.trans q21
  have N21 := Fr.app N0 Nq21
  refine own_of st21 ?_
  show own_Ends _ _ _ _ _ _ (T21.setTop (mkF m 5 #[.val (.ref wI), .val (.int (101 : Int32)), .unset] [(.int (8486882 : Int32))]))
  refine own_of (fun tt_ kk_ => XS.istoreN X21.here hx rfl (hb hby d_jdk_116_method_26_code_5) rfl (l' := #[.val (.ref wI), .val (.int (101 : Int32)), .val (.int (8486882 : Int32))]) rfl kk_) ?_
  show own_Ends _ _ _ _ _ _ (T21.setTop (mkF m 6 #[.val (.ref wI), .val (.int (101 : Int32)), .val (.int (8486882 : Int32))] []))
  refine own_of (fun tt_ kk_ => XS.iloadN X21.here hx rfl (hb hby d_jdk_116_method_26_code_6) rfl  kk_) ?_
  show own_Ends _ _ _ _ _ _ (T21.setTop (mkF m 7 #[.val (.ref wI), .val (.int (101 : Int32)), .val (.int (8486882 : Int32))] [(.int (8486882 : Int32))]))
  refine own_of (fun tt_ kk_ => XS.sipush X21.here hx rfl (hb hby d_jdk_116_method_26_code_7) kk_) ?_
  show own_Ends _ _ _ _ _ _ (T21.setTop (mkF m 10 #[.val (.ref wI), .val (.int (101 : Int32)), .val (.int (8486882 : Int32))] [(.int (28672 : Int32)), (.int (8486882 : Int32))]))
  refine own_of (fun tt_ kk_ => XS.iand X21.here hx rfl (hb hby d_jdk_116_method_26_code_10) rfl kk_) ?_
  show own_Ends _ _ _ _ _ _ (T21.setTop (mkF m 11 #[.val (.ref wI), .val (.int (101 : Int32)), .val (.int (8486882 : Int32))] [(.int (28672 : Int32))]))
  refine own_of (fun tt_ kk_ => XS.sipush X21.here hx rfl (hb hby d_jdk_116_method_26_code_11) kk_) ?_
  show own_Ends _ _ _ _ _ _ (T21.setTop (mkF m 14 #[.val (.ref wI), .val (.int (101 : Int32)), .val (.int (8486882 : Int32))] [(.int (16384 : Int32)), (.int (28672 : Int32))]))
  refine own_of (fun tt_ kk_ => XS.icmpYes X21.here hx rfl (pc0 := 14) (pc' := 21) rfl (hb hby d_jdk_116_method_26_code_14) rfl (feq (by decide : ¬ ((28672 : Int32) = (16384 : Int32)))).2 (by decide) (by decide) kk_) ?_
  show own_Ends _ _ _ _ _ _ (T21.setTop (mkF m 21 #[.val (.ref wI), .val (.int (101 : Int32)), .val (.int (8486882 : Int32))] []))
  refine own_of (fun tt_ kk_ => XS.iconst X21.here hx rfl (hb hby d_jdk_116_method_26_code_21) kk_) ?_
  show own_Ends _ _ _ _ _ _ (T21.setTop (mkF m 22 #[.val (.ref wI), .val (.int (101 : Int32)), .val (.int (8486882 : Int32))] [(.int (0 : Int32))]))
  refine own_retN X21 hx hlk e21 (t := .boolean) hret (by simp) (z' := (0 : Int32)) rfl (hb hby d_jdk_116_method_26_code_22) (by decide) (by decide) ?_
  exact ⟨rfl, N21, rfl⟩
theorem d_jdk_43_method_44_code_0 : decode jdk_43_method_44_code 0 = .ok (.aload_n 0, 1) := by decide +kernel
theorem d_jdk_43_method_44_code_1 : decode jdk_43_method_44_code 1 = .ok (.iload_n 1, 1) := by decide +kernel
theorem d_jdk_43_method_44_code_2 : decode jdk_43_method_44_code 2 = .ok (.baload, 1) := by decide +kernel
theorem d_jdk_43_method_44_code_3 : decode jdk_43_method_44_code 3 = .ok (.sipush 255, 3) := by decide +kernel
theorem d_jdk_43_method_44_code_6 : decode jdk_43_method_44_code 6 = .ok (.iand, 1) := by decide +kernel
theorem d_jdk_43_method_44_code_7 : decode jdk_43_method_44_code 7 = .ok (.i2c, 1) := by decide +kernel
theorem d_jdk_43_method_44_code_8 : decode jdk_43_method_44_code 8 = .ok (.ireturn, 1) := by decide +kernel
theorem ef_jdk_43_method_44_codeRI (m : MethodId) (z0 : Addr) (z1 : Int32) : entryFrame m #[(.ref z0), (.int z1)] 2 = mkF m 0 #[.val (.ref z0), .val (.int z1)] [] := by first | (simp [entryFrame, mkF, argsToLocals, Value.category]; done) | rfl
set_option maxRecDepth 65536 in
set_option maxHeartbeats 40000000 in
theorem rm_gch_True0 (l : Launch) (Z : State) (a0 : Array Value) (hw : ∀ d ∈ tables_1, d.before a0 Z = true) (t : Addr) (k : ClassId) (h0 : Heap) (n0 : Nat) (Z0 : n0 ≤ h0.size) (V : Arv Z h0 t k .byte (4 : Int32) [(.int (84 : Int32)), (.int (114 : Int32)), (.int (117 : Int32)), (.int (101 : Int32))] (.int (0 : Int32))) :
    own_Met l Z (⟨"java/lang/StringLatin1", "getChar", "([BI)C"⟩ : MethodName) jdk_43_method_44_code 2 (some .char) ({ frames := 0, cells := 0, slots := 0, locals := 0 } : Room) #[(.ref t), (.int (0 : Int32))] h0 (fun v h L => v = some (.int (84 : Int32)) ∧ Fr n0 L ∧ h = h0) := by
  refine own_body (plainFor_of_name pn_java_lang_StringLatin1) ?_
  intro p e s m below meth c T0 X0 e0 hx hby hml hown hnm hret hlk hZ
  replace hown : s.vm.findClass "java/lang/StringLatin1" = some m.cls := hown
  have N0 := Fr.nil n0
  refine own_of (fun tt_ kk_ => castTop (ef_jdk_43_method_44_codeRI m t (0 : Int32)) kk_) ?_
  show own_Ends _ _ _ _ _ _ (T0.setTop (mkF m 0 #[.val (.ref t), .val (.int (0 : Int32))] []))
  refine own_of (fun tt_ kk_ => XS.aloadN X0.here hx rfl (hb hby d_jdk_43_method_44_code_0) rfl rfl kk_) ?_
  show own_Ends _ _ _ _ _ _ (T0.setTop (mkF m 1 #[.val (.ref t), .val (.int (0 : Int32))] [(.ref t)]))
  refine own_of (fun tt_ kk_ => XS.iloadN X0.here hx rfl (hb hby d_jdk_43_method_44_code_1) rfl  kk_) ?_
  show own_Ends _ _ _ _ _ _ (T0.setTop (mkF m 2 #[.val (.ref t), .val (.int (0 : Int32))] [(.int (0 : Int32)), (.ref t)]))
  obtain ⟨cl22, Ar22, q22, S22, N22', H22, G22⟩ := id V
  have hin22 : ¬ ((0 : Int32) < 0 ∨ cl22.slots.size ≤ ((0 : Int32)).toNatClampNeg) := inb_of S22 ⟨by decide, by decide⟩
  have hat22 : cl22.slots[((0 : Int32)).toNatClampNeg]? = some (.int (84 : Int32)) := H22.at hin22 rfl
  refine own_of (fun tt_ kk_ => X0.baloadBytes hx (j := (0 : Int32)) (v := (.int (84 : Int32))) (by rw [e0]; exact Ar22.1) (State.isArrayOf_alike hZ.alike Ar22.2.1) Ar22.2.2 hin22 hat22 (g := (mkF m 2 #[.val (.ref t), .val (.int (0 : Int32))] [(.int (0 : Int32)), (.ref t)])) rfl rfl (hb hby d_jdk_43_method_44_code_2) _ kk_) ?_
  show own_Ends _ _ _ _ _ _ (T0.setTop (mkF m 3 #[.val (.ref t), .val (.int (0 : Int32))] [(.int (84 : Int32))]))
  refine own_of (fun tt_ kk_ => XS.sipush X0.here hx rfl (hb hby d_jdk_43_method_44_code_3) kk_) ?_
  show own_Ends _ _ _ _ _ _ (T0.setTop (mkF m 6 #[.val (.ref t), .val (.int (0 : Int32))] [(.int (255 : Int32)), (.int (84 : Int32))]))
  refine own_of (fun tt_ kk_ => XS.iand X0.here hx rfl (hb hby d_jdk_43_method_44_code_6) rfl kk_) ?_
  show own_Ends _ _ _ _ _ _ (T0.setTop (mkF m 7 #[.val (.ref t), .val (.int (0 : Int32))] [(.int (84 : Int32))]))
  refine own_of (fun tt_ kk_ => XS.i2c X0.here hx rfl (hb hby d_jdk_43_method_44_code_7) rfl kk_) ?_
  show own_Ends _ _ _ _ _ _ (T0.setTop (mkF m 8 #[.val (.ref t), .val (.int (0 : Int32))] [(.int (84 : Int32))]))
  refine own_retN X0 hx hlk e0 (t := .char) hret (by simp) (z' := (84 : Int32)) rfl (hb hby d_jdk_43_method_44_code_8) (by decide) (by decide) ?_
  exact ⟨rfl, N0, rfl⟩
set_option maxRecDepth 65536 in
set_option maxHeartbeats 40000000 in
theorem rm_gch_True3 (l : Launch) (Z : State) (a0 : Array Value) (hw : ∀ d ∈ tables_1, d.before a0 Z = true) (t : Addr) (k : ClassId) (h0 : Heap) (n0 : Nat) (Z0 : n0 ≤ h0.size) (V : Arv Z h0 t k .byte (4 : Int32) [(.int (84 : Int32)), (.int (114 : Int32)), (.int (117 : Int32)), (.int (101 : Int32))] (.int (0 : Int32))) :
    own_Met l Z (⟨"java/lang/StringLatin1", "getChar", "([BI)C"⟩ : MethodName) jdk_43_method_44_code 2 (some .char) ({ frames := 0, cells := 0, slots := 0, locals := 0 } : Room) #[(.ref t), (.int (3 : Int32))] h0 (fun v h L => v = some (.int (101 : Int32)) ∧ Fr n0 L ∧ h = h0) := by
  refine own_body (plainFor_of_name pn_java_lang_StringLatin1) ?_
  intro p e s m below meth c T0 X0 e0 hx hby hml hown hnm hret hlk hZ
  replace hown : s.vm.findClass "java/lang/StringLatin1" = some m.cls := hown
  have N0 := Fr.nil n0
  refine own_of (fun tt_ kk_ => castTop (ef_jdk_43_method_44_codeRI m t (3 : Int32)) kk_) ?_
  show own_Ends _ _ _ _ _ _ (T0.setTop (mkF m 0 #[.val (.ref t), .val (.int (3 : Int32))] []))
  refine own_of (fun tt_ kk_ => XS.aloadN X0.here hx rfl (hb hby d_jdk_43_method_44_code_0) rfl rfl kk_) ?_
  show own_Ends _ _ _ _ _ _ (T0.setTop (mkF m 1 #[.val (.ref t), .val (.int (3 : Int32))] [(.ref t)]))
  refine own_of (fun tt_ kk_ => XS.iloadN X0.here hx rfl (hb hby d_jdk_43_method_44_code_1) rfl  kk_) ?_
  show own_Ends _ _ _ _ _ _ (T0.setTop (mkF m 2 #[.val (.ref t), .val (.int (3 : Int32))] [(.int (3 : Int32)), (.ref t)]))
  obtain ⟨cl23, Ar23, q23, S23, N23', H23, G23⟩ := id V
  have hin23 : ¬ ((3 : Int32) < 0 ∨ cl23.slots.size ≤ ((3 : Int32)).toNatClampNeg) := inb_of S23 ⟨by decide, by decide⟩
  have hat23 : cl23.slots[((3 : Int32)).toNatClampNeg]? = some (.int (101 : Int32)) := H23.at hin23 rfl
  refine own_of (fun tt_ kk_ => X0.baloadBytes hx (j := (3 : Int32)) (v := (.int (101 : Int32))) (by rw [e0]; exact Ar23.1) (State.isArrayOf_alike hZ.alike Ar23.2.1) Ar23.2.2 hin23 hat23 (g := (mkF m 2 #[.val (.ref t), .val (.int (3 : Int32))] [(.int (3 : Int32)), (.ref t)])) rfl rfl (hb hby d_jdk_43_method_44_code_2) _ kk_) ?_
  show own_Ends _ _ _ _ _ _ (T0.setTop (mkF m 3 #[.val (.ref t), .val (.int (3 : Int32))] [(.int (101 : Int32))]))
  refine own_of (fun tt_ kk_ => XS.sipush X0.here hx rfl (hb hby d_jdk_43_method_44_code_3) kk_) ?_
  show own_Ends _ _ _ _ _ _ (T0.setTop (mkF m 6 #[.val (.ref t), .val (.int (3 : Int32))] [(.int (255 : Int32)), (.int (101 : Int32))]))
  refine own_of (fun tt_ kk_ => XS.iand X0.here hx rfl (hb hby d_jdk_43_method_44_code_6) rfl kk_) ?_
  show own_Ends _ _ _ _ _ _ (T0.setTop (mkF m 7 #[.val (.ref t), .val (.int (3 : Int32))] [(.int (101 : Int32))]))
  refine own_of (fun tt_ kk_ => XS.i2c X0.here hx rfl (hb hby d_jdk_43_method_44_code_7) rfl kk_) ?_
  show own_Ends _ _ _ _ _ _ (T0.setTop (mkF m 8 #[.val (.ref t), .val (.int (3 : Int32))] [(.int (101 : Int32))]))
  refine own_retN X0 hx hlk e0 (t := .char) hret (by simp) (z' := (101 : Int32)) rfl (hb hby d_jdk_43_method_44_code_8) (by decide) (by decide) ?_
  exact ⟨rfl, N0, rfl⟩
theorem d_jdk_43_method_37_code_0 : decode jdk_43_method_37_code 0 = .ok (.aload_n 0, 1) := by decide +kernel
theorem d_jdk_43_method_37_code_1 : decode jdk_43_method_37_code 1 = .ok (.arraylength, 1) := by decide +kernel
theorem d_jdk_43_method_37_code_2 : decode jdk_43_method_37_code 2 = .ok (.istore_n 1, 1) := by decide +kernel
theorem d_jdk_43_method_37_code_3 : decode jdk_43_method_37_code 3 = .ok (.iconst 0, 1) := by decide +kernel
theorem d_jdk_43_method_37_code_4 : decode jdk_43_method_37_code 4 = .ok (.istore_n 2, 1) := by decide +kernel
theorem d_jdk_43_method_37_code_5 : decode jdk_43_method_37_code 5 = .ok (.iload_n 2, 1) := by decide +kernel
theorem d_jdk_43_method_37_code_6 : decode jdk_43_method_37_code 6 = .ok (.iload_n 1, 1) := by decide +kernel
theorem d_jdk_43_method_37_code_7 : decode jdk_43_method_37_code 7 = .ok (.if_icmp .ge 40, 3) := by decide +kernel
theorem d_jdk_43_method_37_code_10 : decode jdk_43_method_37_code 10 = .ok (.aload_n 0, 1) := by decide +kernel
theorem d_jdk_43_method_37_code_11 : decode jdk_43_method_37_code 11 = .ok (.iload_n 2, 1) := by decide +kernel
theorem pd__ABI_r_C : parseMethodDescriptor "([BI)C" = some ⟨[(.array .byte), .int], some .char⟩ := by decide +kernel
theorem d_jdk_43_method_37_code_12 : decode jdk_43_method_37_code 12 = .ok (.invokestatic 50, 3) := by decide +kernel
theorem d_jdk_43_method_37_code_15 : decode jdk_43_method_37_code 15 = .ok (.istore_n 3, 1) := by decide +kernel
theorem d_jdk_43_method_37_code_16 : decode jdk_43_method_37_code 16 = .ok (.iload_n 3, 1) := by decide +kernel
theorem d_jdk_43_method_37_code_17 : decode jdk_43_method_37_code 17 = .ok (.bipush 32, 2) := by decide +kernel
theorem d_jdk_43_method_37_code_19 : decode jdk_43_method_37_code 19 = .ok (.if_icmp .eq 22, 3) := by decide +kernel
theorem d_jdk_43_method_37_code_22 : decode jdk_43_method_37_code 22 = .ok (.iload_n 3, 1) := by decide +kernel
theorem d_jdk_43_method_37_code_23 : decode jdk_43_method_37_code 23 = .ok (.bipush 9, 2) := by decide +kernel
theorem d_jdk_43_method_37_code_25 : decode jdk_43_method_37_code 25 = .ok (.if_icmp .eq 16, 3) := by decide +kernel
theorem d_jdk_43_method_37_code_28 : decode jdk_43_method_37_code 28 = .ok (.getstatic 66, 3) := by decide +kernel
theorem d_jdk_43_method_37_code_31 : decode jdk_43_method_37_code 31 = .ok (.iload_n 3, 1) := by decide +kernel
theorem pd__I_r_Z : parseMethodDescriptor "(I)Z" = some ⟨[.int], some .boolean⟩ := by decide +kernel
theorem d_jdk_43_method_37_code_32 : decode jdk_43_method_37_code 32 = .ok (.invokevirtual 211, 3) := by decide +kernel
theorem d_jdk_43_method_37_code_35 : decode jdk_43_method_37_code 35 = .ok (.ifCond .ne 6, 3) := by decide +kernel
theorem d_jdk_43_method_37_code_38 : decode jdk_43_method_37_code 38 = .ok (.goto 9, 3) := by decide +kernel
theorem d_jdk_43_method_37_code_47 : decode jdk_43_method_37_code 47 = .ok (.iload_n 2, 1) := by decide +kernel
theorem d_jdk_43_method_37_code_48 : decode jdk_43_method_37_code 48 = .ok (.ireturn, 1) := by decide +kernel
theorem ef_jdk_43_method_37_codeR (m : MethodId) (z0 : Addr) : entryFrame m #[(.ref z0)] 4 = mkF m 0 #[.val (.ref z0), .unset, .unset, .unset] [] := by first | (simp [entryFrame, mkF, argsToLocals, Value.category]; done) | rfl
set_option maxRecDepth 65536 in
set_option maxHeartbeats 40000000 in
theorem rm_idx_True (l : Launch) (Z : State) (a0 : Array Value) (hw : ∀ d ∈ tables_1, d.before a0 Z = true) (t : Addr) (k : ClassId) (G1 : Int32) (wI wA wR wB wG tG : Addr) (clA : Cell) (kG : ClassId) (h0 : Heap) (n0 : Nat) (Z0 : n0 ≤ h0.size) (V : Arv Z h0 t k .byte (4 : Int32) [(.int (84 : Int32)), (.int (114 : Int32)), (.int (117 : Int32)), (.int (101 : Int32))] (.int (0 : Int32))) (O2 : Sta Z Z.heap "java/lang/String" "COMPACT_STRINGS" "Z" (.int G1)) (P3 : ¬ (G1 = (0 : Int32))) (OL : Old Z n0 h0) (SI : Sta Z Z.heap "java/lang/CharacterDataLatin1" "instance" "Ljava/lang/CharacterDataLatin1;" (.ref wI)) (EI : Exa Z Z.heap wI "java/lang/CharacterDataLatin1") (SA : Sta Z Z.heap "java/lang/CharacterDataLatin1" "A" "[I" (.ref wA)) (AA : Arr Z Z.heap wA clA .int) (ZA : clA.slots.size = 256) (SL : Sta Z Z.heap "java/util/Locale" "ROOT" "Ljava/util/Locale;" (.ref wR)) (ER : Exa Z Z.heap wR "java/util/Locale") (FB : Fld Z Z.heap wR "java/util/Locale" "baseLocale" "Lsun/util/locale/BaseLocale;" (.ref wB)) (EB : Exa Z Z.heap wB "sun/util/locale/BaseLocale") (FG : Fld Z Z.heap wB "sun/util/locale/BaseLocale" "language" "Ljava/lang/String;" (.ref wG)) (FW : Fld Z Z.heap wG "java/lang/String" "value" "[B" (.ref tG)) (VG : Arv Z Z.heap tG kG .byte (0 : Int32) [] (.int (0 : Int32))) (A84 : clA.slots[84]? = some (.int (8552417 : Int32))) (A70 : clA.slots[70]? = some (.int (8552417 : Int32))) (A101 : clA.slots[101]? = some (.int (8486882 : Int32))) :
    own_Met l Z (⟨"java/lang/StringLatin1", "indexOfNonWhitespace", "([B)I"⟩ : MethodName) jdk_43_method_37_code 4 (some .int) ({ frames := 2, cells := 0, slots := 0, locals := 29 } : Room) #[(.ref t)] h0 (fun v h L => v = some (.int (0 : Int32)) ∧ Fr n0 L ∧ h = h0) := by
  refine own_body (plainFor_of_name pn_java_lang_StringLatin1) ?_
  intro p e s m below meth c T0 X0 e0 hx hby hml hown hnm hret hlk hZ
  replace hown : s.vm.findClass "java/lang/StringLatin1" = some m.cls := hown
  have N0 := Fr.nil n0
  refine own_of (fun tt_ kk_ => castTop (ef_jdk_43_method_37_codeR m t) kk_) ?_
  show own_Ends _ _ _ _ _ _ (T0.setTop (mkF m 0 #[.val (.ref t), .unset, .unset, .unset] []))
  refine own_of (fun tt_ kk_ => XS.aloadN X0.here hx rfl (hb hby d_jdk_43_method_37_code_0) rfl rfl kk_) ?_
  show own_Ends _ _ _ _ _ _ (T0.setTop (mkF m 1 #[.val (.ref t), .unset, .unset, .unset] [(.ref t)]))
  obtain ⟨cl24, Ar24, -, S24, N24', -, -⟩ := id V
  refine own_of (fun tt_ kk_ => X0.arraylength hx (by rw [e0]; exact Ar24.1) (State.isArrayOf_alike hZ.alike Ar24.2.1) (g := (mkF m 1 #[.val (.ref t), .unset, .unset, .unset] [(.ref t)])) rfl rfl (hb hby d_jdk_43_method_37_code_1) _ kk_) ?_
  rw [len_of S24 N24']
  show own_Ends _ _ _ _ _ _ (T0.setTop (mkF m 2 #[.val (.ref t), .unset, .unset, .unset] [(.int (4 : Int32))]))
  refine own_of (fun tt_ kk_ => XS.istoreN X0.here hx rfl (hb hby d_jdk_43_method_37_code_2) rfl (l' := #[.val (.ref t), .val (.int (4 : Int32)), .unset, .unset]) rfl kk_) ?_
  show own_Ends _ _ _ _ _ _ (T0.setTop (mkF m 3 #[.val (.ref t), .val (.int (4 : Int32)), .unset, .unset] []))
  refine own_of (fun tt_ kk_ => XS.iconst X0.here hx rfl (hb hby d_jdk_43_method_37_code_3) kk_) ?_
  show own_Ends _ _ _ _ _ _ (T0.setTop (mkF m 4 #[.val (.ref t), .val (.int (4 : Int32)), .unset, .unset] [(.int (0 : Int32))]))
  refine own_of (fun tt_ kk_ => XS.istoreN X0.here hx rfl (hb hby d_jdk_43_method_37_code_4) rfl (l' := #[.val (.ref t), .val (.int (4 : Int32)), .val (.int (0 : Int32)), .unset]) rfl kk_) ?_
  show own_Ends _ _ _ _ _ _ (T0.setTop (mkF m 5 #[.val (.ref t), .val (.int (4 : Int32)), .val (.int (0 : Int32)), .unset] []))
  refine own_of (fun tt_ kk_ => XS.iloadN X0.here hx rfl (hb hby d_jdk_43_method_37_code_5) rfl  kk_) ?_
  show own_Ends _ _ _ _ _ _ (T0.setTop (mkF m 6 #[.val (.ref t), .val (.int (4 : Int32)), .val (.int (0 : Int32)), .unset] [(.int (0 : Int32))]))
  refine own_of (fun tt_ kk_ => XS.iloadN X0.here hx rfl (hb hby d_jdk_43_method_37_code_6) rfl  kk_) ?_
  show own_Ends _ _ _ _ _ _ (T0.setTop (mkF m 7 #[.val (.ref t), .val (.int (4 : Int32)), .val (.int (0 : Int32)), .unset] [(.int (4 : Int32)), (.int (0 : Int32))]))
  refine own_of (fun tt_ kk_ => XS.icmpNo X0.here hx rfl (hb hby d_jdk_43_method_37_code_7) rfl (tlt (by decide : ((0 : Int32) < (4 : Int32)))).2.1 kk_) ?_
  show own_Ends _ _ _ _ _ _ (T0.setTop (mkF m 10 #[.val (.ref t), .val (.int (4 : Int32)), .val (.int (0 : Int32)), .unset] []))
  refine own_of (fun tt_ kk_ => XS.aloadN X0.here hx rfl (hb hby d_jdk_43_method_37_code_10) rfl rfl kk_) ?_
  show own_Ends _ _ _ _ _ _ (T0.setTop (mkF m 11 #[.val (.ref t), .val (.int (4 : Int32)), .val (.int (0 : Int32)), .unset] [(.ref t)]))
  refine own_of (fun tt_ kk_ => XS.iloadN X0.here hx rfl (hb hby d_jdk_43_method_37_code_11) rfl  kk_) ?_
  show own_Ends _ _ _ _ _ _ (T0.setTop (mkF m 12 #[.val (.ref t), .val (.int (4 : Int32)), .val (.int (0 : Int32)), .unset] [(.int (0 : Int32)), (.ref t)]))
  obtain ⟨v25, T25, L25, h25, X25, e25, Q25, st25⟩ := own_static X0 hx hZ hown e0 (hw _ (List.mem_of_getElem? (i := 58) rfl)) (hw _ (List.mem_of_getElem? (i := 59) rfl)) (hw _ (List.mem_of_getElem? (i := 24) rfl)) (hw _ (List.mem_of_getElem? (i := 60) rfl)) (by decide) (argsL := [(.ref t), (.int (0 : Int32))]) (rest := []) (rm_gch_True0 l Z a0 hw t k h0 n0 Z0 V) (g := (mkF m 12 #[.val (.ref t), .val (.int (4 : Int32)), .val (.int (0 : Int32)), .unset] [(.int (0 : Int32)), (.ref t)])) rfl (by rw [hml]; rfl) (lenOf pd__ABI_r_C rfl) rfl (by decide) (Nat.le_of_ble_eq_true rfl) (by decide) (by decide) (hb hby d_jdk_43_method_37_code_12)
  obtain ⟨rfl, Nq25, q25⟩ := Q25
  replace e25 := e25.trans q25
  have N25 := Fr.app N0 Nq25
  refine own_of st25 ?_
  show own_Ends _ _ _ _ _ _ (T25.setTop (mkF m 15 #[.val (.ref t), .val (.int (4 : Int32)), .val (.int (0 : Int32)), .unset] [(.int (84 : Int32))]))
  refine own_of (fun tt_ kk_ => XS.istoreN X25.here hx rfl (hb hby d_jdk_43_method_37_code_15) rfl (l' := #[.val (.ref t), .val (.int (4 : Int32)), .val (.int (0 : Int32)), .val (.int (84 : Int32))]) rfl kk_) ?_
  show own_Ends _ _ _ _ _ _ (T25.setTop (mkF m 16 #[.val (.ref t), .val (.int (4 : Int32)), .val (.int (0 : Int32)), .val (.int (84 : Int32))] []))
  refine own_of (fun tt_ kk_ => XS.iloadN X25.here hx rfl (hb hby d_jdk_43_method_37_code_16) rfl  kk_) ?_
  show own_Ends _ _ _ _ _ _ (T25.setTop (mkF m 17 #[.val (.ref t), .val (.int (4 : Int32)), .val (.int (0 : Int32)), .val (.int (84 : Int32))] [(.int (84 : Int32))]))
  refine own_of (fun tt_ kk_ => XS.bipush X25.here hx rfl (hb hby d_jdk_43_method_37_code_17) kk_) ?_
  show own_Ends _ _ _ _ _ _ (T25.setTop (mkF m 19 #[.val (.ref t), .val (.int (4 : Int32)), .val (.int (0 : Int32)), .val (.int (84 : Int32))] [(.int (32 : Int32)), (.int (84 : Int32))]))
  refine own_of (fun tt_ kk_ => XS.icmpNo X25.here hx rfl (hb hby d_jdk_43_method_37_code_19) rfl (feq (by decide : ¬ ((84 : Int32) = (32 : Int32)))).1 kk_) ?_
  show own_Ends _ _ _ _ _ _ (T25.setTop (mkF m 22 #[.val (.ref t), .val (.int (4 : Int32)), .val (.int (0 : Int32)), .val (.int (84 : Int32))] []))
  refine own_of (fun tt_ kk_ => XS.iloadN X25.here hx rfl (hb hby d_jdk_43_method_37_code_22) rfl  kk_) ?_
  show own_Ends _ _ _ _ _ _ (T25.setTop (mkF m 23 #[.val (.ref t), .val (.int (4 : Int32)), .val (.int (0 : Int32)), .val (.int (84 : Int32))] [(.int (84 : Int32))]))
  refine own_of (fun tt_ kk_ => XS.bipush X25.here hx rfl (hb hby d_jdk_43_method_37_code_23) kk_) ?_
  show own_Ends _ _ _ _ _ _ (T25.setTop (mkF m 25 #[.val (.ref t), .val (.int (4 : Int32)), .val (.int (0 : Int32)), .val (.int (84 : Int32))] [(.int (9 : Int32)), (.int (84 : Int32))]))
  refine own_of (fun tt_ kk_ => XS.icmpNo X25.here hx rfl (hb hby d_jdk_43_method_37_code_25) rfl (feq (by decide : ¬ ((84 : Int32) = (9 : Int32)))).1 kk_) ?_
  show own_Ends _ _ _ _ _ _ (T25.setTop (mkF m 28 #[.val (.ref t), .val (.int (4 : Int32)), .val (.int (0 : Int32)), .val (.int (84 : Int32))] []))
  obtain ⟨T26, X26, e26, st26⟩ := getS2 X25 hx hZ hown (host := "") (Or.inl (hw _ (List.mem_of_getElem? (i := 61) rfl))) Via.refl e25 (SI.ext OL.2) (g := (mkF m 28 #[.val (.ref t), .val (.int (4 : Int32)), .val (.int (0 : Int32)), .val (.int (84 : Int32))] [])) rfl (hb hby d_jdk_43_method_37_code_28)
  refine own_of st26 ?_
  show own_Ends _ _ _ _ _ _ (T26.setTop (mkF m 31 #[.val (.ref t), .val (.int (4 : Int32)), .val (.int (0 : Int32)), .val (.int (84 : Int32))] [(.ref wI)]))
  refine own_of (fun tt_ kk_ => XS.iloadN X26.here hx rfl (hb hby d_jdk_43_method_37_code_31) rfl  kk_) ?_
  show own_Ends _ _ _ _ _ _ (T26.setTop (mkF m 32 #[.val (.ref t), .val (.int (4 : Int32)), .val (.int (0 : Int32)), .val (.int (84 : Int32))] [(.int (84 : Int32)), (.ref wI)]))
  obtain ⟨v27, T27, L27, h27, X27, e27, Q27, st27⟩ := own_virtual X26 hx hZ hown e26 (EI.ext OL.2) (hw _ (List.mem_of_getElem? (i := 63) rfl)) (hw _ (List.mem_of_getElem? (i := 64) rfl)) (notFace_of_selects (args := #[]) (mvT hZ (hw _ (List.mem_of_getElem? (i := 66) rfl)))) (hw _ (List.mem_of_getElem? (i := 66) rfl)) (hw _ (List.mem_of_getElem? (i := 65) rfl)) (hw _ (List.mem_of_getElem? (i := 62) rfl)) (hw _ (List.mem_of_getElem? (i := 67) rfl)) (by decide) (argsL := [(.int (84 : Int32))]) (rest := []) (rm_ws84 l Z a0 hw G1 wI wA wR wB wG tG clA kG h0 n0 Z0 O2 P3 OL SI EI SA AA ZA SL ER FB EB FG FW VG A84 A70 A101) (g := (mkF m 32 #[.val (.ref t), .val (.int (4 : Int32)), .val (.int (0 : Int32)), .val (.int (84 : Int32))] [(.int (84 : Int32)), (.ref wI)])) rfl (by rw [hml]; rfl) (lenOf pd__I_r_Z rfl) rfl (by decide) (Nat.le_of_ble_eq_true rfl) (by decide) (by decide) (hb hby d_jdk_43_method_37_code_32)
  obtain ⟨rfl, Nq27, q27⟩ := Q27
  replace e27 := e27.trans q27
  have N27 := Fr.app N25 Nq27
  refine own_of st27 ?_
  show own_Ends _ _ _ _ _ _ (T27.setTop (mkF m 35 #[.val (.ref t), .val (.int (4 : Int32)), .val (.int (0 : Int32)), .val (.int (84 : Int32))] [(.int (0 : Int32))]))
  refine own_of (fun tt_ kk_ => XS.ifNo X27.here hx rfl (hb hby d_jdk_43_method_37_code_35) rfl ((if0 _ _).trans (teq (by decide : ((0 : Int32) = (0 : Int32)))).2) kk_) ?_
  show own_Ends _ _ _ _ _ _ (T27.setTop (mkF m 38 #[.val (.ref t), .val (.int (4 : Int32)), .val (.int (0 : Int32)), .val (.int (84 : Int32))] []))
  refine own_of (fun tt_ kk_ => XS.goto X27.here hx rfl (pc0 := 38) (pc' := 47) rfl (hb hby d_jdk_43_method_37_code_38) (by decide) (by decide) kk_) ?_
  show own_Ends _ _ _ _ _ _ (T27.setTop (mkF m 47 #[.val (.ref t), .val (.int (4 : Int32)), .val (.int (0 : Int32)), .val (.int (84 : Int32))] []))
  refine own_of (fun tt_ kk_ => XS.iloadN X27.here hx rfl (hb hby d_jdk_43_method_37_code_47) rfl  kk_) ?_
  show own_Ends _ _ _ _ _ _ (T27.setTop (mkF m 48 #[.val (.ref t), .val (.int (4 : Int32)), .val (.int (0 : Int32)), .val (.int (84 : Int32))] [(.int (0 : Int32))]))
  refine own_retI X27 hx hlk e27 hret (hb hby d_jdk_43_method_37_code_48) (by decide) (by decide) ?_
  exact ⟨rfl, N27, rfl⟩
theorem d_jdk_43_method_38_code_0 : decode jdk_43_method_38_code 0 = .ok (.aload_n 0, 1) := by decide +kernel
theorem d_jdk_43_method_38_code_1 : decode jdk_43_method_38_code 1 = .ok (.arraylength, 1) := by decide +kernel
theorem d_jdk_43_method_38_code_2 : decode jdk_43_method_38_code 2 = .ok (.istore_n 1, 1) := by decide +kernel
theorem d_jdk_43_method_38_code_3 : decode jdk_43_method_38_code 3 = .ok (.iload_n 1, 1) := by decide +kernel
theorem d_jdk_43_method_38_code_4 : decode jdk_43_method_38_code 4 = .ok (.istore_n 2, 1) := by decide +kernel
theorem d_jdk_43_method_38_code_5 : decode jdk_43_method_38_code 5 = .ok (.iconst 0, 1) := by decide +kernel
theorem d_jdk_43_method_38_code_6 : decode jdk_43_method_38_code 6 = .ok (.iload_n 2, 1) := by decide +kernel
theorem d_jdk_43_method_38_code_7 : decode jdk_43_method_38_code 7 = .ok (.if_icmp .ge 42, 3) := by decide +kernel
theorem d_jdk_43_method_38_code_10 : decode jdk_43_method_38_code 10 = .ok (.aload_n 0, 1) := by decide +kernel
theorem d_jdk_43_method_38_code_11 : decode jdk_43_method_38_code 11 = .ok (.iload_n 2, 1) := by decide +kernel
theorem d_jdk_43_method_38_code_12 : decode jdk_43_method_38_code 12 = .ok (.iconst 1, 1) := by decide +kernel
theorem d_jdk_43_method_38_code_13 : decode jdk_43_method_38_code 13 = .ok (.isub, 1) := by decide +kernel
theorem d_jdk_43_method_38_code_14 : decode jdk_43_method_38_code 14 = .ok (.invokestatic 50, 3) := by decide +kernel
theorem d_jdk_43_method_38_code_17 : decode jdk_43_method_38_code 17 = .ok (.istore_n 3, 1) := by decide +kernel
theorem d_jdk_43_method_38_code_18 : decode jdk_43_method_38_code 18 = .ok (.iload_n 3, 1) := by decide +kernel
theorem d_jdk_43_method_38_code_19 : decode jdk_43_method_38_code 19 = .ok (.bipush 32, 2) := by decide +kernel
theorem d_jdk_43_method_38_code_21 : decode jdk_43_method_38_code 21 = .ok (.if_icmp .eq 22, 3) := by decide +kernel
theorem d_jdk_43_method_38_code_24 : decode jdk_43_method_38_code 24 = .ok (.iload_n 3, 1) := by decide +kernel
theorem d_jdk_43_method_38_code_25 : decode jdk_43_method_38_code 25 = .ok (.bipush 9, 2) := by decide +kernel
theorem d_jdk_43_method_38_code_27 : decode jdk_43_method_38_code 27 = .ok (.if_icmp .eq 16, 3) := by decide +kernel
theorem d_jdk_43_method_38_code_30 : decode jdk_43_method_38_code 30 = .ok (.getstatic 66, 3) := by decide +kernel
theorem d_jdk_43_method_38_code_33 : decode jdk_43_method_38_code 33 = .ok (.iload_n 3, 1) := by decide +kernel
theorem d_jdk_43_method_38_code_34 : decode jdk_43_method_38_code 34 = .ok (.invokevirtual 211, 3) := by decide +kernel
theorem d_jdk_43_method_38_code_37 : decode jdk_43_method_38_code 37 = .ok (.ifCond .ne 6, 3) := by decide +kernel
theorem d_jdk_43_method_38_code_40 : decode jdk_43_method_38_code 40 = .ok (.goto 9, 3) := by decide +kernel
theorem d_jdk_43_method_38_code_49 : decode jdk_43_method_38_code 49 = .ok (.iload_n 2, 1) := by decide +kernel
theorem d_jdk_43_method_38_code_50 : decode jdk_43_method_38_code 50 = .ok (.ireturn, 1) := by decide +kernel
theorem ef_jdk_43_method_38_codeR (m : MethodId) (z0 : Addr) : entryFrame m #[(.ref z0)] 4 = mkF m 0 #[.val (.ref z0), .unset, .unset, .unset] [] := by first | (simp [entryFrame, mkF, argsToLocals, Value.category]; done) | rfl
set_option maxRecDepth 65536 in
set_option maxHeartbeats 40000000 in
theorem rm_lidx_True (l : Launch) (Z : State) (a0 : Array Value) (hw : ∀ d ∈ tables_1, d.before a0 Z = true) (t : Addr) (k : ClassId) (G1 : Int32) (wI wA wR wB wG tG : Addr) (clA : Cell) (kG : ClassId) (h0 : Heap) (n0 : Nat) (Z0 : n0 ≤ h0.size) (V : Arv Z h0 t k .byte (4 : Int32) [(.int (84 : Int32)), (.int (114 : Int32)), (.int (117 : Int32)), (.int (101 : Int32))] (.int (0 : Int32))) (O2 : Sta Z Z.heap "java/lang/String" "COMPACT_STRINGS" "Z" (.int G1)) (P3 : ¬ (G1 = (0 : Int32))) (OL : Old Z n0 h0) (SI : Sta Z Z.heap "java/lang/CharacterDataLatin1" "instance" "Ljava/lang/CharacterDataLatin1;" (.ref wI)) (EI : Exa Z Z.heap wI "java/lang/CharacterDataLatin1") (SA : Sta Z Z.heap "java/lang/CharacterDataLatin1" "A" "[I" (.ref wA)) (AA : Arr Z Z.heap wA clA .int) (ZA : clA.slots.size = 256) (SL : Sta Z Z.heap "java/util/Locale" "ROOT" "Ljava/util/Locale;" (.ref wR)) (ER : Exa Z Z.heap wR "java/util/Locale") (FB : Fld Z Z.heap wR "java/util/Locale" "baseLocale" "Lsun/util/locale/BaseLocale;" (.ref wB)) (EB : Exa Z Z.heap wB "sun/util/locale/BaseLocale") (FG : Fld Z Z.heap wB "sun/util/locale/BaseLocale" "language" "Ljava/lang/String;" (.ref wG)) (FW : Fld Z Z.heap wG "java/lang/String" "value" "[B" (.ref tG)) (VG : Arv Z Z.heap tG kG .byte (0 : Int32) [] (.int (0 : Int32))) (A84 : clA.slots[84]? = some (.int (8552417 : Int32))) (A70 : clA.slots[70]? = some (.int (8552417 : Int32))) (A101 : clA.slots[101]? = some (.int (8486882 : Int32))) :
    own_Met l Z (⟨"java/lang/StringLatin1", "lastIndexOfNonWhitespace", "([B)I"⟩ : MethodName) jdk_43_method_38_code 4 (some .int) ({ frames := 2, cells := 0, slots := 0, locals := 29 } : Room) #[(.ref t)] h0 (fun v h L => v = some (.int (4 : Int32)) ∧ Fr n0 L ∧ h = h0) := by
  refine own_body (plainFor_of_name pn_java_lang_StringLatin1) ?_
  intro p e s m below meth c T0 X0 e0 hx hby hml hown hnm hret hlk hZ
  replace hown : s.vm.findClass "java/lang/StringLatin1" = some m.cls := hown
  have N0 := Fr.nil n0
  refine own_of (fun tt_ kk_ => castTop (ef_jdk_43_method_38_codeR m t) kk_) ?_
  show own_Ends _ _ _ _ _ _ (T0.setTop (mkF m 0 #[.val (.ref t), .unset, .unset, .unset] []))
  refine own_of (fun tt_ kk_ => XS.aloadN X0.here hx rfl (hb hby d_jdk_43_method_38_code_0) rfl rfl kk_) ?_
  show own_Ends _ _ _ _ _ _ (T0.setTop (mkF m 1 #[.val (.ref t), .unset, .unset, .unset] [(.ref t)]))
  obtain ⟨cl28, Ar28, -, S28, N28', -, -⟩ := id V
  refine own_of (fun tt_ kk_ => X0.arraylength hx (by rw [e0]; exact Ar28.1) (State.isArrayOf_alike hZ.alike Ar28.2.1) (g := (mkF m 1 #[.val (.ref t), .unset, .unset, .unset] [(.ref t)])) rfl rfl (hb hby d_jdk_43_method_38_code_1) _ kk_) ?_
  rw [len_of S28 N28']
  show own_Ends _ _ _ _ _ _ (T0.setTop (mkF m 2 #[.val (.ref t), .unset, .unset, .unset] [(.int (4 : Int32))]))
  refine own_of (fun tt_ kk_ => XS.istoreN X0.here hx rfl (hb hby d_jdk_43_method_38_code_2) rfl (l' := #[.val (.ref t), .val (.int (4 : Int32)), .unset, .unset]) rfl kk_) ?_
  show own_Ends _ _ _ _ _ _ (T0.setTop (mkF m 3 #[.val (.ref t), .val (.int (4 : Int32)), .unset, .unset] []))
  refine own_of (fun tt_ kk_ => XS.iloadN X0.here hx rfl (hb hby d_jdk_43_method_38_code_3) rfl  kk_) ?_
  show own_Ends _ _ _ _ _ _ (T0.setTop (mkF m 4 #[.val (.ref t), .val (.int (4 : Int32)), .unset, .unset] [(.int (4 : Int32))]))
  refine own_of (fun tt_ kk_ => XS.istoreN X0.here hx rfl (hb hby d_jdk_43_method_38_code_4) rfl (l' := #[.val (.ref t), .val (.int (4 : Int32)), .val (.int (4 : Int32)), .unset]) rfl kk_) ?_
  show own_Ends _ _ _ _ _ _ (T0.setTop (mkF m 5 #[.val (.ref t), .val (.int (4 : Int32)), .val (.int (4 : Int32)), .unset] []))
  refine own_of (fun tt_ kk_ => XS.iconst X0.here hx rfl (hb hby d_jdk_43_method_38_code_5) kk_) ?_
  show own_Ends _ _ _ _ _ _ (T0.setTop (mkF m 6 #[.val (.ref t), .val (.int (4 : Int32)), .val (.int (4 : Int32)), .unset] [(.int (0 : Int32))]))
  refine own_of (fun tt_ kk_ => XS.iloadN X0.here hx rfl (hb hby d_jdk_43_method_38_code_6) rfl  kk_) ?_
  show own_Ends _ _ _ _ _ _ (T0.setTop (mkF m 7 #[.val (.ref t), .val (.int (4 : Int32)), .val (.int (4 : Int32)), .unset] [(.int (4 : Int32)), (.int (0 : Int32))]))
  refine own_of (fun tt_ kk_ => XS.icmpNo X0.here hx rfl (hb hby d_jdk_43_method_38_code_7) rfl (tlt (by decide : ((0 : Int32) < (4 : Int32)))).2.1 kk_) ?_
  show own_Ends _ _ _ _ _ _ (T0.setTop (mkF m 10 #[.val (.ref t), .val (.int (4 : Int32)), .val (.int (4 : Int32)), .unset] []))
  refine own_of (fun tt_ kk_ => XS.aloadN X0.here hx rfl (hb hby d_jdk_43_method_38_code_10) rfl rfl kk_) ?_
  show own_Ends _ _ _ _ _ _ (T0.setTop (mkF m 11 #[.val (.ref t), .val (.int (4 : Int32)), .val (.int (4 : Int32)), .unset] [(.ref t)]))
  refine own_of (fun tt_ kk_ => XS.iloadN X0.here hx rfl (hb hby d_jdk_43_method_38_code_11) rfl  kk_) ?_
  show own_Ends _ _ _ _ _ _ (T0.setTop (mkF m 12 #[.val (.ref t), .val (.int (4 : Int32)), .val (.int (4 : Int32)), .unset] [(.int (4 : Int32)), (.ref t)]))
  refine own_of (fun tt_ kk_ => XS.iconst X0.here hx rfl (hb hby d_jdk_43_method_38_code_12) kk_) ?_
  show own_Ends _ _ _ _ _ _ (T0.setTop (mkF m 13 #[.val (.ref t), .val (.int (4 : Int32)), .val (.int (4 : Int32)), .unset] [(.int (1 : Int32)), (.int (4 : Int32)), (.ref t)]))
  refine own_of (fun tt_ kk_ => XS.isub X0.here hx rfl (hb hby d_jdk_43_method_38_code_13) rfl kk_) ?_
  show own_Ends _ _ _ _ _ _ (T0.setTop (mkF m 14 #[.val (.ref t), .val (.int (4 : Int32)), .val (.int (4 : Int32)), .unset] [(.int (3 : Int32)), (.ref t)]))
  obtain ⟨v29, T29, L29, h29, X29, e29, Q29, st29⟩ := own_static X0 hx hZ hown e0 (hw _ (List.mem_of_getElem? (i := 58) rfl)) (hw _ (List.mem_of_getElem? (i := 59) rfl)) (hw _ (List.mem_of_getElem? (i := 24) rfl)) (hw _ (List.mem_of_getElem? (i := 60) rfl)) (by decide) (argsL := [(.ref t), (.int (3 : Int32))]) (rest := []) (rm_gch_True3 l Z a0 hw t k h0 n0 Z0 V) (g := (mkF m 14 #[.val (.ref t), .val (.int (4 : Int32)), .val (.int (4 : Int32)), .unset] [(.int (3 : Int32)), (.ref t)])) rfl (by rw [hml]; rfl) (lenOf pd__ABI_r_C rfl) rfl (by decide) (Nat.le_of_ble_eq_true rfl) (by decide) (by decide) (hb hby d_jdk_43_method_38_code_14)
  obtain ⟨rfl, Nq29, q29⟩ := Q29
  replace e29 := e29.trans q29
  have N29 := Fr.app N0 Nq29
  refine own_of st29 ?_
  show own_Ends _ _ _ _ _ _ (T29.setTop (mkF m 17 #[.val (.ref t), .val (.int (4 : Int32)), .val (.int (4 : Int32)), .unset] [(.int (101 : Int32))]))
  refine own_of (fun tt_ kk_ => XS.istoreN X29.here hx rfl (hb hby d_jdk_43_method_38_code_17) rfl (l' := #[.val (.ref t), .val (.int (4 : Int32)), .val (.int (4 : Int32)), .val (.int (101 : Int32))]) rfl kk_) ?_
  show own_Ends _ _ _ _ _ _ (T29.setTop (mkF m 18 #[.val (.ref t), .val (.int (4 : Int32)), .val (.int (4 : Int32)), .val (.int (101 : Int32))] []))
  refine own_of (fun tt_ kk_ => XS.iloadN X29.here hx rfl (hb hby d_jdk_43_method_38_code_18) rfl  kk_) ?_
  show own_Ends _ _ _ _ _ _ (T29.setTop (mkF m 19 #[.val (.ref t), .val (.int (4 : Int32)), .val (.int (4 : Int32)), .val (.int (101 : Int32))] [(.int (101 : Int32))]))
  refine own_of (fun tt_ kk_ => XS.bipush X29.here hx rfl (hb hby d_jdk_43_method_38_code_19) kk_) ?_
  show own_Ends _ _ _ _ _ _ (T29.setTop (mkF m 21 #[.val (.ref t), .val (.int (4 : Int32)), .val (.int (4 : Int32)), .val (.int (101 : Int32))] [(.int (32 : Int32)), (.int (101 : Int32))]))
  refine own_of (fun tt_ kk_ => XS.icmpNo X29.here hx rfl (hb hby d_jdk_43_method_38_code_21) rfl (feq (by decide : ¬ ((101 : Int32) = (32 : Int32)))).1 kk_) ?_
  show own_Ends _ _ _ _ _ _ (T29.setTop (mkF m 24 #[.val (.ref t), .val (.int (4 : Int32)), .val (.int (4 : Int32)), .val (.int (101 : Int32))] []))
  refine own_of (fun tt_ kk_ => XS.iloadN X29.here hx rfl (hb hby d_jdk_43_method_38_code_24) rfl  kk_) ?_
  show own_Ends _ _ _ _ _ _ (T29.setTop (mkF m 25 #[.val (.ref t), .val (.int (4 : Int32)), .val (.int (4 : Int32)), .val (.int (101 : Int32))] [(.int (101 : Int32))]))
  refine own_of (fun tt_ kk_ => XS.bipush X29.here hx rfl (hb hby d_jdk_43_method_38_code_25) kk_) ?_
  show own_Ends _ _ _ _ _ _ (T29.setTop (mkF m 27 #[.val (.ref t), .val (.int (4 : Int32)), .val (.int (4 : Int32)), .val (.int (101 : Int32))] [(.int (9 : Int32)), (.int (101 : Int32))]))
  refine own_of (fun tt_ kk_ => XS.icmpNo X29.here hx rfl (hb hby d_jdk_43_method_38_code_27) rfl (feq (by decide : ¬ ((101 : Int32) = (9 : Int32)))).1 kk_) ?_
  show own_Ends _ _ _ _ _ _ (T29.setTop (mkF m 30 #[.val (.ref t), .val (.int (4 : Int32)), .val (.int (4 : Int32)), .val (.int (101 : Int32))] []))
  obtain ⟨T30, X30, e30, st30⟩ := getS2 X29 hx hZ hown (host := "") (Or.inl (hw _ (List.mem_of_getElem? (i := 61) rfl))) Via.refl e29 (SI.ext OL.2) (g := (mkF m 30 #[.val (.ref t), .val (.int (4 : Int32)), .val (.int (4 : Int32)), .val (.int (101 : Int32))] [])) rfl (hb hby d_jdk_43_method_38_code_30)
  refine own_of st30 ?_
  show own_Ends _ _ _ _ _ _ (T30.setTop (mkF m 33 #[.val (.ref t), .val (.int (4 : Int32)), .val (.int (4 : Int32)), .val (.int (101 : Int32))] [(.ref wI)]))
  refine own_of (fun tt_ kk_ => XS.iloadN X30.here hx rfl (hb hby d_jdk_43_method_38_code_33) rfl  kk_) ?_
  show own_Ends _ _ _ _ _ _ (T30.setTop (mkF m 34 #[.val (.ref t), .val (.int (4 : Int32)), .val (.int (4 : Int32)), .val (.int (101 : Int32))] [(.int (101 : Int32)), (.ref wI)]))
  obtain ⟨v31, T31, L31, h31, X31, e31, Q31, st31⟩ := own_virtual X30 hx hZ hown e30 (EI.ext OL.2) (hw _ (List.mem_of_getElem? (i := 63) rfl)) (hw _ (List.mem_of_getElem? (i := 64) rfl)) (notFace_of_selects (args := #[]) (mvT hZ (hw _ (List.mem_of_getElem? (i := 66) rfl)))) (hw _ (List.mem_of_getElem? (i := 66) rfl)) (hw _ (List.mem_of_getElem? (i := 65) rfl)) (hw _ (List.mem_of_getElem? (i := 62) rfl)) (hw _ (List.mem_of_getElem? (i := 67) rfl)) (by decide) (argsL := [(.int (101 : Int32))]) (rest := []) (rm_ws101 l Z a0 hw G1 wI wA wR wB wG tG clA kG h0 n0 Z0 O2 P3 OL SI EI SA AA ZA SL ER FB EB FG FW VG A84 A70 A101) (g := (mkF m 34 #[.val (.ref t), .val (.int (4 : Int32)), .val (.int (4 : Int32)), .val (.int (101 : Int32))] [(.int (101 : Int32)), (.ref wI)])) rfl (by rw [hml]; rfl) (lenOf pd__I_r_Z rfl) rfl (by decide) (Nat.le_of_ble_eq_true rfl) (by decide) (by decide) (hb hby d_jdk_43_method_38_code_34)
  obtain ⟨rfl, Nq31, q31⟩ := Q31
  replace e31 := e31.trans q31
  have N31 := Fr.app N29 Nq31
  refine own_of st31 ?_
  show own_Ends _ _ _ _ _ _ (T31.setTop (mkF m 37 #[.val (.ref t), .val (.int (4 : Int32)), .val (.int (4 : Int32)), .val (.int (101 : Int32))] [(.int (0 : Int32))]))
  refine own_of (fun tt_ kk_ => XS.ifNo X31.here hx rfl (hb hby d_jdk_43_method_38_code_37) rfl ((if0 _ _).trans (teq (by decide : ((0 : Int32) = (0 : Int32)))).2) kk_) ?_
  show own_Ends _ _ _ _ _ _ (T31.setTop (mkF m 40 #[.val (.ref t), .val (.int (4 : Int32)), .val (.int (4 : Int32)), .val (.int (101 : Int32))] []))
  refine own_of (fun tt_ kk_ => XS.goto X31.here hx rfl (pc0 := 40) (pc' := 49) rfl (hb hby d_jdk_43_method_38_code_40) (by decide) (by decide) kk_) ?_
  show own_Ends _ _ _ _ _ _ (T31.setTop (mkF m 49 #[.val (.ref t), .val (.int (4 : Int32)), .val (.int (4 : Int32)), .val (.int (101 : Int32))] []))
  refine own_of (fun tt_ kk_ => XS.iloadN X31.here hx rfl (hb hby d_jdk_43_method_38_code_49) rfl  kk_) ?_
  show own_Ends _ _ _ _ _ _ (T31.setTop (mkF m 50 #[.val (.ref t), .val (.int (4 : Int32)), .val (.int (4 : Int32)), .val (.int (101 : Int32))] [(.int (4 : Int32))]))
  refine own_retI X31 hx hlk e31 hret (hb hby d_jdk_43_method_38_code_50) (by decide) (by decide) ?_
  exact ⟨rfl, N31, rfl⟩
theorem d_jdk_43_method_39_code_0 : decode jdk_43_method_39_code 0 = .ok (.aload_n 0, 1) := by decide +kernel
theorem pd__AB_r_I : parseMethodDescriptor "([B)I" = some ⟨[(.array .byte)], some .int⟩ := by decide +kernel
theorem d_jdk_43_method_39_code_1 : decode jdk_43_method_39_code 1 = .ok (.invokestatic 214, 3) := by decide +kernel
theorem d_jdk_43_method_39_code_4 : decode jdk_43_method_39_code 4 = .ok (.istore_n 1, 1) := by decide +kernel
theorem d_jdk_43_method_39_code_5 : decode jdk_43_method_39_code 5 = .ok (.iload_n 1, 1) := by decide +kernel
theorem d_jdk_43_method_39_code_6 : decode jdk_43_method_39_code 6 = .ok (.aload_n 0, 1) := by decide +kernel
theorem d_jdk_43_method_39_code_7 : decode jdk_43_method_39_code 7 = .ok (.arraylength, 1) := by decide +kernel
theorem d_jdk_43_method_39_code_8 : decode jdk_43_method_39_code 8 = .ok (.if_icmp .ne 6, 3) := by decide +kernel
theorem d_jdk_43_method_39_code_14 : decode jdk_43_method_39_code 14 = .ok (.aload_n 0, 1) := by decide +kernel
theorem d_jdk_43_method_39_code_15 : decode jdk_43_method_39_code 15 = .ok (.invokestatic 217, 3) := by decide +kernel
theorem d_jdk_43_method_39_code_18 : decode jdk_43_method_39_code 18 = .ok (.istore_n 2, 1) := by decide +kernel
theorem d_jdk_43_method_39_code_19 : decode jdk_43_method_39_code 19 = .ok (.iload_n 1, 1) := by decide +kernel
theorem d_jdk_43_method_39_code_20 : decode jdk_43_method_39_code 20 = .ok (.ifCond .gt 9, 3) := by decide +kernel
theorem d_jdk_43_method_39_code_23 : decode jdk_43_method_39_code 23 = .ok (.iload_n 2, 1) := by decide +kernel
theorem d_jdk_43_method_39_code_24 : decode jdk_43_method_39_code 24 = .ok (.aload_n 0, 1) := by decide +kernel
theorem d_jdk_43_method_39_code_25 : decode jdk_43_method_39_code 25 = .ok (.arraylength, 1) := by decide +kernel
theorem d_jdk_43_method_39_code_26 : decode jdk_43_method_39_code 26 = .ok (.if_icmp .ge 7, 3) := by decide +kernel
theorem d_jdk_43_method_39_code_33 : decode jdk_43_method_39_code 33 = .ok (.iconst 0, 1) := by decide +kernel
theorem d_jdk_43_method_39_code_34 : decode jdk_43_method_39_code 34 = .ok (.istore_n 3, 1) := by decide +kernel
theorem d_jdk_43_method_39_code_35 : decode jdk_43_method_39_code 35 = .ok (.iload_n 3, 1) := by decide +kernel
theorem d_jdk_43_method_39_code_36 : decode jdk_43_method_39_code 36 = .ok (.ifCond .eq 14, 3) := by decide +kernel
theorem d_jdk_43_method_39_code_50 : decode jdk_43_method_39_code 50 = .ok (.aconst_null, 1) := by decide +kernel
theorem d_jdk_43_method_39_code_51 : decode jdk_43_method_39_code 51 = .ok (.areturn, 1) := by decide +kernel
theorem ef_jdk_43_method_39_codeR (m : MethodId) (z0 : Addr) : entryFrame m #[(.ref z0)] 4 = mkF m 0 #[.val (.ref z0), .unset, .unset, .unset] [] := by first | (simp [entryFrame, mkF, argsToLocals, Value.category]; done) | rfl
set_option maxRecDepth 65536 in
set_option maxHeartbeats 40000000 in
theorem rm_strip1_True (l : Launch) (Z : State) (a0 : Array Value) (hw : ∀ d ∈ tables_1, d.before a0 Z = true) (t : Addr) (k : ClassId) (G1 : Int32) (wI wA wR wB wG tG : Addr) (clA : Cell) (kG : ClassId) (h0 : Heap) (n0 : Nat) (Z0 : n0 ≤ h0.size) (V : Arv Z h0 t k .byte (4 : Int32) [(.int (84 : Int32)), (.int (114 : Int32)), (.int (117 : Int32)), (.int (101 : Int32))] (.int (0 : Int32))) (O2 : Sta Z Z.heap "java/lang/String" "COMPACT_STRINGS" "Z" (.int G1)) (P3 : ¬ (G1 = (0 : Int32))) (OL : Old Z n0 h0) (SI : Sta Z Z.heap "java/lang/CharacterDataLatin1" "instance" "Ljava/lang/CharacterDataLatin1;" (.ref wI)) (EI : Exa Z Z.heap wI "java/lang/CharacterDataLatin1") (SA : Sta Z Z.heap "java/lang/CharacterDataLatin1" "A" "[I" (.ref wA)) (AA : Arr Z Z.heap wA clA .int) (ZA : clA.slots.size = 256) (SL : Sta Z Z.heap "java/util/Locale" "ROOT" "Ljava/util/Locale;" (.ref wR)) (ER : Exa Z Z.heap wR "java/util/Locale") (FB : Fld Z Z.heap wR "java/util/Locale" "baseLocale" "Lsun/util/locale/BaseLocale;" (.ref wB)) (EB : Exa Z Z.heap wB "sun/util/locale/BaseLocale") (FG : Fld Z Z.heap wB "sun/util/locale/BaseLocale" "language" "Ljava/lang/String;" (.ref wG)) (FW : Fld Z Z.heap wG "java/lang/String" "value" "[B" (.ref tG)) (VG : Arv Z Z.heap tG kG .byte (0 : Int32) [] (.int (0 : Int32))) (A84 : clA.slots[84]? = some (.int (8552417 : Int32))) (A70 : clA.slots[70]? = some (.int (8552417 : Int32))) (A101 : clA.slots[101]? = some (.int (8486882 : Int32))) :
    own_Met l Z (⟨"java/lang/StringLatin1", "strip", "([B)Ljava/lang/String;"⟩ : MethodName) jdk_43_method_39_code 4 (some (.object "java/lang/String")) ({ frames := 3, cells := 0, slots := 0, locals := 44 } : Room) #[(.ref t)] h0 (fun v h L => v = some .null ∧ Fr n0 L ∧ h = h0) := by
  refine own_body (plainFor_of_name pn_java_lang_StringLatin1) ?_
  intro p e s m below meth c T0 X0 e0 hx hby hml hown hnm hret hlk hZ
  replace hown : s.vm.findClass "java/lang/StringLatin1" = some m.cls := hown
  have N0 := Fr.nil n0
  refine own_of (fun tt_ kk_ => castTop (ef_jdk_43_method_39_codeR m t) kk_) ?_
  show own_Ends _ _ _ _ _ _ (T0.setTop (mkF m 0 #[.val (.ref t), .unset, .unset, .unset] []))
  refine own_of (fun tt_ kk_ => XS.aloadN X0.here hx rfl (hb hby d_jdk_43_method_39_code_0) rfl rfl kk_) ?_
  show own_Ends _ _ _ _ _ _ (T0.setTop (mkF m 1 #[.val (.ref t), .unset, .unset, .unset] [(.ref t)]))
  obtain ⟨v32, T32, L32, h32, X32, e32, Q32, st32⟩ := own_static X0 hx hZ hown e0 (hw _ (List.mem_of_getElem? (i := 55) rfl)) (hw _ (List.mem_of_getElem? (i := 56) rfl)) (hw _ (List.mem_of_getElem? (i := 24) rfl)) (hw _ (List.mem_of_getElem? (i := 57) rfl)) (by decide) (argsL := [(.ref t)]) (rest := []) (rm_idx_True l Z a0 hw t k G1 wI wA wR wB wG tG clA kG h0 n0 Z0 V O2 P3 OL SI EI SA AA ZA SL ER FB EB FG FW VG A84 A70 A101) (g := (mkF m 1 #[.val (.ref t), .unset, .unset, .unset] [(.ref t)])) rfl (by rw [hml]; rfl) (lenOf pd__AB_r_I rfl) rfl (by decide) (Nat.le_of_ble_eq_true rfl) (by decide) (by decide) (hb hby d_jdk_43_method_39_code_1)
  obtain ⟨rfl, Nq32, q32⟩ := Q32
  replace e32 := e32.trans q32
  have N32 := Fr.app N0 Nq32
  refine own_of st32 ?_
  show own_Ends _ _ _ _ _ _ (T32.setTop (mkF m 4 #[.val (.ref t), .unset, .unset, .unset] [(.int (0 : Int32))]))
  refine own_of (fun tt_ kk_ => XS.istoreN X32.here hx rfl (hb hby d_jdk_43_method_39_code_4) rfl (l' := #[.val (.ref t), .val (.int (0 : Int32)), .unset, .unset]) rfl kk_) ?_
  show own_Ends _ _ _ _ _ _ (T32.setTop (mkF m 5 #[.val (.ref t), .val (.int (0 : Int32)), .unset, .unset] []))
  refine own_of (fun tt_ kk_ => XS.iloadN X32.here hx rfl (hb hby d_jdk_43_method_39_code_5) rfl  kk_) ?_
  show own_Ends _ _ _ _ _ _ (T32.setTop (mkF m 6 #[.val (.ref t), .val (.int (0 : Int32)), .unset, .unset] [(.int (0 : Int32))]))
  refine own_of (fun tt_ kk_ => XS.aloadN X32.here hx rfl (hb hby d_jdk_43_method_39_code_6) rfl rfl kk_) ?_
  show own_Ends _ _ _ _ _ _ (T32.setTop (mkF m 7 #[.val (.ref t), .val (.int (0 : Int32)), .unset, .unset] [(.ref t), (.int (0 : Int32))]))
  obtain ⟨cl33, Ar33, -, S33, N33', -, -⟩ := id V
  refine own_of (fun tt_ kk_ => X32.arraylength hx (by rw [e32]; exact Ar33.1) (State.isArrayOf_alike hZ.alike Ar33.2.1) (g := (mkF m 7 #[.val (.ref t), .val (.int (0 : Int32)), .unset, .unset] [(.ref t), (.int (0 : Int32))])) rfl rfl (hb hby d_jdk_43_method_39_code_7) _ kk_) ?_
  rw [len_of S33 N33']
  show own_Ends _ _ _ _ _ _ (T32.setTop (mkF m 8 #[.val (.ref t), .val (.int (0 : Int32)), .unset, .unset] [(.int (4 : Int32)), (.int (0 : Int32))]))
  refine own_of (fun tt_ kk_ => XS.icmpYes X32.here hx rfl (pc0 := 8) (pc' := 14) rfl (hb hby d_jdk_43_method_39_code_8) rfl (feq (by decide : ¬ ((0 : Int32) = (4 : Int32)))).2 (by decide) (by decide) kk_) ?_
  show own_Ends _ _ _ _ _ _ (T32.setTop (mkF m 14 #[.val (.ref t), .val (.int (0 : Int32)), .unset, .unset] []))
  refine own_of (fun tt_ kk_ => XS.aloadN X32.here hx rfl (hb hby d_jdk_43_method_39_code_14) rfl rfl kk_) ?_
  show own_Ends _ _ _ _ _ _ (T32.setTop (mkF m 15 #[.val (.ref t), .val (.int (0 : Int32)), .unset, .unset] [(.ref t)]))
  obtain ⟨v34, T34, L34, h34, X34, e34, Q34, st34⟩ := own_static X32 hx hZ hown e32 (hw _ (List.mem_of_getElem? (i := 74) rfl)) (hw _ (List.mem_of_getElem? (i := 75) rfl)) (hw _ (List.mem_of_getElem? (i := 24) rfl)) (hw _ (List.mem_of_getElem? (i := 76) rfl)) (by decide) (argsL := [(.ref t)]) (rest := []) (rm_lidx_True l Z a0 hw t k G1 wI wA wR wB wG tG clA kG h0 n0 Z0 V O2 P3 OL SI EI SA AA ZA SL ER FB EB FG FW VG A84 A70 A101) (g := (mkF m 15 #[.val (.ref t), .val (.int (0 : Int32)), .unset, .unset] [(.ref t)])) rfl (by rw [hml]; rfl) (lenOf pd__AB_r_I rfl) rfl (by decide) (Nat.le_of_ble_eq_true rfl) (by decide) (by decide) (hb hby d_jdk_43_method_39_code_15)
  obtain ⟨rfl, Nq34, q34⟩ := Q34
  replace e34 := e34.trans q34
  have N34 := Fr.app N32 Nq34
  refine own_of st34 ?_
  show own_Ends _ _ _ _ _ _ (T34.setTop (mkF m 18 #[.val (.ref t), .val (.int (0 : Int32)), .unset, .unset] [(.int (4 : Int32))]))
  refine own_of (fun tt_ kk_ => XS.istoreN X34.here hx rfl (hb hby d_jdk_43_method_39_code_18) rfl (l' := #[.val (.ref t), .val (.int (0 : Int32)), .val (.int (4 : Int32)), .unset]) rfl kk_) ?_
  show own_Ends _ _ _ _ _ _ (T34.setTop (mkF m 19 #[.val (.ref t), .val (.int (0 : Int32)), .val (.int (4 : Int32)), .unset] []))
  refine own_of (fun tt_ kk_ => XS.iloadN X34.here hx rfl (hb hby d_jdk_43_method_39_code_19) rfl  kk_) ?_
  show own_Ends _ _ _ _ _ _ (T34.setTop (mkF m 20 #[.val (.ref t), .val (.int (0 : Int32)), .val (.int (4 : Int32)), .unset] [(.int (0 : Int32))]))
  refine own_of (fun tt_ kk_ => XS.ifNo X34.here hx rfl (hb hby d_jdk_43_method_39_code_20) rfl ((if0 _ _).trans (flt (by decide : ¬ ((0 : Int32) < (0 : Int32)))).2.2.1) kk_) ?_
  show own_Ends _ _ _ _ _ _ (T34.setTop (mkF m 23 #[.val (.ref t), .val (.int (0 : Int32)), .val (.int (4 : Int32)), .unset] []))
  refine own_of (fun tt_ kk_ => XS.iloadN X34.here hx rfl (hb hby d_jdk_43_method_39_code_23) rfl  kk_) ?_
  show own_Ends _ _ _ _ _ _ (T34.setTop (mkF m 24 #[.val (.ref t), .val (.int (0 : Int32)), .val (.int (4 : Int32)), .unset] [(.int (4 : Int32))]))
  refine own_of (fun tt_ kk_ => XS.aloadN X34.here hx rfl (hb hby d_jdk_43_method_39_code_24) rfl rfl kk_) ?_
  show own_Ends _ _ _ _ _ _ (T34.setTop (mkF m 25 #[.val (.ref t), .val (.int (0 : Int32)), .val (.int (4 : Int32)), .unset] [(.ref t), (.int (4 : Int32))]))
  obtain ⟨cl35, Ar35, -, S35, N35', -, -⟩ := id V
  refine own_of (fun tt_ kk_ => X34.arraylength hx (by rw [e34]; exact Ar35.1) (State.isArrayOf_alike hZ.alike Ar35.2.1) (g := (mkF m 25 #[.val (.ref t), .val (.int (0 : Int32)), .val (.int (4 : Int32)), .unset] [(.ref t), (.int (4 : Int32))])) rfl rfl (hb hby d_jdk_43_method_39_code_25) _ kk_) ?_
  rw [len_of S35 N35']
  show own_Ends _ _ _ _ _ _ (T34.setTop (mkF m 26 #[.val (.ref t), .val (.int (0 : Int32)), .val (.int (4 : Int32)), .unset] [(.int (4 : Int32)), (.int (4 : Int32))]))
  refine own_of (fun tt_ kk_ => XS.icmpYes X34.here hx rfl (pc0 := 26) (pc' := 33) rfl (hb hby d_jdk_43_method_39_code_26) rfl (flt (by decide : ¬ ((4 : Int32) < (4 : Int32)))).2.1 (by decide) (by decide) kk_) ?_
  show own_Ends _ _ _ _ _ _ (T34.setTop (mkF m 33 #[.val (.ref t), .val (.int (0 : Int32)), .val (.int (4 : Int32)), .unset] []))
  refine own_of (fun tt_ kk_ => XS.iconst X34.here hx rfl (hb hby d_jdk_43_method_39_code_33) kk_) ?_
  show own_Ends _ _ _ _ _ _ (T34.setTop (mkF m 34 #[.val (.ref t), .val (.int (0 : Int32)), .val (.int (4 : Int32)), .unset] [(.int (0 : Int32))]))
  refine own_of (fun tt_ kk_ => XS.istoreN X34.here hx rfl (hb hby d_jdk_43_method_39_code_34) rfl (l' := #[.val (.ref t), .val (.int (0 : Int32)), .val (.int (4 : Int32)), .val (.int (0 : Int32))]) rfl kk_) ?_
  show own_Ends _ _ _ _ _ _ (T34.setTop (mkF m 35 #[.val (.ref t), .val (.int (0 : Int32)), .val (.int (4 : Int32)), .val (.int (0 : Int32))] []))
  refine own_of (fun tt_ kk_ => XS.iloadN X34.here hx rfl (hb hby d_jdk_43_method_39_code_35) rfl  kk_) ?_
  show own_Ends _ _ _ _ _ _ (T34.setTop (mkF m 36 #[.val (.ref t), .val (.int (0 : Int32)), .val (.int (4 : Int32)), .val (.int (0 : Int32))] [(.int (0 : Int32))]))
  refine own_of (fun tt_ kk_ => XS.ifYes X34.here hx rfl (pc0 := 36) (pc' := 50) rfl (hb hby d_jdk_43_method_39_code_36) rfl ((if0 _ _).trans (teq (by decide : ((0 : Int32) = (0 : Int32)))).1) (by decide) (by decide) kk_) ?_
  show own_Ends _ _ _ _ _ _ (T34.setTop (mkF m 50 #[.val (.ref t), .val (.int (0 : Int32)), .val (.int (4 : Int32)), .val (.int (0 : Int32))] []))
  refine own_of (fun tt_ kk_ => XS.aconstNull X34.here hx rfl (hb hby d_jdk_43_method_39_code_50) kk_) ?_
  show own_Ends _ _ _ _ _ _ (T34.setTop (mkF m 51 #[.val (.ref t), .val (.int (0 : Int32)), .val (.int (4 : Int32)), .val (.int (0 : Int32))] [.null]))
  refine own_retA X34 hx hlk e34 hret rfl rfl (hb hby d_jdk_43_method_39_code_51) (by decide) (by decide) ?_
  exact ⟨rfl, N34, rfl⟩
theorem d_jdk_42_method_114_code_0 : decode jdk_42_method_114_code 0 = .ok (.aload_n 0, 1) := by decide +kernel
theorem pd___r_Z : parseMethodDescriptor "()Z" = some ⟨[], some .boolean⟩ := by decide +kernel
theorem d_jdk_42_method_114_code_1 : decode jdk_42_method_114_code 1 = .ok (.invokevirtual 492, 3) := by decide +kernel
theorem d_jdk_42_method_114_code_4 : decode jdk_42_method_114_code 4 = .ok (.ifCond .eq 13, 3) := by decide +kernel
theorem d_jdk_42_method_114_code_7 : decode jdk_42_method_114_code 7 = .ok (.aload_n 0, 1) := by decide +kernel
theorem d_jdk_42_method_114_code_8 : decode jdk_42_method_114_code 8 = .ok (.getfield 9, 3) := by decide +kernel
theorem pd__AB_r_Ljava_lang_String_ : parseMethodDescriptor "([B)Ljava/lang/String;" = some ⟨[(.array .byte)], some (.object "java/lang/String")⟩ := by decide +kernel
theorem d_jdk_42_method_114_code_11 : decode jdk_42_method_114_code 11 = .ok (.invokestatic 864, 3) := by decide +kernel
theorem d_jdk_42_method_114_code_14 : decode jdk_42_method_114_code 14 = .ok (.goto 10, 3) := by decide +kernel
theorem d_jdk_42_method_114_code_24 : decode jdk_42_method_114_code 24 = .ok (.astore_n 1, 1) := by decide +kernel
theorem d_jdk_42_method_114_code_25 : decode jdk_42_method_114_code 25 = .ok (.aload_n 1, 1) := by decide +kernel
theorem d_jdk_42_method_114_code_26 : decode jdk_42_method_114_code 26 = .ok (.ifnonnull 7, 3) := by decide +kernel
theorem d_jdk_42_method_114_code_29 : decode jdk_42_method_114_code 29 = .ok (.aload_n 0, 1) := by decide +kernel
theorem d_jdk_42_method_114_code_30 : decode jdk_42_method_114_code 30 = .ok (.goto 4, 3) := by decide +kernel
theorem d_jdk_42_method_114_code_34 : decode jdk_42_method_114_code 34 = .ok (.areturn, 1) := by decide +kernel
theorem ef_jdk_42_method_114_codeR (m : MethodId) (z0 : Addr) : entryFrame m #[(.ref z0)] 2 = mkF m 0 #[.val (.ref z0), .unset] [] := by first | (simp [entryFrame, mkF, argsToLocals, Value.category]; done) | rfl
set_option maxRecDepth 65536 in
set_option maxHeartbeats 40000000 in
theorem rm_strip_True (l : Launch) (Z : State) (a0 : Array Value) (hw : ∀ d ∈ tables_1, d.before a0 Z = true) (a t : Addr) (k : ClassId) (G1 : Int32) (wI wA wR wB wG tG : Addr) (clA : Cell) (kG : ClassId) (h0 : Heap) (n0 : Nat) (Z0 : n0 ≤ h0.size) (E : Exa Z h0 a "java/lang/String") (FC : Fld Z h0 a "java/lang/String" "coder" "B" (.int (0 : Int32))) (FV : Fld Z h0 a "java/lang/String" "value" "[B" (.ref t)) (V : Arv Z h0 t k .byte (4 : Int32) [(.int (84 : Int32)), (.int (114 : Int32)), (.int (117 : Int32)), (.int (101 : Int32))] (.int (0 : Int32))) (O2 : Sta Z Z.heap "java/lang/String" "COMPACT_STRINGS" "Z" (.int G1)) (P3 : ¬ (G1 = (0 : Int32))) (OL : Old Z n0 h0) (SI : Sta Z Z.heap "java/lang/CharacterDataLatin1" "instance" "Ljava/lang/CharacterDataLatin1;" (.ref wI)) (EI : Exa Z Z.heap wI "java/lang/CharacterDataLatin1") (SA : Sta Z Z.heap "java/lang/CharacterDataLatin1" "A" "[I" (.ref wA)) (AA : Arr Z Z.heap wA clA .int) (ZA : clA.slots.size = 256) (SL : Sta Z Z.heap "java/util/Locale" "ROOT" "Ljava/util/Locale;" (.ref wR)) (ER : Exa Z Z.heap wR "java/util/Locale") (FB : Fld Z Z.heap wR "java/util/Locale" "baseLocale" "Lsun/util/locale/BaseLocale;" (.ref wB)) (EB : Exa Z Z.heap wB "sun/util/locale/BaseLocale") (FG : Fld Z Z.heap wB "sun/util/locale/BaseLocale" "language" "Ljava/lang/String;" (.ref wG)) (FW : Fld Z Z.heap wG "java/lang/String" "value" "[B" (.ref tG)) (VG : Arv Z Z.heap tG kG .byte (0 : Int32) [] (.int (0 : Int32))) (A84 : clA.slots[84]? = some (.int (8552417 : Int32))) (A70 : clA.slots[70]? = some (.int (8552417 : Int32))) (A101 : clA.slots[101]? = some (.int (8486882 : Int32))) :
    own_Met l Z (⟨"java/lang/String", "strip", "()Ljava/lang/String;"⟩ : MethodName) jdk_42_method_114_code 2 (some (.object "java/lang/String")) ({ frames := 4, cells := 0, slots := 0, locals := 59 } : Room) #[(.ref a)] h0 (fun v h L => v = some (.ref a) ∧ Fr n0 L ∧ h = h0) := by
  refine own_body (plainFor_of_name pn_java_lang_String) ?_
  intro p e s m below meth c T0 X0 e0 hx hby hml hown hnm hret hlk hZ
  replace hown : s.vm.findClass "java/lang/String" = some m.cls := hown
  have N0 := Fr.nil n0
  refine own_of (fun tt_ kk_ => castTop (ef_jdk_42_method_114_codeR m a) kk_) ?_
  show own_Ends _ _ _ _ _ _ (T0.setTop (mkF m 0 #[.val (.ref a), .unset] []))
  refine own_of (fun tt_ kk_ => XS.aloadN X0.here hx rfl (hb hby d_jdk_42_method_114_code_0) rfl rfl kk_) ?_
  show own_Ends _ _ _ _ _ _ (T0.setTop (mkF m 1 #[.val (.ref a), .unset] [(.ref a)]))
  obtain ⟨v36, T36, L36, h36, X36, e36, Q36, st36⟩ := own_virtual X0 hx hZ hown e0 E (hw _ (List.mem_of_getElem? (i := 47) rfl)) (hw _ (List.mem_of_getElem? (i := 48) rfl)) (notFace_of_selects (args := #[]) (mvT hZ (hw _ (List.mem_of_getElem? (i := 50) rfl)))) (hw _ (List.mem_of_getElem? (i := 50) rfl)) (hw _ (List.mem_of_getElem? (i := 49) rfl)) (hw _ (List.mem_of_getElem? (i := 5) rfl)) (hw _ (List.mem_of_getElem? (i := 51) rfl)) (by decide) (argsL := []) (rest := []) (rm_isl l Z a0 hw a G1 h0 n0 Z0 FC O2 P3 OL) (g := (mkF m 1 #[.val (.ref a), .unset] [(.ref a)])) rfl (by rw [hml]; rfl) (lenOf pd___r_Z rfl) rfl (by decide) (Nat.le_of_ble_eq_true rfl) (by decide) (by decide) (hb hby d_jdk_42_method_114_code_1)
  obtain ⟨rfl, Nq36, q36⟩ := Q36
  replace e36 := e36.trans q36
  have N36 := Fr.app N0 Nq36
  refine own_of st36 ?_
  show own_Ends _ _ _ _ _ _ (T36.setTop (mkF m 4 #[.val (.ref a), .unset] [(.int (1 : Int32))]))
  refine own_of (fun tt_ kk_ => XS.ifNo X36.here hx rfl (hb hby d_jdk_42_method_114_code_4) rfl ((if0 _ _).trans (feq (by decide : ¬ ((1 : Int32) = (0 : Int32)))).1) kk_) ?_
  show own_Ends _ _ _ _ _ _ (T36.setTop (mkF m 7 #[.val (.ref a), .unset] []))
  refine own_of (fun tt_ kk_ => XS.aloadN X36.here hx rfl (hb hby d_jdk_42_method_114_code_7) rfl rfl kk_) ?_
  show own_Ends _ _ _ _ _ _ (T36.setTop (mkF m 8 #[.val (.ref a), .unset] [(.ref a)]))
  obtain ⟨T37, X37, e37, st37⟩ := getF X36 hx hZ hown (host := "") (Or.inl (hw _ (List.mem_of_getElem? (i := 37) rfl))) Via.refl e36 FV (g := (mkF m 8 #[.val (.ref a), .unset] [(.ref a)])) rfl rfl (hb hby d_jdk_42_method_114_code_8)
  refine own_of st37 ?_
  show own_Ends _ _ _ _ _ _ (T37.setTop (mkF m 11 #[.val (.ref a), .unset] [(.ref t)]))
  obtain ⟨v38, T38, L38, h38, X38, e38, Q38, st38⟩ := own_static X37 hx hZ hown e37 (hw _ (List.mem_of_getElem? (i := 52) rfl)) (hw _ (List.mem_of_getElem? (i := 53) rfl)) (hw _ (List.mem_of_getElem? (i := 24) rfl)) (hw _ (List.mem_of_getElem? (i := 54) rfl)) (by decide) (argsL := [(.ref t)]) (rest := []) (rm_strip1_True l Z a0 hw t k G1 wI wA wR wB wG tG clA kG h0 n0 Z0 V O2 P3 OL SI EI SA AA ZA SL ER FB EB FG FW VG A84 A70 A101) (g := (mkF m 11 #[.val (.ref a), .unset] [(.ref t)])) rfl (by rw [hml]; rfl) (lenOf pd__AB_r_Ljava_lang_String_ rfl) rfl (by decide) (Nat.le_of_ble_eq_true rfl) (by decide) (by decide) (hb hby d_jdk_42_method_114_code_11)
  obtain ⟨rfl, Nq38, q38⟩ := Q38
  replace e38 := e38.trans q38
  have N38 := Fr.app N36 Nq38
  refine own_of st38 ?_
  show own_Ends _ _ _ _ _ _ (T38.setTop (mkF m 14 #[.val (.ref a), .unset] [.null]))
  refine own_of (fun tt_ kk_ => XS.goto X38.here hx rfl (pc0 := 14) (pc' := 24) rfl (hb hby d_jdk_42_method_114_code_14) (by decide) (by decide) kk_) ?_
  show own_Ends _ _ _ _ _ _ (T38.setTop (mkF m 24 #[.val (.ref a), .unset] [.null]))
  refine own_of (fun tt_ kk_ => XS.astoreN X38.here hx rfl (hb hby d_jdk_42_method_114_code_24) rfl rfl (l' := #[.val (.ref a), .val .null]) rfl kk_) ?_
  show own_Ends _ _ _ _ _ _ (T38.setTop (mkF m 25 #[.val (.ref a), .val .null] []))
  refine own_of (fun tt_ kk_ => XS.aloadN X38.here hx rfl (hb hby d_jdk_42_method_114_code_25) rfl rfl kk_) ?_
  show own_Ends _ _ _ _ _ _ (T38.setTop (mkF m 26 #[.val (.ref a), .val .null] [.null]))
  refine own_of (fun tt_ kk_ => XS.ifnonnullNo X38.here hx rfl (hb hby d_jdk_42_method_114_code_26) rfl kk_) ?_
  show own_Ends _ _ _ _ _ _ (T38.setTop (mkF m 29 #[.val (.ref a), .val .null] []))
  refine own_of (fun tt_ kk_ => XS.aloadN X38.here hx rfl (hb hby d_jdk_42_method_114_code_29) rfl rfl kk_) ?_
  show own_Ends _ _ _ _ _ _ (T38.setTop (mkF m 30 #[.val (.ref a), .val .null] [(.ref a)]))
  refine own_of (fun tt_ kk_ => XS.goto X38.here hx rfl (pc0 := 30) (pc' := 34) rfl (hb hby d_jdk_42_method_114_code_30) (by decide) (by decide) kk_) ?_
  show own_Ends _ _ _ _ _ _ (T38.setTop (mkF m 34 #[.val (.ref a), .val .null] [(.ref a)]))
  refine own_retA X38 hx hlk e38 hret rfl rfl (hb hby d_jdk_42_method_114_code_34) (by decide) (by decide) ?_
  exact ⟨rfl, N38, rfl⟩
set_option maxRecDepth 65536 in
set_option maxHeartbeats 40000000 in
theorem rm_gch_False0 (l : Launch) (Z : State) (a0 : Array Value) (hw : ∀ d ∈ tables_1, d.before a0 Z = true) (t : Addr) (k : ClassId) (h0 : Heap) (n0 : Nat) (Z0 : n0 ≤ h0.size) (V : Arv Z h0 t k .byte (5 : Int32) [(.int (70 : Int32)), (.int (97 : Int32)), (.int (108 : Int32)), (.int (115 : Int32)), (.int (101 : Int32))] (.int (0 : Int32))) :
    own_Met l Z (⟨"java/lang/StringLatin1", "getChar", "([BI)C"⟩ : MethodName) jdk_43_method_44_code 2 (some .char) ({ frames := 0, cells := 0, slots := 0, locals := 0 } : Room) #[(.ref t), (.int (0 : Int32))] h0 (fun v h L => v = some (.int (70 : Int32)) ∧ Fr n0 L ∧ h = h0) := by
  refine own_body (plainFor_of_name pn_java_lang_StringLatin1) ?_
  intro p e s m below meth c T0 X0 e0 hx hby hml hown hnm hret hlk hZ
  replace hown : s.vm.findClass "java/lang/StringLatin1" = some m.cls := hown
  have N0 := Fr.nil n0
  refine own_of (fun tt_ kk_ => castTop (ef_jdk_43_method_44_codeRI m t (0 : Int32)) kk_) ?_
  show own_Ends _ _ _ _ _ _ (T0.setTop (mkF m 0 #[.val (.ref t), .val (.int (0 : Int32))] []))
  refine own_of (fun tt_ kk_ => XS.aloadN X0.here hx rfl (hb hby d_jdk_43_method_44_code_0) rfl rfl kk_) ?_
  show own_Ends _ _ _ _ _ _ (T0.setTop (mkF m 1 #[.val (.ref t), .val (.int (0 : Int32))] [(.ref t)]))
  refine own_of (fun tt_ kk_ => XS.iloadN X0.here hx rfl (hb hby d_jdk_43_method_44_code_1) rfl  kk_) ?_
  show own_Ends _ _ _ _ _ _ (T0.setTop (mkF m 2 #[.val (.ref t), .val (.int (0 : Int32))] [(.int (0 : Int32)), (.ref t)]))
  obtain ⟨cl39, Ar39, q39, S39, N39', H39, G39⟩ := id V
  have hin39 : ¬ ((0 : Int32) < 0 ∨ cl39.slots.size ≤ ((0 : Int32)).toNatClampNeg) := inb_of S39 ⟨by decide, by decide⟩
  have hat39 : cl39.slots[((0 : Int32)).toNatClampNeg]? = some (.int (70 : Int32)) := H39.at hin39 rfl
  refine own_of (fun tt_ kk_ => X0.baloadBytes hx (j := (0 : Int32)) (v := (.int (70 : Int32))) (by rw [e0]; exact Ar39.1) (State.isArrayOf_alike hZ.alike Ar39.2.1) Ar39.2.2 hin39 hat39 (g := (mkF m 2 #[.val (.ref t), .val (.int (0 : Int32))] [(.int (0 : Int32)), (.ref t)])) rfl rfl (hb hby d_jdk_43_method_44_code_2) _ kk_) ?_
  show own_Ends _ _ _ _ _ _ (T0.setTop (mkF m 3 #[.val (.ref t), .val (.int (0 : Int32))] [(.int (70 : Int32))]))
  refine own_of (fun tt_ kk_ => XS.sipush X0.here hx rfl (hb hby d_jdk_43_method_44_code_3) kk_) ?_
  show own_Ends _ _ _ _ _ _ (T0.setTop (mkF m 6 #[.val (.ref t), .val (.int (0 : Int32))] [(.int (255 : Int32)), (.int (70 : Int32))]))
  refine own_of (fun tt_ kk_ => XS.iand X0.here hx rfl (hb hby d_jdk_43_method_44_code_6) rfl kk_) ?_
  show own_Ends _ _ _ _ _ _ (T0.setTop (mkF m 7 #[.val (.ref t), .val (.int (0 : Int32))] [(.int (70 : Int32))]))
  refine own_of (fun tt_ kk_ => XS.i2c X0.here hx rfl (hb hby d_jdk_43_method_44_code_7) rfl kk_) ?_
  show own_Ends _ _ _ _ _ _ (T0.setTop (mkF m 8 #[.val (.ref t), .val (.int (0 : Int32))] [(.int (70 : Int32))]))
  refine own_retN X0 hx hlk e0 (t := .char) hret (by simp) (z' := (70 : Int32)) rfl (hb hby d_jdk_43_method_44_code_8) (by decide) (by decide) ?_
  exact ⟨rfl, N0, rfl⟩
set_option maxRecDepth 65536 in
set_option maxHeartbeats 40000000 in
theorem rm_gch_False4 (l : Launch) (Z : State) (a0 : Array Value) (hw : ∀ d ∈ tables_1, d.before a0 Z = true) (t : Addr) (k : ClassId) (h0 : Heap) (n0 : Nat) (Z0 : n0 ≤ h0.size) (V : Arv Z h0 t k .byte (5 : Int32) [(.int (70 : Int32)), (.int (97 : Int32)), (.int (108 : Int32)), (.int (115 : Int32)), (.int (101 : Int32))] (.int (0 : Int32))) :
    own_Met l Z (⟨"java/lang/StringLatin1", "getChar", "([BI)C"⟩ : MethodName) jdk_43_method_44_code 2 (some .char) ({ frames := 0, cells := 0, slots := 0, locals := 0 } : Room) #[(.ref t), (.int (4 : Int32))] h0 (fun v h L => v = some (.int (101 : Int32)) ∧ Fr n0 L ∧ h = h0) := by
  refine own_body (plainFor_of_name pn_java_lang_StringLatin1) ?_
  intro p e s m below meth c T0 X0 e0 hx hby hml hown hnm hret hlk hZ
  replace hown : s.vm.findClass "java/lang/StringLatin1" = some m.cls := hown
  have N0 := Fr.nil n0
  refine own_of (fun tt_ kk_ => castTop (ef_jdk_43_method_44_codeRI m t (4 : Int32)) kk_) ?_
  show own_Ends _ _ _ _ _ _ (T0.setTop (mkF m 0 #[.val (.ref t), .val (.int (4 : Int32))] []))
  refine own_of (fun tt_ kk_ => XS.aloadN X0.here hx rfl (hb hby d_jdk_43_method_44_code_0) rfl rfl kk_) ?_
  show own_Ends _ _ _ _ _ _ (T0.setTop (mkF m 1 #[.val (.ref t), .val (.int (4 : Int32))] [(.ref t)]))
  refine own_of (fun tt_ kk_ => XS.iloadN X0.here hx rfl (hb hby d_jdk_43_method_44_code_1) rfl  kk_) ?_
  show own_Ends _ _ _ _ _ _ (T0.setTop (mkF m 2 #[.val (.ref t), .val (.int (4 : Int32))] [(.int (4 : Int32)), (.ref t)]))
  obtain ⟨cl40, Ar40, q40, S40, N40', H40, G40⟩ := id V
  have hin40 : ¬ ((4 : Int32) < 0 ∨ cl40.slots.size ≤ ((4 : Int32)).toNatClampNeg) := inb_of S40 ⟨by decide, by decide⟩
  have hat40 : cl40.slots[((4 : Int32)).toNatClampNeg]? = some (.int (101 : Int32)) := H40.at hin40 rfl
  refine own_of (fun tt_ kk_ => X0.baloadBytes hx (j := (4 : Int32)) (v := (.int (101 : Int32))) (by rw [e0]; exact Ar40.1) (State.isArrayOf_alike hZ.alike Ar40.2.1) Ar40.2.2 hin40 hat40 (g := (mkF m 2 #[.val (.ref t), .val (.int (4 : Int32))] [(.int (4 : Int32)), (.ref t)])) rfl rfl (hb hby d_jdk_43_method_44_code_2) _ kk_) ?_
  show own_Ends _ _ _ _ _ _ (T0.setTop (mkF m 3 #[.val (.ref t), .val (.int (4 : Int32))] [(.int (101 : Int32))]))
  refine own_of (fun tt_ kk_ => XS.sipush X0.here hx rfl (hb hby d_jdk_43_method_44_code_3) kk_) ?_
  show own_Ends _ _ _ _ _ _ (T0.setTop (mkF m 6 #[.val (.ref t), .val (.int (4 : Int32))] [(.int (255 : Int32)), (.int (101 : Int32))]))
  refine own_of (fun tt_ kk_ => XS.iand X0.here hx rfl (hb hby d_jdk_43_method_44_code_6) rfl kk_) ?_
  show own_Ends _ _ _ _ _ _ (T0.setTop (mkF m 7 #[.val (.ref t), .val (.int (4 : Int32))] [(.int (101 : Int32))]))
  refine own_of (fun tt_ kk_ => XS.i2c X0.here hx rfl (hb hby d_jdk_43_method_44_code_7) rfl kk_) ?_
  show own_Ends _ _ _ _ _ _ (T0.setTop (mkF m 8 #[.val (.ref t), .val (.int (4 : Int32))] [(.int (101 : Int32))]))
  refine own_retN X0 hx hlk e0 (t := .char) hret (by simp) (z' := (101 : Int32)) rfl (hb hby d_jdk_43_method_44_code_8) (by decide) (by decide) ?_
  exact ⟨rfl, N0, rfl⟩
set_option maxRecDepth 65536 in
set_option maxHeartbeats 40000000 in
theorem rm_idx_False (l : Launch) (Z : State) (a0 : Array Value) (hw : ∀ d ∈ tables_1, d.before a0 Z = true) (t : Addr) (k : ClassId) (G1 : Int32) (wI wA wR wB wG tG : Addr) (clA : Cell) (kG : ClassId) (h0 : Heap) (n0 : Nat) (Z0 : n0 ≤ h0.size) (V : Arv Z h0 t k .byte (5 : Int32) [(.int (70 : Int32)), (.int (97 : Int32)), (.int (108 : Int32)), (.int (115 : Int32)), (.int (101 : Int32))] (.int (0 : Int32))) (O2 : Sta Z Z.heap "java/lang/String" "COMPACT_STRINGS" "Z" (.int G1)) (P3 : ¬ (G1 = (0 : Int32))) (OL : Old Z n0 h0) (SI : Sta Z Z.heap "java/lang/CharacterDataLatin1" "instance" "Ljava/lang/CharacterDataLatin1;" (.ref wI)) (EI : Exa Z Z.heap wI "java/lang/CharacterDataLatin1") (SA : Sta Z Z.heap "java/lang/CharacterDataLatin1" "A" "[I" (.ref wA)) (AA : Arr Z Z.heap wA clA .int) (ZA : clA.slots.size = 256) (SL : Sta Z Z.heap "java/util/Locale" "ROOT" "Ljava/util/Locale;" (.ref wR)) (ER : Exa Z Z.heap wR "java/util/Locale") (FB : Fld Z Z.heap wR "java/util/Locale" "baseLocale" "Lsun/util/locale/BaseLocale;" (.ref wB)) (EB : Exa Z Z.heap wB "sun/util/locale/BaseLocale") (FG : Fld Z Z.heap wB "sun/util/locale/BaseLocale" "language" "Ljava/lang/String;" (.ref wG)) (FW : Fld Z Z.heap wG "java/lang/String" "value" "[B" (.ref tG)) (VG : Arv Z Z.heap tG kG .byte (0 : Int32) [] (.int (0 : Int32))) (A84 : clA.slots[84]? = some (.int (8552417 : Int32))) (A70 : clA.slots[70]? = some (.int (8552417 : Int32))) (A101 : clA.slots[101]? = some (.int (8486882 : Int32))) :
    own_Met l Z (⟨"java/lang/StringLatin1", "indexOfNonWhitespace", "([B)I"⟩ : MethodName) jdk_43_method_37_code 4 (some .int) ({ frames := 2, cells := 0, slots := 0, locals := 29 } : Room) #[(.ref t)] h0 (fun v h L => v = some (.int (0 : Int32)) ∧ Fr n0 L ∧ h = h0) := by
  refine own_body (plainFor_of_name pn_java_lang_StringLatin1) ?_
  intro p e s m below meth c T0 X0 e0 hx hby hml hown hnm hret hlk hZ
  replace hown : s.vm.findClass "java/lang/StringLatin1" = some m.cls := hown
  have N0 := Fr.nil n0
  refine own_of (fun tt_ kk_ => castTop (ef_jdk_43_method_37_codeR m t) kk_) ?_
  show own_Ends _ _ _ _ _ _ (T0.setTop (mkF m 0 #[.val (.ref t), .unset, .unset, .unset] []))
  refine own_of (fun tt_ kk_ => XS.aloadN X0.here hx rfl (hb hby d_jdk_43_method_37_code_0) rfl rfl kk_) ?_
  show own_Ends _ _ _ _ _ _ (T0.setTop (mkF m 1 #[.val (.ref t), .unset, .unset, .unset] [(.ref t)]))
  obtain ⟨cl41, Ar41, -, S41, N41', -, -⟩ := id V
  refine own_of (fun tt_ kk_ => X0.arraylength hx (by rw [e0]; exact Ar41.1) (State.isArrayOf_alike hZ.alike Ar41.2.1) (g := (mkF m 1 #[.val (.ref t), .unset, .unset, .unset] [(.ref t)])) rfl rfl (hb hby d_jdk_43_method_37_code_1) _ kk_) ?_
  rw [len_of S41 N41']
  show own_Ends _ _ _ _ _ _ (T0.setTop (mkF m 2 #[.val (.ref t), .unset, .unset, .unset] [(.int (5 : Int32))]))
  refine own_of (fun tt_ kk_ => XS.istoreN X0.here hx rfl (hb hby d_jdk_43_method_37_code_2) rfl (l' := #[.val (.ref t), .val (.int (5 : Int32)), .unset, .unset]) rfl kk_) ?_
  show own_Ends _ _ _ _ _ _ (T0.setTop (mkF m 3 #[.val (.ref t), .val (.int (5 : Int32)), .unset, .unset] []))
  refine own_of (fun tt_ kk_ => XS.iconst X0.here hx rfl (hb hby d_jdk_43_method_37_code_3) kk_) ?_
  show own_Ends _ _ _ _ _ _ (T0.setTop (mkF m 4 #[.val (.ref t), .val (.int (5 : Int32)), .unset, .unset] [(.int (0 : Int32))]))
  refine own_of (fun tt_ kk_ => XS.istoreN X0.here hx rfl (hb hby d_jdk_43_method_37_code_4) rfl (l' := #[.val (.ref t), .val (.int (5 : Int32)), .val (.int (0 : Int32)), .unset]) rfl kk_) ?_
  show own_Ends _ _ _ _ _ _ (T0.setTop (mkF m 5 #[.val (.ref t), .val (.int (5 : Int32)), .val (.int (0 : Int32)), .unset] []))
  refine own_of (fun tt_ kk_ => XS.iloadN X0.here hx rfl (hb hby d_jdk_43_method_37_code_5) rfl  kk_) ?_
  show own_Ends _ _ _ _ _ _ (T0.setTop (mkF m 6 #[.val (.ref t), .val (.int (5 : Int32)), .val (.int (0 : Int32)), .unset] [(.int (0 : Int32))]))
  refine own_of (fun tt_ kk_ => XS.iloadN X0.here hx rfl (hb hby d_jdk_43_method_37_code_6) rfl  kk_) ?_
  show own_Ends _ _ _ _ _ _ (T0.setTop (mkF m 7 #[.val (.ref t), .val (.int (5 : Int32)), .val (.int (0 : Int32)), .unset] [(.int (5 : Int32)), (.int (0 : Int32))]))
  refine own_of (fun tt_ kk_ => XS.icmpNo X0.here hx rfl (hb hby d_jdk_43_method_37_code_7) rfl (tlt (by decide : ((0 : Int32) < (5 : Int32)))).2.1 kk_) ?_
  show own_Ends _ _ _ _ _ _ (T0.setTop (mkF m 10 #[.val (.ref t), .val (.int (5 : Int32)), .val (.int (0 : Int32)), .unset] []))
  refine own_of (fun tt_ kk_ => XS.aloadN X0.here hx rfl (hb hby d_jdk_43_method_37_code_10) rfl rfl kk_) ?_
  show own_Ends _ _ _ _ _ _ (T0.setTop (mkF m 11 #[.val (.ref t), .val (.int (5 : Int32)), .val (.int (0 : Int32)), .unset] [(.ref t)]))
  refine own_of (fun tt_ kk_ => XS.iloadN X0.here hx rfl (hb hby d_jdk_43_method_37_code_11) rfl  kk_) ?_
  show own_Ends _ _ _ _ _ _ (T0.setTop (mkF m 12 #[.val (.ref t), .val (.int (5 : Int32)), .val (.int (0 : Int32)), .unset] [(.int (0 : Int32)), (.ref t)]))
  obtain ⟨v42, T42, L42, h42, X42, e42, Q42, st42⟩ := own_static X0 hx hZ hown e0 (hw _ (List.mem_of_getElem? (i := 58) rfl)) (hw _ (List.mem_of_getElem? (i := 59) rfl)) (hw _ (List.mem_of_getElem? (i := 24) rfl)) (hw _ (List.mem_of_getElem? (i := 60) rfl)) (by decide) (argsL := [(.ref t), (.int (0 : Int32))]) (rest := []) (rm_gch_False0 l Z a0 hw t k h0 n0 Z0 V) (g := (mkF m 12 #[.val (.ref t), .val (.int (5 : Int32)), .val (.int (0 : Int32)), .unset] [(.int (0 : Int32)), (.ref t)])) rfl (by rw [hml]; rfl) (lenOf pd__ABI_r_C rfl) rfl (by decide) (Nat.le_of_ble_eq_true rfl) (by decide) (by decide) (hb hby d_jdk_43_method_37_code_12)
  obtain ⟨rfl, Nq42, q42⟩ := Q42
  replace e42 := e42.trans q42
  have N42 := Fr.app N0 Nq42
  refine own_of st42 ?_
  show own_Ends _ _ _ _ _ _ (T42.setTop (mkF m 15 #[.val (.ref t), .val (.int (5 : Int32)), .val (.int (0 : Int32)), .unset] [(.int (70 : Int32))]))
  refine own_of (fun tt_ kk_ => XS.istoreN X42.here hx rfl (hb hby d_jdk_43_method_37_code_15) rfl (l' := #[.val (.ref t), .val (.int (5 : Int32)), .val (.int (0 : Int32)), .val (.int (70 : Int32))]) rfl kk_) ?_
  show own_Ends _ _ _ _ _ _ (T42.setTop (mkF m 16 #[.val (.ref t), .val (.int (5 : Int32)), .val (.int (0 : Int32)), .val (.int (70 : Int32))] []))
  refine own_of (fun tt_ kk_ => XS.iloadN X42.here hx rfl (hb hby d_jdk_43_method_37_code_16) rfl  kk_) ?_
  show own_Ends _ _ _ _ _ _ (T42.setTop (mkF m 17 #[.val (.ref t), .val (.int (5 : Int32)), .val (.int (0 : Int32)), .val (.int (70 : Int32))] [(.int (70 : Int32))]))
  refine own_of (fun tt_ kk_ => XS.bipush X42.here hx rfl (hb hby d_jdk_43_method_37_code_17) kk_) ?_
  show own_Ends _ _ _ _ _ _ (T42.setTop (mkF m 19 #[.val (.ref t), .val (.int (5 : Int32)), .val (.int (0 : Int32)), .val (.int (70 : Int32))] [(.int (32 : Int32)), (.int (70 : Int32))]))
  refine own_of (fun tt_ kk_ => XS.icmpNo X42.here hx rfl (hb hby d_jdk_43_method_37_code_19) rfl (feq (by decide : ¬ ((70 : Int32) = (32 : Int32)))).1 kk_) ?_
  show own_Ends _ _ _ _ _ _ (T42.setTop (mkF m 22 #[.val (.ref t), .val (.int (5 : Int32)), .val (.int (0 : Int32)), .val (.int (70 : Int32))] []))
  refine own_of (fun tt_ kk_ => XS.iloadN X42.here hx rfl (hb hby d_jdk_43_method_37_code_22) rfl  kk_) ?_
  show own_Ends _ _ _ _ _ _ (T42.setTop (mkF m 23 #[.val (.ref t), .val (.int (5 : Int32)), .val (.int (0 : Int32)), .val (.int (70 : Int32))] [(.int (70 : Int32))]))
  refine own_of (fun tt_ kk_ => XS.bipush X42.here hx rfl (hb hby d_jdk_43_method_37_code_23) kk_) ?_
  show own_Ends _ _ _ _ _ _ (T42.setTop (mkF m 25 #[.val (.ref t), .val (.int (5 : Int32)), .val (.int (0 : Int32)), .val (.int (70 : Int32))] [(.int (9 : Int32)), (.int (70 : Int32))]))
  refine own_of (fun tt_ kk_ => XS.icmpNo X42.here hx rfl (hb hby d_jdk_43_method_37_code_25) rfl (feq (by decide : ¬ ((70 : Int32) = (9 : Int32)))).1 kk_) ?_
  show own_Ends _ _ _ _ _ _ (T42.setTop (mkF m 28 #[.val (.ref t), .val (.int (5 : Int32)), .val (.int (0 : Int32)), .val (.int (70 : Int32))] []))
  obtain ⟨T43, X43, e43, st43⟩ := getS2 X42 hx hZ hown (host := "") (Or.inl (hw _ (List.mem_of_getElem? (i := 61) rfl))) Via.refl e42 (SI.ext OL.2) (g := (mkF m 28 #[.val (.ref t), .val (.int (5 : Int32)), .val (.int (0 : Int32)), .val (.int (70 : Int32))] [])) rfl (hb hby d_jdk_43_method_37_code_28)
  refine own_of st43 ?_
  show own_Ends _ _ _ _ _ _ (T43.setTop (mkF m 31 #[.val (.ref t), .val (.int (5 : Int32)), .val (.int (0 : Int32)), .val (.int (70 : Int32))] [(.ref wI)]))
  refine own_of (fun tt_ kk_ => XS.iloadN X43.here hx rfl (hb hby d_jdk_43_method_37_code_31) rfl  kk_) ?_
  show own_Ends _ _ _ _ _ _ (T43.setTop (mkF m 32 #[.val (.ref t), .val (.int (5 : Int32)), .val (.int (0 : Int32)), .val (.int (70 : Int32))] [(.int (70 : Int32)), (.ref wI)]))
  obtain ⟨v44, T44, L44, h44, X44, e44, Q44, st44⟩ := own_virtual X43 hx hZ hown e43 (EI.ext OL.2) (hw _ (List.mem_of_getElem? (i := 63) rfl)) (hw _ (List.mem_of_getElem? (i := 64) rfl)) (notFace_of_selects (args := #[]) (mvT hZ (hw _ (List.mem_of_getElem? (i := 66) rfl)))) (hw _ (List.mem_of_getElem? (i := 66) rfl)) (hw _ (List.mem_of_getElem? (i := 65) rfl)) (hw _ (List.mem_of_getElem? (i := 62) rfl)) (hw _ (List.mem_of_getElem? (i := 67) rfl)) (by decide) (argsL := [(.int (70 : Int32))]) (rest := []) (rm_ws70 l Z a0 hw G1 wI wA wR wB wG tG clA kG h0 n0 Z0 O2 P3 OL SI EI SA AA ZA SL ER FB EB FG FW VG A84 A70 A101) (g := (mkF m 32 #[.val (.ref t), .val (.int (5 : Int32)), .val (.int (0 : Int32)), .val (.int (70 : Int32))] [(.int (70 : Int32)), (.ref wI)])) rfl (by rw [hml]; rfl) (lenOf pd__I_r_Z rfl) rfl (by decide) (Nat.le_of_ble_eq_true rfl) (by decide) (by decide) (hb hby d_jdk_43_method_37_code_32)
  obtain ⟨rfl, Nq44, q44⟩ := Q44
  replace e44 := e44.trans q44
  have N44 := Fr.app N42 Nq44
  refine own_of st44 ?_
  show own_Ends _ _ _ _ _ _ (T44.setTop (mkF m 35 #[.val (.ref t), .val (.int (5 : Int32)), .val (.int (0 : Int32)), .val (.int (70 : Int32))] [(.int (0 : Int32))]))
  refine own_of (fun tt_ kk_ => XS.ifNo X44.here hx rfl (hb hby d_jdk_43_method_37_code_35) rfl ((if0 _ _).trans (teq (by decide : ((0 : Int32) = (0 : Int32)))).2) kk_) ?_
  show own_Ends _ _ _ _ _ _ (T44.setTop (mkF m 38 #[.val (.ref t), .val (.int (5 : Int32)), .val (.int (0 : Int32)), .val (.int (70 : Int32))] []))
  refine own_of (fun tt_ kk_ => XS.goto X44.here hx rfl (pc0 := 38) (pc' := 47) rfl (hb hby d_jdk_43_method_37_code_38) (by decide) (by decide) kk_) ?_
  show own_Ends _ _ _ _ _ _ (T44.setTop (mkF m 47 #[.val (.ref t), .val (.int (5 : Int32)), .val (.int (0 : Int32)), .val (.int (70 : Int32))] []))
  refine own_of (fun tt_ kk_ => XS.iloadN X44.here hx rfl (hb hby d_jdk_43_method_37_code_47) rfl  kk_) ?_
  show own_Ends _ _ _ _ _ _ (T44.setTop (mkF m 48 #[.val (.ref t), .val (.int (5 : Int32)), .val (.int (0 : Int32)), .val (.int (70 : Int32))] [(.int (0 : Int32))]))
  refine own_retI X44 hx hlk e44 hret (hb hby d_jdk_43_method_37_code_48) (by decide) (by decide) ?_
  exact ⟨rfl, N44, rfl⟩
set_option maxRecDepth 65536 in
set_option maxHeartbeats 40000000 in
theorem rm_lidx_False (l : Launch) (Z : State) (a0 : Array Value) (hw : ∀ d ∈ tables_1, d.before a0 Z = true) (t : Addr) (k : ClassId) (G1 : Int32) (wI wA wR wB wG tG : Addr) (clA : Cell) (kG : ClassId) (h0 : Heap) (n0 : Nat) (Z0 : n0 ≤ h0.size) (V : Arv Z h0 t k .byte (5 : Int32) [(.int (70 : Int32)), (.int (97 : Int32)), (.int (108 : Int32)), (.int (115 : Int32)), (.int (101 : Int32))] (.int (0 : Int32))) (O2 : Sta Z Z.heap "java/lang/String" "COMPACT_STRINGS" "Z" (.int G1)) (P3 : ¬ (G1 = (0 : Int32))) (OL : Old Z n0 h0) (SI : Sta Z Z.heap "java/lang/CharacterDataLatin1" "instance" "Ljava/lang/CharacterDataLatin1;" (.ref wI)) (EI : Exa Z Z.heap wI "java/lang/CharacterDataLatin1") (SA : Sta Z Z.heap "java/lang/CharacterDataLatin1" "A" "[I" (.ref wA)) (AA : Arr Z Z.heap wA clA .int) (ZA : clA.slots.size = 256) (SL : Sta Z Z.heap "java/util/Locale" "ROOT" "Ljava/util/Locale;" (.ref wR)) (ER : Exa Z Z.heap wR "java/util/Locale") (FB : Fld Z Z.heap wR "java/util/Locale" "baseLocale" "Lsun/util/locale/BaseLocale;" (.ref wB)) (EB : Exa Z Z.heap wB "sun/util/locale/BaseLocale") (FG : Fld Z Z.heap wB "sun/util/locale/BaseLocale" "language" "Ljava/lang/String;" (.ref wG)) (FW : Fld Z Z.heap wG "java/lang/String" "value" "[B" (.ref tG)) (VG : Arv Z Z.heap tG kG .byte (0 : Int32) [] (.int (0 : Int32))) (A84 : clA.slots[84]? = some (.int (8552417 : Int32))) (A70 : clA.slots[70]? = some (.int (8552417 : Int32))) (A101 : clA.slots[101]? = some (.int (8486882 : Int32))) :
    own_Met l Z (⟨"java/lang/StringLatin1", "lastIndexOfNonWhitespace", "([B)I"⟩ : MethodName) jdk_43_method_38_code 4 (some .int) ({ frames := 2, cells := 0, slots := 0, locals := 29 } : Room) #[(.ref t)] h0 (fun v h L => v = some (.int (5 : Int32)) ∧ Fr n0 L ∧ h = h0) := by
  refine own_body (plainFor_of_name pn_java_lang_StringLatin1) ?_
  intro p e s m below meth c T0 X0 e0 hx hby hml hown hnm hret hlk hZ
  replace hown : s.vm.findClass "java/lang/StringLatin1" = some m.cls := hown
  have N0 := Fr.nil n0
  refine own_of (fun tt_ kk_ => castTop (ef_jdk_43_method_38_codeR m t) kk_) ?_
  show own_Ends _ _ _ _ _ _ (T0.setTop (mkF m 0 #[.val (.ref t), .unset, .unset, .unset] []))
  refine own_of (fun tt_ kk_ => XS.aloadN X0.here hx rfl (hb hby d_jdk_43_method_38_code_0) rfl rfl kk_) ?_
  show own_Ends _ _ _ _ _ _ (T0.setTop (mkF m 1 #[.val (.ref t), .unset, .unset, .unset] [(.ref t)]))
  obtain ⟨cl45, Ar45, -, S45, N45', -, -⟩ := id V
  refine own_of (fun tt_ kk_ => X0.arraylength hx (by rw [e0]; exact Ar45.1) (State.isArrayOf_alike hZ.alike Ar45.2.1) (g := (mkF m 1 #[.val (.ref t), .unset, .unset, .unset] [(.ref t)])) rfl rfl (hb hby d_jdk_43_method_38_code_1) _ kk_) ?_
  rw [len_of S45 N45']
  show own_Ends _ _ _ _ _ _ (T0.setTop (mkF m 2 #[.val (.ref t), .unset, .unset, .unset] [(.int (5 : Int32))]))
  refine own_of (fun tt_ kk_ => XS.istoreN X0.here hx rfl (hb hby d_jdk_43_method_38_code_2) rfl (l' := #[.val (.ref t), .val (.int (5 : Int32)), .unset, .unset]) rfl kk_) ?_
  show own_Ends _ _ _ _ _ _ (T0.setTop (mkF m 3 #[.val (.ref t), .val (.int (5 : Int32)), .unset, .unset] []))
  refine own_of (fun tt_ kk_ => XS.iloadN X0.here hx rfl (hb hby d_jdk_43_method_38_code_3) rfl  kk_) ?_
  show own_Ends _ _ _ _ _ _ (T0.setTop (mkF m 4 #[.val (.ref t), .val (.int (5 : Int32)), .unset, .unset] [(.int (5 : Int32))]))
  refine own_of (fun tt_ kk_ => XS.istoreN X0.here hx rfl (hb hby d_jdk_43_method_38_code_4) rfl (l' := #[.val (.ref t), .val (.int (5 : Int32)), .val (.int (5 : Int32)), .unset]) rfl kk_) ?_
  show own_Ends _ _ _ _ _ _ (T0.setTop (mkF m 5 #[.val (.ref t), .val (.int (5 : Int32)), .val (.int (5 : Int32)), .unset] []))
  refine own_of (fun tt_ kk_ => XS.iconst X0.here hx rfl (hb hby d_jdk_43_method_38_code_5) kk_) ?_
  show own_Ends _ _ _ _ _ _ (T0.setTop (mkF m 6 #[.val (.ref t), .val (.int (5 : Int32)), .val (.int (5 : Int32)), .unset] [(.int (0 : Int32))]))
  refine own_of (fun tt_ kk_ => XS.iloadN X0.here hx rfl (hb hby d_jdk_43_method_38_code_6) rfl  kk_) ?_
  show own_Ends _ _ _ _ _ _ (T0.setTop (mkF m 7 #[.val (.ref t), .val (.int (5 : Int32)), .val (.int (5 : Int32)), .unset] [(.int (5 : Int32)), (.int (0 : Int32))]))
  refine own_of (fun tt_ kk_ => XS.icmpNo X0.here hx rfl (hb hby d_jdk_43_method_38_code_7) rfl (tlt (by decide : ((0 : Int32) < (5 : Int32)))).2.1 kk_) ?_
  show own_Ends _ _ _ _ _ _ (T0.setTop (mkF m 10 #[.val (.ref t), .val (.int (5 : Int32)), .val (.int (5 : Int32)), .unset] []))
  refine own_of (fun tt_ kk_ => XS.aloadN X0.here hx rfl (hb hby d_jdk_43_method_38_code_10) rfl rfl kk_) ?_
  show own_Ends _ _ _ _ _ _ (T0.setTop (mkF m 11 #[.val (.ref t), .val (.int (5 : Int32)), .val (.int (5 : Int32)), .unset] [(.ref t)]))
  refine own_of (fun tt_ kk_ => XS.iloadN X0.here hx rfl (hb hby d_jdk_43_method_38_code_11) rfl  kk_) ?_
  show own_Ends _ _ _ _ _ _ (T0.setTop (mkF m 12 #[.val (.ref t), .val (.int (5 : Int32)), .val (.int (5 : Int32)), .unset] [(.int (5 : Int32)), (.ref t)]))
  refine own_of (fun tt_ kk_ => XS.iconst X0.here hx rfl (hb hby d_jdk_43_method_38_code_12) kk_) ?_
  show own_Ends _ _ _ _ _ _ (T0.setTop (mkF m 13 #[.val (.ref t), .val (.int (5 : Int32)), .val (.int (5 : Int32)), .unset] [(.int (1 : Int32)), (.int (5 : Int32)), (.ref t)]))
  refine own_of (fun tt_ kk_ => XS.isub X0.here hx rfl (hb hby d_jdk_43_method_38_code_13) rfl kk_) ?_
  show own_Ends _ _ _ _ _ _ (T0.setTop (mkF m 14 #[.val (.ref t), .val (.int (5 : Int32)), .val (.int (5 : Int32)), .unset] [(.int (4 : Int32)), (.ref t)]))
  obtain ⟨v46, T46, L46, h46, X46, e46, Q46, st46⟩ := own_static X0 hx hZ hown e0 (hw _ (List.mem_of_getElem? (i := 58) rfl)) (hw _ (List.mem_of_getElem? (i := 59) rfl)) (hw _ (List.mem_of_getElem? (i := 24) rfl)) (hw _ (List.mem_of_getElem? (i := 60) rfl)) (by decide) (argsL := [(.ref t), (.int (4 : Int32))]) (rest := []) (rm_gch_False4 l Z a0 hw t k h0 n0 Z0 V) (g := (mkF m 14 #[.val (.ref t), .val (.int (5 : Int32)), .val (.int (5 : Int32)), .unset] [(.int (4 : Int32)), (.ref t)])) rfl (by rw [hml]; rfl) (lenOf pd__ABI_r_C rfl) rfl (by decide) (Nat.le_of_ble_eq_true rfl) (by decide) (by decide) (hb hby d_jdk_43_method_38_code_14)
  obtain ⟨rfl, Nq46, q46⟩ := Q46
  replace e46 := e46.trans q46
  have N46 := Fr.app N0 Nq46
  refine own_of st46 ?_
  show own_Ends _ _ _ _ _ _ (T46.setTop (mkF m 17 #[.val (.ref t), .val (.int (5 : Int32)), .val (.int (5 : Int32)), .unset] [(.int (101 : Int32))]))
  refine own_of (fun tt_ kk_ => XS.istoreN X46.here hx rfl (hb hby d_jdk_43_method_38_code_17) rfl (l' := #[.val (.ref t), .val (.int (5 : Int32)), .val (.int (5 : Int32)), .val (.int (101 : Int32))]) rfl kk_) ?_
  show own_Ends _ _ _ _ _ _ (T46.setTop (mkF m 18 #[.val (.ref t), .val (.int (5 : Int32)), .val (.int (5 : Int32)), .val (.int (101 : Int32))] []))
  refine own_of (fun tt_ kk_ => XS.iloadN X46.here hx rfl (hb hby d_jdk_43_method_38_code_18) rfl  kk_) ?_
  show own_Ends _ _ _ _ _ _ (T46.setTop (mkF m 19 #[.val (.ref t), .val (.int (5 : Int32)), .val (.int (5 : Int32)), .val (.int (101 : Int32))] [(.int (101 : Int32))]))
  refine own_of (fun tt_ kk_ => XS.bipush X46.here hx rfl (hb hby d_jdk_43_method_38_code_19) kk_) ?_
  show own_Ends _ _ _ _ _ _ (T46.setTop (mkF m 21 #[.val (.ref t), .val (.int (5 : Int32)), .val (.int (5 : Int32)), .val (.int (101 : Int32))] [(.int (32 : Int32)), (.int (101 : Int32))]))
  refine own_of (fun tt_ kk_ => XS.icmpNo X46.here hx rfl (hb hby d_jdk_43_method_38_code_21) rfl (feq (by decide : ¬ ((101 : Int32) = (32 : Int32)))).1 kk_) ?_
  show own_Ends _ _ _ _ _ _ (T46.setTop (mkF m 24 #[.val (.ref t), .val (.int (5 : Int32)), .val (.int (5 : Int32)), .val (.int (101 : Int32))] []))
  refine own_of (fun tt_ kk_ => XS.iloadN X46.here hx rfl (hb hby d_jdk_43_method_38_code_24) rfl  kk_) ?_
  show own_Ends _ _ _ _ _ _ (T46.setTop (mkF m 25 #[.val (.ref t), .val (.int (5 : Int32)), .val (.int (5 : Int32)), .val (.int (101 : Int32))] [(.int (101 : Int32))]))
  refine own_of (fun tt_ kk_ => XS.bipush X46.here hx rfl (hb hby d_jdk_43_method_38_code_25) kk_) ?_
  show own_Ends _ _ _ _ _ _ (T46.setTop (mkF m 27 #[.val (.ref t), .val (.int (5 : Int32)), .val (.int (5 : Int32)), .val (.int (101 : Int32))] [(.int (9 : Int32)), (.int (101 : Int32))]))
  refine own_of (fun tt_ kk_ => XS.icmpNo X46.here hx rfl (hb hby d_jdk_43_method_38_code_27) rfl (feq (by decide : ¬ ((101 : Int32) = (9 : Int32)))).1 kk_) ?_
  show own_Ends _ _ _ _ _ _ (T46.setTop (mkF m 30 #[.val (.ref t), .val (.int (5 : Int32)), .val (.int (5 : Int32)), .val (.int (101 : Int32))] []))
  obtain ⟨T47, X47, e47, st47⟩ := getS2 X46 hx hZ hown (host := "") (Or.inl (hw _ (List.mem_of_getElem? (i := 61) rfl))) Via.refl e46 (SI.ext OL.2) (g := (mkF m 30 #[.val (.ref t), .val (.int (5 : Int32)), .val (.int (5 : Int32)), .val (.int (101 : Int32))] [])) rfl (hb hby d_jdk_43_method_38_code_30)
  refine own_of st47 ?_
  show own_Ends _ _ _ _ _ _ (T47.setTop (mkF m 33 #[.val (.ref t), .val (.int (5 : Int32)), .val (.int (5 : Int32)), .val (.int (101 : Int32))] [(.ref wI)]))
  refine own_of (fun tt_ kk_ => XS.iloadN X47.here hx rfl (hb hby d_jdk_43_method_38_code_33) rfl  kk_) ?_
  show own_Ends _ _ _ _ _ _ (T47.setTop (mkF m 34 #[.val (.ref t), .val (.int (5 : Int32)), .val (.int (5 : Int32)), .val (.int (101 : Int32))] [(.int (101 : Int32)), (.ref wI)]))
  obtain ⟨v48, T48, L48, h48, X48, e48, Q48, st48⟩ := own_virtual X47 hx hZ hown e47 (EI.ext OL.2) (hw _ (List.mem_of_getElem? (i := 63) rfl)) (hw _ (List.mem_of_getElem? (i := 64) rfl)) (notFace_of_selects (args := #[]) (mvT hZ (hw _ (List.mem_of_getElem? (i := 66) rfl)))) (hw _ (List.mem_of_getElem? (i := 66) rfl)) (hw _ (List.mem_of_getElem? (i := 65) rfl)) (hw _ (List.mem_of_getElem? (i := 62) rfl)) (hw _ (List.mem_of_getElem? (i := 67) rfl)) (by decide) (argsL := [(.int (101 : Int32))]) (rest := []) (rm_ws101 l Z a0 hw G1 wI wA wR wB wG tG clA kG h0 n0 Z0 O2 P3 OL SI EI SA AA ZA SL ER FB EB FG FW VG A84 A70 A101) (g := (mkF m 34 #[.val (.ref t), .val (.int (5 : Int32)), .val (.int (5 : Int32)), .val (.int (101 : Int32))] [(.int (101 : Int32)), (.ref wI)])) rfl (by rw [hml]; rfl) (lenOf pd__I_r_Z rfl) rfl (by decide) (Nat.le_of_ble_eq_true rfl) (by decide) (by decide) (hb hby d_jdk_43_method_38_code_34)
  obtain ⟨rfl, Nq48, q48⟩ := Q48
  replace e48 := e48.trans q48
  have N48 := Fr.app N46 Nq48
  refine own_of st48 ?_
  show own_Ends _ _ _ _ _ _ (T48.setTop (mkF m 37 #[.val (.ref t), .val (.int (5 : Int32)), .val (.int (5 : Int32)), .val (.int (101 : Int32))] [(.int (0 : Int32))]))
  refine own_of (fun tt_ kk_ => XS.ifNo X48.here hx rfl (hb hby d_jdk_43_method_38_code_37) rfl ((if0 _ _).trans (teq (by decide : ((0 : Int32) = (0 : Int32)))).2) kk_) ?_
  show own_Ends _ _ _ _ _ _ (T48.setTop (mkF m 40 #[.val (.ref t), .val (.int (5 : Int32)), .val (.int (5 : Int32)), .val (.int (101 : Int32))] []))
  refine own_of (fun tt_ kk_ => XS.goto X48.here hx rfl (pc0 := 40) (pc' := 49) rfl (hb hby d_jdk_43_method_38_code_40) (by decide) (by decide) kk_) ?_
  show own_Ends _ _ _ _ _ _ (T48.setTop (mkF m 49 #[.val (.ref t), .val (.int (5 : Int32)), .val (.int (5 : Int32)), .val (.int (101 : Int32))] []))
  refine own_of (fun tt_ kk_ => XS.iloadN X48.here hx rfl (hb hby d_jdk_43_method_38_code_49) rfl  kk_) ?_
  show own_Ends _ _ _ _ _ _ (T48.setTop (mkF m 50 #[.val (.ref t), .val (.int (5 : Int32)), .val (.int (5 : Int32)), .val (.int (101 : Int32))] [(.int (5 : Int32))]))
  refine own_retI X48 hx hlk e48 hret (hb hby d_jdk_43_method_38_code_50) (by decide) (by decide) ?_
  exact ⟨rfl, N48, rfl⟩
set_option maxRecDepth 65536 in
set_option maxHeartbeats 40000000 in
theorem rm_strip1_False (l : Launch) (Z : State) (a0 : Array Value) (hw : ∀ d ∈ tables_1, d.before a0 Z = true) (t : Addr) (k : ClassId) (G1 : Int32) (wI wA wR wB wG tG : Addr) (clA : Cell) (kG : ClassId) (h0 : Heap) (n0 : Nat) (Z0 : n0 ≤ h0.size) (V : Arv Z h0 t k .byte (5 : Int32) [(.int (70 : Int32)), (.int (97 : Int32)), (.int (108 : Int32)), (.int (115 : Int32)), (.int (101 : Int32))] (.int (0 : Int32))) (O2 : Sta Z Z.heap "java/lang/String" "COMPACT_STRINGS" "Z" (.int G1)) (P3 : ¬ (G1 = (0 : Int32))) (OL : Old Z n0 h0) (SI : Sta Z Z.heap "java/lang/CharacterDataLatin1" "instance" "Ljava/lang/CharacterDataLatin1;" (.ref wI)) (EI : Exa Z Z.heap wI "java/lang/CharacterDataLatin1") (SA : Sta Z Z.heap "java/lang/CharacterDataLatin1" "A" "[I" (.ref wA)) (AA : Arr Z Z.heap wA clA .int) (ZA : clA.slots.size = 256) (SL : Sta Z Z.heap "java/util/Locale" "ROOT" "Ljava/util/Locale;" (.ref wR)) (ER : Exa Z Z.heap wR "java/util/Locale") (FB : Fld Z Z.heap wR "java/util/Locale" "baseLocale" "Lsun/util/locale/BaseLocale;" (.ref wB)) (EB : Exa Z Z.heap wB "sun/util/locale/BaseLocale") (FG : Fld Z Z.heap wB "sun/util/locale/BaseLocale" "language" "Ljava/lang/String;" (.ref wG)) (FW : Fld Z Z.heap wG "java/lang/String" "value" "[B" (.ref tG)) (VG : Arv Z Z.heap tG kG .byte (0 : Int32) [] (.int (0 : Int32))) (A84 : clA.slots[84]? = some (.int (8552417 : Int32))) (A70 : clA.slots[70]? = some (.int (8552417 : Int32))) (A101 : clA.slots[101]? = some (.int (8486882 : Int32))) :
    own_Met l Z (⟨"java/lang/StringLatin1", "strip", "([B)Ljava/lang/String;"⟩ : MethodName) jdk_43_method_39_code 4 (some (.object "java/lang/String")) ({ frames := 3, cells := 0, slots := 0, locals := 44 } : Room) #[(.ref t)] h0 (fun v h L => v = some .null ∧ Fr n0 L ∧ h = h0) := by
  refine own_body (plainFor_of_name pn_java_lang_StringLatin1) ?_
  intro p e s m below meth c T0 X0 e0 hx hby hml hown hnm hret hlk hZ
  replace hown : s.vm.findClass "java/lang/StringLatin1" = some m.cls := hown
  have N0 := Fr.nil n0
  refine own_of (fun tt_ kk_ => castTop (ef_jdk_43_method_39_codeR m t) kk_) ?_
  show own_Ends _ _ _ _ _ _ (T0.setTop (mkF m 0 #[.val (.ref t), .unset, .unset, .unset] []))
  refine own_of (fun tt_ kk_ => XS.aloadN X0.here hx rfl (hb hby d_jdk_43_method_39_code_0) rfl rfl kk_) ?_
  show own_Ends _ _ _ _ _ _ (T0.setTop (mkF m 1 #[.val (.ref t), .unset, .unset, .unset] [(.ref t)]))
  obtain ⟨v49, T49, L49, h49, X49, e49, Q49, st49⟩ := own_static X0 hx hZ hown e0 (hw _ (List.mem_of_getElem? (i := 55) rfl)) (hw _ (List.mem_of_getElem? (i := 56) rfl)) (hw _ (List.mem_of_getElem? (i := 24) rfl)) (hw _ (List.mem_of_getElem? (i := 57) rfl)) (by decide) (argsL := [(.ref t)]) (rest := []) (rm_idx_False l Z a0 hw t k G1 wI wA wR wB wG tG clA kG h0 n0 Z0 V O2 P3 OL SI EI SA AA ZA SL ER FB EB FG FW VG A84 A70 A101) (g := (mkF m 1 #[.val (.ref t), .unset, .unset, .unset] [(.ref t)])) rfl (by rw [hml]; rfl) (lenOf pd__AB_r_I rfl) rfl (by decide) (Nat.le_of_ble_eq_true rfl) (by decide) (by decide) (hb hby d_jdk_43_method_39_code_1)
  obtain ⟨rfl, Nq49, q49⟩ := Q49
  replace e49 := e49.trans q49
  have N49 := Fr.app N0 Nq49
  refine own_of st49 ?_
  show own_Ends _ _ _ _ _ _ (T49.setTop (mkF m 4 #[.val (.ref t), .unset, .unset, .unset] [(.int (0 : Int32))]))
  refine own_of (fun tt_ kk_ => XS.istoreN X49.here hx rfl (hb hby d_jdk_43_method_39_code_4) rfl (l' := #[.val (.ref t), .val (.int (0 : Int32)), .unset, .unset]) rfl kk_) ?_
  show own_Ends _ _ _ _ _ _ (T49.setTop (mkF m 5 #[.val (.ref t), .val (.int (0 : Int32)), .unset, .unset] []))
  refine own_of (fun tt_ kk_ => XS.iloadN X49.here hx rfl (hb hby d_jdk_43_method_39_code_5) rfl  kk_) ?_
  show own_Ends _ _ _ _ _ _ (T49.setTop (mkF m 6 #[.val (.ref t), .val (.int (0 : Int32)), .unset, .unset] [(.int (0 : Int32))]))
  refine own_of (fun tt_ kk_ => XS.aloadN X49.here hx rfl (hb hby d_jdk_43_method_39_code_6) rfl rfl kk_) ?_
  show own_Ends _ _ _ _ _ _ (T49.setTop (mkF m 7 #[.val (.ref t), .val (.int (0 : Int32)), .unset, .unset] [(.ref t), (.int (0 : Int32))]))
  obtain ⟨cl50, Ar50, -, S50, N50', -, -⟩ := id V
  refine own_of (fun tt_ kk_ => X49.arraylength hx (by rw [e49]; exact Ar50.1) (State.isArrayOf_alike hZ.alike Ar50.2.1) (g := (mkF m 7 #[.val (.ref t), .val (.int (0 : Int32)), .unset, .unset] [(.ref t), (.int (0 : Int32))])) rfl rfl (hb hby d_jdk_43_method_39_code_7) _ kk_) ?_
  rw [len_of S50 N50']
  show own_Ends _ _ _ _ _ _ (T49.setTop (mkF m 8 #[.val (.ref t), .val (.int (0 : Int32)), .unset, .unset] [(.int (5 : Int32)), (.int (0 : Int32))]))
  refine own_of (fun tt_ kk_ => XS.icmpYes X49.here hx rfl (pc0 := 8) (pc' := 14) rfl (hb hby d_jdk_43_method_39_code_8) rfl (feq (by decide : ¬ ((0 : Int32) = (5 : Int32)))).2 (by decide) (by decide) kk_) ?_
  show own_Ends _ _ _ _ _ _ (T49.setTop (mkF m 14 #[.val (.ref t), .val (.int (0 : Int32)), .unset, .unset] []))
  refine own_of (fun tt_ kk_ => XS.aloadN X49.here hx rfl (hb hby d_jdk_43_method_39_code_14) rfl rfl kk_) ?_
  show own_Ends _ _ _ _ _ _ (T49.setTop (mkF m 15 #[.val (.ref t), .val (.int (0 : Int32)), .unset, .unset] [(.ref t)]))
  obtain ⟨v51, T51, L51, h51, X51, e51, Q51, st51⟩ := own_static X49 hx hZ hown e49 (hw _ (List.mem_of_getElem? (i := 74) rfl)) (hw _ (List.mem_of_getElem? (i := 75) rfl)) (hw _ (List.mem_of_getElem? (i := 24) rfl)) (hw _ (List.mem_of_getElem? (i := 76) rfl)) (by decide) (argsL := [(.ref t)]) (rest := []) (rm_lidx_False l Z a0 hw t k G1 wI wA wR wB wG tG clA kG h0 n0 Z0 V O2 P3 OL SI EI SA AA ZA SL ER FB EB FG FW VG A84 A70 A101) (g := (mkF m 15 #[.val (.ref t), .val (.int (0 : Int32)), .unset, .unset] [(.ref t)])) rfl (by rw [hml]; rfl) (lenOf pd__AB_r_I rfl) rfl (by decide) (Nat.le_of_ble_eq_true rfl) (by decide) (by decide) (hb hby d_jdk_43_method_39_code_15)
  obtain ⟨rfl, Nq51, q51⟩ := Q51
  replace e51 := e51.trans q51
  have N51 := Fr.app N49 Nq51
  refine own_of st51 ?_
  show own_Ends _ _ _ _ _ _ (T51.setTop (mkF m 18 #[.val (.ref t), .val (.int (0 : Int32)), .unset, .unset] [(.int (5 : Int32))]))
  refine own_of (fun tt_ kk_ => XS.istoreN X51.here hx rfl (hb hby d_jdk_43_method_39_code_18) rfl (l' := #[.val (.ref t), .val (.int (0 : Int32)), .val (.int (5 : Int32)), .unset]) rfl kk_) ?_
  show own_Ends _ _ _ _ _ _ (T51.setTop (mkF m 19 #[.val (.ref t), .val (.int (0 : Int32)), .val (.int (5 : Int32)), .unset] []))
  refine own_of (fun tt_ kk_ => XS.iloadN X51.here hx rfl (hb hby d_jdk_43_method_39_code_19) rfl  kk_) ?_
  show own_Ends _ _ _ _ _ _ (T51.setTop (mkF m 20 #[.val (.ref t), .val (.int (0 : Int32)), .val (.int (5 : Int32)), .unset] [(.int (0 : Int32))]))
  refine own_of (fun tt_ kk_ => XS.ifNo X51.here hx rfl (hb hby d_jdk_43_method_39_code_20) rfl ((if0 _ _).trans (flt (by decide : ¬ ((0 : Int32) < (0 : Int32)))).2.2.1) kk_) ?_
  show own_Ends _ _ _ _ _ _ (T51.setTop (mkF m 23 #[.val (.ref t), .val (.int (0 : Int32)), .val (.int (5 : Int32)), .unset] []))
  refine own_of (fun tt_ kk_ => XS.iloadN X51.here hx rfl (hb hby d_jdk_43_method_39_code_23) rfl  kk_) ?_
  show own_Ends _ _ _ _ _ _ (T51.setTop (mkF m 24 #[.val (.ref t), .val (.int (0 : Int32)), .val (.int (5 : Int32)), .unset] [(.int (5 : Int32))]))
  refine own_of (fun tt_ kk_ => XS.aloadN X51.here hx rfl (hb hby d_jdk_43_method_39_code_24) rfl rfl kk_) ?_
  show own_Ends _ _ _ _ _ _ (T51.setTop (mkF m 25 #[.val (.ref t), .val (.int (0 : Int32)), .val (.int (5 : Int32)), .unset] [(.ref t), (.int (5 : Int32))]))
  obtain ⟨cl52, Ar52, -, S52, N52', -, -⟩ := id V
  refine own_of (fun tt_ kk_ => X51.arraylength hx (by rw [e51]; exact Ar52.1) (State.isArrayOf_alike hZ.alike Ar52.2.1) (g := (mkF m 25 #[.val (.ref t), .val (.int (0 : Int32)), .val (.int (5 : Int32)), .unset] [(.ref t), (.int (5 : Int32))])) rfl rfl (hb hby d_jdk_43_method_39_code_25) _ kk_) ?_
  rw [len_of S52 N52']
  show own_Ends _ _ _ _ _ _ (T51.setTop (mkF m 26 #[.val (.ref t), .val (.int (0 : Int32)), .val (.int (5 : Int32)), .unset] [(.int (5 : Int32)), (.int (5 : Int32))]))
  refine own_of (fun tt_ kk_ => XS.icmpYes X51.here hx rfl (pc0 := 26) (pc' := 33) rfl (hb hby d_jdk_43_method_39_code_26) rfl (flt (by decide : ¬ ((5 : Int32) < (5 : Int32)))).2.1 (by decide) (by decide) kk_) ?_
  show own_Ends _ _ _ _ _ _ (T51.setTop (mkF m 33 #[.val (.ref t), .val (.int (0 : Int32)), .val (.int (5 : Int32)), .unset] []))
  refine own_of (fun tt_ kk_ => XS.iconst X51.here hx rfl (hb hby d_jdk_43_method_39_code_33) kk_) ?_
  show own_Ends _ _ _ _ _ _ (T51.setTop (mkF m 34 #[.val (.ref t), .val (.int (0 : Int32)), .val (.int (5 : Int32)), .unset] [(.int (0 : Int32))]))
  refine own_of (fun tt_ kk_ => XS.istoreN X51.here hx rfl (hb hby d_jdk_43_method_39_code_34) rfl (l' := #[.val (.ref t), .val (.int (0 : Int32)), .val (.int (5 : Int32)), .val (.int (0 : Int32))]) rfl kk_) ?_
  show own_Ends _ _ _ _ _ _ (T51.setTop (mkF m 35 #[.val (.ref t), .val (.int (0 : Int32)), .val (.int (5 : Int32)), .val (.int (0 : Int32))] []))
  refine own_of (fun tt_ kk_ => XS.iloadN X51.here hx rfl (hb hby d_jdk_43_method_39_code_35) rfl  kk_) ?_
  show own_Ends _ _ _ _ _ _ (T51.setTop (mkF m 36 #[.val (.ref t), .val (.int (0 : Int32)), .val (.int (5 : Int32)), .val (.int (0 : Int32))] [(.int (0 : Int32))]))
  refine own_of (fun tt_ kk_ => XS.ifYes X51.here hx rfl (pc0 := 36) (pc' := 50) rfl (hb hby d_jdk_43_method_39_code_36) rfl ((if0 _ _).trans (teq (by decide : ((0 : Int32) = (0 : Int32)))).1) (by decide) (by decide) kk_) ?_
  show own_Ends _ _ _ _ _ _ (T51.setTop (mkF m 50 #[.val (.ref t), .val (.int (0 : Int32)), .val (.int (5 : Int32)), .val (.int (0 : Int32))] []))
  refine own_of (fun tt_ kk_ => XS.aconstNull X51.here hx rfl (hb hby d_jdk_43_method_39_code_50) kk_) ?_
  show own_Ends _ _ _ _ _ _ (T51.setTop (mkF m 51 #[.val (.ref t), .val (.int (0 : Int32)), .val (.int (5 : Int32)), .val (.int (0 : Int32))] [.null]))
  refine own_retA X51 hx hlk e51 hret rfl rfl (hb hby d_jdk_43_method_39_code_51) (by decide) (by decide) ?_
  exact ⟨rfl, N51, rfl⟩
set_option maxRecDepth 65536 in
set_option maxHeartbeats 40000000 in
theorem rm_strip_False (l : Launch) (Z : State) (a0 : Array Value) (hw : ∀ d ∈ tables_1, d.before a0 Z = true) (a t : Addr) (k : ClassId) (G1 : Int32) (wI wA wR wB wG tG : Addr) (clA : Cell) (kG : ClassId) (h0 : Heap) (n0 : Nat) (Z0 : n0 ≤ h0.size) (E : Exa Z h0 a "java/lang/String") (FC : Fld Z h0 a "java/lang/String" "coder" "B" (.int (0 : Int32))) (FV : Fld Z h0 a "java/lang/String" "value" "[B" (.ref t)) (V : Arv Z h0 t k .byte (5 : Int32) [(.int (70 : Int32)), (.int (97 : Int32)), (.int (108 : Int32)), (.int (115 : Int32)), (.int (101 : Int32))] (.int (0 : Int32))) (O2 : Sta Z Z.heap "java/lang/String" "COMPACT_STRINGS" "Z" (.int G1)) (P3 : ¬ (G1 = (0 : Int32))) (OL : Old Z n0 h0) (SI : Sta Z Z.heap "java/lang/CharacterDataLatin1" "instance" "Ljava/lang/CharacterDataLatin1;" (.ref wI)) (EI : Exa Z Z.heap wI "java/lang/CharacterDataLatin1") (SA : Sta Z Z.heap "java/lang/CharacterDataLatin1" "A" "[I" (.ref wA)) (AA : Arr Z Z.heap wA clA .int) (ZA : clA.slots.size = 256) (SL : Sta Z Z.heap "java/util/Locale" "ROOT" "Ljava/util/Locale;" (.ref wR)) (ER : Exa Z Z.heap wR "java/util/Locale") (FB : Fld Z Z.heap wR "java/util/Locale" "baseLocale" "Lsun/util/locale/BaseLocale;" (.ref wB)) (EB : Exa Z Z.heap wB "sun/util/locale/BaseLocale") (FG : Fld Z Z.heap wB "sun/util/locale/BaseLocale" "language" "Ljava/lang/String;" (.ref wG)) (FW : Fld Z Z.heap wG "java/lang/String" "value" "[B" (.ref tG)) (VG : Arv Z Z.heap tG kG .byte (0 : Int32) [] (.int (0 : Int32))) (A84 : clA.slots[84]? = some (.int (8552417 : Int32))) (A70 : clA.slots[70]? = some (.int (8552417 : Int32))) (A101 : clA.slots[101]? = some (.int (8486882 : Int32))) :
    own_Met l Z (⟨"java/lang/String", "strip", "()Ljava/lang/String;"⟩ : MethodName) jdk_42_method_114_code 2 (some (.object "java/lang/String")) ({ frames := 4, cells := 0, slots := 0, locals := 59 } : Room) #[(.ref a)] h0 (fun v h L => v = some (.ref a) ∧ Fr n0 L ∧ h = h0) := by
  refine own_body (plainFor_of_name pn_java_lang_String) ?_
  intro p e s m below meth c T0 X0 e0 hx hby hml hown hnm hret hlk hZ
  replace hown : s.vm.findClass "java/lang/String" = some m.cls := hown
  have N0 := Fr.nil n0
  refine own_of (fun tt_ kk_ => castTop (ef_jdk_42_method_114_codeR m a) kk_) ?_
  show own_Ends _ _ _ _ _ _ (T0.setTop (mkF m 0 #[.val (.ref a), .unset] []))
  refine own_of (fun tt_ kk_ => XS.aloadN X0.here hx rfl (hb hby d_jdk_42_method_114_code_0) rfl rfl kk_) ?_
  show own_Ends _ _ _ _ _ _ (T0.setTop (mkF m 1 #[.val (.ref a), .unset] [(.ref a)]))
  obtain ⟨v53, T53, L53, h53, X53, e53, Q53, st53⟩ := own_virtual X0 hx hZ hown e0 E (hw _ (List.mem_of_getElem? (i := 47) rfl)) (hw _ (List.mem_of_getElem? (i := 48) rfl)) (notFace_of_selects (args := #[]) (mvT hZ (hw _ (List.mem_of_getElem? (i := 50) rfl)))) (hw _ (List.mem_of_getElem? (i := 50) rfl)) (hw _ (List.mem_of_getElem? (i := 49) rfl)) (hw _ (List.mem_of_getElem? (i := 5) rfl)) (hw _ (List.mem_of_getElem? (i := 51) rfl)) (by decide) (argsL := []) (rest := []) (rm_isl l Z a0 hw a G1 h0 n0 Z0 FC O2 P3 OL) (g := (mkF m 1 #[.val (.ref a), .unset] [(.ref a)])) rfl (by rw [hml]; rfl) (lenOf pd___r_Z rfl) rfl (by decide) (Nat.le_of_ble_eq_true rfl) (by decide) (by decide) (hb hby d_jdk_42_method_114_code_1)
  obtain ⟨rfl, Nq53, q53⟩ := Q53
  replace e53 := e53.trans q53
  have N53 := Fr.app N0 Nq53
  refine own_of st53 ?_
  show own_Ends _ _ _ _ _ _ (T53.setTop (mkF m 4 #[.val (.ref a), .unset] [(.int (1 : Int32))]))
  refine own_of (fun tt_ kk_ => XS.ifNo X53.here hx rfl (hb hby d_jdk_42_method_114_code_4) rfl ((if0 _ _).trans (feq (by decide : ¬ ((1 : Int32) = (0 : Int32)))).1) kk_) ?_
  show own_Ends _ _ _ _ _ _ (T53.setTop (mkF m 7 #[.val (.ref a), .unset] []))
  refine own_of (fun tt_ kk_ => XS.aloadN X53.here hx rfl (hb hby d_jdk_42_method_114_code_7) rfl rfl kk_) ?_
  show own_Ends _ _ _ _ _ _ (T53.setTop (mkF m 8 #[.val (.ref a), .unset] [(.ref a)]))
  obtain ⟨T54, X54, e54, st54⟩ := getF X53 hx hZ hown (host := "") (Or.inl (hw _ (List.mem_of_getElem? (i := 37) rfl))) Via.refl e53 FV (g := (mkF m 8 #[.val (.ref a), .unset] [(.ref a)])) rfl rfl (hb hby d_jdk_42_method_114_code_8)
  refine own_of st54 ?_
  show own_Ends _ _ _ _ _ _ (T54.setTop (mkF m 11 #[.val (.ref a), .unset] [(.ref t)]))
  obtain ⟨v55, T55, L55, h55, X55, e55, Q55, st55⟩ := own_static X54 hx hZ hown e54 (hw _ (List.mem_of_getElem? (i := 52) rfl)) (hw _ (List.mem_of_getElem? (i := 53) rfl)) (hw _ (List.mem_of_getElem? (i := 24) rfl)) (hw _ (List.mem_of_getElem? (i := 54) rfl)) (by decide) (argsL := [(.ref t)]) (rest := []) (rm_strip1_False l Z a0 hw t k G1 wI wA wR wB wG tG clA kG h0 n0 Z0 V O2 P3 OL SI EI SA AA ZA SL ER FB EB FG FW VG A84 A70 A101) (g := (mkF m 11 #[.val (.ref a), .unset] [(.ref t)])) rfl (by rw [hml]; rfl) (lenOf pd__AB_r_Ljava_lang_String_ rfl) rfl (by decide) (Nat.le_of_ble_eq_true rfl) (by decide) (by decide) (hb hby d_jdk_42_method_114_code_11)
  obtain ⟨rfl, Nq55, q55⟩ := Q55
  replace e55 := e55.trans q55
  have N55 := Fr.app N53 Nq55
  refine own_of st55 ?_
  show own_Ends _ _ _ _ _ _ (T55.setTop (mkF m 14 #[.val (.ref a), .unset] [.null]))
  refine own_of (fun tt_ kk_ => XS.goto X55.here hx rfl (pc0 := 14) (pc' := 24) rfl (hb hby d_jdk_42_method_114_code_14) (by decide) (by decide) kk_) ?_
  show own_Ends _ _ _ _ _ _ (T55.setTop (mkF m 24 #[.val (.ref a), .unset] [.null]))
  refine own_of (fun tt_ kk_ => XS.astoreN X55.here hx rfl (hb hby d_jdk_42_method_114_code_24) rfl rfl (l' := #[.val (.ref a), .val .null]) rfl kk_) ?_
  show own_Ends _ _ _ _ _ _ (T55.setTop (mkF m 25 #[.val (.ref a), .val .null] []))
  refine own_of (fun tt_ kk_ => XS.aloadN X55.here hx rfl (hb hby d_jdk_42_method_114_code_25) rfl rfl kk_) ?_
  show own_Ends _ _ _ _ _ _ (T55.setTop (mkF m 26 #[.val (.ref a), .val .null] [.null]))
  refine own_of (fun tt_ kk_ => XS.ifnonnullNo X55.here hx rfl (hb hby d_jdk_42_method_114_code_26) rfl kk_) ?_
  show own_Ends _ _ _ _ _ _ (T55.setTop (mkF m 29 #[.val (.ref a), .val .null] []))
  refine own_of (fun tt_ kk_ => XS.aloadN X55.here hx rfl (hb hby d_jdk_42_method_114_code_29) rfl rfl kk_) ?_
  show own_Ends _ _ _ _ _ _ (T55.setTop (mkF m 30 #[.val (.ref a), .val .null] [(.ref a)]))
  refine own_of (fun tt_ kk_ => XS.goto X55.here hx rfl (pc0 := 30) (pc' := 34) rfl (hb hby d_jdk_42_method_114_code_30) (by decide) (by decide) kk_) ?_
  show own_Ends _ _ _ _ _ _ (T55.setTop (mkF m 34 #[.val (.ref a), .val .null] [(.ref a)]))
  refine own_retA X55 hx hlk e55 hret rfl rfl (hb hby d_jdk_42_method_114_code_34) (by decide) (by decide) ?_
  exact ⟨rfl, N55, rfl⟩
theorem d_jdk_116_method_20_code_0 : decode jdk_116_method_20_code 0 = .ok (.iload_n 1, 1) := by decide +kernel
theorem d_jdk_116_method_20_code_1 : decode jdk_116_method_20_code 1 = .ok (.bipush 65, 2) := by decide +kernel
theorem d_jdk_116_method_20_code_3 : decode jdk_116_method_20_code 3 = .ok (.if_icmp .ge 5, 3) := by decide +kernel
theorem d_jdk_116_method_20_code_8 : decode jdk_116_method_20_code 8 = .ok (.iload_n 1, 1) := by decide +kernel
theorem d_jdk_116_method_20_code_9 : decode jdk_116_method_20_code 9 = .ok (.bipush 32, 2) := by decide +kernel
theorem d_jdk_116_method_20_code_11 : decode jdk_116_method_20_code 11 = .ok (.ior, 1) := by decide +kernel
theorem d_jdk_116_method_20_code_12 : decode jdk_116_method_20_code 12 = .ok (.istore_n 2, 1) := by decide +kernel
theorem d_jdk_116_method_20_code_13 : decode jdk_116_method_20_code 13 = .ok (.iload_n 2, 1) := by decide +kernel
theorem d_jdk_116_method_20_code_14 : decode jdk_116_method_20_code 14 = .ok (.bipush 122, 2) := by decide +kernel
theorem d_jdk_116_method_20_code_16 : decode jdk_116_method_20_code 16 = .ok (.if_icmp .le 24, 3) := by decide +kernel
theorem d_jdk_116_method_20_code_40 : decode jdk_116_method_20_code 40 = .ok (.iload_n 2, 1) := by decide +kernel
theorem d_jdk_116_method_20_code_41 : decode jdk_116_method_20_code 41 = .ok (.ireturn, 1) := by decide +kernel
theorem ef_jdk_116_method_20_codeRI (m : MethodId) (z0 : Addr) (z1 : Int32) : entryFrame m #[(.ref z0), (.int z1)] 3 = mkF m 0 #[.val (.ref z0), .val (.int z1), .unset] [] := by first | (simp [entryFrame, mkF, argsToLocals, Value.category]; done) | rfl
set_option maxRecDepth 65536 in
set_option maxHeartbeats 40000000 in
theorem rm_low70 (l : Launch) (Z : State) (a0 : Array Value) (hw : ∀ d ∈ tables_1, d.before a0 Z = true) (a : Addr) (h0 : Heap) (n0 : Nat) (Z0 : n0 ≤ h0.size) :
    own_Met l Z (⟨"java/lang/CharacterDataLatin1", "toLowerCase", "(I)I"⟩ : MethodName) jdk_116_method_20_code 3 (some .int) ({ frames := 0, cells := 0, slots := 0, locals := 0 } : Room) #[(.ref a), (.int (70 : Int32))] h0 (fun v h L => v = some (.int (102 : Int32)) ∧ Fr n0 L ∧ h = h0) := by
  refine own_body (plainFor_of_name pn_java_lang_CharacterDataLatin1) ?_
  intro p e s m below meth c T0 X0 e0 hx hby hml hown hnm hret hlk hZ
  replace hown : s.vm.findClass "java/lang/CharacterDataLatin1" = some m.cls := hown
  have N0 := Fr.nil n0
  refine own_of (fun tt_ kk_ => castTop (ef_jdk_116_method_20_codeRI m a (70 : Int32)) kk_) ?_
  show own_Ends _ _ _ _ _ _ (T0.setTop (mkF m 0 #[.val (.ref a), .val (.int (70 : Int32)), .unset] []))
  refine own_of (fun tt_ kk_ => XS.iloadN X0.here hx rfl (hb hby d_jdk_116_method_20_code_0) rfl  kk_) ?_
  show own_Ends _ _ _ _ _ _ (T0.setTop (mkF m 1 #[.val (.ref a), .val (.int (70 : Int32)), .unset] [(.int (70 : Int32))]))
  refine own_of (fun tt_ kk_ => XS.bipush X0.here hx rfl (hb hby d_jdk_116_method_20_code_1) kk_) ?_
  show own_Ends _ _ _ _ _ _ (T0.setTop (mkF m 3 #[.val (.ref a), .val (.int (70 : Int32)), .unset] [(.int (65 : Int32)), (.int (70 : Int32))]))
  refine own_of (fun tt_ kk_ => XS.icmpYes X0.here hx rfl (pc0 := 3) (pc' := 8) rfl (hb hby d_jdk_116_method_20_code_3) rfl (flt (by decide : ¬ ((70 : Int32) < (65 : Int32)))).2.1 (by decide) (by decide) kk_) ?_
  show own_Ends _ _ _ _ _ _ (T0.setTop (mkF m 8 #[.val (.ref a), .val (.int (70 : Int32)), .unset] []))
  refine own_of (fun tt_ kk_ => XS.iloadN X0.here hx rfl (hb hby d_jdk_116_method_20_code_8) rfl  kk_) ?_
  show own_Ends _ _ _ _ _ _ (T0.setTop (mkF m 9 #[.val (.ref a), .val (.int (70 : Int32)), .unset] [(.int (70 : Int32))]))
  refine own_of (fun tt_ kk_ => XS.bipush X0.here hx rfl (hb hby d_jdk_116_method_20_code_9) kk_) ?_
  show own_Ends _ _ _ _ _ _ (T0.setTop (mkF m 11 #[.val (.ref a), .val (.int (70 : Int32)), .unset] [(.int (32 : Int32)), (.int (70 : Int32))]))
  refine own_of (fun tt_ kk_ => XS.ior X0.here hx rfl (hb hby d_jdk_116_method_20_code_11) rfl kk_) ?_
  show own_Ends _ _ _ _ _ _ (T0.setTop (mkF m 12 #[.val (.ref a), .val (.int (70 : Int32)), .unset] [(.int (102 : Int32))]))
  refine own_of (fun tt_ kk_ => XS.istoreN X0.here hx rfl (hb hby d_jdk_116_method_20_code_12) rfl (l' := #[.val (.ref a), .val (.int (70 : Int32)), .val (.int (102 : Int32))]) rfl kk_) ?_
  show own_Ends _ _ _ _ _ _ (T0.setTop (mkF m 13 #[.val (.ref a), .val (.int (70 : Int32)), .val (.int (102 : Int32))] []))
  refine own_of (fun tt_ kk_ => XS.iloadN X0.here hx rfl (hb hby d_jdk_116_method_20_code_13) rfl  kk_) ?_
  show own_Ends _ _ _ _ _ _ (T0.setTop (mkF m 14 #[.val (.ref a), .val (.int (70 : Int32)), .val (.int (102 : Int32))] [(.int (102 : Int32))]))
  refine own_of (fun tt_ kk_ => XS.bipush X0.here hx rfl (hb hby d_jdk_116_method_20_code_14) kk_) ?_
  show own_Ends _ _ _ _ _ _ (T0.setTop (mkF m 16 #[.val (.ref a), .val (.int (70 : Int32)), .val (.int (102 : Int32))] [(.int (122 : Int32)), (.int (102 : Int32))]))
  refine own_of (fun tt_ kk_ => XS.icmpYes X0.here hx rfl (pc0 := 16) (pc' := 40) rfl (hb hby d_jdk_116_method_20_code_16) rfl (flt (by decide : ¬ ((122 : Int32) < (102 : Int32)))).2.2.2 (by decide) (by decide) kk_) ?_
  show own_Ends _ _ _ _ _ _ (T0.setTop (mkF m 40 #[.val (.ref a), .val (.int (70 : Int32)), .val (.int (102 : Int32))] []))
  refine own_of (fun tt_ kk_ => XS.iloadN X0.here hx rfl (hb hby d_jdk_116_method_20_code_40) rfl  kk_) ?_
  show own_Ends _ _ _ _ _ _ (T0.setTop (mkF m 41 #[.val (.ref a), .val (.int (70 : Int32)), .val (.int (102 : Int32))] [(.int (102 : Int32))]))
  refine own_retI X0 hx hlk e0 hret (hb hby d_jdk_116_method_20_code_41) (by decide) (by decide) ?_
  exact ⟨rfl, N0, rfl⟩
set_option maxRecDepth 65536 in
set_option maxHeartbeats 40000000 in
theorem rm_low84 (l : Launch) (Z : State) (a0 : Array Value) (hw : ∀ d ∈ tables_1, d.before a0 Z = true) (a : Addr) (h0 : Heap) (n0 : Nat) (Z0 : n0 ≤ h0.size) :
    own_Met l Z (⟨"java/lang/CharacterDataLatin1", "toLowerCase", "(I)I"⟩ : MethodName) jdk_116_method_20_code 3 (some .int) ({ frames := 0, cells := 0, slots := 0, locals := 0 } : Room) #[(.ref a), (.int (84 : Int32))] h0 (fun v h L => v = some (.int (116 : Int32)) ∧ Fr n0 L ∧ h = h0) := by
  refine own_body (plainFor_of_name pn_java_lang_CharacterDataLatin1) ?_
  intro p e s m below meth c T0 X0 e0 hx hby hml hown hnm hret hlk hZ
  replace hown : s.vm.findClass "java/lang/CharacterDataLatin1" = some m.cls := hown
  have N0 := Fr.nil n0
  refine own_of (fun tt_ kk_ => castTop (ef_jdk_116_method_20_codeRI m a (84 : Int32)) kk_) ?_
  show own_Ends _ _ _ _ _ _ (T0.setTop (mkF m 0 #[.val (.ref a), .val (.int (84 : Int32)), .unset] []))
  refine own_of (fun tt_ kk_ => XS.iloadN X0.here hx rfl (hb hby d_jdk_116_method_20_code_0) rfl  kk_) ?_
  show own_Ends _ _ _ _ _ _ (T0.setTop (mkF m 1 #[.val (.ref a), .val (.int (84 : Int32)), .unset] [(.int (84 : Int32))]))
  refine own_of (fun tt_ kk_ => XS.bipush X0.here hx rfl (hb hby d_jdk_116_method_20_code_1) kk_) ?_
  show own_Ends _ _ _ _ _ _ (T0.setTop (mkF m 3 #[.val (.ref a), .val (.int (84 : Int32)), .unset] [(.int (65 : Int32)), (.int (84 : Int32))]))
  refine own_of (fun tt_ kk_ => XS.icmpYes X0.here hx rfl (pc0 := 3) (pc' := 8) rfl (hb hby d_jdk_116_method_20_code_3) rfl (flt (by decide : ¬ ((84 : Int32) < (65 : Int32)))).2.1 (by decide) (by decide) kk_) ?_
  show own_Ends _ _ _ _ _ _ (T0.setTop (mkF m 8 #[.val (.ref a), .val (.int (84 : Int32)), .unset] []))
  refine own_of (fun tt_ kk_ => XS.iloadN X0.here hx rfl (hb hby d_jdk_116_method_20_code_8) rfl  kk_) ?_
  show own_Ends _ _ _ _ _ _ (T0.setTop (mkF m 9 #[.val (.ref a), .val (.int (84 : Int32)), .unset] [(.int (84 : Int32))]))
  refine own_of (fun tt_ kk_ => XS.bipush X0.here hx rfl (hb hby d_jdk_116_method_20_code_9) kk_) ?_
  show own_Ends _ _ _ _ _ _ (T0.setTop (mkF m 11 #[.val (.ref a), .val (.int (84 : Int32)), .unset] [(.int (32 : Int32)), (.int (84 : Int32))]))
  refine own_of (fun tt_ kk_ => XS.ior X0.here hx rfl (hb hby d_jdk_116_method_20_code_11) rfl kk_) ?_
  show own_Ends _ _ _ _ _ _ (T0.setTop (mkF m 12 #[.val (.ref a), .val (.int (84 : Int32)), .unset] [(.int (116 : Int32))]))
  refine own_of (fun tt_ kk_ => XS.istoreN X0.here hx rfl (hb hby d_jdk_116_method_20_code_12) rfl (l' := #[.val (.ref a), .val (.int (84 : Int32)), .val (.int (116 : Int32))]) rfl kk_) ?_
  show own_Ends _ _ _ _ _ _ (T0.setTop (mkF m 13 #[.val (.ref a), .val (.int (84 : Int32)), .val (.int (116 : Int32))] []))
  refine own_of (fun tt_ kk_ => XS.iloadN X0.here hx rfl (hb hby d_jdk_116_method_20_code_13) rfl  kk_) ?_
  show own_Ends _ _ _ _ _ _ (T0.setTop (mkF m 14 #[.val (.ref a), .val (.int (84 : Int32)), .val (.int (116 : Int32))] [(.int (116 : Int32))]))
  refine own_of (fun tt_ kk_ => XS.bipush X0.here hx rfl (hb hby d_jdk_116_method_20_code_14) kk_) ?_
  show own_Ends _ _ _ _ _ _ (T0.setTop (mkF m 16 #[.val (.ref a), .val (.int (84 : Int32)), .val (.int (116 : Int32))] [(.int (122 : Int32)), (.int (116 : Int32))]))
  refine own_of (fun tt_ kk_ => XS.icmpYes X0.here hx rfl (pc0 := 16) (pc' := 40) rfl (hb hby d_jdk_116_method_20_code_16) rfl (flt (by decide : ¬ ((122 : Int32) < (116 : Int32)))).2.2.2 (by decide) (by decide) kk_) ?_
  show own_Ends _ _ _ _ _ _ (T0.setTop (mkF m 40 #[.val (.ref a), .val (.int (84 : Int32)), .val (.int (116 : Int32))] []))
  refine own_of (fun tt_ kk_ => XS.iloadN X0.here hx rfl (hb hby d_jdk_116_method_20_code_40) rfl  kk_) ?_
  show own_Ends _ _ _ _ _ _ (T0.setTop (mkF m 41 #[.val (.ref a), .val (.int (84 : Int32)), .val (.int (116 : Int32))] [(.int (116 : Int32))]))
  refine own_retI X0 hx hlk e0 hret (hb hby d_jdk_116_method_20_code_41) (by decide) (by decide) ?_
  exact ⟨rfl, N0, rfl⟩
set_option maxRecDepth 65536 in
set_option maxHeartbeats 40000000 in
theorem rm_low97 (l : Launch) (Z : State) (a0 : Array Value) (hw : ∀ d ∈ tables_1, d.before a0 Z = true) (a : Addr) (h0 : Heap) (n0 : Nat) (Z0 : n0 ≤ h0.size) :
    own_Met l Z (⟨"java/lang/CharacterDataLatin1", "toLowerCase", "(I)I"⟩ : MethodName) jdk_116_method_20_code 3 (some .int) ({ frames := 0, cells := 0, slots := 0, locals := 0 } : Room) #[(.ref a), (.int (97 : Int32))] h0 (fun v h L => v = some (.int (97 : Int32)) ∧ Fr n0 L ∧ h = h0) := by
  refine own_body (plainFor_of_name pn_java_lang_CharacterDataLatin1) ?_
  intro p e s m below meth c T0 X0 e0 hx hby hml hown hnm hret hlk hZ
  replace hown : s.vm.findClass "java/lang/CharacterDataLatin1" = some m.cls := hown
  have N0 := Fr.nil n0
  refine own_of (fun tt_ kk_ => castTop (ef_jdk_116_method_20_codeRI m a (97 : Int32)) kk_) ?_
  show own_Ends _ _ _ _ _ _ (T0.setTop (mkF m 0 #[.val (.ref a), .val (.int (97 : Int32)), .unset] []))
  refine own_of (fun tt_ kk_ => XS.iloadN X0.here hx rfl (hb hby d_jdk_116_method_20_code_0) rfl  kk_) ?_
  show own_Ends _ _ _ _ _ _ (T0.setTop (mkF m 1 #[.val (.ref a), .val (.int (97 : Int32)), .unset] [(.int (97 : Int32))]))
  refine own_of (fun tt_ kk_ => XS.bipush X0.here hx rfl (hb hby d_jdk_116_method_20_code_1) kk_) ?_
  show own_Ends _ _ _ _ _ _ (T0.setTop (mkF m 3 #[.val (.ref a), .val (.int (97 : Int32)), .unset] [(.int (65 : Int32)), (.int (97 : Int32))]))
  refine own_of (fun tt_ kk_ => XS.icmpYes X0.here hx rfl (pc0 := 3) (pc' := 8) rfl (hb hby d_jdk_116_method_20_code_3) rfl (flt (by decide : ¬ ((97 : Int32) < (65 : Int32)))).2.1 (by decide) (by decide) kk_) ?_
  show own_Ends _ _ _ _ _ _ (T0.setTop (mkF m 8 #[.val (.ref a), .val (.int (97 : Int32)), .unset] []))
  refine own_of (fun tt_ kk_ => XS.iloadN X0.here hx rfl (hb hby d_jdk_116_method_20_code_8) rfl  kk_) ?_
  show own_Ends _ _ _ _ _ _ (T0.setTop (mkF m 9 #[.val (.ref a), .val (.int (97 : Int32)), .unset] [(.int (97 : Int32))]))
  refine own_of (fun tt_ kk_ => XS.bipush X0.here hx rfl (hb hby d_jdk_116_method_20_code_9) kk_) ?_
  show own_Ends _ _ _ _ _ _ (T0.setTop (mkF m 11 #[.val (.ref a), .val (.int (97 : Int32)), .unset] [(.int (32 : Int32)), (.int (97 : Int32))]))
  refine own_of (fun tt_ kk_ => XS.ior X0.here hx rfl (hb hby d_jdk_116_method_20_code_11) rfl kk_) ?_
  show own_Ends _ _ _ _ _ _ (T0.setTop (mkF m 12 #[.val (.ref a), .val (.int (97 : Int32)), .unset] [(.int (97 : Int32))]))
  refine own_of (fun tt_ kk_ => XS.istoreN X0.here hx rfl (hb hby d_jdk_116_method_20_code_12) rfl (l' := #[.val (.ref a), .val (.int (97 : Int32)), .val (.int (97 : Int32))]) rfl kk_) ?_
  show own_Ends _ _ _ _ _ _ (T0.setTop (mkF m 13 #[.val (.ref a), .val (.int (97 : Int32)), .val (.int (97 : Int32))] []))
  refine own_of (fun tt_ kk_ => XS.iloadN X0.here hx rfl (hb hby d_jdk_116_method_20_code_13) rfl  kk_) ?_
  show own_Ends _ _ _ _ _ _ (T0.setTop (mkF m 14 #[.val (.ref a), .val (.int (97 : Int32)), .val (.int (97 : Int32))] [(.int (97 : Int32))]))
  refine own_of (fun tt_ kk_ => XS.bipush X0.here hx rfl (hb hby d_jdk_116_method_20_code_14) kk_) ?_
  show own_Ends _ _ _ _ _ _ (T0.setTop (mkF m 16 #[.val (.ref a), .val (.int (97 : Int32)), .val (.int (97 : Int32))] [(.int (122 : Int32)), (.int (97 : Int32))]))
  refine own_of (fun tt_ kk_ => XS.icmpYes X0.here hx rfl (pc0 := 16) (pc' := 40) rfl (hb hby d_jdk_116_method_20_code_16) rfl (flt (by decide : ¬ ((122 : Int32) < (97 : Int32)))).2.2.2 (by decide) (by decide) kk_) ?_
  show own_Ends _ _ _ _ _ _ (T0.setTop (mkF m 40 #[.val (.ref a), .val (.int (97 : Int32)), .val (.int (97 : Int32))] []))
  refine own_of (fun tt_ kk_ => XS.iloadN X0.here hx rfl (hb hby d_jdk_116_method_20_code_40) rfl  kk_) ?_
  show own_Ends _ _ _ _ _ _ (T0.setTop (mkF m 41 #[.val (.ref a), .val (.int (97 : Int32)), .val (.int (97 : Int32))] [(.int (97 : Int32))]))
  refine own_retI X0 hx hlk e0 hret (hb hby d_jdk_116_method_20_code_41) (by decide) (by decide) ?_
  exact ⟨rfl, N0, rfl⟩
set_option maxRecDepth 65536 in
set_option maxHeartbeats 40000000 in
theorem rm_low101 (l : Launch) (Z : State) (a0 : Array Value) (hw : ∀ d ∈ tables_1, d.before a0 Z = true) (a : Addr) (h0 : Heap) (n0 : Nat) (Z0 : n0 ≤ h0.size) :
    own_Met l Z (⟨"java/lang/CharacterDataLatin1", "toLowerCase", "(I)I"⟩ : MethodName) jdk_116_method_20_code 3 (some .int) ({ frames := 0, cells := 0, slots := 0, locals := 0 } : Room) #[(.ref a), (.int (101 : Int32))] h0 (fun v h L => v = some (.int (101 : Int32)) ∧ Fr n0 L ∧ h = h0) := by
  refine own_body (plainFor_of_name pn_java_lang_CharacterDataLatin1) ?_
  intro p e s m below meth c T0 X0 e0 hx hby hml hown hnm hret hlk hZ
  replace hown : s.vm.findClass "java/lang/CharacterDataLatin1" = some m.cls := hown
  have N0 := Fr.nil n0
  refine own_of (fun tt_ kk_ => castTop (ef_jdk_116_method_20_codeRI m a (101 : Int32)) kk_) ?_
  show own_Ends _ _ _ _ _ _ (T0.setTop (mkF m 0 #[.val (.ref a), .val (.int (101 : Int32)), .unset] []))
  refine own_of (fun tt_ kk_ => XS.iloadN X0.here hx rfl (hb hby d_jdk_116_method_20_code_0) rfl  kk_) ?_
  show own_Ends _ _ _ _ _ _ (T0.setTop (mkF m 1 #[.val (.ref a), .val (.int (101 : Int32)), .unset] [(.int (101 : Int32))]))
  refine own_of (fun tt_ kk_ => XS.bipush X0.here hx rfl (hb hby d_jdk_116_method_20_code_1) kk_) ?_
  show own_Ends _ _ _ _ _ _ (T0.setTop (mkF m 3 #[.val (.ref a), .val (.int (101 : Int32)), .unset] [(.int (65 : Int32)), (.int (101 : Int32))]))
  refine own_of (fun tt_ kk_ => XS.icmpYes X0.here hx rfl (pc0 := 3) (pc' := 8) rfl (hb hby d_jdk_116_method_20_code_3) rfl (flt (by decide : ¬ ((101 : Int32) < (65 : Int32)))).2.1 (by decide) (by decide) kk_) ?_
  show own_Ends _ _ _ _ _ _ (T0.setTop (mkF m 8 #[.val (.ref a), .val (.int (101 : Int32)), .unset] []))
  refine own_of (fun tt_ kk_ => XS.iloadN X0.here hx rfl (hb hby d_jdk_116_method_20_code_8) rfl  kk_) ?_
  show own_Ends _ _ _ _ _ _ (T0.setTop (mkF m 9 #[.val (.ref a), .val (.int (101 : Int32)), .unset] [(.int (101 : Int32))]))
  refine own_of (fun tt_ kk_ => XS.bipush X0.here hx rfl (hb hby d_jdk_116_method_20_code_9) kk_) ?_
  show own_Ends _ _ _ _ _ _ (T0.setTop (mkF m 11 #[.val (.ref a), .val (.int (101 : Int32)), .unset] [(.int (32 : Int32)), (.int (101 : Int32))]))
  refine own_of (fun tt_ kk_ => XS.ior X0.here hx rfl (hb hby d_jdk_116_method_20_code_11) rfl kk_) ?_
  show own_Ends _ _ _ _ _ _ (T0.setTop (mkF m 12 #[.val (.ref a), .val (.int (101 : Int32)), .unset] [(.int (101 : Int32))]))
  refine own_of (fun tt_ kk_ => XS.istoreN X0.here hx rfl (hb hby d_jdk_116_method_20_code_12) rfl (l' := #[.val (.ref a), .val (.int (101 : Int32)), .val (.int (101 : Int32))]) rfl kk_) ?_
  show own_Ends _ _ _ _ _ _ (T0.setTop (mkF m 13 #[.val (.ref a), .val (.int (101 : Int32)), .val (.int (101 : Int32))] []))
  refine own_of (fun tt_ kk_ => XS.iloadN X0.here hx rfl (hb hby d_jdk_116_method_20_code_13) rfl  kk_) ?_
  show own_Ends _ _ _ _ _ _ (T0.setTop (mkF m 14 #[.val (.ref a), .val (.int (101 : Int32)), .val (.int (101 : Int32))] [(.int (101 : Int32))]))
  refine own_of (fun tt_ kk_ => XS.bipush X0.here hx rfl (hb hby d_jdk_116_method_20_code_14) kk_) ?_
  show own_Ends _ _ _ _ _ _ (T0.setTop (mkF m 16 #[.val (.ref a), .val (.int (101 : Int32)), .val (.int (101 : Int32))] [(.int (122 : Int32)), (.int (101 : Int32))]))
  refine own_of (fun tt_ kk_ => XS.icmpYes X0.here hx rfl (pc0 := 16) (pc' := 40) rfl (hb hby d_jdk_116_method_20_code_16) rfl (flt (by decide : ¬ ((122 : Int32) < (101 : Int32)))).2.2.2 (by decide) (by decide) kk_) ?_
  show own_Ends _ _ _ _ _ _ (T0.setTop (mkF m 40 #[.val (.ref a), .val (.int (101 : Int32)), .val (.int (101 : Int32))] []))
  refine own_of (fun tt_ kk_ => XS.iloadN X0.here hx rfl (hb hby d_jdk_116_method_20_code_40) rfl  kk_) ?_
  show own_Ends _ _ _ _ _ _ (T0.setTop (mkF m 41 #[.val (.ref a), .val (.int (101 : Int32)), .val (.int (101 : Int32))] [(.int (101 : Int32))]))
  refine own_retI X0 hx hlk e0 hret (hb hby d_jdk_116_method_20_code_41) (by decide) (by decide) ?_
  exact ⟨rfl, N0, rfl⟩
set_option maxRecDepth 65536 in
set_option maxHeartbeats 40000000 in
theorem rm_low108 (l : Launch) (Z : State) (a0 : Array Value) (hw : ∀ d ∈ tables_1, d.before a0 Z = true) (a : Addr) (h0 : Heap) (n0 : Nat) (Z0 : n0 ≤ h0.size) :
    own_Met l Z (⟨"java/lang/CharacterDataLatin1", "toLowerCase", "(I)I"⟩ : MethodName) jdk_116_method_20_code 3 (some .int) ({ frames := 0, cells := 0, slots := 0, locals := 0 } : Room) #[(.ref a), (.int (108 : Int32))] h0 (fun v h L => v = some (.int (108 : Int32)) ∧ Fr n0 L ∧ h = h0) := by
  refine own_body (plainFor_of_name pn_java_lang_CharacterDataLatin1) ?_
  intro p e s m below meth c T0 X0 e0 hx hby hml hown hnm hret hlk hZ
  replace hown : s.vm.findClass "java/lang/CharacterDataLatin1" = some m.cls := hown
  have N0 := Fr.nil n0
  refine own_of (fun tt_ kk_ => castTop (ef_jdk_116_method_20_codeRI m a (108 : Int32)) kk_) ?_
  show own_Ends _ _ _ _ _ _ (T0.setTop (mkF m 0 #[.val (.ref a), .val (.int (108 : Int32)), .unset] []))
  refine own_of (fun tt_ kk_ => XS.iloadN X0.here hx rfl (hb hby d_jdk_116_method_20_code_0) rfl  kk_) ?_
  show own_Ends _ _ _ _ _ _ (T0.setTop (mkF m 1 #[.val (.ref a), .val (.int (108 : Int32)), .unset] [(.int (108 : Int32))]))
  refine own_of (fun tt_ kk_ => XS.bipush X0.here hx rfl (hb hby d_jdk_116_method_20_code_1) kk_) ?_
  show own_Ends _ _ _ _ _ _ (T0.setTop (mkF m 3 #[.val (.ref a), .val (.int (108 : Int32)), .unset] [(.int (65 : Int32)), (.int (108 : Int32))]))
  refine own_of (fun tt_ kk_ => XS.icmpYes X0.here hx rfl (pc0 := 3) (pc' := 8) rfl (hb hby d_jdk_116_method_20_code_3) rfl (flt (by decide : ¬ ((108 : Int32) < (65 : Int32)))).2.1 (by decide) (by decide) kk_) ?_
  show own_Ends _ _ _ _ _ _ (T0.setTop (mkF m 8 #[.val (.ref a), .val (.int (108 : Int32)), .unset] []))
  refine own_of (fun tt_ kk_ => XS.iloadN X0.here hx rfl (hb hby d_jdk_116_method_20_code_8) rfl  kk_) ?_
  show own_Ends _ _ _ _ _ _ (T0.setTop (mkF m 9 #[.val (.ref a), .val (.int (108 : Int32)), .unset] [(.int (108 : Int32))]))
  refine own_of (fun tt_ kk_ => XS.bipush X0.here hx rfl (hb hby d_jdk_116_method_20_code_9) kk_) ?_
  show own_Ends _ _ _ _ _ _ (T0.setTop (mkF m 11 #[.val (.ref a), .val (.int (108 : Int32)), .unset] [(.int (32 : Int32)), (.int (108 : Int32))]))
  refine own_of (fun tt_ kk_ => XS.ior X0.here hx rfl (hb hby d_jdk_116_method_20_code_11) rfl kk_) ?_
  show own_Ends _ _ _ _ _ _ (T0.setTop (mkF m 12 #[.val (.ref a), .val (.int (108 : Int32)), .unset] [(.int (108 : Int32))]))
  refine own_of (fun tt_ kk_ => XS.istoreN X0.here hx rfl (hb hby d_jdk_116_method_20_code_12) rfl (l' := #[.val (.ref a), .val (.int (108 : Int32)), .val (.int (108 : Int32))]) rfl kk_) ?_
  show own_Ends _ _ _ _ _ _ (T0.setTop (mkF m 13 #[.val (.ref a), .val (.int (108 : Int32)), .val (.int (108 : Int32))] []))
  refine own_of (fun tt_ kk_ => XS.iloadN X0.here hx rfl (hb hby d_jdk_116_method_20_code_13) rfl  kk_) ?_
  show own_Ends _ _ _ _ _ _ (T0.setTop (mkF m 14 #[.val (.ref a), .val (.int (108 : Int32)), .val (.int (108 : Int32))] [(.int (108 : Int32))]))
  refine own_of (fun tt_ kk_ => XS.bipush X0.here hx rfl (hb hby d_jdk_116_method_20_code_14) kk_) ?_
  show own_Ends _ _ _ _ _ _ (T0.setTop (mkF m 16 #[.val (.ref a), .val (.int (108 : Int32)), .val (.int (108 : Int32))] [(.int (122 : Int32)), (.int (108 : Int32))]))
  refine own_of (fun tt_ kk_ => XS.icmpYes X0.here hx rfl (pc0 := 16) (pc' := 40) rfl (hb hby d_jdk_116_method_20_code_16) rfl (flt (by decide : ¬ ((122 : Int32) < (108 : Int32)))).2.2.2 (by decide) (by decide) kk_) ?_
  show own_Ends _ _ _ _ _ _ (T0.setTop (mkF m 40 #[.val (.ref a), .val (.int (108 : Int32)), .val (.int (108 : Int32))] []))
  refine own_of (fun tt_ kk_ => XS.iloadN X0.here hx rfl (hb hby d_jdk_116_method_20_code_40) rfl  kk_) ?_
  show own_Ends _ _ _ _ _ _ (T0.setTop (mkF m 41 #[.val (.ref a), .val (.int (108 : Int32)), .val (.int (108 : Int32))] [(.int (108 : Int32))]))
  refine own_retI X0 hx hlk e0 hret (hb hby d_jdk_116_method_20_code_41) (by decide) (by decide) ?_
  exact ⟨rfl, N0, rfl⟩
set_option maxRecDepth 65536 in
set_option maxHeartbeats 40000000 in
theorem rm_low114 (l : Launch) (Z : State) (a0 : Array Value) (hw : ∀ d ∈ tables_1, d.before a0 Z = true) (a : Addr) (h0 : Heap) (n0 : Nat) (Z0 : n0 ≤ h0.size) :
    own_Met l Z (⟨"java/lang/CharacterDataLatin1", "toLowerCase", "(I)I"⟩ : MethodName) jdk_116_method_20_code 3 (some .int) ({ frames := 0, cells := 0, slots := 0, locals := 0 } : Room) #[(.ref a), (.int (114 : Int32))] h0 (fun v h L => v = some (.int (114 : Int32)) ∧ Fr n0 L ∧ h = h0) := by
  refine own_body (plainFor_of_name pn_java_lang_CharacterDataLatin1) ?_
  intro p e s m below meth c T0 X0 e0 hx hby hml hown hnm hret hlk hZ
  replace hown : s.vm.findClass "java/lang/CharacterDataLatin1" = some m.cls := hown
  have N0 := Fr.nil n0
  refine own_of (fun tt_ kk_ => castTop (ef_jdk_116_method_20_codeRI m a (114 : Int32)) kk_) ?_
  show own_Ends _ _ _ _ _ _ (T0.setTop (mkF m 0 #[.val (.ref a), .val (.int (114 : Int32)), .unset] []))
  refine own_of (fun tt_ kk_ => XS.iloadN X0.here hx rfl (hb hby d_jdk_116_method_20_code_0) rfl  kk_) ?_
  show own_Ends _ _ _ _ _ _ (T0.setTop (mkF m 1 #[.val (.ref a), .val (.int (114 : Int32)), .unset] [(.int (114 : Int32))]))
  refine own_of (fun tt_ kk_ => XS.bipush X0.here hx rfl (hb hby d_jdk_116_method_20_code_1) kk_) ?_
  show own_Ends _ _ _ _ _ _ (T0.setTop (mkF m 3 #[.val (.ref a), .val (.int (114 : Int32)), .unset] [(.int (65 : Int32)), (.int (114 : Int32))]))
  refine own_of (fun tt_ kk_ => XS.icmpYes X0.here hx rfl (pc0 := 3) (pc' := 8) rfl (hb hby d_jdk_116_method_20_code_3) rfl (flt (by decide : ¬ ((114 : Int32) < (65 : Int32)))).2.1 (by decide) (by decide) kk_) ?_
  show own_Ends _ _ _ _ _ _ (T0.setTop (mkF m 8 #[.val (.ref a), .val (.int (114 : Int32)), .unset] []))
  refine own_of (fun tt_ kk_ => XS.iloadN X0.here hx rfl (hb hby d_jdk_116_method_20_code_8) rfl  kk_) ?_
  show own_Ends _ _ _ _ _ _ (T0.setTop (mkF m 9 #[.val (.ref a), .val (.int (114 : Int32)), .unset] [(.int (114 : Int32))]))
  refine own_of (fun tt_ kk_ => XS.bipush X0.here hx rfl (hb hby d_jdk_116_method_20_code_9) kk_) ?_
  show own_Ends _ _ _ _ _ _ (T0.setTop (mkF m 11 #[.val (.ref a), .val (.int (114 : Int32)), .unset] [(.int (32 : Int32)), (.int (114 : Int32))]))
  refine own_of (fun tt_ kk_ => XS.ior X0.here hx rfl (hb hby d_jdk_116_method_20_code_11) rfl kk_) ?_
  show own_Ends _ _ _ _ _ _ (T0.setTop (mkF m 12 #[.val (.ref a), .val (.int (114 : Int32)), .unset] [(.int (114 : Int32))]))
  refine own_of (fun tt_ kk_ => XS.istoreN X0.here hx rfl (hb hby d_jdk_116_method_20_code_12) rfl (l' := #[.val (.ref a), .val (.int (114 : Int32)), .val (.int (114 : Int32))]) rfl kk_) ?_
  show own_Ends _ _ _ _ _ _ (T0.setTop (mkF m 13 #[.val (.ref a), .val (.int (114 : Int32)), .val (.int (114 : Int32))] []))
  refine own_of (fun tt_ kk_ => XS.iloadN X0.here hx rfl (hb hby d_jdk_116_method_20_code_13) rfl  kk_) ?_
  show own_Ends _ _ _ _ _ _ (T0.setTop (mkF m 14 #[.val (.ref a), .val (.int (114 : Int32)), .val (.int (114 : Int32))] [(.int (114 : Int32))]))
  refine own_of (fun tt_ kk_ => XS.bipush X0.here hx rfl (hb hby d_jdk_116_method_20_code_14) kk_) ?_
  show own_Ends _ _ _ _ _ _ (T0.setTop (mkF m 16 #[.val (.ref a), .val (.int (114 : Int32)), .val (.int (114 : Int32))] [(.int (122 : Int32)), (.int (114 : Int32))]))
  refine own_of (fun tt_ kk_ => XS.icmpYes X0.here hx rfl (pc0 := 16) (pc' := 40) rfl (hb hby d_jdk_116_method_20_code_16) rfl (flt (by decide : ¬ ((122 : Int32) < (114 : Int32)))).2.2.2 (by decide) (by decide) kk_) ?_
  show own_Ends _ _ _ _ _ _ (T0.setTop (mkF m 40 #[.val (.ref a), .val (.int (114 : Int32)), .val (.int (114 : Int32))] []))
  refine own_of (fun tt_ kk_ => XS.iloadN X0.here hx rfl (hb hby d_jdk_116_method_20_code_40) rfl  kk_) ?_
  show own_Ends _ _ _ _ _ _ (T0.setTop (mkF m 41 #[.val (.ref a), .val (.int (114 : Int32)), .val (.int (114 : Int32))] [(.int (114 : Int32))]))
  refine own_retI X0 hx hlk e0 hret (hb hby d_jdk_116_method_20_code_41) (by decide) (by decide) ?_
  exact ⟨rfl, N0, rfl⟩
set_option maxRecDepth 65536 in
set_option maxHeartbeats 40000000 in
theorem rm_low115 (l : Launch) (Z : State) (a0 : Array Value) (hw : ∀ d ∈ tables_1, d.before a0 Z = true) (a : Addr) (h0 : Heap) (n0 : Nat) (Z0 : n0 ≤ h0.size) :
    own_Met l Z (⟨"java/lang/CharacterDataLatin1", "toLowerCase", "(I)I"⟩ : MethodName) jdk_116_method_20_code 3 (some .int) ({ frames := 0, cells := 0, slots := 0, locals := 0 } : Room) #[(.ref a), (.int (115 : Int32))] h0 (fun v h L => v = some (.int (115 : Int32)) ∧ Fr n0 L ∧ h = h0) := by
  refine own_body (plainFor_of_name pn_java_lang_CharacterDataLatin1) ?_
  intro p e s m below meth c T0 X0 e0 hx hby hml hown hnm hret hlk hZ
  replace hown : s.vm.findClass "java/lang/CharacterDataLatin1" = some m.cls := hown
  have N0 := Fr.nil n0
  refine own_of (fun tt_ kk_ => castTop (ef_jdk_116_method_20_codeRI m a (115 : Int32)) kk_) ?_
  show own_Ends _ _ _ _ _ _ (T0.setTop (mkF m 0 #[.val (.ref a), .val (.int (115 : Int32)), .unset] []))
  refine own_of (fun tt_ kk_ => XS.iloadN X0.here hx rfl (hb hby d_jdk_116_method_20_code_0) rfl  kk_) ?_
  show own_Ends _ _ _ _ _ _ (T0.setTop (mkF m 1 #[.val (.ref a), .val (.int (115 : Int32)), .unset] [(.int (115 : Int32))]))
  refine own_of (fun tt_ kk_ => XS.bipush X0.here hx rfl (hb hby d_jdk_116_method_20_code_1) kk_) ?_
  show own_Ends _ _ _ _ _ _ (T0.setTop (mkF m 3 #[.val (.ref a), .val (.int (115 : Int32)), .unset] [(.int (65 : Int32)), (.int (115 : Int32))]))
  refine own_of (fun tt_ kk_ => XS.icmpYes X0.here hx rfl (pc0 := 3) (pc' := 8) rfl (hb hby d_jdk_116_method_20_code_3) rfl (flt (by decide : ¬ ((115 : Int32) < (65 : Int32)))).2.1 (by decide) (by decide) kk_) ?_
  show own_Ends _ _ _ _ _ _ (T0.setTop (mkF m 8 #[.val (.ref a), .val (.int (115 : Int32)), .unset] []))
  refine own_of (fun tt_ kk_ => XS.iloadN X0.here hx rfl (hb hby d_jdk_116_method_20_code_8) rfl  kk_) ?_
  show own_Ends _ _ _ _ _ _ (T0.setTop (mkF m 9 #[.val (.ref a), .val (.int (115 : Int32)), .unset] [(.int (115 : Int32))]))
  refine own_of (fun tt_ kk_ => XS.bipush X0.here hx rfl (hb hby d_jdk_116_method_20_code_9) kk_) ?_
  show own_Ends _ _ _ _ _ _ (T0.setTop (mkF m 11 #[.val (.ref a), .val (.int (115 : Int32)), .unset] [(.int (32 : Int32)), (.int (115 : Int32))]))
  refine own_of (fun tt_ kk_ => XS.ior X0.here hx rfl (hb hby d_jdk_116_method_20_code_11) rfl kk_) ?_
  show own_Ends _ _ _ _ _ _ (T0.setTop (mkF m 12 #[.val (.ref a), .val (.int (115 : Int32)), .unset] [(.int (115 : Int32))]))
  refine own_of (fun tt_ kk_ => XS.istoreN X0.here hx rfl (hb hby d_jdk_116_method_20_code_12) rfl (l' := #[.val (.ref a), .val (.int (115 : Int32)), .val (.int (115 : Int32))]) rfl kk_) ?_
  show own_Ends _ _ _ _ _ _ (T0.setTop (mkF m 13 #[.val (.ref a), .val (.int (115 : Int32)), .val (.int (115 : Int32))] []))
  refine own_of (fun tt_ kk_ => XS.iloadN X0.here hx rfl (hb hby d_jdk_116_method_20_code_13) rfl  kk_) ?_
  show own_Ends _ _ _ _ _ _ (T0.setTop (mkF m 14 #[.val (.ref a), .val (.int (115 : Int32)), .val (.int (115 : Int32))] [(.int (115 : Int32))]))
  refine own_of (fun tt_ kk_ => XS.bipush X0.here hx rfl (hb hby d_jdk_116_method_20_code_14) kk_) ?_
  show own_Ends _ _ _ _ _ _ (T0.setTop (mkF m 16 #[.val (.ref a), .val (.int (115 : Int32)), .val (.int (115 : Int32))] [(.int (122 : Int32)), (.int (115 : Int32))]))
  refine own_of (fun tt_ kk_ => XS.icmpYes X0.here hx rfl (pc0 := 16) (pc' := 40) rfl (hb hby d_jdk_116_method_20_code_16) rfl (flt (by decide : ¬ ((122 : Int32) < (115 : Int32)))).2.2.2 (by decide) (by decide) kk_) ?_
  show own_Ends _ _ _ _ _ _ (T0.setTop (mkF m 40 #[.val (.ref a), .val (.int (115 : Int32)), .val (.int (115 : Int32))] []))
  refine own_of (fun tt_ kk_ => XS.iloadN X0.here hx rfl (hb hby d_jdk_116_method_20_code_40) rfl  kk_) ?_
  show own_Ends _ _ _ _ _ _ (T0.setTop (mkF m 41 #[.val (.ref a), .val (.int (115 : Int32)), .val (.int (115 : Int32))] [(.int (115 : Int32))]))
  refine own_retI X0 hx hlk e0 hret (hb hby d_jdk_116_method_20_code_41) (by decide) (by decide) ?_
  exact ⟨rfl, N0, rfl⟩
set_option maxRecDepth 65536 in
set_option maxHeartbeats 40000000 in
theorem rm_low117 (l : Launch) (Z : State) (a0 : Array Value) (hw : ∀ d ∈ tables_1, d.before a0 Z = true) (a : Addr) (h0 : Heap) (n0 : Nat) (Z0 : n0 ≤ h0.size) :
    own_Met l Z (⟨"java/lang/CharacterDataLatin1", "toLowerCase", "(I)I"⟩ : MethodName) jdk_116_method_20_code 3 (some .int) ({ frames := 0, cells := 0, slots := 0, locals := 0 } : Room) #[(.ref a), (.int (117 : Int32))] h0 (fun v h L => v = some (.int (117 : Int32)) ∧ Fr n0 L ∧ h = h0) := by
  refine own_body (plainFor_of_name pn_java_lang_CharacterDataLatin1) ?_
  intro p e s m below meth c T0 X0 e0 hx hby hml hown hnm hret hlk hZ
  replace hown : s.vm.findClass "java/lang/CharacterDataLatin1" = some m.cls := hown
  have N0 := Fr.nil n0
  refine own_of (fun tt_ kk_ => castTop (ef_jdk_116_method_20_codeRI m a (117 : Int32)) kk_) ?_
  show own_Ends _ _ _ _ _ _ (T0.setTop (mkF m 0 #[.val (.ref a), .val (.int (117 : Int32)), .unset] []))
  refine own_of (fun tt_ kk_ => XS.iloadN X0.here hx rfl (hb hby d_jdk_116_method_20_code_0) rfl  kk_) ?_
  show own_Ends _ _ _ _ _ _ (T0.setTop (mkF m 1 #[.val (.ref a), .val (.int (117 : Int32)), .unset] [(.int (117 : Int32))]))
  refine own_of (fun tt_ kk_ => XS.bipush X0.here hx rfl (hb hby d_jdk_116_method_20_code_1) kk_) ?_
  show own_Ends _ _ _ _ _ _ (T0.setTop (mkF m 3 #[.val (.ref a), .val (.int (117 : Int32)), .unset] [(.int (65 : Int32)), (.int (117 : Int32))]))
  refine own_of (fun tt_ kk_ => XS.icmpYes X0.here hx rfl (pc0 := 3) (pc' := 8) rfl (hb hby d_jdk_116_method_20_code_3) rfl (flt (by decide : ¬ ((117 : Int32) < (65 : Int32)))).2.1 (by decide) (by decide) kk_) ?_
  show own_Ends _ _ _ _ _ _ (T0.setTop (mkF m 8 #[.val (.ref a), .val (.int (117 : Int32)), .unset] []))
  refine own_of (fun tt_ kk_ => XS.iloadN X0.here hx rfl (hb hby d_jdk_116_method_20_code_8) rfl  kk_) ?_
  show own_Ends _ _ _ _ _ _ (T0.setTop (mkF m 9 #[.val (.ref a), .val (.int (117 : Int32)), .unset] [(.int (117 : Int32))]))
  refine own_of (fun tt_ kk_ => XS.bipush X0.here hx rfl (hb hby d_jdk_116_method_20_code_9) kk_) ?_
  show own_Ends _ _ _ _ _ _ (T0.setTop (mkF m 11 #[.val (.ref a), .val (.int (117 : Int32)), .unset] [(.int (32 : Int32)), (.int (117 : Int32))]))
  refine own_of (fun tt_ kk_ => XS.ior X0.here hx rfl (hb hby d_jdk_116_method_20_code_11) rfl kk_) ?_
  show own_Ends _ _ _ _ _ _ (T0.setTop (mkF m 12 #[.val (.ref a), .val (.int (117 : Int32)), .unset] [(.int (117 : Int32))]))
  refine own_of (fun tt_ kk_ => XS.istoreN X0.here hx rfl (hb hby d_jdk_116_method_20_code_12) rfl (l' := #[.val (.ref a), .val (.int (117 : Int32)), .val (.int (117 : Int32))]) rfl kk_) ?_
  show own_Ends _ _ _ _ _ _ (T0.setTop (mkF m 13 #[.val (.ref a), .val (.int (117 : Int32)), .val (.int (117 : Int32))] []))
  refine own_of (fun tt_ kk_ => XS.iloadN X0.here hx rfl (hb hby d_jdk_116_method_20_code_13) rfl  kk_) ?_
  show own_Ends _ _ _ _ _ _ (T0.setTop (mkF m 14 #[.val (.ref a), .val (.int (117 : Int32)), .val (.int (117 : Int32))] [(.int (117 : Int32))]))
  refine own_of (fun tt_ kk_ => XS.bipush X0.here hx rfl (hb hby d_jdk_116_method_20_code_14) kk_) ?_
  show own_Ends _ _ _ _ _ _ (T0.setTop (mkF m 16 #[.val (.ref a), .val (.int (117 : Int32)), .val (.int (117 : Int32))] [(.int (122 : Int32)), (.int (117 : Int32))]))
  refine own_of (fun tt_ kk_ => XS.icmpYes X0.here hx rfl (pc0 := 16) (pc' := 40) rfl (hb hby d_jdk_116_method_20_code_16) rfl (flt (by decide : ¬ ((122 : Int32) < (117 : Int32)))).2.2.2 (by decide) (by decide) kk_) ?_
  show own_Ends _ _ _ _ _ _ (T0.setTop (mkF m 40 #[.val (.ref a), .val (.int (117 : Int32)), .val (.int (117 : Int32))] []))
  refine own_of (fun tt_ kk_ => XS.iloadN X0.here hx rfl (hb hby d_jdk_116_method_20_code_40) rfl  kk_) ?_
  show own_Ends _ _ _ _ _ _ (T0.setTop (mkF m 41 #[.val (.ref a), .val (.int (117 : Int32)), .val (.int (117 : Int32))] [(.int (117 : Int32))]))
  refine own_retI X0 hx hlk e0 hret (hb hby d_jdk_116_method_20_code_41) (by decide) (by decide) ?_
  exact ⟨rfl, N0, rfl⟩
theorem d_jdk_43_method_4_code_0 : decode jdk_43_method_4_code 0 = .ok (.iload_n 0, 1) := by decide +kernel
theorem d_jdk_43_method_4_code_1 : decode jdk_43_method_4_code 1 = .ok (.ifCond .lt 14, 3) := by decide +kernel
theorem d_jdk_43_method_4_code_4 : decode jdk_43_method_4_code 4 = .ok (.iload_n 0, 1) := by decide +kernel
theorem d_jdk_43_method_4_code_5 : decode jdk_43_method_4_code 5 = .ok (.sipush 255, 3) := by decide +kernel
theorem d_jdk_43_method_4_code_8 : decode jdk_43_method_4_code 8 = .ok (.if_icmp .gt 7, 3) := by decide +kernel
theorem d_jdk_43_method_4_code_11 : decode jdk_43_method_4_code 11 = .ok (.iconst 1, 1) := by decide +kernel
theorem d_jdk_43_method_4_code_12 : decode jdk_43_method_4_code 12 = .ok (.goto 4, 3) := by decide +kernel
theorem d_jdk_43_method_4_code_16 : decode jdk_43_method_4_code 16 = .ok (.ireturn, 1) := by decide +kernel
theorem ef_jdk_43_method_4_codeI (m : MethodId) (z0 : Int32) : entryFrame m #[(.int z0)] 1 = mkF m 0 #[.val (.int z0)] [] := by first | (simp [entryFrame, mkF, argsToLocals, Value.category]; done) | rfl
set_option maxRecDepth 65536 in
set_option maxHeartbeats 40000000 in
theorem rm_can (l : Launch) (Z : State) (a0 : Array Value) (hw : ∀ d ∈ tables_1, d.before a0 Z = true) (ch : Int32) (h0 : Heap) (n0 : Nat) (Z0 : n0 ≤ h0.size) (h1 : ¬ ch < (0 : Int32)) (h2 : ¬ (255 : Int32) < ch) :
    own_Met l Z (⟨"java/lang/StringLatin1", "canEncode", "(I)Z"⟩ : MethodName) jdk_43_method_4_code 1 (some .boolean) ({ frames := 0, cells := 0, slots := 0, locals := 0 } : Room) #[(.int ch)] h0 (fun v h L => v = some (.int (1 : Int32)) ∧ Fr n0 L ∧ h = h0) := by
  refine own_body (plainFor_of_name pn_java_lang_StringLatin1) ?_
  intro p e s m below meth c T0 X0 e0 hx hby hml hown hnm hret hlk hZ
  replace hown : s.vm.findClass "java/lang/StringLatin1" = some m.cls := hown
  have N0 := Fr.nil n0
  refine own_of (fun tt_ kk_ => castTop (ef_jdk_43_method_4_codeI m ch) kk_) ?_
  show own_Ends _ _ _ _ _ _ (T0.setTop (mkF m 0 #[.val (.int ch)] []))
  refine own_of (fun tt_ kk_ => XS.iloadN X0.here hx rfl (hb hby d_jdk_43_method_4_code_0) rfl  kk_) ?_
  show own_Ends _ _ _ _ _ _ (T0.setTop (mkF m 1 #[.val (.int ch)] [(.int ch)]))
  refine own_of (fun tt_ kk_ => XS.ifNo X0.here hx rfl (hb hby d_jdk_43_method_4_code_1) rfl ((if0 _ _).trans (flt h1).1) kk_) ?_
  show own_Ends _ _ _ _ _ _ (T0.setTop (mkF m 4 #[.val (.int ch)] []))
  refine own_of (fun tt_ kk_ => XS.iloadN X0.here hx rfl (hb hby d_jdk_43_method_4_code_4) rfl  kk_) ?_
  show own_Ends _ _ _ _ _ _ (T0.setTop (mkF m 5 #[.val (.int ch)] [(.int ch)]))
  refine own_of (fun tt_ kk_ => XS.sipush X0.here hx rfl (hb hby d_jdk_43_method_4_code_5) kk_) ?_
  show own_Ends _ _ _ _ _ _ (T0.setTop (mkF m 8 #[.val (.int ch)] [(.int (255 : Int32)), (.int ch)]))
  refine own_of (fun tt_ kk_ => XS.icmpNo X0.here hx rfl (hb hby d_jdk_43_method_4_code_8) rfl (flt h2).2.2.1 kk_) ?_
  show own_Ends _ _ _ _ _ _ (T0.setTop (mkF m 11 #[.val (.int ch)] []))
  refine own_of (fun tt_ kk_ => XS.iconst X0.here hx rfl (hb hby d_jdk_43_method_4_code_11) kk_) ?_
  show own_Ends _ _ _ _ _ _ (T0.setTop (mkF m 12 #[.val (.int ch)] [(.int (1 : Int32))]))
  refine own_of (fun tt_ kk_ => XS.goto X0.here hx rfl (pc0 := 12) (pc' := 16) rfl (hb hby d_jdk_43_method_4_code_12) (by decide) (by decide) kk_) ?_
  show own_Ends _ _ _ _ _ _ (T0.setTop (mkF m 16 #[.val (.int ch)] [(.int (1 : Int32))]))
  refine own_retN X0 hx hlk e0 (t := .boolean) hret (by simp) (z' := (1 : Int32)) rfl (hb hby d_jdk_43_method_4_code_16) (by decide) (by decide) ?_
  exact ⟨rfl, N0, rfl⟩
theorem d_jdk_3003_method_5_code_0 : decode jdk_3003_method_5_code 0 = .ok (.aload_n 0, 1) := by decide +kernel
theorem d_jdk_3003_method_5_code_1 : decode jdk_3003_method_5_code 1 = .ok (.getfield 19, 3) := by decide +kernel
theorem d_jdk_3003_method_5_code_4 : decode jdk_3003_method_5_code 4 = .ok (.areturn, 1) := by decide +kernel
theorem pn_sun_util_locale_BaseLocale : plainName "sun/util/locale/BaseLocale" = true := by first | (simp [plainName, overriddenIn]; done) | decide +kernel
theorem ef_jdk_3003_method_5_codeR (m : MethodId) (z0 : Addr) : entryFrame m #[(.ref z0)] 1 = mkF m 0 #[.val (.ref z0)] [] := by first | (simp [entryFrame, mkF, argsToLocals, Value.category]; done) | rfl
set_option maxRecDepth 65536 in
set_option maxHeartbeats 40000000 in
theorem rm_blang (l : Launch) (Z : State) (a0 : Array Value) (hw : ∀ d ∈ tables_1, d.before a0 Z = true) (G1 : Int32) (wI wA wR wB wG tG : Addr) (clA : Cell) (kG : ClassId) (h0 : Heap) (n0 : Nat) (Z0 : n0 ≤ h0.size) (O2 : Sta Z Z.heap "java/lang/String" "COMPACT_STRINGS" "Z" (.int G1)) (P3 : ¬ (G1 = (0 : Int32))) (OL : Old Z n0 h0) (SI : Sta Z Z.heap "java/lang/CharacterDataLatin1" "instance" "Ljava/lang/CharacterDataLatin1;" (.ref wI)) (EI : Exa Z Z.heap wI "java/lang/CharacterDataLatin1") (SA : Sta Z Z.heap "java/lang/CharacterDataLatin1" "A" "[I" (.ref wA)) (AA : Arr Z Z.heap wA clA .int) (ZA : clA.slots.size = 256) (SL : Sta Z Z.heap "java/util/Locale" "ROOT" "Ljava/util/Locale;" (.ref wR)) (ER : Exa Z Z.heap wR "java/util/Locale") (FB : Fld Z Z.heap wR "java/util/Locale" "baseLocale" "Lsun/util/locale/BaseLocale;" (.ref wB)) (EB : Exa Z Z.heap wB "sun/util/locale/BaseLocale") (FG : Fld Z Z.heap wB "sun/util/locale/BaseLocale" "language" "Ljava/lang/String;" (.ref wG)) (FW : Fld Z Z.heap wG "java/lang/String" "value" "[B" (.ref tG)) (VG : Arv Z Z.heap tG kG .byte (0 : Int32) [] (.int (0 : Int32))) (A84 : clA.slots[84]? = some (.int (8552417 : Int32))) (A70 : clA.slots[70]? = some (.int (8552417 : Int32))) (A101 : clA.slots[101]? = some (.int (8486882 : Int32))) :
    own_Met l Z (⟨"sun/util/locale/BaseLocale", "getLanguage", "()Ljava/lang/String;"⟩ : MethodName) jdk_3003_method_5_code 1 (some (.object "java/lang/String")) ({ frames := 0, cells := 0, slots := 0, locals := 0 } : Room) #[(.ref wB)] h0 (fun v h L => v = some (.ref wG) ∧ Fr n0 L ∧ h = h0) := by
  refine own_body (plainFor_of_name pn_sun_util_locale_BaseLocale) ?_
  intro p e s m below meth c T0 X0 e0 hx hby hml hown hnm hret hlk hZ
  replace hown : s.vm.findClass "sun/util/locale/BaseLocale" = some m.cls := hown
  have N0 := Fr.nil n0
  refine own_of (fun tt_ kk_ => castTop (ef_jdk_3003_method_5_codeR m wB) kk_) ?_
  show own_Ends _ _ _ _ _ _ (T0.setTop (mkF m 0 #[.val (.ref wB)] []))
  refine own_of (fun tt_ kk_ => XS.aloadN X0.here hx rfl (hb hby d_jdk_3003_method_5_code_0) rfl rfl kk_) ?_
  show own_Ends _ _ _ _ _ _ (T0.setTop (mkF m 1 #[.val (.ref wB)] [(.ref wB)]))
  obtain ⟨T56, X56, e56, st56⟩ := getF X0 hx hZ hown (host := "") (Or.inl (hw _ (List.mem_of_getElem? (i := 105) rfl))) Via.refl e0 (FG.ext OL.2) (g := (mkF m 1 #[.val (.ref wB)] [(.ref wB)])) rfl rfl (hb hby d_jdk_3003_method_5_code_1)
  refine own_of st56 ?_
  show own_Ends _ _ _ _ _ _ (T56.setTop (mkF m 4 #[.val (.ref wB)] [(.ref wG)]))
  refine own_retA X56 hx hlk e56 hret rfl rfl (hb hby d_jdk_3003_method_5_code_4) (by decide) (by decide) ?_
  exact ⟨rfl, N0, rfl⟩
theorem d_jdk_2628_method_27_code_0 : decode jdk_2628_method_27_code 0 = .ok (.aload_n 0, 1) := by decide +kernel
theorem d_jdk_2628_method_27_code_1 : decode jdk_2628_method_27_code 1 = .ok (.getfield 28, 3) := by decide +kernel
theorem pd___r_Ljava_lang_String_ : parseMethodDescriptor "()Ljava/lang/String;" = some ⟨[], some (.object "java/lang/String")⟩ := by decide +kernel
theorem d_jdk_2628_method_27_code_4 : decode jdk_2628_method_27_code 4 = .ok (.invokevirtual 293, 3) := by decide +kernel
theorem d_jdk_2628_method_27_code_7 : decode jdk_2628_method_27_code 7 = .ok (.areturn, 1) := by decide +kernel
theorem pn_java_util_Locale : plainName "java/util/Locale" = true := by first | (simp [plainName, overriddenIn]; done) | decide +kernel
theorem ef_jdk_2628_method_27_codeR (m : MethodId) (z0 : Addr) : entryFrame m #[(.ref z0)] 1 = mkF m 0 #[.val (.ref z0)] [] := by first | (simp [entryFrame, mkF, argsToLocals, Value.category]; done) | rfl
set_option maxRecDepth 65536 in
set_option maxHeartbeats 40000000 in
theorem rm_lang (l : Launch) (Z : State) (a0 : Array Value) (hw : ∀ d ∈ tables_1, d.before a0 Z = true) (G1 : Int32) (wI wA wR wB wG tG : Addr) (clA : Cell) (kG : ClassId) (h0 : Heap) (n0 : Nat) (Z0 : n0 ≤ h0.size) (O2 : Sta Z Z.heap "java/lang/String" "COMPACT_STRINGS" "Z" (.int G1)) (P3 : ¬ (G1 = (0 : Int32))) (OL : Old Z n0 h0) (SI : Sta Z Z.heap "java/lang/CharacterDataLatin1" "instance" "Ljava/lang/CharacterDataLatin1;" (.ref wI)) (EI : Exa Z Z.heap wI "java/lang/CharacterDataLatin1") (SA : Sta Z Z.heap "java/lang/CharacterDataLatin1" "A" "[I" (.ref wA)) (AA : Arr Z Z.heap wA clA .int) (ZA : clA.slots.size = 256) (SL : Sta Z Z.heap "java/util/Locale" "ROOT" "Ljava/util/Locale;" (.ref wR)) (ER : Exa Z Z.heap wR "java/util/Locale") (FB : Fld Z Z.heap wR "java/util/Locale" "baseLocale" "Lsun/util/locale/BaseLocale;" (.ref wB)) (EB : Exa Z Z.heap wB "sun/util/locale/BaseLocale") (FG : Fld Z Z.heap wB "sun/util/locale/BaseLocale" "language" "Ljava/lang/String;" (.ref wG)) (FW : Fld Z Z.heap wG "java/lang/String" "value" "[B" (.ref tG)) (VG : Arv Z Z.heap tG kG .byte (0 : Int32) [] (.int (0 : Int32))) (A84 : clA.slots[84]? = some (.int (8552417 : Int32))) (A70 : clA.slots[70]? = some (.int (8552417 : Int32))) (A101 : clA.slots[101]? = some (.int (8486882 : Int32))) :
    own_Met l Z (⟨"java/util/Locale", "getLanguage", "()Ljava/lang/String;"⟩ : MethodName) jdk_2628_method_27_code 1 (some (.object "java/lang/String")) ({ frames := 1, cells := 0, slots := 0, locals := 12 } : Room) #[(.ref wR)] h0 (fun v h L => v = some (.ref wG) ∧ Fr n0 L ∧ h = h0) := by
  refine own_body (plainFor_of_name pn_java_util_Locale) ?_
  intro p e s m below meth c T0 X0 e0 hx hby hml hown hnm hret hlk hZ
  replace hown : s.vm.findClass "java/util/Locale" = some m.cls := hown
  have N0 := Fr.nil n0
  refine own_of (fun tt_ kk_ => castTop (ef_jdk_2628_method_27_codeR m wR) kk_) ?_
  show own_Ends _ _ _ _ _ _ (T0.setTop (mkF m 0 #[.val (.ref wR)] []))
  refine own_of (fun tt_ kk_ => XS.aloadN X0.here hx rfl (hb hby d_jdk_2628_method_27_code_0) rfl rfl kk_) ?_
  show own_Ends _ _ _ _ _ _ (T0.setTop (mkF m 1 #[.val (.ref wR)] [(.ref wR)]))
  obtain ⟨T57, X57, e57, st57⟩ := getF X0 hx hZ hown (host := "") (Or.inl (hw _ (List.mem_of_getElem? (i := 97) rfl))) Via.refl e0 (FB.ext OL.2) (g := (mkF m 1 #[.val (.ref wR)] [(.ref wR)])) rfl rfl (hb hby d_jdk_2628_method_27_code_1)
  refine own_of st57 ?_
  show own_Ends _ _ _ _ _ _ (T57.setTop (mkF m 4 #[.val (.ref wR)] [(.ref wB)]))
  obtain ⟨v58, T58, L58, h58, X58, e58, Q58, st58⟩ := own_virtual X57 hx hZ hown e57 (EB.ext OL.2) (hw _ (List.mem_of_getElem? (i := 99) rfl)) (hw _ (List.mem_of_getElem? (i := 100) rfl)) (notFace_of_selects (args := #[]) (mvT hZ (hw _ (List.mem_of_getElem? (i := 102) rfl)))) (hw _ (List.mem_of_getElem? (i := 102) rfl)) (hw _ (List.mem_of_getElem? (i := 101) rfl)) (hw _ (List.mem_of_getElem? (i := 103) rfl)) (hw _ (List.mem_of_getElem? (i := 104) rfl)) (by decide) (argsL := []) (rest := []) (rm_blang l Z a0 hw G1 wI wA wR wB wG tG clA kG h0 n0 Z0 O2 P3 OL SI EI SA AA ZA SL ER FB EB FG FW VG A84 A70 A101) (g := (mkF m 4 #[.val (.ref wR)] [(.ref wB)])) rfl (by rw [hml]; rfl) (lenOf pd___r_Ljava_lang_String_ rfl) rfl (by decide) (Nat.le_of_ble_eq_true rfl) (by decide) (by decide) (hb hby d_jdk_2628_method_27_code_4)
  obtain ⟨rfl, Nq58, q58⟩ := Q58
  replace e58 := e58.trans q58
  have N58 := Fr.app N0 Nq58
  refine own_of st58 ?_
  show own_Ends _ _ _ _ _ _ (T58.setTop (mkF m 7 #[.val (.ref wR)] [(.ref wG)]))
  refine own_retA X58 hx hlk e58 hret rfl rfl (hb hby d_jdk_2628_method_27_code_7) (by decide) (by decide) ?_
  exact ⟨rfl, N58, rfl⟩
theorem d_jdk_43_method_13_code_0 : decode jdk_43_method_13_code 0 = .ok (.aload_n 0, 1) := by decide +kernel
theorem d_jdk_43_method_13_code_1 : decode jdk_43_method_13_code 1 = .ok (.arraylength, 1) := by decide +kernel
theorem d_jdk_43_method_13_code_2 : decode jdk_43_method_13_code 2 = .ok (.aload_n 1, 1) := by decide +kernel
theorem d_jdk_43_method_13_code_3 : decode jdk_43_method_13_code 3 = .ok (.arraylength, 1) := by decide +kernel
theorem d_jdk_43_method_13_code_4 : decode jdk_43_method_13_code 4 = .ok (.if_icmp .ne 30, 3) := by decide +kernel
theorem d_jdk_43_method_13_code_7 : decode jdk_43_method_13_code 7 = .ok (.iconst 0, 1) := by decide +kernel
theorem d_jdk_43_method_13_code_8 : decode jdk_43_method_13_code 8 = .ok (.istore_n 2, 1) := by decide +kernel
theorem d_jdk_43_method_13_code_9 : decode jdk_43_method_13_code 9 = .ok (.iload_n 2, 1) := by decide +kernel
theorem d_jdk_43_method_13_code_10 : decode jdk_43_method_13_code 10 = .ok (.aload_n 0, 1) := by decide +kernel
theorem d_jdk_43_method_13_code_11 : decode jdk_43_method_13_code 11 = .ok (.arraylength, 1) := by decide +kernel
theorem d_jdk_43_method_13_code_12 : decode jdk_43_method_13_code 12 = .ok (.if_icmp .ge 20, 3) := by decide +kernel
theorem d_jdk_43_method_13_code_15 : decode jdk_43_method_13_code 15 = .ok (.aload_n 0, 1) := by decide +kernel
theorem d_jdk_43_method_13_code_16 : decode jdk_43_method_13_code 16 = .ok (.iload_n 2, 1) := by decide +kernel
theorem d_jdk_43_method_13_code_17 : decode jdk_43_method_13_code 17 = .ok (.baload, 1) := by decide +kernel
theorem d_jdk_43_method_13_code_18 : decode jdk_43_method_13_code 18 = .ok (.aload_n 1, 1) := by decide +kernel
theorem d_jdk_43_method_13_code_19 : decode jdk_43_method_13_code 19 = .ok (.iload_n 2, 1) := by decide +kernel
theorem d_jdk_43_method_13_code_20 : decode jdk_43_method_13_code 20 = .ok (.baload, 1) := by decide +kernel
theorem d_jdk_43_method_13_code_21 : decode jdk_43_method_13_code 21 = .ok (.if_icmp .eq 5, 3) := by decide +kernel
theorem d_jdk_43_method_13_code_26 : decode jdk_43_method_13_code 26 = .ok (.iinc 2 1, 3) := by decide +kernel
theorem d_jdk_43_method_13_code_29 : decode jdk_43_method_13_code 29 = .ok (.goto (-20), 3) := by decide +kernel
theorem d_jdk_43_method_13_code_32 : decode jdk_43_method_13_code 32 = .ok (.iconst 1, 1) := by decide +kernel
theorem d_jdk_43_method_13_code_33 : decode jdk_43_method_13_code 33 = .ok (.ireturn, 1) := by decide +kernel
theorem ef_jdk_43_method_13_codeRR (m : MethodId) (z0 : Addr) (z1 : Addr) : entryFrame m #[(.ref z0), (.ref z1)] 3 = mkF m 0 #[.val (.ref z0), .val (.ref z1), .unset] [] := by first | (simp [entryFrame, mkF, argsToLocals, Value.category]; done) | rfl
set_option maxRecDepth 65536 in
set_option maxHeartbeats 40000000 in
theorem rm_eq1_True_True (l : Launch) (Z : State) (a0 : Array Value) (hw : ∀ d ∈ tables_1, d.before a0 Z = true) (t u : Addr) (k k' : ClassId) (h0 : Heap) (n0 : Nat) (Z0 : n0 ≤ h0.size) (V : Arv Z h0 t k .byte (4 : Int32) [(.int (84 : Int32)), (.int (114 : Int32)), (.int (117 : Int32)), (.int (101 : Int32))] (.int (0 : Int32))) (V' : Arv Z h0 u k' .byte (4 : Int32) [(.int (84 : Int32)), (.int (114 : Int32)), (.int (117 : Int32)), (.int (101 : Int32))] (.int (0 : Int32))) :
    own_Met l Z (⟨"java/lang/StringLatin1", "equals", "([B[B)Z"⟩ : MethodName) jdk_43_method_13_code 3 (some .boolean) ({ frames := 0, cells := 0, slots := 0, locals := 0 } : Room) #[(.ref t), (.ref u)] h0 (fun v h L => v = some (.int (1 : Int32)) ∧ Fr n0 L ∧ h = h0) := by
  refine own_body (plainFor_of_name pn_java_lang_StringLatin1) ?_
  intro p e s m below meth c T0 X0 e0 hx hby hml hown hnm hret hlk hZ
  replace hown : s.vm.findClass "java/lang/StringLatin1" = some m.cls := hown
  have N0 := Fr.nil n0
  refine own_of (fun tt_ kk_ => castTop (ef_jdk_43_method_13_codeRR m t u) kk_) ?_
  show own_Ends _ _ _ _ _ _ (T0.setTop (mkF m 0 #[.val (.ref t), .val (.ref u), .unset] []))
  refine own_of (fun tt_ kk_ => XS.aloadN X0.here hx rfl (hb hby d_jdk_43_method_13_code_0) rfl rfl kk_) ?_
  show own_Ends _ _ _ _ _ _ (T0.setTop (mkF m 1 #[.val (.ref t), .val (.ref u), .unset] [(.ref t)]))
  obtain ⟨cl59, Ar59, -, S59, N59', -, -⟩ := id V
  refine own_of (fun tt_ kk_ => X0.arraylength hx (by rw [e0]; exact Ar59.1) (State.isArrayOf_alike hZ.alike Ar59.2.1) (g := (mkF m 1 #[.val (.ref t), .val (.ref u), .unset] [(.ref t)])) rfl rfl (hb hby d_jdk_43_method_13_code_1) _ kk_) ?_
  rw [len_of S59 N59']
  show own_Ends _ _ _ _ _ _ (T0.setTop (mkF m 2 #[.val (.ref t), .val (.ref u), .unset] [(.int (4 : Int32))]))
  refine own_of (fun tt_ kk_ => XS.aloadN X0.here hx rfl (hb hby d_jdk_43_method_13_code_2) rfl rfl kk_) ?_
  show own_Ends _ _ _ _ _ _ (T0.setTop (mkF m 3 #[.val (.ref t), .val (.ref u), .unset] [(.ref u), (.int (4 : Int32))]))
  obtain ⟨cl60, Ar60, -, S60, N60', -, -⟩ := id V'
  refine own_of (fun tt_ kk_ => X0.arraylength hx (by rw [e0]; exact Ar60.1) (State.isArrayOf_alike hZ.alike Ar60.2.1) (g := (mkF m 3 #[.val (.ref t), .val (.ref u), .unset] [(.ref u), (.int (4 : Int32))])) rfl rfl (hb hby d_jdk_43_method_13_code_3) _ kk_) ?_
  rw [len_of S60 N60']
  show own_Ends _ _ _ _ _ _ (T0.setTop (mkF m 4 #[.val (.ref t), .val (.ref u), .unset] [(.int (4 : Int32)), (.int (4 : Int32))]))
  refine own_of (fun tt_ kk_ => XS.icmpNo X0.here hx rfl (hb hby d_jdk_43_method_13_code_4) rfl (teq (by decide : ((4 : Int32) = (4 : Int32)))).2 kk_) ?_
  show own_Ends _ _ _ _ _ _ (T0.setTop (mkF m 7 #[.val (.ref t), .val (.ref u), .unset] []))
  refine own_of (fun tt_ kk_ => XS.iconst X0.here hx rfl (hb hby d_jdk_43_method_13_code_7) kk_) ?_
  show own_Ends _ _ _ _ _ _ (T0.setTop (mkF m 8 #[.val (.ref t), .val (.ref u), .unset] [(.int (0 : Int32))]))
  refine own_of (fun tt_ kk_ => XS.istoreN X0.here hx rfl (hb hby d_jdk_43_method_13_code_8) rfl (l' := #[.val (.ref t), .val (.ref u), .val (.int (0 : Int32))]) rfl kk_) ?_
  show own_Ends _ _ _ _ _ _ (T0.setTop (mkF m 9 #[.val (.ref t), .val (.ref u), .val (.int (0 : Int32))] []))
  refine own_of (fun tt_ kk_ => XS.iloadN X0.here hx rfl (hb hby d_jdk_43_method_13_code_9) rfl  kk_) ?_
  show own_Ends _ _ _ _ _ _ (T0.setTop (mkF m 10 #[.val (.ref t), .val (.ref u), .val (.int (0 : Int32))] [(.int (0 : Int32))]))
  refine own_of (fun tt_ kk_ => XS.aloadN X0.here hx rfl (hb hby d_jdk_43_method_13_code_10) rfl rfl kk_) ?_
  show own_Ends _ _ _ _ _ _ (T0.setTop (mkF m 11 #[.val (.ref t), .val (.ref u), .val (.int (0 : Int32))] [(.ref t), (.int (0 : Int32))]))
  obtain ⟨cl61, Ar61, -, S61, N61', -, -⟩ := id V
  refine own_of (fun tt_ kk_ => X0.arraylength hx (by rw [e0]; exact Ar61.1) (State.isArrayOf_alike hZ.alike Ar61.2.1) (g := (mkF m 11 #[.val (.ref t), .val (.ref u), .val (.int (0 : Int32))] [(.ref t), (.int (0 : Int32))])) rfl rfl (hb hby d_jdk_43_method_13_code_11) _ kk_) ?_
  rw [len_of S61 N61']
  show own_Ends _ _ _ _ _ _ (T0.setTop (mkF m 12 #[.val (.ref t), .val (.ref u), .val (.int (0 : Int32))] [(.int (4 : Int32)), (.int (0 : Int32))]))
  refine own_of (fun tt_ kk_ => XS.icmpNo X0.here hx rfl (hb hby d_jdk_43_method_13_code_12) rfl (tlt (by decide : ((0 : Int32) < (4 : Int32)))).2.1 kk_) ?_
  show own_Ends _ _ _ _ _ _ (T0.setTop (mkF m 15 #[.val (.ref t), .val (.ref u), .val (.int (0 : Int32))] []))
  refine own_of (fun tt_ kk_ => XS.aloadN X0.here hx rfl (hb hby d_jdk_43_method_13_code_15) rfl rfl kk_) ?_
  show own_Ends _ _ _ _ _ _ (T0.setTop (mkF m 16 #[.val (.ref t), .val (.ref u), .val (.int (0 : Int32))] [(.ref t)]))
  refine own_of (fun tt_ kk_ => XS.iloadN X0.here hx rfl (hb hby d_jdk_43_method_13_code_16) rfl  kk_) ?_
  show own_Ends _ _ _ _ _ _ (T0.setTop (mkF m 17 #[.val (.ref t), .val (.ref u), .val (.int (0 : Int32))] [(.int (0 : Int32)), (.ref t)]))
  obtain ⟨cl62, Ar62, q62, S62, N62', H62, G62⟩ := id V
  have hin62 : ¬ ((0 : Int32) < 0 ∨ cl62.slots.size ≤ ((0 : Int32)).toNatClampNeg) := inb_of S62 ⟨by decide, by decide⟩
  have hat62 : cl62.slots[((0 : Int32)).toNatClampNeg]? = some (.int (84 : Int32)) := H62.at hin62 rfl
  refine own_of (fun tt_ kk_ => X0.baloadBytes hx (j := (0 : Int32)) (v := (.int (84 : Int32))) (by rw [e0]; exact Ar62.1) (State.isArrayOf_alike hZ.alike Ar62.2.1) Ar62.2.2 hin62 hat62 (g := (mkF m 17 #[.val (.ref t), .val (.ref u), .val (.int (0 : Int32))] [(.int (0 : Int32)), (.ref t)])) rfl rfl (hb hby d_jdk_43_method_13_code_17) _ kk_) ?_
  show own_Ends _ _ _ _ _ _ (T0.setTop (mkF m 18 #[.val (.ref t), .val (.ref u), .val (.int (0 : Int32))] [(.int (84 : Int32))]))
  refine own_of (fun tt_ kk_ => XS.aloadN X0.here hx rfl (hb hby d_jdk_43_method_13_code_18) rfl rfl kk_) ?_
  show own_Ends _ _ _ _ _ _ (T0.setTop (mkF m 19 #[.val (.ref t), .val (.ref u), .val (.int (0 : Int32))] [(.ref u), (.int (84 : Int32))]))
  refine own_of (fun tt_ kk_ => XS.iloadN X0.here hx rfl (hb hby d_jdk_43_method_13_code_19) rfl  kk_) ?_
  show own_Ends _ _ _ _ _ _ (T0.setTop (mkF m 20 #[.val (.ref t), .val (.ref u), .val (.int (0 : Int32))] [(.int (0 : Int32)), (.ref u), (.int (84 : Int32))]))
  obtain ⟨cl63, Ar63, q63, S63, N63', H63, G63⟩ := id V'
  have hin63 : ¬ ((0 : Int32) < 0 ∨ cl63.slots.size ≤ ((0 : Int32)).toNatClampNeg) := inb_of S63 ⟨by decide, by decide⟩
  have hat63 : cl63.slots[((0 : Int32)).toNatClampNeg]? = some (.int (84 : Int32)) := H63.at hin63 rfl
  refine own_of (fun tt_ kk_ => X0.baloadBytes hx (j := (0 : Int32)) (v := (.int (84 : Int32))) (by rw [e0]; exact Ar63.1) (State.isArrayOf_alike hZ.alike Ar63.2.1) Ar63.2.2 hin63 hat63 (g := (mkF m 20 #[.val (.ref t), .val (.ref u), .val (.int (0 : Int32))] [(.int (0 : Int32)), (.ref u), (.int (84 : Int32))])) rfl rfl (hb hby d_jdk_43_method_13_code_20) _ kk_) ?_
  show own_Ends _ _ _ _ _ _ (T0.setTop (mkF m 21 #[.val (.ref t), .val (.ref u), .val (.int (0 : Int32))] [(.int (84 : Int32)), (.int (84 : Int32))]))
  refine own_of (fun tt_ kk_ => XS.icmpYes X0.here hx rfl (pc0 := 21) (pc' := 26) rfl (hb hby d_jdk_43_method_13_code_21) rfl (teq (by decide : ((84 : Int32) = (84 : Int32)))).1 (by decide) (by decide) kk_) ?_
  show own_Ends _ _ _ _ _ _ (T0.setTop (mkF m 26 #[.val (.ref t), .val (.ref u), .val (.int (0 : Int32))] []))
  refine own_of (fun tt_ kk_ => XS.iinc X0.here hx rfl (hb hby d_jdk_43_method_13_code_26) rfl (l' := #[.val (.ref t), .val (.ref u), .val (.int (1 : Int32))]) rfl kk_) ?_
  show own_Ends _ _ _ _ _ _ (T0.setTop (mkF m 29 #[.val (.ref t), .val (.ref u), .val (.int (1 : Int32))] []))
  refine own_of (fun tt_ kk_ => XS.goto X0.here hx rfl (pc0 := 29) (pc' := 9) rfl (hb hby d_jdk_43_method_13_code_29) (by decide) (by decide) kk_) ?_
  show own_Ends _ _ _ _ _ _ (T0.setTop (mkF m 9 #[.val (.ref t), .val (.ref u), .val (.int (1 : Int32))] []))
  refine own_of (fun tt_ kk_ => XS.iloadN X0.here hx rfl (hb hby d_jdk_43_method_13_code_9) rfl  kk_) ?_
  show own_Ends _ _ _ _ _ _ (T0.setTop (mkF m 10 #[.val (.ref t), .val (.ref u), .val (.int (1 : Int32))] [(.int (1 : Int32))]))
  refine own_of (fun tt_ kk_ => XS.aloadN X0.here hx rfl (hb hby d_jdk_43_method_13_code_10) rfl rfl kk_) ?_
  show own_Ends _ _ _ _ _ _ (T0.setTop (mkF m 11 #[.val (.ref t), .val (.ref u), .val (.int (1 : Int32))] [(.ref t), (.int (1 : Int32))]))
  obtain ⟨cl64, Ar64, -, S64, N64', -, -⟩ := id V
  refine own_of (fun tt_ kk_ => X0.arraylength hx (by rw [e0]; exact Ar64.1) (State.isArrayOf_alike hZ.alike Ar64.2.1) (g := (mkF m 11 #[.val (.ref t), .val (.ref u), .val (.int (1 : Int32))] [(.ref t), (.int (1 : Int32))])) rfl rfl (hb hby d_jdk_43_method_13_code_11) _ kk_) ?_
  rw [len_of S64 N64']
  show own_Ends _ _ _ _ _ _ (T0.setTop (mkF m 12 #[.val (.ref t), .val (.ref u), .val (.int (1 : Int32))] [(.int (4 : Int32)), (.int (1 : Int32))]))
  refine own_of (fun tt_ kk_ => XS.icmpNo X0.here hx rfl (hb hby d_jdk_43_method_13_code_12) rfl (tlt (by decide : ((1 : Int32) < (4 : Int32)))).2.1 kk_) ?_
  show own_Ends _ _ _ _ _ _ (T0.setTop (mkF m 15 #[.val (.ref t), .val (.ref u), .val (.int (1 : Int32))] []))
  refine own_of (fun tt_ kk_ => XS.aloadN X0.here hx rfl (hb hby d_jdk_43_method_13_code_15) rfl rfl kk_) ?_
  show own_Ends _ _ _ _ _ _ (T0.setTop (mkF m 16 #[.val (.ref t), .val (.ref u), .val (.int (1 : Int32))] [(.ref t)]))
  refine own_of (fun tt_ kk_ => XS.iloadN X0.here hx rfl (hb hby d_jdk_43_method_13_code_16) rfl  kk_) ?_
  show own_Ends _ _ _ _ _ _ (T0.setTop (mkF m 17 #[.val (.ref t), .val (.ref u), .val (.int (1 : Int32))] [(.int (1 : Int32)), (.ref t)]))
  obtain ⟨cl65, Ar65, q65, S65, N65', H65, G65⟩ := id V
  have hin65 : ¬ ((1 : Int32) < 0 ∨ cl65.slots.size ≤ ((1 : Int32)).toNatClampNeg) := inb_of S65 ⟨by decide, by decide⟩
  have hat65 : cl65.slots[((1 : Int32)).toNatClampNeg]? = some (.int (114 : Int32)) := H65.at hin65 rfl
  refine own_of (fun tt_ kk_ => X0.baloadBytes hx (j := (1 : Int32)) (v := (.int (114 : Int32))) (by rw [e0]; exact Ar65.1) (State.isArrayOf_alike hZ.alike Ar65.2.1) Ar65.2.2 hin65 hat65 (g := (mkF m 17 #[.val (.ref t), .val (.ref u), .val (.int (1 : Int32))] [(.int (1 : Int32)), (.ref t)])) rfl rfl (hb hby d_jdk_43_method_13_code_17) _ kk_) ?_
  show own_Ends _ _ _ _ _ _ (T0.setTop (mkF m 18 #[.val (.ref t), .val (.ref u), .val (.int (1 : Int32))] [(.int (114 : Int32))]))
  refine own_of (fun tt_ kk_ => XS.aloadN X0.here hx rfl (hb hby d_jdk_43_method_13_code_18) rfl rfl kk_) ?_
  show own_Ends _ _ _ _ _ _ (T0.setTop (mkF m 19 #[.val (.ref t), .val (.ref u), .val (.int (1 : Int32))] [(.ref u), (.int (114 : Int32))]))
  refine own_of (fun tt_ kk_ => XS.iloadN X0.here hx rfl (hb hby d_jdk_43_method_13_code_19) rfl  kk_) ?_
  show own_Ends _ _ _ _ _ _ (T0.setTop (mkF m 20 #[.val (.ref t), .val (.ref u), .val (.int (1 : Int32))] [(.int (1 : Int32)), (.ref u), (.int (114 : Int32))]))
  obtain ⟨cl66, Ar66, q66, S66, N66', H66, G66⟩ := id V'
  have hin66 : ¬ ((1 : Int32) < 0 ∨ cl66.slots.size ≤ ((1 : Int32)).toNatClampNeg) := inb_of S66 ⟨by decide, by decide⟩
  have hat66 : cl66.slots[((1 : Int32)).toNatClampNeg]? = some (.int (114 : Int32)) := H66.at hin66 rfl
  refine own_of (fun tt_ kk_ => X0.baloadBytes hx (j := (1 : Int32)) (v := (.int (114 : Int32))) (by rw [e0]; exact Ar66.1) (State.isArrayOf_alike hZ.alike Ar66.2.1) Ar66.2.2 hin66 hat66 (g := (mkF m 20 #[.val (.ref t), .val (.ref u), .val (.int (1 : Int32))] [(.int (1 : Int32)), (.ref u), (.int (114 : Int32))])) rfl rfl (hb hby d_jdk_43_method_13_code_20) _ kk_) ?_
  show own_Ends _ _ _ _ _ _ (T0.setTop (mkF m 21 #[.val (.ref t), .val (.ref u), .val (.int (1 : Int32))] [(.int (114 : Int32)), (.int (114 : Int32))]))
  refine own_of (fun tt_ kk_ => XS.icmpYes X0.here hx rfl (pc0 := 21) (pc' := 26) rfl (hb hby d_jdk_43_method_13_code_21) rfl (teq (by decide : ((114 : Int32) = (114 : Int32)))).1 (by decide) (by decide) kk_) ?_
  show own_Ends _ _ _ _ _ _ (T0.setTop (mkF m 26 #[.val (.ref t), .val (.ref u), .val (.int (1 : Int32))] []))
  refine own_of (fun tt_ kk_ => XS.iinc X0.here hx rfl (hb hby d_jdk_43_method_13_code_26) rfl (l' := #[.val (.ref t), .val (.ref u), .val (.int (2 : Int32))]) rfl kk_) ?_
  show own_Ends _ _ _ _ _ _ (T0.setTop (mkF m 29 #[.val (.ref t), .val (.ref u), .val (.int (2 : Int32))] []))
  refine own_of (fun tt_ kk_ => XS.goto X0.here hx rfl (pc0 := 29) (pc' := 9) rfl (hb hby d_jdk_43_method_13_code_29) (by decide) (by decide) kk_) ?_
  show own_Ends _ _ _ _ _ _ (T0.setTop (mkF m 9 #[.val (.ref t), .val (.ref u), .val (.int (2 : Int32))] []))
  refine own_of (fun tt_ kk_ => XS.iloadN X0.here hx rfl (hb hby d_jdk_43_method_13_code_9) rfl  kk_) ?_
  show own_Ends _ _ _ _ _ _ (T0.setTop (mkF m 10 #[.val (.ref t), .val (.ref u), .val (.int (2 : Int32))] [(.int (2 : Int32))]))
  refine own_of (fun tt_ kk_ => XS.aloadN X0.here hx rfl (hb hby d_jdk_43_method_13_code_10) rfl rfl kk_) ?_
  show own_Ends _ _ _ _ _ _ (T0.setTop (mkF m 11 #[.val (.ref t), .val (.ref u), .val (.int (2 : Int32))] [(.ref t), (.int (2 : Int32))]))
  obtain ⟨cl67, Ar67, -, S67, N67', -, -⟩ := id V
  refine own_of (fun tt_ kk_ => X0.arraylength hx (by rw [e0]; exact Ar67.1) (State.isArrayOf_alike hZ.alike Ar67.2.1) (g := (mkF m 11 #[.val (.ref t), .val (.ref u), .val (.int (2 : Int32))] [(.ref t), (.int (2 : Int32))])) rfl rfl (hb hby d_jdk_43_method_13_code_11) _ kk_) ?_
  rw [len_of S67 N67']
  show own_Ends _ _ _ _ _ _ (T0.setTop (mkF m 12 #[.val (.ref t), .val (.ref u), .val (.int (2 : Int32))] [(.int (4 : Int32)), (.int (2 : Int32))]))
  refine own_of (fun tt_ kk_ => XS.icmpNo X0.here hx rfl (hb hby d_jdk_43_method_13_code_12) rfl (tlt (by decide : ((2 : Int32) < (4 : Int32)))).2.1 kk_) ?_
  show own_Ends _ _ _ _ _ _ (T0.setTop (mkF m 15 #[.val (.ref t), .val (.ref u), .val (.int (2 : Int32))] []))
  refine own_of (fun tt_ kk_ => XS.aloadN X0.here hx rfl (hb hby d_jdk_43_method_13_code_15) rfl rfl kk_) ?_
  show own_Ends _ _ _ _ _ _ (T0.setTop (mkF m 16 #[.val (.ref t), .val (.ref u), .val (.int (2 : Int32))] [(.ref t)]))
  refine own_of (fun tt_ kk_ => XS.iloadN X0.here hx rfl (hb hby d_jdk_43_method_13_code_16) rfl  kk_) ?_
  show own_Ends _ _ _ _ _ _ (T0.setTop (mkF m 17 #[.val (.ref t), .val (.ref u), .val (.int (2 : Int32))] [(.int (2 : Int32)), (.ref t)]))
  obtain ⟨cl68, Ar68, q68, S68, N68', H68, G68⟩ := id V
  have hin68 : ¬ ((2 : Int32) < 0 ∨ cl68.slots.size ≤ ((2 : Int32)).toNatClampNeg) := inb_of S68 ⟨by decide, by decide⟩
  have hat68 : cl68.slots[((2 : Int32)).toNatClampNeg]? = some (.int (117 : Int32)) := H68.at hin68 rfl
  refine own_of (fun tt_ kk_ => X0.baloadBytes hx (j := (2 : Int32)) (v := (.int (117 : Int32))) (by rw [e0]; exact Ar68.1) (State.isArrayOf_alike hZ.alike Ar68.2.1) Ar68.2.2 hin68 hat68 (g := (mkF m 17 #[.val (.ref t), .val (.ref u), .val (.int (2 : Int32))] [(.int (2 : Int32)), (.ref t)])) rfl rfl (hb hby d_jdk_43_method_13_code_17) _ kk_) ?_
  show own_Ends _ _ _ _ _ _ (T0.setTop (mkF m 18 #[.val (.ref t), .val (.ref u), .val (.int (2 : Int32))] [(.int (117 : Int32))]))
  refine own_of (fun tt_ kk_ => XS.aloadN X0.here hx rfl (hb hby d_jdk_43_method_13_code_18) rfl rfl kk_) ?_
  show own_Ends _ _ _ _ _ _ (T0.setTop (mkF m 19 #[.val (.ref t), .val (.ref u), .val (.int (2 : Int32))] [(.ref u), (.int (117 : Int32))]))
  refine own_of (fun tt_ kk_ => XS.iloadN X0.here hx rfl (hb hby d_jdk_43_method_13_code_19) rfl  kk_) ?_
  show own_Ends _ _ _ _ _ _ (T0.setTop (mkF m 20 #[.val (.ref t), .val (.ref u), .val (.int (2 : Int32))] [(.int (2 : Int32)), (.ref u), (.int (117 : Int32))]))
  obtain ⟨cl69, Ar69, q69, S69, N69', H69, G69⟩ := id V'
  have hin69 : ¬ ((2 : Int32) < 0 ∨ cl69.slots.size ≤ ((2 : Int32)).toNatClampNeg) := inb_of S69 ⟨by decide, by decide⟩
  have hat69 : cl69.slots[((2 : Int32)).toNatClampNeg]? = some (.int (117 : Int32)) := H69.at hin69 rfl
  refine own_of (fun tt_ kk_ => X0.baloadBytes hx (j := (2 : Int32)) (v := (.int (117 : Int32))) (by rw [e0]; exact Ar69.1) (State.isArrayOf_alike hZ.alike Ar69.2.1) Ar69.2.2 hin69 hat69 (g := (mkF m 20 #[.val (.ref t), .val (.ref u), .val (.int (2 : Int32))] [(.int (2 : Int32)), (.ref u), (.int (117 : Int32))])) rfl rfl (hb hby d_jdk_43_method_13_code_20) _ kk_) ?_
  show own_Ends _ _ _ _ _ _ (T0.setTop (mkF m 21 #[.val (.ref t), .val (.ref u), .val (.int (2 : Int32))] [(.int (117 : Int32)), (.int (117 : Int32))]))
  refine own_of (fun tt_ kk_ => XS.icmpYes X0.here hx rfl (pc0 := 21) (pc' := 26) rfl (hb hby d_jdk_43_method_13_code_21) rfl (teq (by decide : ((117 : Int32) = (117 : Int32)))).1 (by decide) (by decide) kk_) ?_
  show own_Ends _ _ _ _ _ _ (T0.setTop (mkF m 26 #[.val (.ref t), .val (.ref u), .val (.int (2 : Int32))] []))
  refine own_of (fun tt_ kk_ => XS.iinc X0.here hx rfl (hb hby d_jdk_43_method_13_code_26) rfl (l' := #[.val (.ref t), .val (.ref u), .val (.int (3 : Int32))]) rfl kk_) ?_
  show own_Ends _ _ _ _ _ _ (T0.setTop (mkF m 29 #[.val (.ref t), .val (.ref u), .val (.int (3 : Int32))] []))
  refine own_of (fun tt_ kk_ => XS.goto X0.here hx rfl (pc0 := 29) (pc' := 9) rfl (hb hby d_jdk_43_method_13_code_29) (by decide) (by decide) kk_) ?_
  show own_Ends _ _ _ _ _ _ (T0.setTop (mkF m 9 #[.val (.ref t), .val (.ref u), .val (.int (3 : Int32))] []))
  refine own_of (fun tt_ kk_ => XS.iloadN X0.here hx rfl (hb hby d_jdk_43_method_13_code_9) rfl  kk_) ?_
  show own_Ends _ _ _ _ _ _ (T0.setTop (mkF m 10 #[.val (.ref t), .val (.ref u), .val (.int (3 : Int32))] [(.int (3 : Int32))]))
  refine own_of (fun tt_ kk_ => XS.aloadN X0.here hx rfl (hb hby d_jdk_43_method_13_code_10) rfl rfl kk_) ?_
  show own_Ends _ _ _ _ _ _ (T0.setTop (mkF m 11 #[.val (.ref t), .val (.ref u), .val (.int (3 : Int32))] [(.ref t), (.int (3 : Int32))]))
  obtain ⟨cl70, Ar70, -, S70, N70', -, -⟩ := id V
  refine own_of (fun tt_ kk_ => X0.arraylength hx (by rw [e0]; exact Ar70.1) (State.isArrayOf_alike hZ.alike Ar70.2.1) (g := (mkF m 11 #[.val (.ref t), .val (.ref u), .val (.int (3 : Int32))] [(.ref t), (.int (3 : Int32))])) rfl rfl (hb hby d_jdk_43_method_13_code_11) _ kk_) ?_
  rw [len_of S70 N70']
  show own_Ends _ _ _ _ _ _ (T0.setTop (mkF m 12 #[.val (.ref t), .val (.ref u), .val (.int (3 : Int32))] [(.int (4 : Int32)), (.int (3 : Int32))]))
  refine own_of (fun tt_ kk_ => XS.icmpNo X0.here hx rfl (hb hby d_jdk_43_method_13_code_12) rfl (tlt (by decide : ((3 : Int32) < (4 : Int32)))).2.1 kk_) ?_
  show own_Ends _ _ _ _ _ _ (T0.setTop (mkF m 15 #[.val (.ref t), .val (.ref u), .val (.int (3 : Int32))] []))
  refine own_of (fun tt_ kk_ => XS.aloadN X0.here hx rfl (hb hby d_jdk_43_method_13_code_15) rfl rfl kk_) ?_
  show own_Ends _ _ _ _ _ _ (T0.setTop (mkF m 16 #[.val (.ref t), .val (.ref u), .val (.int (3 : Int32))] [(.ref t)]))
  refine own_of (fun tt_ kk_ => XS.iloadN X0.here hx rfl (hb hby d_jdk_43_method_13_code_16) rfl  kk_) ?_
  show own_Ends _ _ _ _ _ _ (T0.setTop (mkF m 17 #[.val (.ref t), .val (.ref u), .val (.int (3 : Int32))] [(.int (3 : Int32)), (.ref t)]))
  obtain ⟨cl71, Ar71, q71, S71, N71', H71, G71⟩ := id V
  have hin71 : ¬ ((3 : Int32) < 0 ∨ cl71.slots.size ≤ ((3 : Int32)).toNatClampNeg) := inb_of S71 ⟨by decide, by decide⟩
  have hat71 : cl71.slots[((3 : Int32)).toNatClampNeg]? = some (.int (101 : Int32)) := H71.at hin71 rfl
  refine own_of (fun tt_ kk_ => X0.baloadBytes hx (j := (3 : Int32)) (v := (.int (101 : Int32))) (by rw [e0]; exact Ar71.1) (State.isArrayOf_alike hZ.alike Ar71.2.1) Ar71.2.2 hin71 hat71 (g := (mkF m 17 #[.val (.ref t), .val (.ref u), .val (.int (3 : Int32))] [(.int (3 : Int32)), (.ref t)])) rfl rfl (hb hby d_jdk_43_method_13_code_17) _ kk_) ?_
  show own_Ends _ _ _ _ _ _ (T0.setTop (mkF m 18 #[.val (.ref t), .val (.ref u), .val (.int (3 : Int32))] [(.int (101 : Int32))]))
  refine own_of (fun tt_ kk_ => XS.aloadN X0.here hx rfl (hb hby d_jdk_43_method_13_code_18) rfl rfl kk_) ?_
  show own_Ends _ _ _ _ _ _ (T0.setTop (mkF m 19 #[.val (.ref t), .val (.ref u), .val (.int (3 : Int32))] [(.ref u), (.int (101 : Int32))]))
  refine own_of (fun tt_ kk_ => XS.iloadN X0.here hx rfl (hb hby d_jdk_43_method_13_code_19) rfl  kk_) ?_
  show own_Ends _ _ _ _ _ _ (T0.setTop (mkF m 20 #[.val (.ref t), .val (.ref u), .val (.int (3 : Int32))] [(.int (3 : Int32)), (.ref u), (.int (101 : Int32))]))
  obtain ⟨cl72, Ar72, q72, S72, N72', H72, G72⟩ := id V'
  have hin72 : ¬ ((3 : Int32) < 0 ∨ cl72.slots.size ≤ ((3 : Int32)).toNatClampNeg) := inb_of S72 ⟨by decide, by decide⟩
  have hat72 : cl72.slots[((3 : Int32)).toNatClampNeg]? = some (.int (101 : Int32)) := H72.at hin72 rfl
  refine own_of (fun tt_ kk_ => X0.baloadBytes hx (j := (3 : Int32)) (v := (.int (101 : Int32))) (by rw [e0]; exact Ar72.1) (State.isArrayOf_alike hZ.alike Ar72.2.1) Ar72.2.2 hin72 hat72 (g := (mkF m 20 #[.val (.ref t), .val (.ref u), .val (.int (3 : Int32))] [(.int (3 : Int32)), (.ref u), (.int (101 : Int32))])) rfl rfl (hb hby d_jdk_43_method_13_code_20) _ kk_) ?_
  show own_Ends _ _ _ _ _ _ (T0.setTop (mkF m 21 #[.val (.ref t), .val (.ref u), .val (.int (3 : Int32))] [(.int (101 : Int32)), (.int (101 : Int32))]))
  refine own_of (fun tt_ kk_ => XS.icmpYes X0.here hx rfl (pc0 := 21) (pc' := 26) rfl (hb hby d_jdk_43_method_13_code_21) rfl (teq (by decide : ((101 : Int32) = (101 : Int32)))).1 (by decide) (by decide) kk_) ?_
  show own_Ends _ _ _ _ _ _ (T0.setTop (mkF m 26 #[.val (.ref t), .val (.ref u), .val (.int (3 : Int32))] []))
  refine own_of (fun tt_ kk_ => XS.iinc X0.here hx rfl (hb hby d_jdk_43_method_13_code_26) rfl (l' := #[.val (.ref t), .val (.ref u), .val (.int (4 : Int32))]) rfl kk_) ?_
  show own_Ends _ _ _ _ _ _ (T0.setTop (mkF m 29 #[.val (.ref t), .val (.ref u), .val (.int (4 : Int32))] []))
  refine own_of (fun tt_ kk_ => XS.goto X0.here hx rfl (pc0 := 29) (pc' := 9) rfl (hb hby d_jdk_43_method_13_code_29) (by decide) (by decide) kk_) ?_
  show own_Ends _ _ _ _ _ _ (T0.setTop (mkF m 9 #[.val (.ref t), .val (.ref u), .val (.int (4 : Int32))] []))
  refine own_of (fun tt_ kk_ => XS.iloadN X0.here hx rfl (hb hby d_jdk_43_method_13_code_9) rfl  kk_) ?_
  show own_Ends _ _ _ _ _ _ (T0.setTop (mkF m 10 #[.val (.ref t), .val (.ref u), .val (.int (4 : Int32))] [(.int (4 : Int32))]))
  refine own_of (fun tt_ kk_ => XS.aloadN X0.here hx rfl (hb hby d_jdk_43_method_13_code_10) rfl rfl kk_) ?_
  show own_Ends _ _ _ _ _ _ (T0.setTop (mkF m 11 #[.val (.ref t), .val (.ref u), .val (.int (4 : Int32))] [(.ref t), (.int (4 : Int32))]))
  obtain ⟨cl73, Ar73, -, S73, N73', -, -⟩ := id V
  refine own_of (fun tt_ kk_ => X0.arraylength hx (by rw [e0]; exact Ar73.1) (State.isArrayOf_alike hZ.alike Ar73.2.1) (g := (mkF m 11 #[.val (.ref t), .val (.ref u), .val (.int (4 : Int32))] [(.ref t), (.int (4 : Int32))])) rfl rfl (hb hby d_jdk_43_method_13_code_11) _ kk_) ?_
  rw [len_of S73 N73']
  show own_Ends _ _ _ _ _ _ (T0.setTop (mkF m 12 #[.val (.ref t), .val (.ref u), .val (.int (4 : Int32))] [(.int (4 : Int32)), (.int (4 : Int32))]))
  refine own_of (fun tt_ kk_ => XS.icmpYes X0.here hx rfl (pc0 := 12) (pc' := 32) rfl (hb hby d_jdk_43_method_13_code_12) rfl (flt (by decide : ¬ ((4 : Int32) < (4 : Int32)))).2.1 (by decide) (by decide) kk_) ?_
  show own_Ends _ _ _ _ _ _ (T0.setTop (mkF m 32 #[.val (.ref t), .val (.ref u), .val (.int (4 : Int32))] []))
  refine own_of (fun tt_ kk_ => XS.iconst X0.here hx rfl (hb hby d_jdk_43_method_13_code_32) kk_) ?_
  show own_Ends _ _ _ _ _ _ (T0.setTop (mkF m 33 #[.val (.ref t), .val (.ref u), .val (.int (4 : Int32))] [(.int (1 : Int32))]))
  refine own_retN X0 hx hlk e0 (t := .boolean) hret (by simp) (z' := (1 : Int32)) rfl (hb hby d_jdk_43_method_13_code_33) (by decide) (by decide) ?_
  exact ⟨rfl, N0, rfl⟩
theorem d_jdk_42_method_66_code_0 : decode jdk_42_method_66_code 0 = .ok (.aload_n 0, 1) := by decide +kernel
theorem d_jdk_42_method_66_code_1 : decode jdk_42_method_66_code 1 = .ok (.aload_n 1, 1) := by decide +kernel
theorem d_jdk_42_method_66_code_2 : decode jdk_42_method_66_code 2 = .ok (.if_acmp .ne 5, 3) := by decide +kernel
theorem d_jdk_42_method_66_code_5 : decode jdk_42_method_66_code 5 = .ok (.iconst 1, 1) := by decide +kernel
theorem d_jdk_42_method_66_code_6 : decode jdk_42_method_66_code 6 = .ok (.ireturn, 1) := by decide +kernel
theorem d_jdk_42_method_66_code_7 : decode jdk_42_method_66_code 7 = .ok (.aload_n 1, 1) := by decide +kernel
theorem d_jdk_42_method_66_code_8 : decode jdk_42_method_66_code 8 = .ok (.instanceof 10, 3) := by decide +kernel
theorem d_jdk_42_method_66_code_11 : decode jdk_42_method_66_code 11 = .ok (.ifCond .eq 43, 3) := by decide +kernel
theorem d_jdk_42_method_66_code_14 : decode jdk_42_method_66_code 14 = .ok (.aload_n 1, 1) := by decide +kernel
theorem d_jdk_42_method_66_code_15 : decode jdk_42_method_66_code 15 = .ok (.checkcast 10, 3) := by decide +kernel
theorem d_jdk_42_method_66_code_18 : decode jdk_42_method_66_code 18 = .ok (.astore_n 2, 1) := by decide +kernel
theorem d_jdk_42_method_66_code_19 : decode jdk_42_method_66_code 19 = .ok (.getstatic 38, 3) := by decide +kernel
theorem d_jdk_42_method_66_code_22 : decode jdk_42_method_66_code 22 = .ok (.ifCond .eq 14, 3) := by decide +kernel
theorem d_jdk_42_method_66_code_25 : decode jdk_42_method_66_code 25 = .ok (.aload_n 0, 1) := by decide +kernel
theorem d_jdk_42_method_66_code_26 : decode jdk_42_method_66_code 26 = .ok (.getfield 15, 3) := by decide +kernel
theorem d_jdk_42_method_66_code_29 : decode jdk_42_method_66_code 29 = .ok (.aload_n 2, 1) := by decide +kernel
theorem d_jdk_42_method_66_code_30 : decode jdk_42_method_66_code 30 = .ok (.getfield 15, 3) := by decide +kernel
theorem d_jdk_42_method_66_code_33 : decode jdk_42_method_66_code 33 = .ok (.if_icmp .ne 21, 3) := by decide +kernel
theorem d_jdk_42_method_66_code_36 : decode jdk_42_method_66_code 36 = .ok (.aload_n 0, 1) := by decide +kernel
theorem d_jdk_42_method_66_code_37 : decode jdk_42_method_66_code 37 = .ok (.getfield 9, 3) := by decide +kernel
theorem d_jdk_42_method_66_code_40 : decode jdk_42_method_66_code 40 = .ok (.aload_n 2, 1) := by decide +kernel
theorem d_jdk_42_method_66_code_41 : decode jdk_42_method_66_code 41 = .ok (.getfield 9, 3) := by decide +kernel
theorem pd__ABAB_r_Z : parseMethodDescriptor "([B[B)Z" = some ⟨[(.array .byte), (.array .byte)], some .boolean⟩ := by decide +kernel
theorem d_jdk_42_method_66_code_44 : decode jdk_42_method_66_code 44 = .ok (.invokestatic 541, 3) := by decide +kernel
theorem d_jdk_42_method_66_code_47 : decode jdk_42_method_66_code 47 = .ok (.ifCond .eq 7, 3) := by decide +kernel
theorem d_jdk_42_method_66_code_50 : decode jdk_42_method_66_code 50 = .ok (.iconst 1, 1) := by decide +kernel
theorem d_jdk_42_method_66_code_51 : decode jdk_42_method_66_code 51 = .ok (.goto 4, 3) := by decide +kernel
theorem d_jdk_42_method_66_code_55 : decode jdk_42_method_66_code 55 = .ok (.ireturn, 1) := by decide +kernel
theorem ef_jdk_42_method_66_codeRR (m : MethodId) (z0 : Addr) (z1 : Addr) : entryFrame m #[(.ref z0), (.ref z1)] 3 = mkF m 0 #[.val (.ref z0), .val (.ref z1), .unset] [] := by first | (simp [entryFrame, mkF, argsToLocals, Value.category]; done) | rfl
set_option maxRecDepth 65536 in
set_option maxHeartbeats 40000000 in
theorem rm_eq_True_True (l : Launch) (Z : State) (a0 : Array Value) (hw : ∀ d ∈ tables_1, d.before a0 Z = true) (a b t u : Addr) (k k' : ClassId) (G1 : Int32) (h0 : Heap) (n0 : Nat) (Z0 : n0 ≤ h0.size) (E : Exa Z h0 a "java/lang/String") (FC : Fld Z h0 a "java/lang/String" "coder" "B" (.int (0 : Int32))) (FV : Fld Z h0 a "java/lang/String" "value" "[B" (.ref t)) (V : Arv Z h0 t k .byte (4 : Int32) [(.int (84 : Int32)), (.int (114 : Int32)), (.int (117 : Int32)), (.int (101 : Int32))] (.int (0 : Int32))) (E' : Exa Z h0 b "java/lang/String") (FC' : Fld Z h0 b "java/lang/String" "coder" "B" (.int (0 : Int32))) (FV' : Fld Z h0 b "java/lang/String" "value" "[B" (.ref u)) (V' : Arv Z h0 u k' .byte (4 : Int32) [(.int (84 : Int32)), (.int (114 : Int32)), (.int (117 : Int32)), (.int (101 : Int32))] (.int (0 : Int32))) (O2 : Sta Z Z.heap "java/lang/String" "COMPACT_STRINGS" "Z" (.int G1)) (P3 : ¬ (G1 = (0 : Int32))) (OL : Old Z n0 h0) :
    own_Met l Z (⟨"java/lang/String", "equals", "(Ljava/lang/Object;)Z"⟩ : MethodName) jdk_42_method_66_code 3 (some .boolean) ({ frames := 1, cells := 0, slots := 0, locals := 14 } : Room) #[(.ref a), (.ref b)] h0 (fun v h L => v = some (.int (1 : Int32)) ∧ Fr n0 L ∧ h = h0) := by
  refine own_body (plainFor_of_name pn_java_lang_String) ?_
  intro p e s m below meth c T0 X0 e0 hx hby hml hown hnm hret hlk hZ
  replace hown : s.vm.findClass "java/lang/String" = some m.cls := hown
  have N0 := Fr.nil n0
  refine own_of (fun tt_ kk_ => castTop (ef_jdk_42_method_66_codeRR m a b) kk_) ?_
  show own_Ends _ _ _ _ _ _ (T0.setTop (mkF m 0 #[.val (.ref a), .val (.ref b), .unset] []))
  refine own_of (fun tt_ kk_ => XS.aloadN X0.here hx rfl (hb hby d_jdk_42_method_66_code_0) rfl rfl kk_) ?_
  show own_Ends _ _ _ _ _ _ (T0.setTop (mkF m 1 #[.val (.ref a), .val (.ref b), .unset] [(.ref a)]))
  refine own_of (fun tt_ kk_ => XS.aloadN X0.here hx rfl (hb hby d_jdk_42_method_66_code_1) rfl rfl kk_) ?_
  show own_Ends _ _ _ _ _ _ (T0.setTop (mkF m 2 #[.val (.ref a), .val (.ref b), .unset] [(.ref b), (.ref a)]))
  by_cases hc74 : a = b
  · refine own_of (fun tt_ kk_ => Jvm.RoadKit.acmp (g := (mkF m 2 #[.val (.ref a), .val (.ref b), .unset] [(.ref b), (.ref a)])) X0 hx rfl rfl rfl (pc0 := 2) (pc' := 5) (same := true) rfl (hb hby d_jdk_42_method_66_code_2) rfl (decide_eq_true (congrArg Value.ref hc74)) (by decide) (by decide) kk_) ?_
    show own_Ends _ _ _ _ _ _ (T0.setTop (mkF m 5 #[.val (.ref a), .val (.ref b), .unset] []))
    refine own_of (fun tt_ kk_ => XS.iconst X0.here hx rfl (hb hby d_jdk_42_method_66_code_5) kk_) ?_
    show own_Ends _ _ _ _ _ _ (T0.setTop (mkF m 6 #[.val (.ref a), .val (.ref b), .unset] [(.int (1 : Int32))]))
    refine own_retN X0 hx hlk e0 (t := .boolean) hret (by simp) (z' := (1 : Int32)) rfl (hb hby d_jdk_42_method_66_code_6) (by decide) (by decide) ?_
    exact ⟨rfl, N0, rfl⟩
  · refine own_of (fun tt_ kk_ => Jvm.RoadKit.acmp (g := (mkF m 2 #[.val (.ref a), .val (.ref b), .unset] [(.ref b), (.ref a)])) X0 hx rfl rfl rfl (pc0 := 2) (pc' := 7) (same := false) rfl (hb hby d_jdk_42_method_66_code_2) rfl (decide_eq_false fun q => hc74 (Value.ref.inj q)) (by decide) (by decide) kk_) ?_
    show own_Ends _ _ _ _ _ _ (T0.setTop (mkF m 7 #[.val (.ref a), .val (.ref b), .unset] []))
    refine own_of (fun tt_ kk_ => XS.aloadN X0.here hx rfl (hb hby d_jdk_42_method_66_code_7) rfl rfl kk_) ?_
    show own_Ends _ _ _ _ _ _ (T0.setTop (mkF m 8 #[.val (.ref a), .val (.ref b), .unset] [(.ref b)]))
    obtain ⟨T75, X75, e75, st75⟩ := instY X0 hx hZ hown (hw _ (List.mem_of_getElem? (i := 26) rfl)) e0 (Ins.self E') (g := (mkF m 8 #[.val (.ref a), .val (.ref b), .unset] [(.ref b)])) rfl rfl (hb hby d_jdk_42_method_66_code_8)
    refine own_of st75 ?_
    show own_Ends _ _ _ _ _ _ (T75.setTop (mkF m 11 #[.val (.ref a), .val (.ref b), .unset] [(.int (1 : Int32))]))
    refine own_of (fun tt_ kk_ => XS.ifNo X75.here hx rfl (hb hby d_jdk_42_method_66_code_11) rfl ((if0 _ _).trans (feq (by decide : ¬ ((1 : Int32) = (0 : Int32)))).1) kk_) ?_
    show own_Ends _ _ _ _ _ _ (T75.setTop (mkF m 14 #[.val (.ref a), .val (.ref b), .unset] []))
    refine own_of (fun tt_ kk_ => XS.aloadN X75.here hx rfl (hb hby d_jdk_42_method_66_code_14) rfl rfl kk_) ?_
    show own_Ends _ _ _ _ _ _ (T75.setTop (mkF m 15 #[.val (.ref a), .val (.ref b), .unset] [(.ref b)]))
    obtain ⟨T76, X76, e76, st76⟩ := castY X75 hx hZ hown (hw _ (List.mem_of_getElem? (i := 26) rfl)) e75 (Ins.self E') (g := (mkF m 15 #[.val (.ref a), .val (.ref b), .unset] [(.ref b)])) rfl rfl (hb hby d_jdk_42_method_66_code_15)
    refine own_of st76 ?_
    show own_Ends _ _ _ _ _ _ (T76.setTop (mkF m 18 #[.val (.ref a), .val (.ref b), .unset] [(.ref b)]))
    refine own_of (fun tt_ kk_ => XS.astoreN X76.here hx rfl (hb hby d_jdk_42_method_66_code_18) rfl rfl (l' := #[.val (.ref a), .val (.ref b), .val (.ref b)]) rfl kk_) ?_
    show own_Ends _ _ _ _ _ _ (T76.setTop (mkF m 19 #[.val (.ref a), .val (.ref b), .val (.ref b)] []))
    obtain ⟨T77, X77, e77, st77⟩ := getS2 X76 hx hZ hown (host := "") (Or.inl (hw _ (List.mem_of_getElem? (i := 21) rfl))) Via.refl e76 (O2.ext OL.2) (g := (mkF m 19 #[.val (.ref a), .val (.ref b), .val (.ref b)] [])) rfl (hb hby d_jdk_42_method_66_code_19)
    refine own_of st77 ?_
    show own_Ends _ _ _ _ _ _ (T77.setTop (mkF m 22 #[.val (.ref a), .val (.ref b), .val (.ref b)] [(.int G1)]))
    refine own_of (fun tt_ kk_ => XS.ifNo X77.here hx rfl (hb hby d_jdk_42_method_66_code_22) rfl ((if0 _ _).trans (feq P3).1) kk_) ?_
    show own_Ends _ _ _ _ _ _ (T77.setTop (mkF m 25 #[.val (.ref a), .val (.ref b), .val (.ref b)] []))
    refine own_of (fun tt_ kk_ => XS.aloadN X77.here hx rfl (hb hby d_jdk_42_method_66_code_25) rfl rfl kk_) ?_
    show own_Ends _ _ _ _ _ _ (T77.setTop (mkF m 26 #[.val (.ref a), .val (.ref b), .val (.ref b)] [(.ref a)]))
    obtain ⟨T78, X78, e78, st78⟩ := getF X77 hx hZ hown (host := "") (Or.inl (hw _ (List.mem_of_getElem? (i := 38) rfl))) Via.refl e77 FC (g := (mkF m 26 #[.val (.ref a), .val (.ref b), .val (.ref b)] [(.ref a)])) rfl rfl (hb hby d_jdk_42_method_66_code_26)
    refine own_of st78 ?_
    show own_Ends _ _ _ _ _ _ (T78.setTop (mkF m 29 #[.val (.ref a), .val (.ref b), .val (.ref b)] [(.int (0 : Int32))]))
    refine own_of (fun tt_ kk_ => XS.aloadN X78.here hx rfl (hb hby d_jdk_42_method_66_code_29) rfl rfl kk_) ?_
    show own_Ends _ _ _ _ _ _ (T78.setTop (mkF m 30 #[.val (.ref a), .val (.ref b), .val (.ref b)] [(.ref b), (.int (0 : Int32))]))
    obtain ⟨T79, X79, e79, st79⟩ := getF X78 hx hZ hown (host := "") (Or.inl (hw _ (List.mem_of_getElem? (i := 38) rfl))) Via.refl e78 FC' (g := (mkF m 30 #[.val (.ref a), .val (.ref b), .val (.ref b)] [(.ref b), (.int (0 : Int32))])) rfl rfl (hb hby d_jdk_42_method_66_code_30)
    refine own_of st79 ?_
    show own_Ends _ _ _ _ _ _ (T79.setTop (mkF m 33 #[.val (.ref a), .val (.ref b), .val (.ref b)] [(.int (0 : Int32)), (.int (0 : Int32))]))
    refine own_of (fun tt_ kk_ => XS.icmpNo X79.here hx rfl (hb hby d_jdk_42_method_66_code_33) rfl (teq (by decide : ((0 : Int32) = (0 : Int32)))).2 kk_) ?_
    show own_Ends _ _ _ _ _ _ (T79.setTop (mkF m 36 #[.val (.ref a), .val (.ref b), .val (.ref b)] []))
    refine own_of (fun tt_ kk_ => XS.aloadN X79.here hx rfl (hb hby d_jdk_42_method_66_code_36) rfl rfl kk_) ?_
    show own_Ends _ _ _ _ _ _ (T79.setTop (mkF m 37 #[.val (.ref a), .val (.ref b), .val (.ref b)] [(.ref a)]))
    obtain ⟨T80, X80, e80, st80⟩ := getF X79 hx hZ hown (host := "") (Or.inl (hw _ (List.mem_of_getElem? (i := 37) rfl))) Via.refl e79 FV (g := (mkF m 37 #[.val (.ref a), .val (.ref b), .val (.ref b)] [(.ref a)])) rfl rfl (hb hby d_jdk_42_method_66_code_37)
    refine own_of st80 ?_
    show own_Ends _ _ _ _ _ _ (T80.setTop (mkF m 40 #[.val (.ref a), .val (.ref b), .val (.ref b)] [(.ref t)]))
    refine own_of (fun tt_ kk_ => XS.aloadN X80.here hx rfl (hb hby d_jdk_42_method_66_code_40) rfl rfl kk_) ?_
    show own_Ends _ _ _ _ _ _ (T80.setTop (mkF m 41 #[.val (.ref a), .val (.ref b), .val (.ref b)] [(.ref b), (.ref t)]))
    obtain ⟨T81, X81, e81, st81⟩ := getF X80 hx hZ hown (host := "") (Or.inl (hw _ (List.mem_of_getElem? (i := 37) rfl))) Via.refl e80 FV' (g := (mkF m 41 #[.val (.ref a), .val (.ref b), .val (.ref b)] [(.ref b), (.ref t)])) rfl rfl (hb hby d_jdk_42_method_66_code_41)
    refine own_of st81 ?_
    show own_Ends _ _ _ _ _ _ (T81.setTop (mkF m 44 #[.val (.ref a), .val (.ref b), .val (.ref b)] [(.ref u), (.ref t)]))
    obtain ⟨v82, T82, L82, h82, X82, e82, Q82, st82⟩ := own_static X81 hx hZ hown e81 (hw _ (List.mem_of_getElem? (i := 121) rfl)) (hw _ (List.mem_of_getElem? (i := 122) rfl)) (hw _ (List.mem_of_getElem? (i := 24) rfl)) (hw _ (List.mem_of_getElem? (i := 123) rfl)) (by decide) (argsL := [(.ref t), (.ref u)]) (rest := []) (rm_eq1_True_True l Z a0 hw t u k k' h0 n0 Z0 V V') (g := (mkF m 44 #[.val (.ref a), .val (.ref b), .val (.ref b)] [(.ref u), (.ref t)])) rfl (by rw [hml]; rfl) (lenOf pd__ABAB_r_Z rfl) rfl (by decide) (Nat.le_of_ble_eq_true rfl) (by decide) (by decide) (hb hby d_jdk_42_method_66_code_44)
    obtain ⟨rfl, Nq82, q82⟩ := Q82
    replace e82 := e82.trans q82
    have N82 := Fr.app N0 Nq82
    refine own_of st82 ?_
    show own_Ends _ _ _ _ _ _ (T82.setTop (mkF m 47 #[.val (.ref a), .val (.ref b), .val (.ref b)] [(.int (1 : Int32))]))
    refine own_of (fun tt_ kk_ => XS.ifNo X82.here hx rfl (hb hby d_jdk_42_method_66_code_47) rfl ((if0 _ _).trans (feq (by decide : ¬ ((1 : Int32) = (0 : Int32)))).1) kk_) ?_
    show own_Ends _ _ _ _ _ _ (T82.setTop (mkF m 50 #[.val (.ref a), .val (.ref b), .val (.ref b)] []))
    refine own_of (fun tt_ kk_ => XS.iconst X82.here hx rfl (hb hby d_jdk_42_method_66_code_50) kk_) ?_
    show own_Ends _ _ _ _ _ _ (T82.setTop (mkF m 51 #[.val (.ref a), .val (.ref b), .val (.ref b)] [(.int (1 : Int32))]))
    refine own_of (fun tt_ kk_ => XS.goto X82.here hx rfl (pc0 := 51) (pc' := 55) rfl (hb hby d_jdk_42_method_66_code_51) (by decide) (by decide) kk_) ?_
    show own_Ends _ _ _ _ _ _ (T82.setTop (mkF m 55 #[.val (.ref a), .val (.ref b), .val (.ref b)] [(.int (1 : Int32))]))
    refine own_retN X82 hx hlk e82 (t := .boolean) hret (by simp) (z' := (1 : Int32)) rfl (hb hby d_jdk_42_method_66_code_55) (by decide) (by decide) ?_
    exact ⟨rfl, N82, rfl⟩
set_option maxRecDepth 65536 in
set_option maxHeartbeats 40000000 in
theorem rm_eq1_False_False (l : Launch) (Z : State) (a0 : Array Value) (hw : ∀ d ∈ tables_1, d.before a0 Z = true) (t u : Addr) (k k' : ClassId) (h0 : Heap) (n0 : Nat) (Z0 : n0 ≤ h0.size) (V : Arv Z h0 t k .byte (5 : Int32) [(.int (70 : Int32)), (.int (97 : Int32)), (.int (108 : Int32)), (.int (115 : Int32)), (.int (101 : Int32))] (.int (0 : Int32))) (V' : Arv Z h0 u k' .byte (5 : Int32) [(.int (70 : Int32)), (.int (97 : Int32)), (.int (108 : Int32)), (.int (115 : Int32)), (.int (101 : Int32))] (.int (0 : Int32))) :
    own_Met l Z (⟨"java/lang/StringLatin1", "equals", "([B[B)Z"⟩ : MethodName) jdk_43_method_13_code 3 (some .boolean) ({ frames := 0, cells := 0, slots := 0, locals := 0 } : Room) #[(.ref t), (.ref u)] h0 (fun v h L => v = some (.int (1 : Int32)) ∧ Fr n0 L ∧ h = h0) := by
  refine own_body (plainFor_of_name pn_java_lang_StringLatin1) ?_
  intro p e s m below meth c T0 X0 e0 hx hby hml hown hnm hret hlk hZ
  replace hown : s.vm.findClass "java/lang/StringLatin1" = some m.cls := hown
  have N0 := Fr.nil n0
  refine own_of (fun tt_ kk_ => castTop (ef_jdk_43_method_13_codeRR m t u) kk_) ?_
  show own_Ends _ _ _ _ _ _ (T0.setTop (mkF m 0 #[.val (.ref t), .val (.ref u), .unset] []))
  refine own_of (fun tt_ kk_ => XS.aloadN X0.here hx rfl (hb hby d_jdk_43_method_13_code_0) rfl rfl kk_) ?_
  show own_Ends _ _ _ _ _ _ (T0.setTop (mkF m 1 #[.val (.ref t), .val (.ref u), .unset] [(.ref t)]))
  obtain ⟨cl83, Ar83, -, S83, N83', -, -⟩ := id V
  refine own_of (fun tt_ kk_ => X0.arraylength hx (by rw [e0]; exact Ar83.1) (State.isArrayOf_alike hZ.alike Ar83.2.1) (g := (mkF m 1 #[.val (.ref t), .val (.ref u), .unset] [(.ref t)])) rfl rfl (hb hby d_jdk_43_method_13_code_1) _ kk_) ?_
  rw [len_of S83 N83']
  show own_Ends _ _ _ _ _ _ (T0.setTop (mkF m 2 #[.val (.ref t), .val (.ref u), .unset] [(.int (5 : Int32))]))
  refine own_of (fun tt_ kk_ => XS.aloadN X0.here hx rfl (hb hby d_jdk_43_method_13_code_2) rfl rfl kk_) ?_
  show own_Ends _ _ _ _ _ _ (T0.setTop (mkF m 3 #[.val (.ref t), .val (.ref u), .unset] [(.ref u), (.int (5 : Int32))]))
  obtain ⟨cl84, Ar84, -, S84, N84', -, -⟩ := id V'
  refine own_of (fun tt_ kk_ => X0.arraylength hx (by rw [e0]; exact Ar84.1) (State.isArrayOf_alike hZ.alike Ar84.2.1) (g := (mkF m 3 #[.val (.ref t), .val (.ref u), .unset] [(.ref u), (.int (5 : Int32))])) rfl rfl (hb hby d_jdk_43_method_13_code_3) _ kk_) ?_
  rw [len_of S84 N84']
  show own_Ends _ _ _ _ _ _ (T0.setTop (mkF m 4 #[.val (.ref t), .val (.ref u), .unset] [(.int (5 : Int32)), (.int (5 : Int32))]))
  refine own_of (fun tt_ kk_ => XS.icmpNo X0.here hx rfl (hb hby d_jdk_43_method_13_code_4) rfl (teq (by decide : ((5 : Int32) = (5 : Int32)))).2 kk_) ?_
  show own_Ends _ _ _ _ _ _ (T0.setTop (mkF m 7 #[.val (.ref t), .val (.ref u), .unset] []))
  refine own_of (fun tt_ kk_ => XS.iconst X0.here hx rfl (hb hby d_jdk_43_method_13_code_7) kk_) ?_
  show own_Ends _ _ _ _ _ _ (T0.setTop (mkF m 8 #[.val (.ref t), .val (.ref u), .unset] [(.int (0 : Int32))]))
  refine own_of (fun tt_ kk_ => XS.istoreN X0.here hx rfl (hb hby d_jdk_43_method_13_code_8) rfl (l' := #[.val (.ref t), .val (.ref u), .val (.int (0 : Int32))]) rfl kk_) ?_
  show own_Ends _ _ _ _ _ _ (T0.setTop (mkF m 9 #[.val (.ref t), .val (.ref u), .val (.int (0 : Int32))] []))
  refine own_of (fun tt_ kk_ => XS.iloadN X0.here hx rfl (hb hby d_jdk_43_method_13_code_9) rfl  kk_) ?_
  show own_Ends _ _ _ _ _ _ (T0.setTop (mkF m 10 #[.val (.ref t), .val (.ref u), .val (.int (0 : Int32))] [(.int (0 : Int32))]))
  refine own_of (fun tt_ kk_ => XS.aloadN X0.here hx rfl (hb hby d_jdk_43_method_13_code_10) rfl rfl kk_) ?_
  show own_Ends _ _ _ _ _ _ (T0.setTop (mkF m 11 #[.val (.ref t), .val (.ref u), .val (.int (0 : Int32))] [(.ref t), (.int (0 : Int32))]))
  obtain ⟨cl85, Ar85, -, S85, N85', -, -⟩ := id V
  refine own_of (fun tt_ kk_ => X0.arraylength hx (by rw [e0]; exact Ar85.1) (State.isArrayOf_alike hZ.alike Ar85.2.1) (g := (mkF m 11 #[.val (.ref t), .val (.ref u), .val (.int (0 : Int32))] [(.ref t), (.int (0 : Int32))])) rfl rfl (hb hby d_jdk_43_method_13_code_11) _ kk_) ?_
  rw [len_of S85 N85']
  show own_Ends _ _ _ _ _ _ (T0.setTop (mkF m 12 #[.val (.ref t), .val (.ref u), .val (.int (0 : Int32))] [(.int (5 : Int32)), (.int (0 : Int32))]))
  refine own_of (fun tt_ kk_ => XS.icmpNo X0.here hx rfl (hb hby d_jdk_43_method_13_code_12) rfl (tlt (by decide : ((0 : Int32) < (5 : Int32)))).2.1 kk_) ?_
  show own_Ends _ _ _ _ _ _ (T0.setTop (mkF m 15 #[.val (.ref t), .val (.ref u), .val (.int (0 : Int32))] []))
  refine own_of (fun tt_ kk_ => XS.aloadN X0.here hx rfl (hb hby d_jdk_43_method_13_code_15) rfl rfl kk_) ?_
  show own_Ends _ _ _ _ _ _ (T0.setTop (mkF m 16 #[.val (.ref t), .val (.ref u), .val (.int (0 : Int32))] [(.ref t)]))
  refine own_of (fun tt_ kk_ => XS.iloadN X0.here hx rfl (hb hby d_jdk_43_method_13_code_16) rfl  kk_) ?_
  show own_Ends _ _ _ _ _ _ (T0.setTop (mkF m 17 #[.val (.ref t), .val (.ref u), .val (.int (0 : Int32))] [(.int (0 : Int32)), (.ref t)]))
  obtain ⟨cl86, Ar86, q86, S86, N86', H86, G86⟩ := id V
  have hin86 : ¬ ((0 : Int32) < 0 ∨ cl86.slots.size ≤ ((0 : Int32)).toNatClampNeg) := inb_of S86 ⟨by decide, by decide⟩
  have hat86 : cl86.slots[((0 : Int32)).toNatClampNeg]? = some (.int (70 : Int32)) := H86.at hin86 rfl
  refine own_of (fun tt_ kk_ => X0.baloadBytes hx (j := (0 : Int32)) (v := (.int (70 : Int32))) (by rw [e0]; exact Ar86.1) (State.isArrayOf_alike hZ.alike Ar86.2.1) Ar86.2.2 hin86 hat86 (g := (mkF m 17 #[.val (.ref t), .val (.ref u), .val (.int (0 : Int32))] [(.int (0 : Int32)), (.ref t)])) rfl rfl (hb hby d_jdk_43_method_13_code_17) _ kk_) ?_
  show own_Ends _ _ _ _ _ _ (T0.setTop (mkF m 18 #[.val (.ref t), .val (.ref u), .val (.int (0 : Int32))] [(.int (70 : Int32))]))
  refine own_of (fun tt_ kk_ => XS.aloadN X0.here hx rfl (hb hby d_jdk_43_method_13_code_18) rfl rfl kk_) ?_
  show own_Ends _ _ _ _ _ _ (T0.setTop (mkF m 19 #[.val (.ref t), .val (.ref u), .val (.int (0 : Int32))] [(.ref u), (.int (70 : Int32))]))
  refine own_of (fun tt_ kk_ => XS.iloadN X0.here hx rfl (hb hby d_jdk_43_method_13_code_19) rfl  kk_) ?_
  show own_Ends _ _ _ _ _ _ (T0.setTop (mkF m 20 #[.val (.ref t), .val (.ref u), .val (.int (0 : Int32))] [(.int (0 : Int32)), (.ref u), (.int (70 : Int32))]))
  obtain ⟨cl87, Ar87, q87, S87, N87', H87, G87⟩ := id V'
  have hin87 : ¬ ((0 : Int32) < 0 ∨ cl87.slots.size ≤ ((0 : Int32)).toNatClampNeg) := inb_of S87 ⟨by decide, by decide⟩
  have hat87 : cl87.slots[((0 : Int32)).toNatClampNeg]? = some (.int (70 : Int32)) := H87.at hin87 rfl
  refine own_of (fun tt_ kk_ => X0.baloadBytes hx (j := (0 : Int32)) (v := (.int (70 : Int32))) (by rw [e0]; exact Ar87.1) (State.isArrayOf_alike hZ.alike Ar87.2.1) Ar87.2.2 hin87 hat87 (g := (mkF m 20 #[.val (.ref t), .val (.ref u), .val (.int (0 : Int32))] [(.int (0 : Int32)), (.ref u), (.int (70 : Int32))])) rfl rfl (hb hby d_jdk_43_method_13_code_20) _ kk_) ?_
  show own_Ends _ _ _ _ _ _ (T0.setTop (mkF m 21 #[.val (.ref t), .val (.ref u), .val (.int (0 : Int32))] [(.int (70 : Int32)), (.int (70 : Int32))]))
  refine own_of (fun tt_ kk_ => XS.icmpYes X0.here hx rfl (pc0 := 21) (pc' := 26) rfl (hb hby d_jdk_43_method_13_code_21) rfl (teq (by decide : ((70 : Int32) = (70 : Int32)))).1 (by decide) (by decide) kk_) ?_
  show own_Ends _ _ _ _ _ _ (T0.setTop (mkF m 26 #[.val (.ref t), .val (.ref u), .val (.int (0 : Int32))] []))
  refine own_of (fun tt_ kk_ => XS.iinc X0.here hx rfl (hb hby d_jdk_43_method_13_code_26) rfl (l' := #[.val (.ref t), .val (.ref u), .val (.int (1 : Int32))]) rfl kk_) ?_
  show own_Ends _ _ _ _ _ _ (T0.setTop (mkF m 29 #[.val (.ref t), .val (.ref u), .val (.int (1 : Int32))] []))
  refine own_of (fun tt_ kk_ => XS.goto X0.here hx rfl (pc0 := 29) (pc' := 9) rfl (hb hby d_jdk_43_method_13_code_29) (by decide) (by decide) kk_) ?_
  show own_Ends _ _ _ _ _ _ (T0.setTop (mkF m 9 #[.val (.ref t), .val (.ref u), .val (.int (1 : Int32))] []))
  refine own_of (fun tt_ kk_ => XS.iloadN X0.here hx rfl (hb hby d_jdk_43_method_13_code_9) rfl  kk_) ?_
  show own_Ends _ _ _ _ _ _ (T0.setTop (mkF m 10 #[.val (.ref t), .val (.ref u), .val (.int (1 : Int32))] [(.int (1 : Int32))]))
  refine own_of (fun tt_ kk_ => XS.aloadN X0.here hx rfl (hb hby d_jdk_43_method_13_code_10) rfl rfl kk_) ?_
  show own_Ends _ _ _ _ _ _ (T0.setTop (mkF m 11 #[.val (.ref t), .val (.ref u), .val (.int (1 : Int32))] [(.ref t), (.int (1 : Int32))]))
  obtain ⟨cl88, Ar88, -, S88, N88', -, -⟩ := id V
  refine own_of (fun tt_ kk_ => X0.arraylength hx (by rw [e0]; exact Ar88.1) (State.isArrayOf_alike hZ.alike Ar88.2.1) (g := (mkF m 11 #[.val (.ref t), .val (.ref u), .val (.int (1 : Int32))] [(.ref t), (.int (1 : Int32))])) rfl rfl (hb hby d_jdk_43_method_13_code_11) _ kk_) ?_
  rw [len_of S88 N88']
  show own_Ends _ _ _ _ _ _ (T0.setTop (mkF m 12 #[.val (.ref t), .val (.ref u), .val (.int (1 : Int32))] [(.int (5 : Int32)), (.int (1 : Int32))]))
  refine own_of (fun tt_ kk_ => XS.icmpNo X0.here hx rfl (hb hby d_jdk_43_method_13_code_12) rfl (tlt (by decide : ((1 : Int32) < (5 : Int32)))).2.1 kk_) ?_
  show own_Ends _ _ _ _ _ _ (T0.setTop (mkF m 15 #[.val (.ref t), .val (.ref u), .val (.int (1 : Int32))] []))
  refine own_of (fun tt_ kk_ => XS.aloadN X0.here hx rfl (hb hby d_jdk_43_method_13_code_15) rfl rfl kk_) ?_
  show own_Ends _ _ _ _ _ _ (T0.setTop (mkF m 16 #[.val (.ref t), .val (.ref u), .val (.int (1 : Int32))] [(.ref t)]))
  refine own_of (fun tt_ kk_ => XS.iloadN X0.here hx rfl (hb hby d_jdk_43_method_13_code_16) rfl  kk_) ?_
  show own_Ends _ _ _ _ _ _ (T0.setTop (mkF m 17 #[.val (.ref t), .val (.ref u), .val (.int (1 : Int32))] [(.int (1 : Int32)), (.ref t)]))
  obtain ⟨cl89, Ar89, q89, S89, N89', H89, G89⟩ := id V
  have hin89 : ¬ ((1 : Int32) < 0 ∨ cl89.slots.size ≤ ((1 : Int32)).toNatClampNeg) := inb_of S89 ⟨by decide, by decide⟩
  have hat89 : cl89.slots[((1 : Int32)).toNatClampNeg]? = some (.int (97 : Int32)) := H89.at hin89 rfl
  refine own_of (fun tt_ kk_ => X0.baloadBytes hx (j := (1 : Int32)) (v := (.int (97 : Int32))) (by rw [e0]; exact Ar89.1) (State.isArrayOf_alike hZ.alike Ar89.2.1) Ar89.2.2 hin89 hat89 (g := (mkF m 17 #[.val (.ref t), .val (.ref u), .val (.int (1 : Int32))] [(.int (1 : Int32)), (.ref t)])) rfl rfl (hb hby d_jdk_43_method_13_code_17) _ kk_) ?_
  show own_Ends _ _ _ _ _ _ (T0.setTop (mkF m 18 #[.val (.ref t), .val (.ref u), .val (.int (1 : Int32))] [(.int (97 : Int32))]))
  refine own_of (fun tt_ kk_ => XS.aloadN X0.here hx rfl (hb hby d_jdk_43_method_13_code_18) rfl rfl kk_) ?_
  show own_Ends _ _ _ _ _ _ (T0.setTop (mkF m 19 #[.val (.ref t), .val (.ref u), .val (.int (1 : Int32))] [(.ref u), (.int (97 : Int32))]))
  refine own_of (fun tt_ kk_ => XS.iloadN X0.here hx rfl (hb hby d_jdk_43_method_13_code_19) rfl  kk_) ?_
  show own_Ends _ _ _ _ _ _ (T0.setTop (mkF m 20 #[.val (.ref t), .val (.ref u), .val (.int (1 : Int32))] [(.int (1 : Int32)), (.ref u), (.int (97 : Int32))]))
  obtain ⟨cl90, Ar90, q90, S90, N90', H90, G90⟩ := id V'
  have hin90 : ¬ ((1 : Int32) < 0 ∨ cl90.slots.size ≤ ((1 : Int32)).toNatClampNeg) := inb_of S90 ⟨by decide, by decide⟩
  have hat90 : cl90.slots[((1 : Int32)).toNatClampNeg]? = some (.int (97 : Int32)) := H90.at hin90 rfl
  refine own_of (fun tt_ kk_ => X0.baloadBytes hx (j := (1 : Int32)) (v := (.int (97 : Int32))) (by rw [e0]; exact Ar90.1) (State.isArrayOf_alike hZ.alike Ar90.2.1) Ar90.2.2 hin90 hat90 (g := (mkF m 20 #[.val (.ref t), .val (.ref u), .val (.int (1 : Int32))] [(.int (1 : Int32)), (.ref u), (.int (97 : Int32))])) rfl rfl (hb hby d_jdk_43_method_13_code_20) _ kk_) ?_
  show own_Ends _ _ _ _ _ _ (T0.setTop (mkF m 21 #[.val (.ref t), .val (.ref u), .val (.int (1 : Int32))] [(.int (97 : Int32)), (.int (97 : Int32))]))
  refine own_of (fun tt_ kk_ => XS.icmpYes X0.here hx rfl (pc0 := 21) (pc' := 26) rfl (hb hby d_jdk_43_method_13_code_21) rfl (teq (by decide : ((97 : Int32) = (97 : Int32)))).1 (by decide) (by decide) kk_) ?_
  show own_Ends _ _ _ _ _ _ (T0.setTop (mkF m 26 #[.val (.ref t), .val (.ref u), .val (.int (1 : Int32))] []))
  refine own_of (fun tt_ kk_ => XS.iinc X0.here hx rfl (hb hby d_jdk_43_method_13_code_26) rfl (l' := #[.val (.ref t), .val (.ref u), .val (.int (2 : Int32))]) rfl kk_) ?_
  show own_Ends _ _ _ _ _ _ (T0.setTop (mkF m 29 #[.val (.ref t), .val (.ref u), .val (.int (2 : Int32))] []))
  refine own_of (fun tt_ kk_ => XS.goto X0.here hx rfl (pc0 := 29) (pc' := 9) rfl (hb hby d_jdk_43_method_13_code_29) (by decide) (by decide) kk_) ?_
  show own_Ends _ _ _ _ _ _ (T0.setTop (mkF m 9 #[.val (.ref t), .val (.ref u), .val (.int (2 : Int32))] []))
  refine own_of (fun tt_ kk_ => XS.iloadN X0.here hx rfl (hb hby d_jdk_43_method_13_code_9) rfl  kk_) ?_
  show own_Ends _ _ _ _ _ _ (T0.setTop (mkF m 10 #[.val (.ref t), .val (.ref u), .val (.int (2 : Int32))] [(.int (2 : Int32))]))
  refine own_of (fun tt_ kk_ => XS.aloadN X0.here hx rfl (hb hby d_jdk_43_method_13_code_10) rfl rfl kk_) ?_
  show own_Ends _ _ _ _ _ _ (T0.setTop (mkF m 11 #[.val (.ref t), .val (.ref u), .val (.int (2 : Int32))] [(.ref t), (.int (2 : Int32))]))
  obtain ⟨cl91, Ar91, -, S91, N91', -, -⟩ := id V
  refine own_of (fun tt_ kk_ => X0.arraylength hx (by rw [e0]; exact Ar91.1) (State.isArrayOf_alike hZ.alike Ar91.2.1) (g := (mkF m 11 #[.val (.ref t), .val (.ref u), .val (.int (2 : Int32))] [(.ref t), (.int (2 : Int32))])) rfl rfl (hb hby d_jdk_43_method_13_code_11) _ kk_) ?_
  rw [len_of S91 N91']
  show own_Ends _ _ _ _ _ _ (T0.setTop (mkF m 12 #[.val (.ref t), .val (.ref u), .val (.int (2 : Int32))] [(.int (5 : Int32)), (.int (2 : Int32))]))
  refine own_of (fun tt_ kk_ => XS.icmpNo X0.here hx rfl (hb hby d_jdk_43_method_13_code_12) rfl (tlt (by decide : ((2 : Int32) < (5 : Int32)))).2.1 kk_) ?_
  show own_Ends _ _ _ _ _ _ (T0.setTop (mkF m 15 #[.val (.ref t), .val (.ref u), .val (.int (2 : Int32))] []))
  refine own_of (fun tt_ kk_ => XS.aloadN X0.here hx rfl (hb hby d_jdk_43_method_13_code_15) rfl rfl kk_) ?_
  show own_Ends _ _ _ _ _ _ (T0.setTop (mkF m 16 #[.val (.ref t), .val (.ref u), .val (.int (2 : Int32))] [(.ref t)]))
  refine own_of (fun tt_ kk_ => XS.iloadN X0.here hx rfl (hb hby d_jdk_43_method_13_code_16) rfl  kk_) ?_
  show own_Ends _ _ _ _ _ _ (T0.setTop (mkF m 17 #[.val (.ref t), .val (.ref u), .val (.int (2 : Int32))] [(.int (2 : Int32)), (.ref t)]))
  obtain ⟨cl92, Ar92, q92, S92, N92', H92, G92⟩ := id V
  have hin92 : ¬ ((2 : Int32) < 0 ∨ cl92.slots.size ≤ ((2 : Int32)).toNatClampNeg) := inb_of S92 ⟨by decide, by decide⟩
  have hat92 : cl92.slots[((2 : Int32)).toNatClampNeg]? = some (.int (108 : Int32)) := H92.at hin92 rfl
  refine own_of (fun tt_ kk_ => X0.baloadBytes hx (j := (2 : Int32)) (v := (.int (108 : Int32))) (by rw [e0]; exact Ar92.1) (State.isArrayOf_alike hZ.alike Ar92.2.1) Ar92.2.2 hin92 hat92 (g := (mkF m 17 #[.val (.ref t), .val (.ref u), .val (.int (2 : Int32))] [(.int (2 : Int32)), (.ref t)])) rfl rfl (hb hby d_jdk_43_method_13_code_17) _ kk_) ?_
  show own_Ends _ _ _ _ _ _ (T0.setTop (mkF m 18 #[.val (.ref t), .val (.ref u), .val (.int (2 : Int32))] [(.int (108 : Int32))]))
  refine own_of (fun tt_ kk_ => XS.aloadN X0.here hx rfl (hb hby d_jdk_43_method_13_code_18) rfl rfl kk_) ?_
  show own_Ends _ _ _ _ _ _ (T0.setTop (mkF m 19 #[.val (.ref t), .val (.ref u), .val (.int (2 : Int32))] [(.ref u), (.int (108 : Int32))]))
  refine own_of (fun tt_ kk_ => XS.iloadN X0.here hx rfl (hb hby d_jdk_43_method_13_code_19) rfl  kk_) ?_
  show own_Ends _ _ _ _ _ _ (T0.setTop (mkF m 20 #[.val (.ref t), .val (.ref u), .val (.int (2 : Int32))] [(.int (2 : Int32)), (.ref u), (.int (108 : Int32))]))
  obtain ⟨cl93, Ar93, q93, S93, N93', H93, G93⟩ := id V'
  have hin93 : ¬ ((2 : Int32) < 0 ∨ cl93.slots.size ≤ ((2 : Int32)).toNatClampNeg) := inb_of S93 ⟨by decide, by decide⟩
  have hat93 : cl93.slots[((2 : Int32)).toNatClampNeg]? = some (.int (108 : Int32)) := H93.at hin93 rfl
  refine own_of (fun tt_ kk_ => X0.baloadBytes hx (j := (2 : Int32)) (v := (.int (108 : Int32))) (by rw [e0]; exact Ar93.1) (State.isArrayOf_alike hZ.alike Ar93.2.1) Ar93.2.2 hin93 hat93 (g := (mkF m 20 #[.val (.ref t), .val (.ref u), .val (.int (2 : Int32))] [(.int (2 : Int32)), (.ref u), (.int (108 : Int32))])) rfl rfl (hb hby d_jdk_43_method_13_code_20) _ kk_) ?_
  show own_Ends _ _ _ _ _ _ (T0.setTop (mkF m 21 #[.val (.ref t), .val (.ref u), .val (.int (2 : Int32))] [(.int (108 : Int32)), (.int (108 : Int32))]))
  refine own_of (fun tt_ kk_ => XS.icmpYes X0.here hx rfl (pc0 := 21) (pc' := 26) rfl (hb hby d_jdk_43_method_13_code_21) rfl (teq (by decide : ((108 : Int32) = (108 : Int32)))).1 (by decide) (by decide) kk_) ?_
  show own_Ends _ _ _ _ _ _ (T0.setTop (mkF m 26 #[.val (.ref t), .val (.ref u), .val (.int (2 : Int32))] []))
  refine own_of (fun tt_ kk_ => XS.iinc X0.here hx rfl (hb hby d_jdk_43_method_13_code_26) rfl (l' := #[.val (.ref t), .val (.ref u), .val (.int (3 : Int32))]) rfl kk_) ?_
  show own_Ends _ _ _ _ _ _ (T0.setTop (mkF m 29 #[.val (.ref t), .val (.ref u), .val (.int (3 : Int32))] []))
  refine own_of (fun tt_ kk_ => XS.goto X0.here hx rfl (pc0 := 29) (pc' := 9) rfl (hb hby d_jdk_43_method_13_code_29) (by decide) (by decide) kk_) ?_
  show own_Ends _ _ _ _ _ _ (T0.setTop (mkF m 9 #[.val (.ref t), .val (.ref u), .val (.int (3 : Int32))] []))
  refine own_of (fun tt_ kk_ => XS.iloadN X0.here hx rfl (hb hby d_jdk_43_method_13_code_9) rfl  kk_) ?_
  show own_Ends _ _ _ _ _ _ (T0.setTop (mkF m 10 #[.val (.ref t), .val (.ref u), .val (.int (3 : Int32))] [(.int (3 : Int32))]))
  refine own_of (fun tt_ kk_ => XS.aloadN X0.here hx rfl (hb hby d_jdk_43_method_13_code_10) rfl rfl kk_) ?_
  show own_Ends _ _ _ _ _ _ (T0.setTop (mkF m 11 #[.val (.ref t), .val (.ref u), .val (.int (3 : Int32))] [(.ref t), (.int (3 : Int32))]))
  obtain ⟨cl94, Ar94, -, S94, N94', -, -⟩ := id V
  refine own_of (fun tt_ kk_ => X0.arraylength hx (by rw [e0]; exact Ar94.1) (State.isArrayOf_alike hZ.alike Ar94.2.1) (g := (mkF m 11 #[.val (.ref t), .val (.ref u), .val (.int (3 : Int32))] [(.ref t), (.int (3 : Int32))])) rfl rfl (hb hby d_jdk_43_method_13_code_11) _ kk_) ?_
  rw [len_of S94 N94']
  show own_Ends _ _ _ _ _ _ (T0.setTop (mkF m 12 #[.val (.ref t), .val (.ref u), .val (.int (3 : Int32))] [(.int (5 : Int32)), (.int (3 : Int32))]))
  refine own_of (fun tt_ kk_ => XS.icmpNo X0.here hx rfl (hb hby d_jdk_43_method_13_code_12) rfl (tlt (by decide : ((3 : Int32) < (5 : Int32)))).2.1 kk_) ?_
  show own_Ends _ _ _ _ _ _ (T0.setTop (mkF m 15 #[.val (.ref t), .val (.ref u), .val (.int (3 : Int32))] []))
  refine own_of (fun tt_ kk_ => XS.aloadN X0.here hx rfl (hb hby d_jdk_43_method_13_code_15) rfl rfl kk_) ?_
  show own_Ends _ _ _ _ _ _ (T0.setTop (mkF m 16 #[.val (.ref t), .val (.ref u), .val (.int (3 : Int32))] [(.ref t)]))
  refine own_of (fun tt_ kk_ => XS.iloadN X0.here hx rfl (hb hby d_jdk_43_method_13_code_16) rfl  kk_) ?_
  show own_Ends _ _ _ _ _ _ (T0.setTop (mkF m 17 #[.val (.ref t), .val (.ref u), .val (.int (3 : Int32))] [(.int (3 : Int32)), (.ref t)]))
  obtain ⟨cl95, Ar95, q95, S95, N95', H95, G95⟩ := id V
  have hin95 : ¬ ((3 : Int32) < 0 ∨ cl95.slots.size ≤ ((3 : Int32)).toNatClampNeg) := inb_of S95 ⟨by decide, by decide⟩
  have hat95 : cl95.slots[((3 : Int32)).toNatClampNeg]? = some (.int (115 : Int32)) := H95.at hin95 rfl
  refine own_of (fun tt_ kk_ => X0.baloadBytes hx (j := (3 : Int32)) (v := (.int (115 : Int32))) (by rw [e0]; exact Ar95.1) (State.isArrayOf_alike hZ.alike Ar95.2.1) Ar95.2.2 hin95 hat95 (g := (mkF m 17 #[.val (.ref t), .val (.ref u), .val (.int (3 : Int32))] [(.int (3 : Int32)), (.ref t)])) rfl rfl (hb hby d_jdk_43_method_13_code_17) _ kk_) ?_
  show own_Ends _ _ _ _ _ _ (T0.setTop (mkF m 18 #[.val (.ref t), .val (.ref u), .val (.int (3 : Int32))] [(.int (115 : Int32))]))
  refine own_of (fun tt_ kk_ => XS.aloadN X0.here hx rfl (hb hby d_jdk_43_method_13_code_18) rfl rfl kk_) ?_
  show own_Ends _ _ _ _ _ _ (T0.setTop (mkF m 19 #[.val (.ref t), .val (.ref u), .val (.int (3 : Int32))] [(.ref u), (.int (115 : Int32))]))
  refine own_of (fun tt_ kk_ => XS.iloadN X0.here hx rfl (hb hby d_jdk_43_method_13_code_19) rfl  kk_) ?_
  show own_Ends _ _ _ _ _ _ (T0.setTop (mkF m 20 #[.val (.ref t), .val (.ref u), .val (.int (3 : Int32))] [(.int (3 : Int32)), (.ref u), (.int (115 : Int32))]))
  obtain ⟨cl96, Ar96, q96, S96, N96', H96, G96⟩ := id V'
  have hin96 : ¬ ((3 : Int32) < 0 ∨ cl96.slots.size ≤ ((3 : Int32)).toNatClampNeg) := inb_of S96 ⟨by decide, by decide⟩
  have hat96 : cl96.slots[((3 : Int32)).toNatClampNeg]? = some (.int (115 : Int32)) := H96.at hin96 rfl
  refine own_of (fun tt_ kk_ => X0.baloadBytes hx (j := (3 : Int32)) (v := (.int (115 : Int32))) (by rw [e0]; exact Ar96.1) (State.isArrayOf_alike hZ.alike Ar96.2.1) Ar96.2.2 hin96 hat96 (g := (mkF m 20 #[.val (.ref t), .val (.ref u), .val (.int (3 : Int32))] [(.int (3 : Int32)), (.ref u), (.int (115 : Int32))])) rfl rfl (hb hby d_jdk_43_method_13_code_20) _ kk_) ?_
  show own_Ends _ _ _ _ _ _ (T0.setTop (mkF m 21 #[.val (.ref t), .val (.ref u), .val (.int (3 : Int32))] [(.int (115 : Int32)), (.int (115 : Int32))]))
  refine own_of (fun tt_ kk_ => XS.icmpYes X0.here hx rfl (pc0 := 21) (pc' := 26) rfl (hb hby d_jdk_43_method_13_code_21) rfl (teq (by decide : ((115 : Int32) = (115 : Int32)))).1 (by decide) (by decide) kk_) ?_
  show own_Ends _ _ _ _ _ _ (T0.setTop (mkF m 26 #[.val (.ref t), .val (.ref u), .val (.int (3 : Int32))] []))
  refine own_of (fun tt_ kk_ => XS.iinc X0.here hx rfl (hb hby d_jdk_43_method_13_code_26) rfl (l' := #[.val (.ref t), .val (.ref u), .val (.int (4 : Int32))]) rfl kk_) ?_
  show own_Ends _ _ _ _ _ _ (T0.setTop (mkF m 29 #[.val (.ref t), .val (.ref u), .val (.int (4 : Int32))] []))
  refine own_of (fun tt_ kk_ => XS.goto X0.here hx rfl (pc0 := 29) (pc' := 9) rfl (hb hby d_jdk_43_method_13_code_29) (by decide) (by decide) kk_) ?_
  show own_Ends _ _ _ _ _ _ (T0.setTop (mkF m 9 #[.val (.ref t), .val (.ref u), .val (.int (4 : Int32))] []))
  refine own_of (fun tt_ kk_ => XS.iloadN X0.here hx rfl (hb hby d_jdk_43_method_13_code_9) rfl  kk_) ?_
  show own_Ends _ _ _ _ _ _ (T0.setTop (mkF m 10 #[.val (.ref t), .val (.ref u), .val (.int (4 : Int32))] [(.int (4 : Int32))]))
  refine own_of (fun tt_ kk_ => XS.aloadN X0.here hx rfl (hb hby d_jdk_43_method_13_code_10) rfl rfl kk_) ?_
  show own_Ends _ _ _ _ _ _ (T0.setTop (mkF m 11 #[.val (.ref t), .val (.ref u), .val (.int (4 : Int32))] [(.ref t), (.int (4 : Int32))]))
  obtain ⟨cl97, Ar97, -, S97, N97', -, -⟩ := id V
  refine own_of (fun tt_ kk_ => X0.arraylength hx (by rw [e0]; exact Ar97.1) (State.isArrayOf_alike hZ.alike Ar97.2.1) (g := (mkF m 11 #[.val (.ref t), .val (.ref u), .val (.int (4 : Int32))] [(.ref t), (.int (4 : Int32))])) rfl rfl (hb hby d_jdk_43_method_13_code_11) _ kk_) ?_
  rw [len_of S97 N97']
  show own_Ends _ _ _ _ _ _ (T0.setTop (mkF m 12 #[.val (.ref t), .val (.ref u), .val (.int (4 : Int32))] [(.int (5 : Int32)), (.int (4 : Int32))]))
  refine own_of (fun tt_ kk_ => XS.icmpNo X0.here hx rfl (hb hby d_jdk_43_method_13_code_12) rfl (tlt (by decide : ((4 : Int32) < (5 : Int32)))).2.1 kk_) ?_
  show own_Ends _ _ _ _ _ _ (T0.setTop (mkF m 15 #[.val (.ref t), .val (.ref u), .val (.int (4 : Int32))] []))
  refine own_of (fun tt_ kk_ => XS.aloadN X0.here hx rfl (hb hby d_jdk_43_method_13_code_15) rfl rfl kk_) ?_
  show own_Ends _ _ _ _ _ _ (T0.setTop (mkF m 16 #[.val (.ref t), .val (.ref u), .val (.int (4 : Int32))] [(.ref t)]))
  refine own_of (fun tt_ kk_ => XS.iloadN X0.here hx rfl (hb hby d_jdk_43_method_13_code_16) rfl  kk_) ?_
  show own_Ends _ _ _ _ _ _ (T0.setTop (mkF m 17 #[.val (.ref t), .val (.ref u), .val (.int (4 : Int32))] [(.int (4 : Int32)), (.ref t)]))
  obtain ⟨cl98, Ar98, q98, S98, N98', H98, G98⟩ := id V
  have hin98 : ¬ ((4 : Int32) < 0 ∨ cl98.slots.size ≤ ((4 : Int32)).toNatClampNeg) := inb_of S98 ⟨by decide, by decide⟩
  have hat98 : cl98.slots[((4 : Int32)).toNatClampNeg]? = some (.int (101 : Int32)) := H98.at hin98 rfl
  refine own_of (fun tt_ kk_ => X0.baloadBytes hx (j := (4 : Int32)) (v := (.int (101 : Int32))) (by rw [e0]; exact Ar98.1) (State.isArrayOf_alike hZ.alike Ar98.2.1) Ar98.2.2 hin98 hat98 (g := (mkF m 17 #[.val (.ref t), .val (.ref u), .val (.int (4 : Int32))] [(.int (4 : Int32)), (.ref t)])) rfl rfl (hb hby d_jdk_43_method_13_code_17) _ kk_) ?_
  show own_Ends _ _ _ _ _ _ (T0.setTop (mkF m 18 #[.val (.ref t), .val (.ref u), .val (.int (4 : Int32))] [(.int (101 : Int32))]))
  refine own_of (fun tt_ kk_ => XS.aloadN X0.here hx rfl (hb hby d_jdk_43_method_13_code_18) rfl rfl kk_) ?_
  show own_Ends _ _ _ _ _ _ (T0.setTop (mkF m 19 #[.val (.ref t), .val (.ref u), .val (.int (4 : Int32))] [(.ref u), (.int (101 : Int32))]))
  refine own_of (fun tt_ kk_ => XS.iloadN X0.here hx rfl (hb hby d_jdk_43_method_13_code_19) rfl  kk_) ?_
  show own_Ends _ _ _ _ _ _ (T0.setTop (mkF m 20 #[.val (.ref t), .val (.ref u), .val (.int (4 : Int32))] [(.int (4 : Int32)), (.ref u), (.int (101 : Int32))]))
  obtain ⟨cl99, Ar99, q99, S99, N99', H99, G99⟩ := id V'
  have hin99 : ¬ ((4 : Int32) < 0 ∨ cl99.slots.size ≤ ((4 : Int32)).toNatClampNeg) := inb_of S99 ⟨by decide, by decide⟩
  have hat99 : cl99.slots[((4 : Int32)).toNatClampNeg]? = some (.int (101 : Int32)) := H99.at hin99 rfl
  refine own_of (fun tt_ kk_ => X0.baloadBytes hx (j := (4 : Int32)) (v := (.int (101 : Int32))) (by rw [e0]; exact Ar99.1) (State.isArrayOf_alike hZ.alike Ar99.2.1) Ar99.2.2 hin99 hat99 (g := (mkF m 20 #[.val (.ref t), .val (.ref u), .val (.int (4 : Int32))] [(.int (4 : Int32)), (.ref u), (.int (101 : Int32))])) rfl rfl (hb hby d_jdk_43_method_13_code_20) _ kk_) ?_
  show own_Ends _ _ _ _ _ _ (T0.setTop (mkF m 21 #[.val (.ref t), .val (.ref u), .val (.int (4 : Int32))] [(.int (101 : Int32)), (.int (101 : Int32))]))
  refine own_of (fun tt_ kk_ => XS.icmpYes X0.here hx rfl (pc0 := 21) (pc' := 26) rfl (hb hby d_jdk_43_method_13_code_21) rfl (teq (by decide : ((101 : Int32) = (101 : Int32)))).1 (by decide) (by decide) kk_) ?_
  show own_Ends _ _ _ _ _ _ (T0.setTop (mkF m 26 #[.val (.ref t), .val (.ref u), .val (.int (4 : Int32))] []))
  refine own_of (fun tt_ kk_ => XS.iinc X0.here hx rfl (hb hby d_jdk_43_method_13_code_26) rfl (l' := #[.val (.ref t), .val (.ref u), .val (.int (5 : Int32))]) rfl kk_) ?_
  show own_Ends _ _ _ _ _ _ (T0.setTop (mkF m 29 #[.val (.ref t), .val (.ref u), .val (.int (5 : Int32))] []))
  refine own_of (fun tt_ kk_ => XS.goto X0.here hx rfl (pc0 := 29) (pc' := 9) rfl (hb hby d_jdk_43_method_13_code_29) (by decide) (by decide) kk_) ?_
  show own_Ends _ _ _ _ _ _ (T0.setTop (mkF m 9 #[.val (.ref t), .val (.ref u), .val (.int (5 : Int32))] []))
  refine own_of (fun tt_ kk_ => XS.iloadN X0.here hx rfl (hb hby d_jdk_43_method_13_code_9) rfl  kk_) ?_
  show own_Ends _ _ _ _ _ _ (T0.setTop (mkF m 10 #[.val (.ref t), .val (.ref u), .val (.int (5 : Int32))] [(.int (5 : Int32))]))
  refine own_of (fun tt_ kk_ => XS.aloadN X0.here hx rfl (hb hby d_jdk_43_method_13_code_10) rfl rfl kk_) ?_
  show own_Ends _ _ _ _ _ _ (T0.setTop (mkF m 11 #[.val (.ref t), .val (.ref u), .val (.int (5 : Int32))] [(.ref t), (.int (5 : Int32))]))
  obtain ⟨cl100, Ar100, -, S100, N100', -, -⟩ := id V
  refine own_of (fun tt_ kk_ => X0.arraylength hx (by rw [e0]; exact Ar100.1) (State.isArrayOf_alike hZ.alike Ar100.2.1) (g := (mkF m 11 #[.val (.ref t), .val (.ref u), .val (.int (5 : Int32))] [(.ref t), (.int (5 : Int32))])) rfl rfl (hb hby d_jdk_43_method_13_code_11) _ kk_) ?_
  rw [len_of S100 N100']
  show own_Ends _ _ _ _ _ _ (T0.setTop (mkF m 12 #[.val (.ref t), .val (.ref u), .val (.int (5 : Int32))] [(.int (5 : Int32)), (.int (5 : Int32))]))
  refine own_of (fun tt_ kk_ => XS.icmpYes X0.here hx rfl (pc0 := 12) (pc' := 32) rfl (hb hby d_jdk_43_method_13_code_12) rfl (flt (by decide : ¬ ((5 : Int32) < (5 : Int32)))).2.1 (by decide) (by decide) kk_) ?_
  show own_Ends _ _ _ _ _ _ (T0.setTop (mkF m 32 #[.val (.ref t), .val (.ref u), .val (.int (5 : Int32))] []))
  refine own_of (fun tt_ kk_ => XS.iconst X0.here hx rfl (hb hby d_jdk_43_method_13_code_32) kk_) ?_
  show own_Ends _ _ _ _ _ _ (T0.setTop (mkF m 33 #[.val (.ref t), .val (.ref u), .val (.int (5 : Int32))] [(.int (1 : Int32))]))
  refine own_retN X0 hx hlk e0 (t := .boolean) hret (by simp) (z' := (1 : Int32)) rfl (hb hby d_jdk_43_method_13_code_33) (by decide) (by decide) ?_
  exact ⟨rfl, N0, rfl⟩
set_option maxRecDepth 65536 in
set_option maxHeartbeats 40000000 in
theorem rm_eq_False_False (l : Launch) (Z : State) (a0 : Array Value) (hw : ∀ d ∈ tables_1, d.before a0 Z = true) (a b t u : Addr) (k k' : ClassId) (G1 : Int32) (h0 : Heap) (n0 : Nat) (Z0 : n0 ≤ h0.size) (E : Exa Z h0 a "java/lang/String") (FC : Fld Z h0 a "java/lang/String" "coder" "B" (.int (0 : Int32))) (FV : Fld Z h0 a "java/lang/String" "value" "[B" (.ref t)) (V : Arv Z h0 t k .byte (5 : Int32) [(.int (70 : Int32)), (.int (97 : Int32)), (.int (108 : Int32)), (.int (115 : Int32)), (.int (101 : Int32))] (.int (0 : Int32))) (E' : Exa Z h0 b "java/lang/String") (FC' : Fld Z h0 b "java/lang/String" "coder" "B" (.int (0 : Int32))) (FV' : Fld Z h0 b "java/lang/String" "value" "[B" (.ref u)) (V' : Arv Z h0 u k' .byte (5 : Int32) [(.int (70 : Int32)), (.int (97 : Int32)), (.int (108 : Int32)), (.int (115 : Int32)), (.int (101 : Int32))] (.int (0 : Int32))) (O2 : Sta Z Z.heap "java/lang/String" "COMPACT_STRINGS" "Z" (.int G1)) (P3 : ¬ (G1 = (0 : Int32))) (OL : Old Z n0 h0) :
    own_Met l Z (⟨"java/lang/String", "equals", "(Ljava/lang/Object;)Z"⟩ : MethodName) jdk_42_method_66_code 3 (some .boolean) ({ frames := 1, cells := 0, slots := 0, locals := 14 } : Room) #[(.ref a), (.ref b)] h0 (fun v h L => v = some (.int (1 : Int32)) ∧ Fr n0 L ∧ h = h0) := by
  refine own_body (plainFor_of_name pn_java_lang_String) ?_
  intro p e s m below meth c T0 X0 e0 hx hby hml hown hnm hret hlk hZ
  replace hown : s.vm.findClass "java/lang/String" = some m.cls := hown
  have N0 := Fr.nil n0
  refine own_of (fun tt_ kk_ => castTop (ef_jdk_42_method_66_codeRR m a b) kk_) ?_
  show own_Ends _ _ _ _ _ _ (T0.setTop (mkF m 0 #[.val (.ref a), .val (.ref b), .unset] []))
  refine own_of (fun tt_ kk_ => XS.aloadN X0.here hx rfl (hb hby d_jdk_42_method_66_code_0) rfl rfl kk_) ?_
  show own_Ends _ _ _ _ _ _ (T0.setTop (mkF m 1 #[.val (.ref a), .val (.ref b), .unset] [(.ref a)]))
  refine own_of (fun tt_ kk_ => XS.aloadN X0.here hx rfl (hb hby d_jdk_42_method_66_code_1) rfl rfl kk_) ?_
  show own_Ends _ _ _ _ _ _ (T0.setTop (mkF m 2 #[.val (.ref a), .val (.ref b), .unset] [(.ref b), (.ref a)]))
  by_cases hc101 : a = b
  · refine own_of (fun tt_ kk_ => Jvm.RoadKit.acmp (g := (mkF m 2 #[.val (.ref a), .val (.ref b), .unset] [(.ref b), (.ref a)])) X0 hx rfl rfl rfl (pc0 := 2) (pc' := 5) (same := true) rfl (hb hby d_jdk_42_method_66_code_2) rfl (decide_eq_true (congrArg Value.ref hc101)) (by decide) (by decide) kk_) ?_
    show own_Ends _ _ _ _ _ _ (T0.setTop (mkF m 5 #[.val (.ref a), .val (.ref b), .unset] []))
    refine own_of (fun tt_ kk_ => XS.iconst X0.here hx rfl (hb hby d_jdk_42_method_66_code_5) kk_) ?_
    show own_Ends _ _ _ _ _ _ (T0.setTop (mkF m 6 #[.val (.ref a), .val (.ref b), .unset] [(.int (1 : Int32))]))
    refine own_retN X0 hx hlk e0 (t := .boolean) hret (by simp) (z' := (1 : Int32)) rfl (hb hby d_jdk_42_method_66_code_6) (by decide) (by decide) ?_
    exact ⟨rfl, N0, rfl⟩
  · refine own_of (fun tt_ kk_ => Jvm.RoadKit.acmp (g := (mkF m 2 #[.val (.ref a), .val (.ref b), .unset] [(.ref b), (.ref a)])) X0 hx rfl rfl rfl (pc0 := 2) (pc' := 7) (same := false) rfl (hb hby d_jdk_42_method_66_code_2) rfl (decide_eq_false fun q => hc101 (Value.ref.inj q)) (by decide) (by decide) kk_) ?_
    show own_Ends _ _ _ _ _ _ (T0.setTop (mkF m 7 #[.val (.ref a), .val (.ref b), .unset] []))
    refine own_of (fun tt_ kk_ => XS.aloadN X0.here hx rfl (hb hby d_jdk_42_method_66_code_7) rfl rfl kk_) ?_
    show own_Ends _ _ _ _ _ _ (T0.setTop (mkF m 8 #[.val (.ref a), .val (.ref b), .unset] [(.ref b)]))
    obtain ⟨T102, X102, e102, st102⟩ := instY X0 hx hZ hown (hw _ (List.mem_of_getElem? (i := 26) rfl)) e0 (Ins.self E') (g := (mkF m 8 #[.val (.ref a), .val (.ref b), .unset] [(.ref b)])) rfl rfl (hb hby d_jdk_42_method_66_code_8)
    refine own_of st102 ?_
    show own_Ends _ _ _ _ _ _ (T102.setTop (mkF m 11 #[.val (.ref a), .val (.ref b), .unset] [(.int (1 : Int32))]))
    refine own_of (fun tt_ kk_ => XS.ifNo X102.here hx rfl (hb hby d_jdk_42_method_66_code_11) rfl ((if0 _ _).trans (feq (by decide : ¬ ((1 : Int32) = (0 : Int32)))).1) kk_) ?_
    show own_Ends _ _ _ _ _ _ (T102.setTop (mkF m 14 #[.val (.ref a), .val (.ref b), .unset] []))
    refine own_of (fun tt_ kk_ => XS.aloadN X102.here hx rfl (hb hby d_jdk_42_method_66_code_14) rfl rfl kk_) ?_
    show own_Ends _ _ _ _ _ _ (T102.setTop (mkF m 15 #[.val (.ref a), .val (.ref b), .unset] [(.ref b)]))
    obtain ⟨T103, X103, e103, st103⟩ := castY X102 hx hZ hown (hw _ (List.mem_of_getElem? (i := 26) rfl)) e102 (Ins.self E') (g := (mkF m 15 #[.val (.ref a), .val (.ref b), .unset] [(.ref b)])) rfl rfl (hb hby d_jdk_42_method_66_code_15)
    refine own_of st103 ?_
    show own_Ends _ _ _ _ _ _ (T103.setTop (mkF m 18 #[.val (.ref a), .val (.ref b), .unset] [(.ref b)]))
    refine own_of (fun tt_ kk_ => XS.astoreN X103.here hx rfl (hb hby d_jdk_42_method_66_code_18) rfl rfl (l' := #[.val (.ref a), .val (.ref b), .val (.ref b)]) rfl kk_) ?_
    show own_Ends _ _ _ _ _ _ (T103.setTop (mkF m 19 #[.val (.ref a), .val (.ref b), .val (.ref b)] []))
    obtain ⟨T104, X104, e104, st104⟩ := getS2 X103 hx hZ hown (host := "") (Or.inl (hw _ (List.mem_of_getElem? (i := 21) rfl))) Via.refl e103 (O2.ext OL.2) (g := (mkF m 19 #[.val (.ref a), .val (.ref b), .val (.ref b)] [])) rfl (hb hby d_jdk_42_method_66_code_19)
    refine own_of st104 ?_
    show own_Ends _ _ _ _ _ _ (T104.setTop (mkF m 22 #[.val (.ref a), .val (.ref b), .val (.ref b)] [(.int G1)]))
    refine own_of (fun tt_ kk_ => XS.ifNo X104.here hx rfl (hb hby d_jdk_42_method_66_code_22) rfl ((if0 _ _).trans (feq P3).1) kk_) ?_
    show own_Ends _ _ _ _ _ _ (T104.setTop (mkF m 25 #[.val (.ref a), .val (.ref b), .val (.ref b)] []))
    refine own_of (fun tt_ kk_ => XS.aloadN X104.here hx rfl (hb hby d_jdk_42_method_66_code_25) rfl rfl kk_) ?_
    show own_Ends _ _ _ _ _ _ (T104.setTop (mkF m 26 #[.val (.ref a), .val (.ref b), .val (.ref b)] [(.ref a)]))
    obtain ⟨T105, X105, e105, st105⟩ := getF X104 hx hZ hown (host := "") (Or.inl (hw _ (List.mem_of_getElem? (i := 38) rfl))) Via.refl e104 FC (g := (mkF m 26 #[.val (.ref a), .val (.ref b), .val (.ref b)] [(.ref a)])) rfl rfl (hb hby d_jdk_42_method_66_code_26)
    refine own_of st105 ?_
    show own_Ends _ _ _ _ _ _ (T105.setTop (mkF m 29 #[.val (.ref a), .val (.ref b), .val (.ref b)] [(.int (0 : Int32))]))
    refine own_of (fun tt_ kk_ => XS.aloadN X105.here hx rfl (hb hby d_jdk_42_method_66_code_29) rfl rfl kk_) ?_
    show own_Ends _ _ _ _ _ _ (T105.setTop (mkF m 30 #[.val (.ref a), .val (.ref b), .val (.ref b)] [(.ref b), (.int (0 : Int32))]))
    obtain ⟨T106, X106, e106, st106⟩ := getF X105 hx hZ hown (host := "") (Or.inl (hw _ (List.mem_of_getElem? (i := 38) rfl))) Via.refl e105 FC' (g := (mkF m 30 #[.val (.ref a), .val (.ref b), .val (.ref b)] [(.ref b), (.int (0 : Int32))])) rfl rfl (hb hby d_jdk_42_method_66_code_30)
    refine own_of st106 ?_
    show own_Ends _ _ _ _ _ _ (T106.setTop (mkF m 33 #[.val (.ref a), .val (.ref b), .val (.ref b)] [(.int (0 : Int32)), (.int (0 : Int32))]))
    refine own_of (fun tt_ kk_ => XS.icmpNo X106.here hx rfl (hb hby d_jdk_42_method_66_code_33) rfl (teq (by decide : ((0 : Int32) = (0 : Int32)))).2 kk_) ?_
    show own_Ends _ _ _ _ _ _ (T106.setTop (mkF m 36 #[.val (.ref a), .val (.ref b), .val (.ref b)] []))
    refine own_of (fun tt_ kk_ => XS.aloadN X106.here hx rfl (hb hby d_jdk_42_method_66_code_36) rfl rfl kk_) ?_
    show own_Ends _ _ _ _ _ _ (T106.setTop (mkF m 37 #[.val (.ref a), .val (.ref b), .val (.ref b)] [(.ref a)]))
    obtain ⟨T107, X107, e107, st107⟩ := getF X106 hx hZ hown (host := "") (Or.inl (hw _ (List.mem_of_getElem? (i := 37) rfl))) Via.refl e106 FV (g := (mkF m 37 #[.val (.ref a), .val (.ref b), .val (.ref b)] [(.ref a)])) rfl rfl (hb hby d_jdk_42_method_66_code_37)
    refine own_of st107 ?_
    show own_Ends _ _ _ _ _ _ (T107.setTop (mkF m 40 #[.val (.ref a), .val (.ref b), .val (.ref b)] [(.ref t)]))
    refine own_of (fun tt_ kk_ => XS.aloadN X107.here hx rfl (hb hby d_jdk_42_method_66_code_40) rfl rfl kk_) ?_
    show own_Ends _ _ _ _ _ _ (T107.setTop (mkF m 41 #[.val (.ref a), .val (.ref b), .val (.ref b)] [(.ref b), (.ref t)]))
    obtain ⟨T108, X108, e108, st108⟩ := getF X107 hx hZ hown (host := "") (Or.inl (hw _ (List.mem_of_getElem? (i := 37) rfl))) Via.refl e107 FV' (g := (mkF m 41 #[.val (.ref a), .val (.ref b), .val (.ref b)] [(.ref b), (.ref t)])) rfl rfl (hb hby d_jdk_42_method_66_code_41)
    refine own_of st108 ?_
    show own_Ends _ _ _ _ _ _ (T108.setTop (mkF m 44 #[.val (.ref a), .val (.ref b), .val (.ref b)] [(.ref u), (.ref t)]))
    obtain ⟨v109, T109, L109, h109, X109, e109, Q109, st109⟩ := own_static X108 hx hZ hown e108 (hw _ (List.mem_of_getElem? (i := 121) rfl)) (hw _ (List.mem_of_getElem? (i := 122) rfl)) (hw _ (List.mem_of_getElem? (i := 24) rfl)) (hw _ (List.mem_of_getElem? (i := 123) rfl)) (by decide) (argsL := [(.ref t), (.ref u)]) (rest := []) (rm_eq1_False_False l Z a0 hw t u k k' h0 n0 Z0 V V') (g := (mkF m 44 #[.val (.ref a), .val (.ref b), .val (.ref b)] [(.ref u), (.ref t)])) rfl (by rw [hml]; rfl) (lenOf pd__ABAB_r_Z rfl) rfl (by decide) (Nat.le_of_ble_eq_true rfl) (by decide) (by decide) (hb hby d_jdk_42_method_66_code_44)
    obtain ⟨rfl, Nq109, q109⟩ := Q109
    replace e109 := e109.trans q109
    have N109 := Fr.app N0 Nq109
    refine own_of st109 ?_
    show own_Ends _ _ _ _ _ _ (T109.setTop (mkF m 47 #[.val (.ref a), .val (.ref b), .val (.ref b)] [(.int (1 : Int32))]))
    refine own_of (fun tt_ kk_ => XS.ifNo X109.here hx rfl (hb hby d_jdk_42_method_66_code_47) rfl ((if0 _ _).trans (feq (by decide : ¬ ((1 : Int32) = (0 : Int32)))).1) kk_) ?_
    show own_Ends _ _ _ _ _ _ (T109.setTop (mkF m 50 #[.val (.ref a), .val (.ref b), .val (.ref b)] []))
    refine own_of (fun tt_ kk_ => XS.iconst X109.here hx rfl (hb hby d_jdk_42_method_66_code_50) kk_) ?_
    show own_Ends _ _ _ _ _ _ (T109.setTop (mkF m 51 #[.val (.ref a), .val (.ref b), .val (.ref b)] [(.int (1 : Int32))]))
    refine own_of (fun tt_ kk_ => XS.goto X109.here hx rfl (pc0 := 51) (pc' := 55) rfl (hb hby d_jdk_42_method_66_code_51) (by decide) (by decide) kk_) ?_
    show own_Ends _ _ _ _ _ _ (T109.setTop (mkF m 55 #[.val (.ref a), .val (.ref b), .val (.ref b)] [(.int (1 : Int32))]))
    refine own_retN X109 hx hlk e109 (t := .boolean) hret (by simp) (z' := (1 : Int32)) rfl (hb hby d_jdk_42_method_66_code_55) (by decide) (by decide) ?_
    exact ⟨rfl, N109, rfl⟩
set_option maxRecDepth 65536 in
set_option maxHeartbeats 40000000 in
theorem rm_eq1_true_true (l : Launch) (Z : State) (a0 : Array Value) (hw : ∀ d ∈ tables_1, d.before a0 Z = true) (t u : Addr) (k k' : ClassId) (h0 : Heap) (n0 : Nat) (Z0 : n0 ≤ h0.size) (V : Arv Z h0 t k .byte (4 : Int32) [(.int (116 : Int32)), (.int (114 : Int32)), (.int (117 : Int32)), (.int (101 : Int32))] (.int (0 : Int32))) (V' : Arv Z h0 u k' .byte (4 : Int32) [(.int (116 : Int32)), (.int (114 : Int32)), (.int (117 : Int32)), (.int (101 : Int32))] (.int (0 : Int32))) :
    own_Met l Z (⟨"java/lang/StringLatin1", "equals", "([B[B)Z"⟩ : MethodName) jdk_43_method_13_code 3 (some .boolean) ({ frames := 0, cells := 0, slots := 0, locals := 0 } : Room) #[(.ref t), (.ref u)] h0 (fun v h L => v = some (.int (1 : Int32)) ∧ Fr n0 L ∧ h = h0) := by
  refine own_body (plainFor_of_name pn_java_lang_StringLatin1) ?_
  intro p e s m below meth c T0 X0 e0 hx hby hml hown hnm hret hlk hZ
  replace hown : s.vm.findClass "java/lang/StringLatin1" = some m.cls := hown
  have N0 := Fr.nil n0
  refine own_of (fun tt_ kk_ => castTop (ef_jdk_43_method_13_codeRR m t u) kk_) ?_
  show own_Ends _ _ _ _ _ _ (T0.setTop (mkF m 0 #[.val (.ref t), .val (.ref u), .unset] []))
  refine own_of (fun tt_ kk_ => XS.aloadN X0.here hx rfl (hb hby d_jdk_43_method_13_code_0) rfl rfl kk_) ?_
  show own_Ends _ _ _ _ _ _ (T0.setTop (mkF m 1 #[.val (.ref t), .val (.ref u), .unset] [(.ref t)]))
  obtain ⟨cl110, Ar110, -, S110, N110', -, -⟩ := id V
  refine own_of (fun tt_ kk_ => X0.arraylength hx (by rw [e0]; exact Ar110.1) (State.isArrayOf_alike hZ.alike Ar110.2.1) (g := (mkF m 1 #[.val (.ref t), .val (.ref u), .unset] [(.ref t)])) rfl rfl (hb hby d_jdk_43_method_13_code_1) _ kk_) ?_
  rw [len_of S110 N110']
  show own_Ends _ _ _ _ _ _ (T0.setTop (mkF m 2 #[.val (.ref t), .val (.ref u), .unset] [(.int (4 : Int32))]))
  refine own_of (fun tt_ kk_ => XS.aloadN X0.here hx rfl (hb hby d_jdk_43_method_13_code_2) rfl rfl kk_) ?_
  show own_Ends _ _ _ _ _ _ (T0.setTop (mkF m 3 #[.val (.ref t), .val (.ref u), .unset] [(.ref u), (.int (4 : Int32))]))
  obtain ⟨cl111, Ar111, -, S111, N111', -, -⟩ := id V'
  refine own_of (fun tt_ kk_ => X0.arraylength hx (by rw [e0]; exact Ar111.1) (State.isArrayOf_alike hZ.alike Ar111.2.1) (g := (mkF m 3 #[.val (.ref t), .val (.ref u), .unset] [(.ref u), (.int (4 : Int32))])) rfl rfl (hb hby d_jdk_43_method_13_code_3) _ kk_) ?_
  rw [len_of S111 N111']
  show own_Ends _ _ _ _ _ _ (T0.setTop (mkF m 4 #[.val (.ref t), .val (.ref u), .unset] [(.int (4 : Int32)), (.int (4 : Int32))]))
  refine own_of (fun tt_ kk_ => XS.icmpNo X0.here hx rfl (hb hby d_jdk_43_method_13_code_4) rfl (teq (by decide : ((4 : Int32) = (4 : Int32)))).2 kk_) ?_
  show own_Ends _ _ _ _ _ _ (T0.setTop (mkF m 7 #[.val (.ref t), .val (.ref u), .unset] []))
  refine own_of (fun tt_ kk_ => XS.iconst X0.here hx rfl (hb hby d_jdk_43_method_13_code_7) kk_) ?_
  show own_Ends _ _ _ _ _ _ (T0.setTop (mkF m 8 #[.val (.ref t), .val (.ref u), .unset] [(.int (0 : Int32))]))
  refine own_of (fun tt_ kk_ => XS.istoreN X0.here hx rfl (hb hby d_jdk_43_method_13_code_8) rfl (l' := #[.val (.ref t), .val (.ref u), .val (.int (0 : Int32))]) rfl kk_) ?_
  show own_Ends _ _ _ _ _ _ (T0.setTop (mkF m 9 #[.val (.ref t), .val (.ref u), .val (.int (0 : Int32))] []))
  refine own_of (fun tt_ kk_ => XS.iloadN X0.here hx rfl (hb hby d_jdk_43_method_13_code_9) rfl  kk_) ?_
  show own_Ends _ _ _ _ _ _ (T0.setTop (mkF m 10 #[.val (.ref t), .val (.ref u), .val (.int (0 : Int32))] [(.int (0 : Int32))]))
  refine own_of (fun tt_ kk_ => XS.aloadN X0.here hx rfl (hb hby d_jdk_43_method_13_code_10) rfl rfl kk_) ?_
  show own_Ends _ _ _ _ _ _ (T0.setTop (mkF m 11 #[.val (.ref t), .val (.ref u), .val (.int (0 : Int32))] [(.ref t), (.int (0 : Int32))]))
  obtain ⟨cl112, Ar112, -, S112, N112', -, -⟩ := id V
  refine own_of (fun tt_ kk_ => X0.arraylength hx (by rw [e0]; exact Ar112.1) (State.isArrayOf_alike hZ.alike Ar112.2.1) (g := (mkF m 11 #[.val (.ref t), .val (.ref u), .val (.int (0 : Int32))] [(.ref t), (.int (0 : Int32))])) rfl rfl (hb hby d_jdk_43_method_13_code_11) _ kk_) ?_
  rw [len_of S112 N112']
  show own_Ends _ _ _ _ _ _ (T0.setTop (mkF m 12 #[.val (.ref t), .val (.ref u), .val (.int (0 : Int32))] [(.int (4 : Int32)), (.int (0 : Int32))]))
  refine own_of (fun tt_ kk_ => XS.icmpNo X0.here hx rfl (hb hby d_jdk_43_method_13_code_12) rfl (tlt (by decide : ((0 : Int32) < (4 : Int32)))).2.1 kk_) ?_
  show own_Ends _ _ _ _ _ _ (T0.setTop (mkF m 15 #[.val (.ref t), .val (.ref u), .val (.int (0 : Int32))] []))
  refine own_of (fun tt_ kk_ => XS.aloadN X0.here hx rfl (hb hby d_jdk_43_method_13_code_15) rfl rfl kk_) ?_
  show own_Ends _ _ _ _ _ _ (T0.setTop (mkF m 16 #[.val (.ref t), .val (.ref u), .val (.int (0 : Int32))] [(.ref t)]))
  refine own_of (fun tt_ kk_ => XS.iloadN X0.here hx rfl (hb hby d_jdk_43_method_13_code_16) rfl  kk_) ?_
  show own_Ends _ _ _ _ _ _ (T0.setTop (mkF m 17 #[.val (.ref t), .val (.ref u), .val (.int (0 : Int32))] [(.int (0 : Int32)), (.ref t)]))
  obtain ⟨cl113, Ar113, q113, S113, N113', H113, G113⟩ := id V
  have hin113 : ¬ ((0 : Int32) < 0 ∨ cl113.slots.size ≤ ((0 : Int32)).toNatClampNeg) := inb_of S113 ⟨by decide, by decide⟩
  have hat113 : cl113.slots[((0 : Int32)).toNatClampNeg]? = some (.int (116 : Int32)) := H113.at hin113 rfl
  refine own_of (fun tt_ kk_ => X0.baloadBytes hx (j := (0 : Int32)) (v := (.int (116 : Int32))) (by rw [e0]; exact Ar113.1) (State.isArrayOf_alike hZ.alike Ar113.2.1) Ar113.2.2 hin113 hat113 (g := (mkF m 17 #[.val (.ref t), .val (.ref u), .val (.int (0 : Int32))] [(.int (0 : Int32)), (.ref t)])) rfl rfl (hb hby d_jdk_43_method_13_code_17) _ kk_) ?_
  show own_Ends _ _ _ _ _ _ (T0.setTop (mkF m 18 #[.val (.ref t), .val (.ref u), .val (.int (0 : Int32))] [(.int (116 : Int32))]))
  refine own_of (fun tt_ kk_ => XS.aloadN X0.here hx rfl (hb hby d_jdk_43_method_13_code_18) rfl rfl kk_) ?_
  show own_Ends _ _ _ _ _ _ (T0.setTop (mkF m 19 #[.val (.ref t), .val (.ref u), .val (.int (0 : Int32))] [(.ref u), (.int (116 : Int32))]))
  refine own_of (fun tt_ kk_ => XS.iloadN X0.here hx rfl (hb hby d_jdk_43_method_13_code_19) rfl  kk_) ?_
  show own_Ends _ _ _ _ _ _ (T0.setTop (mkF m 20 #[.val (.ref t), .val (.ref u), .val (.int (0 : Int32))] [(.int (0 : Int32)), (.ref u), (.int (116 : Int32))]))
  obtain ⟨cl114, Ar114, q114, S114, N114', H114, G114⟩ := id V'
  have hin114 : ¬ ((0 : Int32) < 0 ∨ cl114.slots.size ≤ ((0 : Int32)).toNatClampNeg) := inb_of S114 ⟨by decide, by decide⟩
  have hat114 : cl114.slots[((0 : Int32)).toNatClampNeg]? = some (.int (116 : Int32)) := H114.at hin114 rfl
  refine own_of (fun tt_ kk_ => X0.baloadBytes hx (j := (0 : Int32)) (v := (.int (116 : Int32))) (by rw [e0]; exact Ar114.1) (State.isArrayOf_alike hZ.alike Ar114.2.1) Ar114.2.2 hin114 hat114 (g := (mkF m 20 #[.val (.ref t), .val (.ref u), .val (.int (0 : Int32))] [(.int (0 : Int32)), (.ref u), (.int (116 : Int32))])) rfl rfl (hb hby d_jdk_43_method_13_code_20) _ kk_) ?_
  show own_Ends _ _ _ _ _ _ (T0.setTop (mkF m 21 #[.val (.ref t), .val (.ref u), .val (.int (0 : Int32))] [(.int (116 : Int32)), (.int (116 : Int32))]))
  refine own_of (fun tt_ kk_ => XS.icmpYes X0.here hx rfl (pc0 := 21) (pc' := 26) rfl (hb hby d_jdk_43_method_13_code_21) rfl (teq (by decide : ((116 : Int32) = (116 : Int32)))).1 (by decide) (by decide) kk_) ?_
  show own_Ends _ _ _ _ _ _ (T0.setTop (mkF m 26 #[.val (.ref t), .val (.ref u), .val (.int (0 : Int32))] []))
  refine own_of (fun tt_ kk_ => XS.iinc X0.here hx rfl (hb hby d_jdk_43_method_13_code_26) rfl (l' := #[.val (.ref t), .val (.ref u), .val (.int (1 : Int32))]) rfl kk_) ?_
  show own_Ends _ _ _ _ _ _ (T0.setTop (mkF m 29 #[.val (.ref t), .val (.ref u), .val (.int (1 : Int32))] []))
  refine own_of (fun tt_ kk_ => XS.goto X0.here hx rfl (pc0 := 29) (pc' := 9) rfl (hb hby d_jdk_43_method_13_code_29) (by decide) (by decide) kk_) ?_
  show own_Ends _ _ _ _ _ _ (T0.setTop (mkF m 9 #[.val (.ref t), .val (.ref u), .val (.int (1 : Int32))] []))
  refine own_of (fun tt_ kk_ => XS.iloadN X0.here hx rfl (hb hby d_jdk_43_method_13_code_9) rfl  kk_) ?_
  show own_Ends _ _ _ _ _ _ (T0.setTop (mkF m 10 #[.val (.ref t), .val (.ref u), .val (.int (1 : Int32))] [(.int (1 : Int32))]))
  refine own_of (fun tt_ kk_ => XS.aloadN X0.here hx rfl (hb hby d_jdk_43_method_13_code_10) rfl rfl kk_) ?_
  show own_Ends _ _ _ _ _ _ (T0.setTop (mkF m 11 #[.val (.ref t), .val (.ref u), .val (.int (1 : Int32))] [(.ref t), (.int (1 : Int32))]))
  obtain ⟨cl115, Ar115, -, S115, N115', -, -⟩ := id V
  refine own_of (fun tt_ kk_ => X0.arraylength hx (by rw [e0]; exact Ar115.1) (State.isArrayOf_alike hZ.alike Ar115.2.1) (g := (mkF m 11 #[.val (.ref t), .val (.ref u), .val (.int (1 : Int32))] [(.ref t), (.int (1 : Int32))])) rfl rfl (hb hby d_jdk_43_method_13_code_11) _ kk_) ?_
  rw [len_of S115 N115']
  show own_Ends _ _ _ _ _ _ (T0.setTop (mkF m 12 #[.val (.ref t), .val (.ref u), .val (.int (1 : Int32))] [(.int (4 : Int32)), (.int (1 : Int32))]))
  refine own_of (fun tt_ kk_ => XS.icmpNo X0.here hx rfl (hb hby d_jdk_43_method_13_code_12) rfl (tlt (by decide : ((1 : Int32) < (4 : Int32)))).2.1 kk_) ?_
  show own_Ends _ _ _ _ _ _ (T0.setTop (mkF m 15 #[.val (.ref t), .val (.ref u), .val (.int (1 : Int32))] []))
  refine own_of (fun tt_ kk_ => XS.aloadN X0.here hx rfl (hb hby d_jdk_43_method_13_code_15) rfl rfl kk_) ?_
  show own_Ends _ _ _ _ _ _ (T0.setTop (mkF m 16 #[.val (.ref t), .val (.ref u), .val (.int (1 : Int32))] [(.ref t)]))
  refine own_of (fun tt_ kk_ => XS.iloadN X0.here hx rfl (hb hby d_jdk_43_method_13_code_16) rfl  kk_) ?_
  show own_Ends _ _ _ _ _ _ (T0.setTop (mkF m 17 #[.val (.ref t), .val (.ref u), .val (.int (1 : Int32))] [(.int (1 : Int32)), (.ref t)]))
  obtain ⟨cl116, Ar116, q116, S116, N116', H116, G116⟩ := id V
  have hin116 : ¬ ((1 : Int32) < 0 ∨ cl116.slots.size ≤ ((1 : Int32)).toNatClampNeg) := inb_of S116 ⟨by decide, by decide⟩
  have hat116 : cl116.slots[((1 : Int32)).toNatClampNeg]? = some (.int (114 : Int32)) := H116.at hin116 rfl
  refine own_of (fun tt_ kk_ => X0.baloadBytes hx (j := (1 : Int32)) (v := (.int (114 : Int32))) (by rw [e0]; exact Ar116.1) (State.isArrayOf_alike hZ.alike Ar116.2.1) Ar116.2.2 hin116 hat116 (g := (mkF m 17 #[.val (.ref t), .val (.ref u), .val (.int (1 : Int32))] [(.int (1 : Int32)), (.ref t)])) rfl rfl (hb hby d_jdk_43_method_13_code_17) _ kk_) ?_
  show own_Ends _ _ _ _ _ _ (T0.setTop (mkF m 18 #[.val (.ref t), .val (.ref u), .val (.int (1 : Int32))] [(.int (114 : Int32))]))
  refine own_of (fun tt_ kk_ => XS.aloadN X0.here hx rfl (hb hby d_jdk_43_method_13_code_18) rfl rfl kk_) ?_
  show own_Ends _ _ _ _ _ _ (T0.setTop (mkF m 19 #[.val (.ref t), .val (.ref u), .val (.int (1 : Int32))] [(.ref u), (.int (114 : Int32))]))
  refine own_of (fun tt_ kk_ => XS.iloadN X0.here hx rfl (hb hby d_jdk_43_method_13_code_19) rfl  kk_) ?_
  show own_Ends _ _ _ _ _ _ (T0.setTop (mkF m 20 #[.val (.ref t), .val (.ref u), .val (.int (1 : Int32))] [(.int (1 : Int32)), (.ref u), (.int (114 : Int32))]))
  obtain ⟨cl117, Ar117, q117, S117, N117', H117, G117⟩ := id V'
  have hin117 : ¬ ((1 : Int32) < 0 ∨ cl117.slots.size ≤ ((1 : Int32)).toNatClampNeg) := inb_of S117 ⟨by decide, by decide⟩
  have hat117 : cl117.slots[((1 : Int32)).toNatClampNeg]? = some (.int (114 : Int32)) := H117.at hin117 rfl
  refine own_of (fun tt_ kk_ => X0.baloadBytes hx (j := (1 : Int32)) (v := (.int (114 : Int32))) (by rw [e0]; exact Ar117.1) (State.isArrayOf_alike hZ.alike Ar117.2.1) Ar117.2.2 hin117 hat117 (g := (mkF m 20 #[.val (.ref t), .val (.ref u), .val (.int (1 : Int32))] [(.int (1 : Int32)), (.ref u), (.int (114 : Int32))])) rfl rfl (hb hby d_jdk_43_method_13_code_20) _ kk_) ?_
  show own_Ends _ _ _ _ _ _ (T0.setTop (mkF m 21 #[.val (.ref t), .val (.ref u), .val (.int (1 : Int32))] [(.int (114 : Int32)), (.int (114 : Int32))]))
  refine own_of (fun tt_ kk_ => XS.icmpYes X0.here hx rfl (pc0 := 21) (pc' := 26) rfl (hb hby d_jdk_43_method_13_code_21) rfl (teq (by decide : ((114 : Int32) = (114 : Int32)))).1 (by decide) (by decide) kk_) ?_
  show own_Ends _ _ _ _ _ _ (T0.setTop (mkF m 26 #[.val (.ref t), .val (.ref u), .val (.int (1 : Int32))] []))
  refine own_of (fun tt_ kk_ => XS.iinc X0.here hx rfl (hb hby d_jdk_43_method_13_code_26) rfl (l' := #[.val (.ref t), .val (.ref u), .val (.int (2 : Int32))]) rfl kk_) ?_
  show own_Ends _ _ _ _ _ _ (T0.setTop (mkF m 29 #[.val (.ref t), .val (.ref u), .val (.int (2 : Int32))] []))
  refine own_of (fun tt_ kk_ => XS.goto X0.here hx rfl (pc0 := 29) (pc' := 9) rfl (hb hby d_jdk_43_method_13_code_29) (by decide) (by decide) kk_) ?_
  show own_Ends _ _ _ _ _ _ (T0.setTop (mkF m 9 #[.val (.ref t), .val (.ref u), .val (.int (2 : Int32))] []))
  refine own_of (fun tt_ kk_ => XS.iloadN X0.here hx rfl (hb hby d_jdk_43_method_13_code_9) rfl  kk_) ?_
  show own_Ends _ _ _ _ _ _ (T0.setTop (mkF m 10 #[.val (.ref t), .val (.ref u), .val (.int (2 : Int32))] [(.int (2 : Int32))]))
  refine own_of (fun tt_ kk_ => XS.aloadN X0.here hx rfl (hb hby d_jdk_43_method_13_code_10) rfl rfl kk_) ?_
  show own_Ends _ _ _ _ _ _ (T0.setTop (mkF m 11 #[.val (.ref t), .val (.ref u), .val (.int (2 : Int32))] [(.ref t), (.int (2 : Int32))]))
  obtain ⟨cl118, Ar118, -, S118, N118', -, -⟩ := id V
  refine own_of (fun tt_ kk_ => X0.arraylength hx (by rw [e0]; exact Ar118.1) (State.isArrayOf_alike hZ.alike Ar118.2.1) (g := (mkF m 11 #[.val (.ref t), .val (.ref u), .val (.int (2 : Int32))] [(.ref t), (.int (2 : Int32))])) rfl rfl (hb hby d_jdk_43_method_13_code_11) _ kk_) ?_
  rw [len_of S118 N118']
  show own_Ends _ _ _ _ _ _ (T0.setTop (mkF m 12 #[.val (.ref t), .val (.ref u), .val (.int (2 : Int32))] [(.int (4 : Int32)), (.int (2 : Int32))]))
  refine own_of (fun tt_ kk_ => XS.icmpNo X0.here hx rfl (hb hby d_jdk_43_method_13_code_12) rfl (tlt (by decide : ((2 : Int32) < (4 : Int32)))).2.1 kk_) ?_
  show own_Ends _ _ _ _ _ _ (T0.setTop (mkF m 15 #[.val (.ref t), .val (.ref u), .val (.int (2 : Int32))] []))
  refine own_of (fun tt_ kk_ => XS.aloadN X0.here hx rfl (hb hby d_jdk_43_method_13_code_15) rfl rfl kk_) ?_
  show own_Ends _ _ _ _ _ _ (T0.setTop (mkF m 16 #[.val (.ref t), .val (.ref u), .val (.int (2 : Int32))] [(.ref t)]))
  refine own_of (fun tt_ kk_ => XS.iloadN X0.here hx rfl (hb hby d_jdk_43_method_13_code_16) rfl  kk_) ?_
  show own_Ends _ _ _ _ _ _ (T0.setTop (mkF m 17 #[.val (.ref t), .val (.ref u), .val (.int (2 : Int32))] [(.int (2 : Int32)), (.ref t)]))
  obtain ⟨cl119, Ar119, q119, S119, N119', H119, G119⟩ := id V
  have hin119 : ¬ ((2 : Int32) < 0 ∨ cl119.slots.size ≤ ((2 : Int32)).toNatClampNeg) := inb_of S119 ⟨by decide, by decide⟩
  have hat119 : cl119.slots[((2 : Int32)).toNatClampNeg]? = some (.int (117 : Int32)) := H119.at hin119 rfl
  refine own_of (fun tt_ kk_ => X0.baloadBytes hx (j := (2 : Int32)) (v := (.int (117 : Int32))) (by rw [e0]; exact Ar119.1) (State.isArrayOf_alike hZ.alike Ar119.2.1) Ar119.2.2 hin119 hat119 (g := (mkF m 17 #[.val (.ref t), .val (.ref u), .val (.int (2 : Int32))] [(.int (2 : Int32)), (.ref t)])) rfl rfl (hb hby d_jdk_43_method_13_code_17) _ kk_) ?_
  show own_Ends _ _ _ _ _ _ (T0.setTop (mkF m 18 #[.val (.ref t), .val (.ref u), .val (.int (2 : Int32))] [(.int (117 : Int32))]))
  refine own_of (fun tt_ kk_ => XS.aloadN X0.here hx rfl (hb hby d_jdk_43_method_13_code_18) rfl rfl kk_) ?_
  show own_Ends _ _ _ _ _ _ (T0.setTop (mkF m 19 #[.val (.ref t), .val (.ref u), .val (.int (2 : Int32))] [(.ref u), (.int (117 : Int32))]))
  refine own_of (fun tt_ kk_ => XS.iloadN X0.here hx rfl (hb hby d_jdk_43_method_13_code_19) rfl  kk_) ?_
  show own_Ends _ _ _ _ _ _ (T0.setTop (mkF m 20 #[.val (.ref t), .val (.ref u), .val (.int (2 : Int32))] [(.int (2 : Int32)), (.ref u), (.int (117 : Int32))]))
  obtain ⟨cl120, Ar120, q120, S120, N120', H120, G120⟩ := id V'
  have hin120 : ¬ ((2 : Int32) < 0 ∨ cl120.slots.size ≤ ((2 : Int32)).toNatClampNeg) := inb_of S120 ⟨by decide, by decide⟩
  have hat120 : cl120.slots[((2 : Int32)).toNatClampNeg]? = some (.int (117 : Int32)) := H120.at hin120 rfl
  refine own_of (fun tt_ kk_ => X0.baloadBytes hx (j := (2 : Int32)) (v := (.int (117 : Int32))) (by rw [e0]; exact Ar120.1) (State.isArrayOf_alike hZ.alike Ar120.2.1) Ar120.2.2 hin120 hat120 (g := (mkF m 20 #[.val (.ref t), .val (.ref u), .val (.int (2 : Int32))] [(.int (2 : Int32)), (.ref u), (.int (117 : Int32))])) rfl rfl (hb hby d_jdk_43_method_13_code_20) _ kk_) ?_
  show own_Ends _ _ _ _ _ _ (T0.setTop (mkF m 21 #[.val (.ref t), .val (.ref u), .val (.int (2 : Int32))] [(.int (117 : Int32)), (.int (117 : Int32))]))
  refine own_of (fun tt_ kk_ => XS.icmpYes X0.here hx rfl (pc0 := 21) (pc' := 26) rfl (hb hby d_jdk_43_method_13_code_21) rfl (teq (by decide : ((117 : Int32) = (117 : Int32)))).1 (by decide) (by decide) kk_) ?_
  show own_Ends _ _ _ _ _ _ (T0.setTop (mkF m 26 #[.val (.ref t), .val (.ref u), .val (.int (2 : Int32))] []))
  refine own_of (fun tt_ kk_ => XS.iinc X0.here hx rfl (hb hby d_jdk_43_method_13_code_26) rfl (l' := #[.val (.ref t), .val (.ref u), .val (.int (3 : Int32))]) rfl kk_) ?_
  show own_Ends _ _ _ _ _ _ (T0.setTop (mkF m 29 #[.val (.ref t), .val (.ref u), .val (.int (3 : Int32))] []))
  refine own_of (fun tt_ kk_ => XS.goto X0.here hx rfl (pc0 := 29) (pc' := 9) rfl (hb hby d_jdk_43_method_13_code_29) (by decide) (by decide) kk_) ?_
  show own_Ends _ _ _ _ _ _ (T0.setTop (mkF m 9 #[.val (.ref t), .val (.ref u), .val (.int (3 : Int32))] []))
  refine own_of (fun tt_ kk_ => XS.iloadN X0.here hx rfl (hb hby d_jdk_43_method_13_code_9) rfl  kk_) ?_
  show own_Ends _ _ _ _ _ _ (T0.setTop (mkF m 10 #[.val (.ref t), .val (.ref u), .val (.int (3 : Int32))] [(.int (3 : Int32))]))
  refine own_of (fun tt_ kk_ => XS.aloadN X0.here hx rfl (hb hby d_jdk_43_method_13_code_10) rfl rfl kk_) ?_
  show own_Ends _ _ _ _ _ _ (T0.setTop (mkF m 11 #[.val (.ref t), .val (.ref u), .val (.int (3 : Int32))] [(.ref t), (.int (3 : Int32))]))
  obtain ⟨cl121, Ar121, -, S121, N121', -, -⟩ := id V
  refine own_of (fun tt_ kk_ => X0.arraylength hx (by rw [e0]; exact Ar121.1) (State.isArrayOf_alike hZ.alike Ar121.2.1) (g := (mkF m 11 #[.val (.ref t), .val (.ref u), .val (.int (3 : Int32))] [(.ref t), (.int (3 : Int32))])) rfl rfl (hb hby d_jdk_43_method_13_code_11) _ kk_) ?_
  rw [len_of S121 N121']
  show own_Ends _ _ _ _ _ _ (T0.setTop (mkF m 12 #[.val (.ref t), .val (.ref u), .val (.int (3 : Int32))] [(.int (4 : Int32)), (.int (3 : Int32))]))
  refine own_of (fun tt_ kk_ => XS.icmpNo X0.here hx rfl (hb hby d_jdk_43_method_13_code_12) rfl (tlt (by decide : ((3 : Int32) < (4 : Int32)))).2.1 kk_) ?_
  show own_Ends _ _ _ _ _ _ (T0.setTop (mkF m 15 #[.val (.ref t), .val (.ref u), .val (.int (3 : Int32))] []))
  refine own_of (fun tt_ kk_ => XS.aloadN X0.here hx rfl (hb hby d_jdk_43_method_13_code_15) rfl rfl kk_) ?_
  show own_Ends _ _ _ _ _ _ (T0.setTop (mkF m 16 #[.val (.ref t), .val (.ref u), .val (.int (3 : Int32))] [(.ref t)]))
  refine own_of (fun tt_ kk_ => XS.iloadN X0.here hx rfl (hb hby d_jdk_43_method_13_code_16) rfl  kk_) ?_
  show own_Ends _ _ _ _ _ _ (T0.setTop (mkF m 17 #[.val (.ref t), .val (.ref u), .val (.int (3 : Int32))] [(.int (3 : Int32)), (.ref t)]))
  obtain ⟨cl122, Ar122, q122, S122, N122', H122, G122⟩ := id V
  have hin122 : ¬ ((3 : Int32) < 0 ∨ cl122.slots.size ≤ ((3 : Int32)).toNatClampNeg) := inb_of S122 ⟨by decide, by decide⟩
  have hat122 : cl122.slots[((3 : Int32)).toNatClampNeg]? = some (.int (101 : Int32)) := H122.at hin122 rfl
  refine own_of (fun tt_ kk_ => X0.baloadBytes hx (j := (3 : Int32)) (v := (.int (101 : Int32))) (by rw [e0]; exact Ar122.1) (State.isArrayOf_alike hZ.alike Ar122.2.1) Ar122.2.2 hin122 hat122 (g := (mkF m 17 #[.val (.ref t), .val (.ref u), .val (.int (3 : Int32))] [(.int (3 : Int32)), (.ref t)])) rfl rfl (hb hby d_jdk_43_method_13_code_17) _ kk_) ?_
  show own_Ends _ _ _ _ _ _ (T0.setTop (mkF m 18 #[.val (.ref t), .val (.ref u), .val (.int (3 : Int32))] [(.int (101 : Int32))]))
  refine own_of (fun tt_ kk_ => XS.aloadN X0.here hx rfl (hb hby d_jdk_43_method_13_code_18) rfl rfl kk_) ?_
  show own_Ends _ _ _ _ _ _ (T0.setTop (mkF m 19 #[.val (.ref t), .val (.ref u), .val (.int (3 : Int32))] [(.ref u), (.int (101 : Int32))]))
  refine own_of (fun tt_ kk_ => XS.iloadN X0.here hx rfl (hb hby d_jdk_43_method_13_code_19) rfl  kk_) ?_
  show own_Ends _ _ _ _ _ _ (T0.setTop (mkF m 20 #[.val (.ref t), .val (.ref u), .val (.int (3 : Int32))] [(.int (3 : Int32)), (.ref u), (.int (101 : Int32))]))
  obtain ⟨cl123, Ar123, q123, S123, N123', H123, G123⟩ := id V'
  have hin123 : ¬ ((3 : Int32) < 0 ∨ cl123.slots.size ≤ ((3 : Int32)).toNatClampNeg) := inb_of S123 ⟨by decide, by decide⟩
  have hat123 : cl123.slots[((3 : Int32)).toNatClampNeg]? = some (.int (101 : Int32)) := H123.at hin123 rfl
  refine own_of (fun tt_ kk_ => X0.baloadBytes hx (j := (3 : Int32)) (v := (.int (101 : Int32))) (by rw [e0]; exact Ar123.1) (State.isArrayOf_alike hZ.alike Ar123.2.1) Ar123.2.2 hin123 hat123 (g := (mkF m 20 #[.val (.ref t), .val (.ref u), .val (.int (3 : Int32))] [(.int (3 : Int32)), (.ref u), (.int (101 : Int32))])) rfl rfl (hb hby d_jdk_43_method_13_code_20) _ kk_) ?_
  show own_Ends _ _ _ _ _ _ (T0.setTop (mkF m 21 #[.val (.ref t), .val (.ref u), .val (.int (3 : Int32))] [(.int (101 : Int32)), (.int (101 : Int32))]))
  refine own_of (fun tt_ kk_ => XS.icmpYes X0.here hx rfl (pc0 := 21) (pc' := 26) rfl (hb hby d_jdk_43_method_13_code_21) rfl (teq (by decide : ((101 : Int32) = (101 : Int32)))).1 (by decide) (by decide) kk_) ?_
  show own_Ends _ _ _ _ _ _ (T0.setTop (mkF m 26 #[.val (.ref t), .val (.ref u), .val (.int (3 : Int32))] []))
  refine own_of (fun tt_ kk_ => XS.iinc X0.here hx rfl (hb hby d_jdk_43_method_13_code_26) rfl (l' := #[.val (.ref t), .val (.ref u), .val (.int (4 : Int32))]) rfl kk_) ?_
  show own_Ends _ _ _ _ _ _ (T0.setTop (mkF m 29 #[.val (.ref t), .val (.ref u), .val (.int (4 : Int32))] []))
  refine own_of (fun tt_ kk_ => XS.goto X0.here hx rfl (pc0 := 29) (pc' := 9) rfl (hb hby d_jdk_43_method_13_code_29) (by decide) (by decide) kk_) ?_
  show own_Ends _ _ _ _ _ _ (T0.setTop (mkF m 9 #[.val (.ref t), .val (.ref u), .val (.int (4 : Int32))] []))
  refine own_of (fun tt_ kk_ => XS.iloadN X0.here hx rfl (hb hby d_jdk_43_method_13_code_9) rfl  kk_) ?_
  show own_Ends _ _ _ _ _ _ (T0.setTop (mkF m 10 #[.val (.ref t), .val (.ref u), .val (.int (4 : Int32))] [(.int (4 : Int32))]))
  refine own_of (fun tt_ kk_ => XS.aloadN X0.here hx rfl (hb hby d_jdk_43_method_13_code_10) rfl rfl kk_) ?_
  show own_Ends _ _ _ _ _ _ (T0.setTop (mkF m 11 #[.val (.ref t), .val (.ref u), .val (.int (4 : Int32))] [(.ref t), (.int (4 : Int32))]))
  obtain ⟨cl124, Ar124, -, S124, N124', -, -⟩ := id V
  refine own_of (fun tt_ kk_ => X0.arraylength hx (by rw [e0]; exact Ar124.1) (State.isArrayOf_alike hZ.alike Ar124.2.1) (g := (mkF m 11 #[.val (.ref t), .val (.ref u), .val (.int (4 : Int32))] [(.ref t), (.int (4 : Int32))])) rfl rfl (hb hby d_jdk_43_method_13_code_11) _ kk_) ?_
  rw [len_of S124 N124']
  show own_Ends _ _ _ _ _ _ (T0.setTop (mkF m 12 #[.val (.ref t), .val (.ref u), .val (.int (4 : Int32))] [(.int (4 : Int32)), (.int (4 : Int32))]))
  refine own_of (fun tt_ kk_ => XS.icmpYes X0.here hx rfl (pc0 := 12) (pc' := 32) rfl (hb hby d_jdk_43_method_13_code_12) rfl (flt (by decide : ¬ ((4 : Int32) < (4 : Int32)))).2.1 (by decide) (by decide) kk_) ?_
  show own_Ends _ _ _ _ _ _ (T0.setTop (mkF m 32 #[.val (.ref t), .val (.ref u), .val (.int (4 : Int32))] []))
  refine own_of (fun tt_ kk_ => XS.iconst X0.here hx rfl (hb hby d_jdk_43_method_13_code_32) kk_) ?_
  show own_Ends _ _ _ _ _ _ (T0.setTop (mkF m 33 #[.val (.ref t), .val (.ref u), .val (.int (4 : Int32))] [(.int (1 : Int32))]))
  refine own_retN X0 hx hlk e0 (t := .boolean) hret (by simp) (z' := (1 : Int32)) rfl (hb hby d_jdk_43_method_13_code_33) (by decide) (by decide) ?_
  exact ⟨rfl, N0, rfl⟩
set_option maxRecDepth 65536 in
set_option maxHeartbeats 40000000 in
theorem rm_eq_true_true (l : Launch) (Z : State) (a0 : Array Value) (hw : ∀ d ∈ tables_1, d.before a0 Z = true) (a b t u : Addr) (k k' : ClassId) (G1 : Int32) (h0 : Heap) (n0 : Nat) (Z0 : n0 ≤ h0.size) (E : Exa Z h0 a "java/lang/String") (FC : Fld Z h0 a "java/lang/String" "coder" "B" (.int (0 : Int32))) (FV : Fld Z h0 a "java/lang/String" "value" "[B" (.ref t)) (V : Arv Z h0 t k .byte (4 : Int32) [(.int (116 : Int32)), (.int (114 : Int32)), (.int (117 : Int32)), (.int (101 : Int32))] (.int (0 : Int32))) (E' : Exa Z h0 b "java/lang/String") (FC' : Fld Z h0 b "java/lang/String" "coder" "B" (.int (0 : Int32))) (FV' : Fld Z h0 b "java/lang/String" "value" "[B" (.ref u)) (V' : Arv Z h0 u k' .byte (4 : Int32) [(.int (116 : Int32)), (.int (114 : Int32)), (.int (117 : Int32)), (.int (101 : Int32))] (.int (0 : Int32))) (O2 : Sta Z Z.heap "java/lang/String" "COMPACT_STRINGS" "Z" (.int G1)) (P3 : ¬ (G1 = (0 : Int32))) (OL : Old Z n0 h0) :
    own_Met l Z (⟨"java/lang/String", "equals", "(Ljava/lang/Object;)Z"⟩ : MethodName) jdk_42_method_66_code 3 (some .boolean) ({ frames := 1, cells := 0, slots := 0, locals := 14 } : Room) #[(.ref a), (.ref b)] h0 (fun v h L => v = some (.int (1 : Int32)) ∧ Fr n0 L ∧ h = h0) := by
  refine own_body (plainFor_of_name pn_java_lang_String) ?_
  intro p e s m below meth c T0 X0 e0 hx hby hml hown hnm hret hlk hZ
  replace hown : s.vm.findClass "java/lang/String" = some m.cls := hown
  have N0 := Fr.nil n0
  refine own_of (fun tt_ kk_ => castTop (ef_jdk_42_method_66_codeRR m a b) kk_) ?_
  show own_Ends _ _ _ _ _ _ (T0.setTop (mkF m 0 #[.val (.ref a), .val (.ref b), .unset] []))
  refine own_of (fun tt_ kk_ => XS.aloadN X0.here hx rfl (hb hby d_jdk_42_method_66_code_0) rfl rfl kk_) ?_
  show own_Ends _ _ _ _ _ _ (T0.setTop (mkF m 1 #[.val (.ref a), .val (.ref b), .unset] [(.ref a)]))
  refine own_of (fun tt_ kk_ => XS.aloadN X0.here hx rfl (hb hby d_jdk_42_method_66_code_1) rfl rfl kk_) ?_
  show own_Ends _ _ _ _ _ _ (T0.setTop (mkF m 2 #[.val (.ref a), .val (.ref b), .unset] [(.ref b), (.ref a)]))
  by_cases hc125 : a = b
  · refine own_of (fun tt_ kk_ => Jvm.RoadKit.acmp (g := (mkF m 2 #[.val (.ref a), .val (.ref b), .unset] [(.ref b), (.ref a)])) X0 hx rfl rfl rfl (pc0 := 2) (pc' := 5) (same := true) rfl (hb hby d_jdk_42_method_66_code_2) rfl (decide_eq_true (congrArg Value.ref hc125)) (by decide) (by decide) kk_) ?_
    show own_Ends _ _ _ _ _ _ (T0.setTop (mkF m 5 #[.val (.ref a), .val (.ref b), .unset] []))
    refine own_of (fun tt_ kk_ => XS.iconst X0.here hx rfl (hb hby d_jdk_42_method_66_code_5) kk_) ?_
    show own_Ends _ _ _ _ _ _ (T0.setTop (mkF m 6 #[.val (.ref a), .val (.ref b), .unset] [(.int (1 : Int32))]))
    refine own_retN X0 hx hlk e0 (t := .boolean) hret (by simp) (z' := (1 : Int32)) rfl (hb hby d_jdk_42_method_66_code_6) (by decide) (by decide) ?_
    exact ⟨rfl, N0, rfl⟩
  · refine own_of (fun tt_ kk_ => Jvm.RoadKit.acmp (g := (mkF m 2 #[.val (.ref a), .val (.ref b), .unset] [(.ref b), (.ref a)])) X0 hx rfl rfl rfl (pc0 := 2) (pc' := 7) (same := false) rfl (hb hby d_jdk_42_method_66_code_2) rfl (decide_eq_false fun q => hc125 (Value.ref.inj q)) (by decide) (by decide) kk_) ?_
    show own_Ends _ _ _ _ _ _ (T0.setTop (mkF m 7 #[.val (.ref a), .val (.ref b), .unset] []))
    refine own_of (fun tt_ kk_ => XS.aloadN X0.here hx rfl (hb hby d_jdk_42_method_66_code_7) rfl rfl kk_) ?_
    show own_Ends _ _ _ _ _ _ (T0.setTop (mkF m 8 #[.val (.ref a), .val (.ref b), .unset] [(.ref b)]))
    obtain ⟨T126, X126, e126, st126⟩ := instY X0 hx hZ hown (hw _ (List.mem_of_getElem? (i := 26) rfl)) e0 (Ins.self E') (g := (mkF m 8 #[.val (.ref a), .val (.ref b), .unset] [(.ref b)])) rfl rfl (hb hby d_jdk_42_method_66_code_8)
    refine own_of st126 ?_
    show own_Ends _ _ _ _ _ _ (T126.setTop (mkF m 11 #[.val (.ref a), .val (.ref b), .unset] [(.int (1 : Int32))]))
    refine own_of (fun tt_ kk_ => XS.ifNo X126.here hx rfl (hb hby d_jdk_42_method_66_code_11) rfl ((if0 _ _).trans (feq (by decide : ¬ ((1 : Int32) = (0 : Int32)))).1) kk_) ?_
    show own_Ends _ _ _ _ _ _ (T126.setTop (mkF m 14 #[.val (.ref a), .val (.ref b), .unset] []))
    refine own_of (fun tt_ kk_ => XS.aloadN X126.here hx rfl (hb hby d_jdk_42_method_66_code_14) rfl rfl kk_) ?_
    show own_Ends _ _ _ _ _ _ (T126.setTop (mkF m 15 #[.val (.ref a), .val (.ref b), .unset] [(.ref b)]))
    obtain ⟨T127, X127, e127, st127⟩ := castY X126 hx hZ hown (hw _ (List.mem_of_getElem? (i := 26) rfl)) e126 (Ins.self E') (g := (mkF m 15 #[.val (.ref a), .val (.ref b), .unset] [(.ref b)])) rfl rfl (hb hby d_jdk_42_method_66_code_15)
    refine own_of st127 ?_
    show own_Ends _ _ _ _ _ _ (T127.setTop (mkF m 18 #[.val (.ref a), .val (.ref b), .unset] [(.ref b)]))
    refine own_of (fun tt_ kk_ => XS.astoreN X127.here hx rfl (hb hby d_jdk_42_method_66_code_18) rfl rfl (l' := #[.val (.ref a), .val (.ref b), .val (.ref b)]) rfl kk_) ?_
    show own_Ends _ _ _ _ _ _ (T127.setTop (mkF m 19 #[.val (.ref a), .val (.ref b), .val (.ref b)] []))
    obtain ⟨T128, X128, e128, st128⟩ := getS2 X127 hx hZ hown (host := "") (Or.inl (hw _ (List.mem_of_getElem? (i := 21) rfl))) Via.refl e127 (O2.ext OL.2) (g := (mkF m 19 #[.val (.ref a), .val (.ref b), .val (.ref b)] [])) rfl (hb hby d_jdk_42_method_66_code_19)
    refine own_of st128 ?_
    show own_Ends _ _ _ _ _ _ (T128.setTop (mkF m 22 #[.val (.ref a), .val (.ref b), .val (.ref b)] [(.int G1)]))
    refine own_of (fun tt_ kk_ => XS.ifNo X128.here hx rfl (hb hby d_jdk_42_method_66_code_22) rfl ((if0 _ _).trans (feq P3).1) kk_) ?_
    show own_Ends _ _ _ _ _ _ (T128.setTop (mkF m 25 #[.val (.ref a), .val (.ref b), .val (.ref b)] []))
    refine own_of (fun tt_ kk_ => XS.aloadN X128.here hx rfl (hb hby d_jdk_42_method_66_code_25) rfl rfl kk_) ?_
    show own_Ends _ _ _ _ _ _ (T128.setTop (mkF m 26 #[.val (.ref a), .val (.ref b), .val (.ref b)] [(.ref a)]))
    obtain ⟨T129, X129, e129, st129⟩ := getF X128 hx hZ hown (host := "") (Or.inl (hw _ (List.mem_of_getElem? (i := 38) rfl))) Via.refl e128 FC (g := (mkF m 26 #[.val (.ref a), .val (.ref b), .val (.ref b)] [(.ref a)])) rfl rfl (hb hby d_jdk_42_method_66_code_26)
    refine own_of st129 ?_
    show own_Ends _ _ _ _ _ _ (T129.setTop (mkF m 29 #[.val (.ref a), .val (.ref b), .val (.ref b)] [(.int (0 : Int32))]))
    refine own_of (fun tt_ kk_ => XS.aloadN X129.here hx rfl (hb hby d_jdk_42_method_66_code_29) rfl rfl kk_) ?_
    show own_Ends _ _ _ _ _ _ (T129.setTop (mkF m 30 #[.val (.ref a), .val (.ref b), .val (.ref b)] [(.ref b), (.int (0 : Int32))]))
    obtain ⟨T130, X130, e130, st130⟩ := getF X129 hx hZ hown (host := "") (Or.inl (hw _ (List.mem_of_getElem? (i := 38) rfl))) Via.refl e129 FC' (g := (mkF m 30 #[.val (.ref a), .val (.ref b), .val (.ref b)] [(.ref b), (.int (0 : Int32))])) rfl rfl (hb hby d_jdk_42_method_66_code_30)
    refine own_of st130 ?_
    show own_Ends _ _ _ _ _ _ (T130.setTop (mkF m 33 #[.val (.ref a), .val (.ref b), .val (.ref b)] [(.int (0 : Int32)), (.int (0 : Int32))]))
    refine own_of (fun tt_ kk_ => XS.icmpNo X130.here hx rfl (hb hby d_jdk_42_method_66_code_33) rfl (teq (by decide : ((0 : Int32) = (0 : Int32)))).2 kk_) ?_
    show own_Ends _ _ _ _ _ _ (T130.setTop (mkF m 36 #[.val (.ref a), .val (.ref b), .val (.ref b)] []))
    refine own_of (fun tt_ kk_ => XS.aloadN X130.here hx rfl (hb hby d_jdk_42_method_66_code_36) rfl rfl kk_) ?_
    show own_Ends _ _ _ _ _ _ (T130.setTop (mkF m 37 #[.val (.ref a), .val (.ref b), .val (.ref b)] [(.ref a)]))
    obtain ⟨T131, X131, e131, st131⟩ := getF X130 hx hZ hown (host := "") (Or.inl (hw _ (List.mem_of_getElem? (i := 37) rfl))) Via.refl e130 FV (g := (mkF m 37 #[.val (.ref a), .val (.ref b), .val (.ref b)] [(.ref a)])) rfl rfl (hb hby d_jdk_42_method_66_code_37)
    refine own_of st131 ?_
    show own_Ends _ _ _ _ _ _ (T131.setTop (mkF m 40 #[.val (.ref a), .val (.ref b), .val (.ref b)] [(.ref t)]))
    refine own_of (fun tt_ kk_ => XS.aloadN X131.here hx rfl (hb hby d_jdk_42_method_66_code_40) rfl rfl kk_) ?_
    show own_Ends _ _ _ _ _ _ (T131.setTop (mkF m 41 #[.val (.ref a), .val (.ref b), .val (.ref b)] [(.ref b), (.ref t)]))
    obtain ⟨T132, X132, e132, st132⟩ := getF X131 hx hZ hown (host := "") (Or.inl (hw _ (List.mem_of_getElem? (i := 37) rfl))) Via.refl e131 FV' (g := (mkF m 41 #[.val (.ref a), .val (.ref b), .val (.ref b)] [(.ref b), (.ref t)])) rfl rfl (hb hby d_jdk_42_method_66_code_41)
    refine own_of st132 ?_
    show own_Ends _ _ _ _ _ _ (T132.setTop (mkF m 44 #[.val (.ref a), .val (.ref b), .val (.ref b)] [(.ref u), (.ref t)]))
    obtain ⟨v133, T133, L133, h133, X133, e133, Q133, st133⟩ := own_static X132 hx hZ hown e132 (hw _ (List.mem_of_getElem? (i := 121) rfl)) (hw _ (List.mem_of_getElem? (i := 122) rfl)) (hw _ (List.mem_of_getElem? (i := 24) rfl)) (hw _ (List.mem_of_getElem? (i := 123) rfl)) (by decide) (argsL := [(.ref t), (.ref u)]) (rest := []) (rm_eq1_true_true l Z a0 hw t u k k' h0 n0 Z0 V V') (g := (mkF m 44 #[.val (.ref a), .val (.ref b), .val (.ref b)] [(.ref u), (.ref t)])) rfl (by rw [hml]; rfl) (lenOf pd__ABAB_r_Z rfl) rfl (by decide) (Nat.le_of_ble_eq_true rfl) (by decide) (by decide) (hb hby d_jdk_42_method_66_code_44)
    obtain ⟨rfl, Nq133, q133⟩ := Q133
    replace e133 := e133.trans q133
    have N133 := Fr.app N0 Nq133
    refine own_of st133 ?_
    show own_Ends _ _ _ _ _ _ (T133.setTop (mkF m 47 #[.val (.ref a), .val (.ref b), .val (.ref b)] [(.int (1 : Int32))]))
    refine own_of (fun tt_ kk_ => XS.ifNo X133.here hx rfl (hb hby d_jdk_42_method_66_code_47) rfl ((if0 _ _).trans (feq (by decide : ¬ ((1 : Int32) = (0 : Int32)))).1) kk_) ?_
    show own_Ends _ _ _ _ _ _ (T133.setTop (mkF m 50 #[.val (.ref a), .val (.ref b), .val (.ref b)] []))
    refine own_of (fun tt_ kk_ => XS.iconst X133.here hx rfl (hb hby d_jdk_42_method_66_code_50) kk_) ?_
    show own_Ends _ _ _ _ _ _ (T133.setTop (mkF m 51 #[.val (.ref a), .val (.ref b), .val (.ref b)] [(.int (1 : Int32))]))
    refine own_of (fun tt_ kk_ => XS.goto X133.here hx rfl (pc0 := 51) (pc' := 55) rfl (hb hby d_jdk_42_method_66_code_51) (by decide) (by decide) kk_) ?_
    show own_Ends _ _ _ _ _ _ (T133.setTop (mkF m 55 #[.val (.ref a), .val (.ref b), .val (.ref b)] [(.int (1 : Int32))]))
    refine own_retN X133 hx hlk e133 (t := .boolean) hret (by simp) (z' := (1 : Int32)) rfl (hb hby d_jdk_42_method_66_code_55) (by decide) (by decide) ?_
    exact ⟨rfl, N133, rfl⟩
set_option maxRecDepth 65536 in
set_option maxHeartbeats 40000000 in
theorem rm_eq1_false_false (l : Launch) (Z : State) (a0 : Array Value) (hw : ∀ d ∈ tables_1, d.before a0 Z = true) (t u : Addr) (k k' : ClassId) (h0 : Heap) (n0 : Nat) (Z0 : n0 ≤ h0.size) (V : Arv Z h0 t k .byte (5 : Int32) [(.int (102 : Int32)), (.int (97 : Int32)), (.int (108 : Int32)), (.int (115 : Int32)), (.int (101 : Int32))] (.int (0 : Int32))) (V' : Arv Z h0 u k' .byte (5 : Int32) [(.int (102 : Int32)), (.int (97 : Int32)), (.int (108 : Int32)), (.int (115 : Int32)), (.int (101 : Int32))] (.int (0 : Int32))) :
    own_Met l Z (⟨"java/lang/StringLatin1", "equals", "([B[B)Z"⟩ : MethodName) jdk_43_method_13_code 3 (some .boolean) ({ frames := 0, cells := 0, slots := 0, locals := 0 } : Room) #[(.ref t), (.ref u)] h0 (fun v h L => v = some (.int (1 : Int32)) ∧ Fr n0 L ∧ h = h0) := by
  refine own_body (plainFor_of_name pn_java_lang_StringLatin1) ?_
  intro p e s m below meth c T0 X0 e0 hx hby hml hown hnm hret hlk hZ
  replace hown : s.vm.findClass "java/lang/StringLatin1" = some m.cls := hown
  have N0 := Fr.nil n0
  refine own_of (fun tt_ kk_ => castTop (ef_jdk_43_method_13_codeRR m t u) kk_) ?_
  show own_Ends _ _ _ _ _ _ (T0.setTop (mkF m 0 #[.val (.ref t), .val (.ref u), .unset] []))
  refine own_of (fun tt_ kk_ => XS.aloadN X0.here hx rfl (hb hby d_jdk_43_method_13_code_0) rfl rfl kk_) ?_
  show own_Ends _ _ _ _ _ _ (T0.setTop (mkF m 1 #[.val (.ref t), .val (.ref u), .unset] [(.ref t)]))
  obtain ⟨cl134, Ar134, -, S134, N134', -, -⟩ := id V
  refine own_of (fun tt_ kk_ => X0.arraylength hx (by rw [e0]; exact Ar134.1) (State.isArrayOf_alike hZ.alike Ar134.2.1) (g := (mkF m 1 #[.val (.ref t), .val (.ref u), .unset] [(.ref t)])) rfl rfl (hb hby d_jdk_43_method_13_code_1) _ kk_) ?_
  rw [len_of S134 N134']
  show own_Ends _ _ _ _ _ _ (T0.setTop (mkF m 2 #[.val (.ref t), .val (.ref u), .unset] [(.int (5 : Int32))]))
  refine own_of (fun tt_ kk_ => XS.aloadN X0.here hx rfl (hb hby d_jdk_43_method_13_code_2) rfl rfl kk_) ?_
  show own_Ends _ _ _ _ _ _ (T0.setTop (mkF m 3 #[.val (.ref t), .val (.ref u), .unset] [(.ref u), (.int (5 : Int32))]))
  obtain ⟨cl135, Ar135, -, S135, N135', -, -⟩ := id V'
  refine own_of (fun tt_ kk_ => X0.arraylength hx (by rw [e0]; exact Ar135.1) (State.isArrayOf_alike hZ.alike Ar135.2.1) (g := (mkF m 3 #[.val (.ref t), .val (.ref u), .unset] [(.ref u), (.int (5 : Int32))])) rfl rfl (hb hby d_jdk_43_method_13_code_3) _ kk_) ?_
  rw [len_of S135 N135']
  show own_Ends _ _ _ _ _ _ (T0.setTop (mkF m 4 #[.val (.ref t), .val (.ref u), .unset] [(.int (5 : Int32)), (.int (5 : Int32))]))
  refine own_of (fun tt_ kk_ => XS.icmpNo X0.here hx rfl (hb hby d_jdk_43_method_13_code_4) rfl (teq (by decide : ((5 : Int32) = (5 : Int32)))).2 kk_) ?_
  show own_Ends _ _ _ _ _ _ (T0.setTop (mkF m 7 #[.val (.ref t), .val (.ref u), .unset] []))
  refine own_of (fun tt_ kk_ => XS.iconst X0.here hx rfl (hb hby d_jdk_43_method_13_code_7) kk_) ?_
  show own_Ends _ _ _ _ _ _ (T0.setTop (mkF m 8 #[.val (.ref t), .val (.ref u), .unset] [(.int (0 : Int32))]))
  refine own_of (fun tt_ kk_ => XS.istoreN X0.here hx rfl (hb hby d_jdk_43_method_13_code_8) rfl (l' := #[.val (.ref t), .val (.ref u), .val (.int (0 : Int32))]) rfl kk_) ?_
  show own_Ends _ _ _ _ _ _ (T0.setTop (mkF m 9 #[.val (.ref t), .val (.ref u), .val (.int (0 : Int32))] []))
  refine own_of (fun tt_ kk_ => XS.iloadN X0.here hx rfl (hb hby d_jdk_43_method_13_code_9) rfl  kk_) ?_
  show own_Ends _ _ _ _ _ _ (T0.setTop (mkF m 10 #[.val (.ref t), .val (.ref u), .val (.int (0 : Int32))] [(.int (0 : Int32))]))
  refine own_of (fun tt_ kk_ => XS.aloadN X0.here hx rfl (hb hby d_jdk_43_method_13_code_10) rfl rfl kk_) ?_
  show own_Ends _ _ _ _ _ _ (T0.setTop (mkF m 11 #[.val (.ref t), .val (.ref u), .val (.int (0 : Int32))] [(.ref t), (.int (0 : Int32))]))
  obtain ⟨cl136, Ar136, -, S136, N136', -, -⟩ := id V
  refine own_of (fun tt_ kk_ => X0.arraylength hx (by rw [e0]; exact Ar136.1) (State.isArrayOf_alike hZ.alike Ar136.2.1) (g := (mkF m 11 #[.val (.ref t), .val (.ref u), .val (.int (0 : Int32))] [(.ref t), (.int (0 : Int32))])) rfl rfl (hb hby d_jdk_43_method_13_code_11) _ kk_) ?_
  rw [len_of S136 N136']
  show own_Ends _ _ _ _ _ _ (T0.setTop (mkF m 12 #[.val (.ref t), .val (.ref u), .val (.int (0 : Int32))] [(.int (5 : Int32)), (.int (0 : Int32))]))
  refine own_of (fun tt_ kk_ => XS.icmpNo X0.here hx rfl (hb hby d_jdk_43_method_13_code_12) rfl (tlt (by decide : ((0 : Int32) < (5 : Int32)))).2.1 kk_) ?_
  show own_Ends _ _ _ _ _ _ (T0.setTop (mkF m 15 #[.val (.ref t), .val (.ref u), .val (.int (0 : Int32))] []))
  refine own_of (fun tt_ kk_ => XS.aloadN X0.here hx rfl (hb hby d_jdk_43_method_13_code_15) rfl rfl kk_) ?_
  show own_Ends _ _ _ _ _ _ (T0.setTop (mkF m 16 #[.val (.ref t), .val (.ref u), .val (.int (0 : Int32))] [(.ref t)]))
  refine own_of (fun tt_ kk_ => XS.iloadN X0.here hx rfl (hb hby d_jdk_43_method_13_code_16) rfl  kk_) ?_
  show own_Ends _ _ _ _ _ _ (T0.setTop (mkF m 17 #[.val (.ref t), .val (.ref u), .val (.int (0 : Int32))] [(.int (0 : Int32)), (.ref t)]))
  obtain ⟨cl137, Ar137, q137, S137, N137', H137, G137⟩ := id V
  have hin137 : ¬ ((0 : Int32) < 0 ∨ cl137.slots.size ≤ ((0 : Int32)).toNatClampNeg) := inb_of S137 ⟨by decide, by decide⟩
  have hat137 : cl137.slots[((0 : Int32)).toNatClampNeg]? = some (.int (102 : Int32)) := H137.at hin137 rfl
  refine own_of (fun tt_ kk_ => X0.baloadBytes hx (j := (0 : Int32)) (v := (.int (102 : Int32))) (by rw [e0]; exact Ar137.1) (State.isArrayOf_alike hZ.alike Ar137.2.1) Ar137.2.2 hin137 hat137 (g := (mkF m 17 #[.val (.ref t), .val (.ref u), .val (.int (0 : Int32))] [(.int (0 : Int32)), (.ref t)])) rfl rfl (hb hby d_jdk_43_method_13_code_17) _ kk_) ?_
  show own_Ends _ _ _ _ _ _ (T0.setTop (mkF m 18 #[.val (.ref t), .val (.ref u), .val (.int (0 : Int32))] [(.int (102 : Int32))]))
  refine own_of (fun tt_ kk_ => XS.aloadN X0.here hx rfl (hb hby d_jdk_43_method_13_code_18) rfl rfl kk_) ?_
  show own_Ends _ _ _ _ _ _ (T0.setTop (mkF m 19 #[.val (.ref t), .val (.ref u), .val (.int (0 : Int32))] [(.ref u), (.int (102 : Int32))]))
  refine own_of (fun tt_ kk_ => XS.iloadN X0.here hx rfl (hb hby d_jdk_43_method_13_code_19) rfl  kk_) ?_
  show own_Ends _ _ _ _ _ _ (T0.setTop (mkF m 20 #[.val (.ref t), .val (.ref u), .val (.int (0 : Int32))] [(.int (0 : Int32)), (.ref u), (.int (102 : Int32))]))
  obtain ⟨cl138, Ar138, q138, S138, N138', H138, G138⟩ := id V'
  have hin138 : ¬ ((0 : Int32) < 0 ∨ cl138.slots.size ≤ ((0 : Int32)).toNatClampNeg) := inb_of S138 ⟨by decide, by decide⟩
  have hat138 : cl138.slots[((0 : Int32)).toNatClampNeg]? = some (.int (102 : Int32)) := H138.at hin138 rfl
  refine own_of (fun tt_ kk_ => X0.baloadBytes hx (j := (0 : Int32)) (v := (.int (102 : Int32))) (by rw [e0]; exact Ar138.1) (State.isArrayOf_alike hZ.alike Ar138.2.1) Ar138.2.2 hin138 hat138 (g := (mkF m 20 #[.val (.ref t), .val (.ref u), .val (.int (0 : Int32))] [(.int (0 : Int32)), (.ref u), (.int (102 : Int32))])) rfl rfl (hb hby d_jdk_43_method_13_code_20) _ kk_) ?_
  show own_Ends _ _ _ _ _ _ (T0.setTop (mkF m 21 #[.val (.ref t), .val (.ref u), .val (.int (0 : Int32))] [(.int (102 : Int32)), (.int (102 : Int32))]))
  refine own_of (fun tt_ kk_ => XS.icmpYes X0.here hx rfl (pc0 := 21) (pc' := 26) rfl (hb hby d_jdk_43_method_13_code_21) rfl (teq (by decide : ((102 : Int32) = (102 : Int32)))).1 (by decide) (by decide) kk_) ?_
  show own_Ends _ _ _ _ _ _ (T0.setTop (mkF m 26 #[.val (.ref t), .val (.ref u), .val (.int (0 : Int32))] []))
  refine own_of (fun tt_ kk_ => XS.iinc X0.here hx rfl (hb hby d_jdk_43_method_13_code_26) rfl (l' := #[.val (.ref t), .val (.ref u), .val (.int (1 : Int32))]) rfl kk_) ?_
  show own_Ends _ _ _ _ _ _ (T0.setTop (mkF m 29 #[.val (.ref t), .val (.ref u), .val (.int (1 : Int32))] []))
  refine own_of (fun tt_ kk_ => XS.goto X0.here hx rfl (pc0 := 29) (pc' := 9) rfl (hb hby d_jdk_43_method_13_code_29) (by decide) (by decide) kk_) ?_
  show own_Ends _ _ _ _ _ _ (T0.setTop (mkF m 9 #[.val (.ref t), .val (.ref u), .val (.int (1 : Int32))] []))
  refine own_of (fun tt_ kk_ => XS.iloadN X0.here hx rfl (hb hby d_jdk_43_method_13_code_9) rfl  kk_) ?_
  show own_Ends _ _ _ _ _ _ (T0.setTop (mkF m 10 #[.val (.ref t), .val (.ref u), .val (.int (1 : Int32))] [(.int (1 : Int32))]))
  refine own_of (fun tt_ kk_ => XS.aloadN X0.here hx rfl (hb hby d_jdk_43_method_13_code_10) rfl rfl kk_) ?_
  show own_Ends _ _ _ _ _ _ (T0.setTop (mkF m 11 #[.val (.ref t), .val (.ref u), .val (.int (1 : Int32))] [(.ref t), (.int (1 : Int32))]))
  obtain ⟨cl139, Ar139, -, S139, N139', -, -⟩ := id V
  refine own_of (fun tt_ kk_ => X0.arraylength hx (by rw [e0]; exact Ar139.1) (State.isArrayOf_alike hZ.alike Ar139.2.1) (g := (mkF m 11 #[.val (.ref t), .val (.ref u), .val (.int (1 : Int32))] [(.ref t), (.int (1 : Int32))])) rfl rfl (hb hby d_jdk_43_method_13_code_11) _ kk_) ?_
  rw [len_of S139 N139']
  show own_Ends _ _ _ _ _ _ (T0.setTop (mkF m 12 #[.val (.ref t), .val (.ref u), .val (.int (1 : Int32))] [(.int (5 : Int32)), (.int (1 : Int32))]))
  refine own_of (fun tt_ kk_ => XS.icmpNo X0.here hx rfl (hb hby d_jdk_43_method_13_code_12) rfl (tlt (by decide : ((1 : Int32) < (5 : Int32)))).2.1 kk_) ?_
  show own_Ends _ _ _ _ _ _ (T0.setTop (mkF m 15 #[.val (.ref t), .val (.ref u), .val (.int (1 : Int32))] []))
  refine own_of (fun tt_ kk_ => XS.aloadN X0.here hx rfl (hb hby d_jdk_43_method_13_code_15) rfl rfl kk_) ?_
  show own_Ends _ _ _ _ _ _ (T0.setTop (mkF m 16 #[.val (.ref t), .val (.ref u), .val (.int (1 : Int32))] [(.ref t)]))
  refine own_of (fun tt_ kk_ => XS.iloadN X0.here hx rfl (hb hby d_jdk_43_method_13_code_16) rfl  kk_) ?_
  show own_Ends _ _ _ _ _ _ (T0.setTop (mkF m 17 #[.val (.ref t), .val (.ref u), .val (.int (1 : Int32))] [(.int (1 : Int32)), (.ref t)]))
  obtain ⟨cl140, Ar140, q140, S140, N140', H140, G140⟩ := id V
  have hin140 : ¬ ((1 : Int32) < 0 ∨ cl140.slots.size ≤ ((1 : Int32)).toNatClampNeg) := inb_of S140 ⟨by decide, by decide⟩
  have hat140 : cl140.slots[((1 : Int32)).toNatClampNeg]? = some (.int (97 : Int32)) := H140.at hin140 rfl
  refine own_of (fun tt_ kk_ => X0.baloadBytes hx (j := (1 : Int32)) (v := (.int (97 : Int32))) (by rw [e0]; exact Ar140.1) (State.isArrayOf_alike hZ.alike Ar140.2.1) Ar140.2.2 hin140 hat140 (g := (mkF m 17 #[.val (.ref t), .val (.ref u), .val (.int (1 : Int32))] [(.int (1 : Int32)), (.ref t)])) rfl rfl (hb hby d_jdk_43_method_13_code_17) _ kk_) ?_
  show own_Ends _ _ _ _ _ _ (T0.setTop (mkF m 18 #[.val (.ref t), .val (.ref u), .val (.int (1 : Int32))] [(.int (97 : Int32))]))
  refine own_of (fun tt_ kk_ => XS.aloadN X0.here hx rfl (hb hby d_jdk_43_method_13_code_18) rfl rfl kk_) ?_
  show own_Ends _ _ _ _ _ _ (T0.setTop (mkF m 19 #[.val (.ref t), .val (.ref u), .val (.int (1 : Int32))] [(.ref u), (.int (97 : Int32))]))
  refine own_of (fun tt_ kk_ => XS.iloadN X0.here hx rfl (hb hby d_jdk_43_method_13_code_19) rfl  kk_) ?_
  show own_Ends _ _ _ _ _ _ (T0.setTop (mkF m 20 #[.val (.ref t), .val (.ref u), .val (.int (1 : Int32))] [(.int (1 : Int32)), (.ref u), (.int (97 : Int32))]))
  obtain ⟨cl141, Ar141, q141, S141, N141', H141, G141⟩ := id V'
  have hin141 : ¬ ((1 : Int32) < 0 ∨ cl141.slots.size ≤ ((1 : Int32)).toNatClampNeg) := inb_of S141 ⟨by decide, by decide⟩
  have hat141 : cl141.slots[((1 : Int32)).toNatClampNeg]? = some (.int (97 : Int32)) := H141.at hin141 rfl
  refine own_of (fun tt_ kk_ => X0.baloadBytes hx (j := (1 : Int32)) (v := (.int (97 : Int32))) (by rw [e0]; exact Ar141.1) (State.isArrayOf_alike hZ.alike Ar141.2.1) Ar141.2.2 hin141 hat141 (g := (mkF m 20 #[.val (.ref t), .val (.ref u), .val (.int (1 : Int32))] [(.int (1 : Int32)), (.ref u), (.int (97 : Int32))])) rfl rfl (hb hby d_jdk_43_method_13_code_20) _ kk_) ?_
  show own_Ends _ _ _ _ _ _ (T0.setTop (mkF m 21 #[.val (.ref t), .val (.ref u), .val (.int (1 : Int32))] [(.int (97 : Int32)), (.int (97 : Int32))]))
  refine own_of (fun tt_ kk_ => XS.icmpYes X0.here hx rfl (pc0 := 21) (pc' := 26) rfl (hb hby d_jdk_43_method_13_code_21) rfl (teq (by decide : ((97 : Int32) = (97 : Int32)))).1 (by decide) (by decide) kk_) ?_
  show own_Ends _ _ _ _ _ _ (T0.setTop (mkF m 26 #[.val (.ref t), .val (.ref u), .val (.int (1 : Int32))] []))
  refine own_of (fun tt_ kk_ => XS.iinc X0.here hx rfl (hb hby d_jdk_43_method_13_code_26) rfl (l' := #[.val (.ref t), .val (.ref u), .val (.int (2 : Int32))]) rfl kk_) ?_
  show own_Ends _ _ _ _ _ _ (T0.setTop (mkF m 29 #[.val (.ref t), .val (.ref u), .val (.int (2 : Int32))] []))
  refine own_of (fun tt_ kk_ => XS.goto X0.here hx rfl (pc0 := 29) (pc' := 9) rfl (hb hby d_jdk_43_method_13_code_29) (by decide) (by decide) kk_) ?_
  show own_Ends _ _ _ _ _ _ (T0.setTop (mkF m 9 #[.val (.ref t), .val (.ref u), .val (.int (2 : Int32))] []))
  refine own_of (fun tt_ kk_ => XS.iloadN X0.here hx rfl (hb hby d_jdk_43_method_13_code_9) rfl  kk_) ?_
  show own_Ends _ _ _ _ _ _ (T0.setTop (mkF m 10 #[.val (.ref t), .val (.ref u), .val (.int (2 : Int32))] [(.int (2 : Int32))]))
  refine own_of (fun tt_ kk_ => XS.aloadN X0.here hx rfl (hb hby d_jdk_43_method_13_code_10) rfl rfl kk_) ?_
  show own_Ends _ _ _ _ _ _ (T0.setTop (mkF m 11 #[.val (.ref t), .val (.ref u), .val (.int (2 : Int32))] [(.ref t), (.int (2 : Int32))]))
  obtain ⟨cl142, Ar142, -, S142, N142', -, -⟩ := id V
  refine own_of (fun tt_ kk_ => X0.arraylength hx (by rw [e0]; exact Ar142.1) (State.isArrayOf_alike hZ.alike Ar142.2.1) (g := (mkF m 11 #[.val (.ref t), .val (.ref u), .val (.int (2 : Int32))] [(.ref t), (.int (2 : Int32))])) rfl rfl (hb hby d_jdk_43_method_13_code_11) _ kk_) ?_
  rw [len_of S142 N142']
  show own_Ends _ _ _ _ _ _ (T0.setTop (mkF m 12 #[.val (.ref t), .val (.ref u), .val (.int (2 : Int32))] [(.int (5 : Int32)), (.int (2 : Int32))]))
  refine own_of (fun tt_ kk_ => XS.icmpNo X0.here hx rfl (hb hby d_jdk_43_method_13_code_12) rfl (tlt (by decide : ((2 : Int32) < (5 : Int32)))).2.1 kk_) ?_
  show own_Ends _ _ _ _ _ _ (T0.setTop (mkF m 15 #[.val (.ref t), .val (.ref u), .val (.int (2 : Int32))] []))
  refine own_of (fun tt_ kk_ => XS.aloadN X0.here hx rfl (hb hby d_jdk_43_method_13_code_15) rfl rfl kk_) ?_
  show own_Ends _ _ _ _ _ _ (T0.setTop (mkF m 16 #[.val (.ref t), .val (.ref u), .val (.int (2 : Int32))] [(.ref t)]))
  refine own_of (fun tt_ kk_ => XS.iloadN X0.here hx rfl (hb hby d_jdk_43_method_13_code_16) rfl  kk_) ?_
  show own_Ends _ _ _ _ _ _ (T0.setTop (mkF m 17 #[.val (.ref t), .val (.ref u), .val (.int (2 : Int32))] [(.int (2 : Int32)), (.ref t)]))
  obtain ⟨cl143, Ar143, q143, S143, N143', H143, G143⟩ := id V
  have hin143 : ¬ ((2 : Int32) < 0 ∨ cl143.slots.size ≤ ((2 : Int32)).toNatClampNeg) := inb_of S143 ⟨by decide, by decide⟩
  have hat143 : cl143.slots[((2 : Int32)).toNatClampNeg]? = some (.int (108 : Int32)) := H143.at hin143 rfl
  refine own_of (fun tt_ kk_ => X0.baloadBytes hx (j := (2 : Int32)) (v := (.int (108 : Int32))) (by rw [e0]; exact Ar143.1) (State.isArrayOf_alike hZ.alike Ar143.2.1) Ar143.2.2 hin143 hat143 (g := (mkF m 17 #[.val (.ref t), .val (.ref u), .val (.int (2 : Int32))] [(.int (2 : Int32)), (.ref t)])) rfl rfl (hb hby d_jdk_43_method_13_code_17) _ kk_) ?_
  show own_Ends _ _ _ _ _ _ (T0.setTop (mkF m 18 #[.val (.ref t), .val (.ref u), .val (.int (2 : Int32))] [(.int (108 : Int32))]))
  refine own_of (fun tt_ kk_ => XS.aloadN X0.here hx rfl (hb hby d_jdk_43_method_13_code_18) rfl rfl kk_) ?_
  show own_Ends _ _ _ _ _ _ (T0.setTop (mkF m 19 #[.val (.ref t), .val (.ref u), .val (.int (2 : Int32))] [(.ref u), (.int (108 : Int32))]))
  refine own_of (fun tt_ kk_ => XS.iloadN X0.here hx rfl (hb hby d_jdk_43_method_13_code_19) rfl  kk_) ?_
  show own_Ends _ _ _ _ _ _ (T0.setTop (mkF m 20 #[.val (.ref t), .val (.ref u), .val (.int (2 : Int32))] [(.int (2 : Int32)), (.ref u), (.int (108 : Int32))]))
  obtain ⟨cl144, Ar144, q144, S144, N144', H144, G144⟩ := id V'
  have hin144 : ¬ ((2 : Int32) < 0 ∨ cl144.slots.size ≤ ((2 : Int32)).toNatClampNeg) := inb_of S144 ⟨by decide, by decide⟩
  have hat144 : cl144.slots[((2 : Int32)).toNatClampNeg]? = some (.int (108 : Int32)) := H144.at hin144 rfl
  refine own_of (fun tt_ kk_ => X0.baloadBytes hx (j := (2 : Int32)) (v := (.int (108 : Int32))) (by rw [e0]; exact Ar144.1) (State.isArrayOf_alike hZ.alike Ar144.2.1) Ar144.2.2 hin144 hat144 (g := (mkF m 20 #[.val (.ref t), .val (.ref u), .val (.int (2 : Int32))] [(.int (2 : Int32)), (.ref u), (.int (108 : Int32))])) rfl rfl (hb hby d_jdk_43_method_13_code_20) _ kk_) ?_
  show own_Ends _ _ _ _ _ _ (T0.setTop (mkF m 21 #[.val (.ref t), .val (.ref u), .val (.int (2 : Int32))] [(.int (108 : Int32)), (.int (108 : Int32))]))
  refine own_of (fun tt_ kk_ => XS.icmpYes X0.here hx rfl (pc0 := 21) (pc' := 26) rfl (hb hby d_jdk_43_method_13_code_21) rfl (teq (by decide : ((108 : Int32) = (108 : Int32)))).1 (by decide) (by decide) kk_) ?_
  show own_Ends _ _ _ _ _ _ (T0.setTop (mkF m 26 #[.val (.ref t), .val (.ref u), .val (.int (2 : Int32))] []))
  refine own_of (fun tt_ kk_ => XS.iinc X0.here hx rfl (hb hby d_jdk_43_method_13_code_26) rfl (l' := #[.val (.ref t), .val (.ref u), .val (.int (3 : Int32))]) rfl kk_) ?_
  show own_Ends _ _ _ _ _ _ (T0.setTop (mkF m 29 #[.val (.ref t), .val (.ref u), .val (.int (3 : Int32))] []))
  refine own_of (fun tt_ kk_ => XS.goto X0.here hx rfl (pc0 := 29) (pc' := 9) rfl (hb hby d_jdk_43_method_13_code_29) (by decide) (by decide) kk_) ?_
  show own_Ends _ _ _ _ _ _ (T0.setTop (mkF m 9 #[.val (.ref t), .val (.ref u), .val (.int (3 : Int32))] []))
  refine own_of (fun tt_ kk_ => XS.iloadN X0.here hx rfl (hb hby d_jdk_43_method_13_code_9) rfl  kk_) ?_
  show own_Ends _ _ _ _ _ _ (T0.setTop (mkF m 10 #[.val (.ref t), .val (.ref u), .val (.int (3 : Int32))] [(.int (3 : Int32))]))
  refine own_of (fun tt_ kk_ => XS.aloadN X0.here hx rfl (hb hby d_jdk_43_method_13_code_10) rfl rfl kk_) ?_
  show own_Ends _ _ _ _ _ _ (T0.setTop (mkF m 11 #[.val (.ref t), .val (.ref u), .val (.int (3 : Int32))] [(.ref t), (.int (3 : Int32))]))
  obtain ⟨cl145, Ar145, -, S145, N145', -, -⟩ := id V
  refine own_of (fun tt_ kk_ => X0.arraylength hx (by rw [e0]; exact Ar145.1) (State.isArrayOf_alike hZ.alike Ar145.2.1) (g := (mkF m 11 #[.val (.ref t), .val (.ref u), .val (.int (3 : Int32))] [(.ref t), (.int (3 : Int32))])) rfl rfl (hb hby d_jdk_43_method_13_code_11) _ kk_) ?_
  rw [len_of S145 N145']
  show own_Ends _ _ _ _ _ _ (T0.setTop (mkF m 12 #[.val (.ref t), .val (.ref u), .val (.int (3 : Int32))] [(.int (5 : Int32)), (.int (3 : Int32))]))
  refine own_of (fun tt_ kk_ => XS.icmpNo X0.here hx rfl (hb hby d_jdk_43_method_13_code_12) rfl (tlt (by decide : ((3 : Int32) < (5 : Int32)))).2.1 kk_) ?_
  show own_Ends _ _ _ _ _ _ (T0.setTop (mkF m 15 #[.val (.ref t), .val (.ref u), .val (.int (3 : Int32))] []))
  refine own_of (fun tt_ kk_ => XS.aloadN X0.here hx rfl (hb hby d_jdk_43_method_13_code_15) rfl rfl kk_) ?_
  show own_Ends _ _ _ _ _ _ (T0.setTop (mkF m 16 #[.val (.ref t), .val (.ref u), .val (.int (3 : Int32))] [(.ref t)]))
  refine own_of (fun tt_ kk_ => XS.iloadN X0.here hx rfl (hb hby d_jdk_43_method_13_code_16) rfl  kk_) ?_
  show own_Ends _ _ _ _ _ _ (T0.setTop (mkF m 17 #[.val (.ref t), .val (.ref u), .val (.int (3 : Int32))] [(.int (3 : Int32)), (.ref t)]))
  obtain ⟨cl146, Ar146, q146, S146, N146', H146, G146⟩ := id V
  have hin146 : ¬ ((3 : Int32) < 0 ∨ cl146.slots.size ≤ ((3 : Int32)).toNatClampNeg) := inb_of S146 ⟨by decide, by decide⟩
  have hat146 : cl146.slots[((3 : Int32)).toNatClampNeg]? = some (.int (115 : Int32)) := H146.at hin146 rfl
  refine own_of (fun tt_ kk_ => X0.baloadBytes hx (j := (3 : Int32)) (v := (.int (115 : Int32))) (by rw [e0]; exact Ar146.1) (State.isArrayOf_alike hZ.alike Ar146.2.1) Ar146.2.2 hin146 hat146 (g := (mkF m 17 #[.val (.ref t), .val (.ref u), .val (.int (3 : Int32))] [(.int (3 : Int32)), (.ref t)])) rfl rfl (hb hby d_jdk_43_method_13_code_17) _ kk_) ?_
  show own_Ends _ _ _ _ _ _ (T0.setTop (mkF m 18 #[.val (.ref t), .val (.ref u), .val (.int (3 : Int32))] [(.int (115 : Int32))]))
  refine own_of (fun tt_ kk_ => XS.aloadN X0.here hx rfl (hb hby d_jdk_43_method_13_code_18) rfl rfl kk_) ?_
  show own_Ends _ _ _ _ _ _ (T0.setTop (mkF m 19 #[.val (.ref t), .val (.ref u), .val (.int (3 : Int32))] [(.ref u), (.int (115 : Int32))]))
  refine own_of (fun tt_ kk_ => XS.iloadN X0.here hx rfl (hb hby d_jdk_43_method_13_code_19) rfl  kk_) ?_
  show own_Ends _ _ _ _ _ _ (T0.setTop (mkF m 20 #[.val (.ref t), .val (.ref u), .val (.int (3 : Int32))] [(.int (3 : Int32)), (.ref u), (.int (115 : Int32))]))
  obtain ⟨cl147, Ar147, q147, S147, N147', H147, G147⟩ := id V'
  have hin147 : ¬ ((3 : Int32) < 0 ∨ cl147.slots.size ≤ ((3 : Int32)).toNatClampNeg) := inb_of S147 ⟨by decide, by decide⟩
  have hat147 : cl147.slots[((3 : Int32)).toNatClampNeg]? = some (.int (115 : Int32)) := H147.at hin147 rfl
  refine own_of (fun tt_ kk_ => X0.baloadBytes hx (j := (3 : Int32)) (v := (.int (115 : Int32))) (by rw [e0]; exact Ar147.1) (State.isArrayOf_alike hZ.alike Ar147.2.1) Ar147.2.2 hin147 hat147 (g := (mkF m 20 #[.val (.ref t), .val (.ref u), .val (.int (3 : Int32))] [(.int (3 : Int32)), (.ref u), (.int (115 : Int32))])) rfl rfl (hb hby d_jdk_43_method_13_code_20) _ kk_) ?_
  show own_Ends _ _ _ _ _ _ (T0.setTop (mkF m 21 #[.val (.ref t), .val (.ref u), .val (.int (3 : Int32))] [(.int (115 : Int32)), (.int (115 : Int32))]))
  refine own_of (fun tt_ kk_ => XS.icmpYes X0.here hx rfl (pc0 := 21) (pc' := 26) rfl (hb hby d_jdk_43_method_13_code_21) rfl (teq (by decide : ((115 : Int32) = (115 : Int32)))).1 (by decide) (by decide) kk_) ?_
  show own_Ends _ _ _ _ _ _ (T0.setTop (mkF m 26 #[.val (.ref t), .val (.ref u), .val (.int (3 : Int32))] []))
  refine own_of (fun tt_ kk_ => XS.iinc X0.here hx rfl (hb hby d_jdk_43_method_13_code_26) rfl (l' := #[.val (.ref t), .val (.ref u), .val (.int (4 : Int32))]) rfl kk_) ?_
  show own_Ends _ _ _ _ _ _ (T0.setTop (mkF m 29 #[.val (.ref t), .val (.ref u), .val (.int (4 : Int32))] []))
  refine own_of (fun tt_ kk_ => XS.goto X0.here hx rfl (pc0 := 29) (pc' := 9) rfl (hb hby d_jdk_43_method_13_code_29) (by decide) (by decide) kk_) ?_
  show own_Ends _ _ _ _ _ _ (T0.setTop (mkF m 9 #[.val (.ref t), .val (.ref u), .val (.int (4 : Int32))] []))
  refine own_of (fun tt_ kk_ => XS.iloadN X0.here hx rfl (hb hby d_jdk_43_method_13_code_9) rfl  kk_) ?_
  show own_Ends _ _ _ _ _ _ (T0.setTop (mkF m 10 #[.val (.ref t), .val (.ref u), .val (.int (4 : Int32))] [(.int (4 : Int32))]))
  refine own_of (fun tt_ kk_ => XS.aloadN X0.here hx rfl (hb hby d_jdk_43_method_13_code_10) rfl rfl kk_) ?_
  show own_Ends _ _ _ _ _ _ (T0.setTop (mkF m 11 #[.val (.ref t), .val (.ref u), .val (.int (4 : Int32))] [(.ref t), (.int (4 : Int32))]))
  obtain ⟨cl148, Ar148, -, S148, N148', -, -⟩ := id V
  refine own_of (fun tt_ kk_ => X0.arraylength hx (by rw [e0]; exact Ar148.1) (State.isArrayOf_alike hZ.alike Ar148.2.1) (g := (mkF m 11 #[.val (.ref t), .val (.ref u), .val (.int (4 : Int32))] [(.ref t), (.int (4 : Int32))])) rfl rfl (hb hby d_jdk_43_method_13_code_11) _ kk_) ?_
  rw [len_of S148 N148']
  show own_Ends _ _ _ _ _ _ (T0.setTop (mkF m 12 #[.val (.ref t), .val (.ref u), .val (.int (4 : Int32))] [(.int (5 : Int32)), (.int (4 : Int32))]))
  refine own_of (fun tt_ kk_ => XS.icmpNo X0.here hx rfl (hb hby d_jdk_43_method_13_code_12) rfl (tlt (by decide : ((4 : Int32) < (5 : Int32)))).2.1 kk_) ?_
  show own_Ends _ _ _ _ _ _ (T0.setTop (mkF m 15 #[.val (.ref t), .val (.ref u), .val (.int (4 : Int32))] []))
  refine own_of (fun tt_ kk_ => XS.aloadN X0.here hx rfl (hb hby d_jdk_43_method_13_code_15) rfl rfl kk_) ?_
  show own_Ends _ _ _ _ _ _ (T0.setTop (mkF m 16 #[.val (.ref t), .val (.ref u), .val (.int (4 : Int32))] [(.ref t)]))
  refine own_of (fun tt_ kk_ => XS.iloadN X0.here hx rfl (hb hby d_jdk_43_method_13_code_16) rfl  kk_) ?_
  show own_Ends _ _ _ _ _ _ (T0.setTop (mkF m 17 #[.val (.ref t), .val (.ref u), .val (.int (4 : Int32))] [(.int (4 : Int32)), (.ref t)]))
  obtain ⟨cl149, Ar149, q149, S149, N149', H149, G149⟩ := id V
  have hin149 : ¬ ((4 : Int32) < 0 ∨ cl149.slots.size ≤ ((4 : Int32)).toNatClampNeg) := inb_of S149 ⟨by decide, by decide⟩
  have hat149 : cl149.slots[((4 : Int32)).toNatClampNeg]? = some (.int (101 : Int32)) := H149.at hin149 rfl
  refine own_of (fun tt_ kk_ => X0.baloadBytes hx (j := (4 : Int32)) (v := (.int (101 : Int32))) (by rw [e0]; exact Ar149.1) (State.isArrayOf_alike hZ.alike Ar149.2.1) Ar149.2.2 hin149 hat149 (g := (mkF m 17 #[.val (.ref t), .val (.ref u), .val (.int (4 : Int32))] [(.int (4 : Int32)), (.ref t)])) rfl rfl (hb hby d_jdk_43_method_13_code_17) _ kk_) ?_
  show own_Ends _ _ _ _ _ _ (T0.setTop (mkF m 18 #[.val (.ref t), .val (.ref u), .val (.int (4 : Int32))] [(.int (101 : Int32))]))
  refine own_of (fun tt_ kk_ => XS.aloadN X0.here hx rfl (hb hby d_jdk_43_method_13_code_18) rfl rfl kk_) ?_
  show own_Ends _ _ _ _ _ _ (T0.setTop (mkF m 19 #[.val (.ref t), .val (.ref u), .val (.int (4 : Int32))] [(.ref u), (.int (101 : Int32))]))
  refine own_of (fun tt_ kk_ => XS.iloadN X0.here hx rfl (hb hby d_jdk_43_method_13_code_19) rfl  kk_) ?_
  show own_Ends _ _ _ _ _ _ (T0.setTop (mkF m 20 #[.val (.ref t), .val (.ref u), .val (.int (4 : Int32))] [(.int (4 : Int32)), (.ref u), (.int (101 : Int32))]))
  obtain ⟨cl150, Ar150, q150, S150, N150', H150, G150⟩ := id V'
  have hin150 : ¬ ((4 : Int32) < 0 ∨ cl150.slots.size ≤ ((4 : Int32)).toNatClampNeg) := inb_of S150 ⟨by decide, by decide⟩
  have hat150 : cl150.slots[((4 : Int32)).toNatClampNeg]? = some (.int (101 : Int32)) := H150.at hin150 rfl
  refine own_of (fun tt_ kk_ => X0.baloadBytes hx (j := (4 : Int32)) (v := (.int (101 : Int32))) (by rw [e0]; exact Ar150.1) (State.isArrayOf_alike hZ.alike Ar150.2.1) Ar150.2.2 hin150 hat150 (g := (mkF m 20 #[.val (.ref t), .val (.ref u), .val (.int (4 : Int32))] [(.int (4 : Int32)), (.ref u), (.int (101 : Int32))])) rfl rfl (hb hby d_jdk_43_method_13_code_20) _ kk_) ?_
  show own_Ends _ _ _ _ _ _ (T0.setTop (mkF m 21 #[.val (.ref t), .val (.ref u), .val (.int (4 : Int32))] [(.int (101 : Int32)), (.int (101 : Int32))]))
  refine own_of (fun tt_ kk_ => XS.icmpYes X0.here hx rfl (pc0 := 21) (pc' := 26) rfl (hb hby d_jdk_43_method_13_code_21) rfl (teq (by decide : ((101 : Int32) = (101 : Int32)))).1 (by decide) (by decide) kk_) ?_
  show own_Ends _ _ _ _ _ _ (T0.setTop (mkF m 26 #[.val (.ref t), .val (.ref u), .val (.int (4 : Int32))] []))
  refine own_of (fun tt_ kk_ => XS.iinc X0.here hx rfl (hb hby d_jdk_43_method_13_code_26) rfl (l' := #[.val (.ref t), .val (.ref u), .val (.int (5 : Int32))]) rfl kk_) ?_
  show own_Ends _ _ _ _ _ _ (T0.setTop (mkF m 29 #[.val (.ref t), .val (.ref u), .val (.int (5 : Int32))] []))
  refine own_of (fun tt_ kk_ => XS.goto X0.here hx rfl (pc0 := 29) (pc' := 9) rfl (hb hby d_jdk_43_method_13_code_29) (by decide) (by decide) kk_) ?_
  show own_Ends _ _ _ _ _ _ (T0.setTop (mkF m 9 #[.val (.ref t), .val (.ref u), .val (.int (5 : Int32))] []))
  refine own_of (fun tt_ kk_ => XS.iloadN X0.here hx rfl (hb hby d_jdk_43_method_13_code_9) rfl  kk_) ?_
  show own_Ends _ _ _ _ _ _ (T0.setTop (mkF m 10 #[.val (.ref t), .val (.ref u), .val (.int (5 : Int32))] [(.int (5 : Int32))]))
  refine own_of (fun tt_ kk_ => XS.aloadN X0.here hx rfl (hb hby d_jdk_43_method_13_code_10) rfl rfl kk_) ?_
  show own_Ends _ _ _ _ _ _ (T0.setTop (mkF m 11 #[.val (.ref t), .val (.ref u), .val (.int (5 : Int32))] [(.ref t), (.int (5 : Int32))]))
  obtain ⟨cl151, Ar151, -, S151, N151', -, -⟩ := id V
  refine own_of (fun tt_ kk_ => X0.arraylength hx (by rw [e0]; exact Ar151.1) (State.isArrayOf_alike hZ.alike Ar151.2.1) (g := (mkF m 11 #[.val (.ref t), .val (.ref u), .val (.int (5 : Int32))] [(.ref t), (.int (5 : Int32))])) rfl rfl (hb hby d_jdk_43_method_13_code_11) _ kk_) ?_
  rw [len_of S151 N151']
  show own_Ends _ _ _ _ _ _ (T0.setTop (mkF m 12 #[.val (.ref t), .val (.ref u), .val (.int (5 : Int32))] [(.int (5 : Int32)), (.int (5 : Int32))]))
  refine own_of (fun tt_ kk_ => XS.icmpYes X0.here hx rfl (pc0 := 12) (pc' := 32) rfl (hb hby d_jdk_43_method_13_code_12) rfl (flt (by decide : ¬ ((5 : Int32) < (5 : Int32)))).2.1 (by decide) (by decide) kk_) ?_
  show own_Ends _ _ _ _ _ _ (T0.setTop (mkF m 32 #[.val (.ref t), .val (.ref u), .val (.int (5 : Int32))] []))
  refine own_of (fun tt_ kk_ => XS.iconst X0.here hx rfl (hb hby d_jdk_43_method_13_code_32) kk_) ?_
  show own_Ends _ _ _ _ _ _ (T0.setTop (mkF m 33 #[.val (.ref t), .val (.ref u), .val (.int (5 : Int32))] [(.int (1 : Int32))]))
  refine own_retN X0 hx hlk e0 (t := .boolean) hret (by simp) (z' := (1 : Int32)) rfl (hb hby d_jdk_43_method_13_code_33) (by decide) (by decide) ?_
  exact ⟨rfl, N0, rfl⟩
set_option maxRecDepth 65536 in
set_option maxHeartbeats 40000000 in
theorem rm_eq_false_false (l : Launch) (Z : State) (a0 : Array Value) (hw : ∀ d ∈ tables_1, d.before a0 Z = true) (a b t u : Addr) (k k' : ClassId) (G1 : Int32) (h0 : Heap) (n0 : Nat) (Z0 : n0 ≤ h0.size) (E : Exa Z h0 a "java/lang/String") (FC : Fld Z h0 a "java/lang/String" "coder" "B" (.int (0 : Int32))) (FV : Fld Z h0 a "java/lang/String" "value" "[B" (.ref t)) (V : Arv Z h0 t k .byte (5 : Int32) [(.int (102 : Int32)), (.int (97 : Int32)), (.int (108 : Int32)), (.int (115 : Int32)), (.int (101 : Int32))] (.int (0 : Int32))) (E' : Exa Z h0 b "java/lang/String") (FC' : Fld Z h0 b "java/lang/String" "coder" "B" (.int (0 : Int32))) (FV' : Fld Z h0 b "java/lang/String" "value" "[B" (.ref u)) (V' : Arv Z h0 u k' .byte (5 : Int32) [(.int (102 : Int32)), (.int (97 : Int32)), (.int (108 : Int32)), (.int (115 : Int32)), (.int (101 : Int32))] (.int (0 : Int32))) (O2 : Sta Z Z.heap "java/lang/String" "COMPACT_STRINGS" "Z" (.int G1)) (P3 : ¬ (G1 = (0 : Int32))) (OL : Old Z n0 h0) :
    own_Met l Z (⟨"java/lang/String", "equals", "(Ljava/lang/Object;)Z"⟩ : MethodName) jdk_42_method_66_code 3 (some .boolean) ({ frames := 1, cells := 0, slots := 0, locals := 14 } : Room) #[(.ref a), (.ref b)] h0 (fun v h L => v = some (.int (1 : Int32)) ∧ Fr n0 L ∧ h = h0) := by
  refine own_body (plainFor_of_name pn_java_lang_String) ?_
  intro p e s m below meth c T0 X0 e0 hx hby hml hown hnm hret hlk hZ
  replace hown : s.vm.findClass "java/lang/String" = some m.cls := hown
  have N0 := Fr.nil n0
  refine own_of (fun tt_ kk_ => castTop (ef_jdk_42_method_66_codeRR m a b) kk_) ?_
  show own_Ends _ _ _ _ _ _ (T0.setTop (mkF m 0 #[.val (.ref a), .val (.ref b), .unset] []))
  refine own_of (fun tt_ kk_ => XS.aloadN X0.here hx rfl (hb hby d_jdk_42_method_66_code_0) rfl rfl kk_) ?_
  show own_Ends _ _ _ _ _ _ (T0.setTop (mkF m 1 #[.val (.ref a), .val (.ref b), .unset] [(.ref a)]))
  refine own_of (fun tt_ kk_ => XS.aloadN X0.here hx rfl (hb hby d_jdk_42_method_66_code_1) rfl rfl kk_) ?_
  show own_Ends _ _ _ _ _ _ (T0.setTop (mkF m 2 #[.val (.ref a), .val (.ref b), .unset] [(.ref b), (.ref a)]))
  by_cases hc152 : a = b
  · refine own_of (fun tt_ kk_ => Jvm.RoadKit.acmp (g := (mkF m 2 #[.val (.ref a), .val (.ref b), .unset] [(.ref b), (.ref a)])) X0 hx rfl rfl rfl (pc0 := 2) (pc' := 5) (same := true) rfl (hb hby d_jdk_42_method_66_code_2) rfl (decide_eq_true (congrArg Value.ref hc152)) (by decide) (by decide) kk_) ?_
    show own_Ends _ _ _ _ _ _ (T0.setTop (mkF m 5 #[.val (.ref a), .val (.ref b), .unset] []))
    refine own_of (fun tt_ kk_ => XS.iconst X0.here hx rfl (hb hby d_jdk_42_method_66_code_5) kk_) ?_
    show own_Ends _ _ _ _ _ _ (T0.setTop (mkF m 6 #[.val (.ref a), .val (.ref b), .unset] [(.int (1 : Int32))]))
    refine own_retN X0 hx hlk e0 (t := .boolean) hret (by simp) (z' := (1 : Int32)) rfl (hb hby d_jdk_42_method_66_code_6) (by decide) (by decide) ?_
    exact ⟨rfl, N0, rfl⟩
  · refine own_of (fun tt_ kk_ => Jvm.RoadKit.acmp (g := (mkF m 2 #[.val (.ref a), .val (.ref b), .unset] [(.ref b), (.ref a)])) X0 hx rfl rfl rfl (pc0 := 2) (pc' := 7) (same := false) rfl (hb hby d_jdk_42_method_66_code_2) rfl (decide_eq_false fun q => hc152 (Value.ref.inj q)) (by decide) (by decide) kk_) ?_
    show own_Ends _ _ _ _ _ _ (T0.setTop (mkF m 7 #[.val (.ref a), .val (.ref b), .unset] []))
    refine own_of (fun tt_ kk_ => XS.aloadN X0.here hx rfl (hb hby d_jdk_42_method_66_code_7) rfl rfl kk_) ?_
    show own_Ends _ _ _ _ _ _ (T0.setTop (mkF m 8 #[.val (.ref a), .val (.ref b), .unset] [(.ref b)]))
    obtain ⟨T153, X153, e153, st153⟩ := instY X0 hx hZ hown (hw _ (List.mem_of_getElem? (i := 26) rfl)) e0 (Ins.self E') (g := (mkF m 8 #[.val (.ref a), .val (.ref b), .unset] [(.ref b)])) rfl rfl (hb hby d_jdk_42_method_66_code_8)
    refine own_of st153 ?_
    show own_Ends _ _ _ _ _ _ (T153.setTop (mkF m 11 #[.val (.ref a), .val (.ref b), .unset] [(.int (1 : Int32))]))
    refine own_of (fun tt_ kk_ => XS.ifNo X153.here hx rfl (hb hby d_jdk_42_method_66_code_11) rfl ((if0 _ _).trans (feq (by decide : ¬ ((1 : Int32) = (0 : Int32)))).1) kk_) ?_
    show own_Ends _ _ _ _ _ _ (T153.setTop (mkF m 14 #[.val (.ref a), .val (.ref b), .unset] []))
    refine own_of (fun tt_ kk_ => XS.aloadN X153.here hx rfl (hb hby d_jdk_42_method_66_code_14) rfl rfl kk_) ?_
    show own_Ends _ _ _ _ _ _ (T153.setTop (mkF m 15 #[.val (.ref a), .val (.ref b), .unset] [(.ref b)]))
    obtain ⟨T154, X154, e154, st154⟩ := castY X153 hx hZ hown (hw _ (List.mem_of_getElem? (i := 26) rfl)) e153 (Ins.self E') (g := (mkF m 15 #[.val (.ref a), .val (.ref b), .unset] [(.ref b)])) rfl rfl (hb hby d_jdk_42_method_66_code_15)
    refine own_of st154 ?_
    show own_Ends _ _ _ _ _ _ (T154.setTop (mkF m 18 #[.val (.ref a), .val (.ref b), .unset] [(.ref b)]))
    refine own_of (fun tt_ kk_ => XS.astoreN X154.here hx rfl (hb hby d_jdk_42_method_66_code_18) rfl rfl (l' := #[.val (.ref a), .val (.ref b), .val (.ref b)]) rfl kk_) ?_
    show own_Ends _ _ _ _ _ _ (T154.setTop (mkF m 19 #[.val (.ref a), .val (.ref b), .val (.ref b)] []))
    obtain ⟨T155, X155, e155, st155⟩ := getS2 X154 hx hZ hown (host := "") (Or.inl (hw _ (List.mem_of_getElem? (i := 21) rfl))) Via.refl e154 (O2.ext OL.2) (g := (mkF m 19 #[.val (.ref a), .val (.ref b), .val (.ref b)] [])) rfl (hb hby d_jdk_42_method_66_code_19)
    refine own_of st155 ?_
    show own_Ends _ _ _ _ _ _ (T155.setTop (mkF m 22 #[.val (.ref a), .val (.ref b), .val (.ref b)] [(.int G1)]))
    refine own_of (fun tt_ kk_ => XS.ifNo X155.here hx rfl (hb hby d_jdk_42_method_66_code_22) rfl ((if0 _ _).trans (feq P3).1) kk_) ?_
    show own_Ends _ _ _ _ _ _ (T155.setTop (mkF m 25 #[.val (.ref a), .val (.ref b), .val (.ref b)] []))
    refine own_of (fun tt_ kk_ => XS.aloadN X155.here hx rfl (hb hby d_jdk_42_method_66_code_25) rfl rfl kk_) ?_
    show own_Ends _ _ _ _ _ _ (T155.setTop (mkF m 26 #[.val (.ref a), .val (.ref b), .val (.ref b)] [(.ref a)]))
    obtain ⟨T156, X156, e156, st156⟩ := getF X155 hx hZ hown (host := "") (Or.inl (hw _ (List.mem_of_getElem? (i := 38) rfl))) Via.refl e155 FC (g := (mkF m 26 #[.val (.ref a), .val (.ref b), .val (.ref b)] [(.ref a)])) rfl rfl (hb hby d_jdk_42_method_66_code_26)
    refine own_of st156 ?_
    show own_Ends _ _ _ _ _ _ (T156.setTop (mkF m 29 #[.val (.ref a), .val (.ref b), .val (.ref b)] [(.int (0 : Int32))]))
    refine own_of (fun tt_ kk_ => XS.aloadN X156.here hx rfl (hb hby d_jdk_42_method_66_code_29) rfl rfl kk_) ?_
    show own_Ends _ _ _ _ _ _ (T156.setTop (mkF m 30 #[.val (.ref a), .val (.ref b), .val (.ref b)] [(.ref b), (.int (0 : Int32))]))
    obtain ⟨T157, X157, e157, st157⟩ := getF X156 hx hZ hown (host := "") (Or.inl (hw _ (List.mem_of_getElem? (i := 38) rfl))) Via.refl e156 FC' (g := (mkF m 30 #[.val (.ref a), .val (.ref b), .val (.ref b)] [(.ref b), (.int (0 : Int32))])) rfl rfl (hb hby d_jdk_42_method_66_code_30)
    refine own_of st157 ?_
    show own_Ends _ _ _ _ _ _ (T157.setTop (mkF m 33 #[.val (.ref a), .val (.ref b), .val (.ref b)] [(.int (0 : Int32)), (.int (0 : Int32))]))
    refine own_of (fun tt_ kk_ => XS.icmpNo X157.here hx rfl (hb hby d_jdk_42_method_66_code_33) rfl (teq (by decide : ((0 : Int32) = (0 : Int32)))).2 kk_) ?_
    show own_Ends _ _ _ _ _ _ (T157.setTop (mkF m 36 #[.val (.ref a), .val (.ref b), .val (.ref b)] []))
    refine own_of (fun tt_ kk_ => XS.aloadN X157.here hx rfl (hb hby d_jdk_42_method_66_code_36) rfl rfl kk_) ?_
    show own_Ends _ _ _ _ _ _ (T157.setTop (mkF m 37 #[.val (.ref a), .val (.ref b), .val (.ref b)] [(.ref a)]))
    obtain ⟨T158, X158, e158, st158⟩ := getF X157 hx hZ hown (host := "") (Or.inl (hw _ (List.mem_of_getElem? (i := 37) rfl))) Via.refl e157 FV (g := (mkF m 37 #[.val (.ref a), .val (.ref b), .val (.ref b)] [(.ref a)])) rfl rfl (hb hby d_jdk_42_method_66_code_37)
    refine own_of st158 ?_
    show own_Ends _ _ _ _ _ _ (T158.setTop (mkF m 40 #[.val (.ref a), .val (.ref b), .val (.ref b)] [(.ref t)]))
    refine own_of (fun tt_ kk_ => XS.aloadN X158.here hx rfl (hb hby d_jdk_42_method_66_code_40) rfl rfl kk_) ?_
    show own_Ends _ _ _ _ _ _ (T158.setTop (mkF m 41 #[.val (.ref a), .val (.ref b), .val (.ref b)] [(.ref b), (.ref t)]))
    obtain ⟨T159, X159, e159, st159⟩ := getF X158 hx hZ hown (host := "") (Or.inl (hw _ (List.mem_of_getElem? (i := 37) rfl))) Via.refl e158 FV' (g := (mkF m 41 #[.val (.ref a), .val (.ref b), .val (.ref b)] [(.ref b), (.ref t)])) rfl rfl (hb hby d_jdk_42_method_66_code_41)
    refine own_of st159 ?_
    show own_Ends _ _ _ _ _ _ (T159.setTop (mkF m 44 #[.val (.ref a), .val (.ref b), .val (.ref b)] [(.ref u), (.ref t)]))
    obtain ⟨v160, T160, L160, h160, X160, e160, Q160, st160⟩ := own_static X159 hx hZ hown e159 (hw _ (List.mem_of_getElem? (i := 121) rfl)) (hw _ (List.mem_of_getElem? (i := 122) rfl)) (hw _ (List.mem_of_getElem? (i := 24) rfl)) (hw _ (List.mem_of_getElem? (i := 123) rfl)) (by decide) (argsL := [(.ref t), (.ref u)]) (rest := []) (rm_eq1_false_false l Z a0 hw t u k k' h0 n0 Z0 V V') (g := (mkF m 44 #[.val (.ref a), .val (.ref b), .val (.ref b)] [(.ref u), (.ref t)])) rfl (by rw [hml]; rfl) (lenOf pd__ABAB_r_Z rfl) rfl (by decide) (Nat.le_of_ble_eq_true rfl) (by decide) (by decide) (hb hby d_jdk_42_method_66_code_44)
    obtain ⟨rfl, Nq160, q160⟩ := Q160
    replace e160 := e160.trans q160
    have N160 := Fr.app N0 Nq160
    refine own_of st160 ?_
    show own_Ends _ _ _ _ _ _ (T160.setTop (mkF m 47 #[.val (.ref a), .val (.ref b), .val (.ref b)] [(.int (1 : Int32))]))
    refine own_of (fun tt_ kk_ => XS.ifNo X160.here hx rfl (hb hby d_jdk_42_method_66_code_47) rfl ((if0 _ _).trans (feq (by decide : ¬ ((1 : Int32) = (0 : Int32)))).1) kk_) ?_
    show own_Ends _ _ _ _ _ _ (T160.setTop (mkF m 50 #[.val (.ref a), .val (.ref b), .val (.ref b)] []))
    refine own_of (fun tt_ kk_ => XS.iconst X160.here hx rfl (hb hby d_jdk_42_method_66_code_50) kk_) ?_
    show own_Ends _ _ _ _ _ _ (T160.setTop (mkF m 51 #[.val (.ref a), .val (.ref b), .val (.ref b)] [(.int (1 : Int32))]))
    refine own_of (fun tt_ kk_ => XS.goto X160.here hx rfl (pc0 := 51) (pc' := 55) rfl (hb hby d_jdk_42_method_66_code_51) (by decide) (by decide) kk_) ?_
    show own_Ends _ _ _ _ _ _ (T160.setTop (mkF m 55 #[.val (.ref a), .val (.ref b), .val (.ref b)] [(.int (1 : Int32))]))
    refine own_retN X160 hx hlk e160 (t := .boolean) hret (by simp) (z' := (1 : Int32)) rfl (hb hby d_jdk_42_method_66_code_55) (by decide) (by decide) ?_
    exact ⟨rfl, N160, rfl⟩
theorem d_jdk_43_method_13_code_34 : decode jdk_43_method_13_code 34 = .ok (.iconst 0, 1) := by decide +kernel
theorem d_jdk_43_method_13_code_35 : decode jdk_43_method_13_code 35 = .ok (.ireturn, 1) := by decide +kernel
set_option maxRecDepth 65536 in
set_option maxHeartbeats 40000000 in
theorem rm_eq1_false_true (l : Launch) (Z : State) (a0 : Array Value) (hw : ∀ d ∈ tables_1, d.before a0 Z = true) (t u : Addr) (k k' : ClassId) (h0 : Heap) (n0 : Nat) (Z0 : n0 ≤ h0.size) (V : Arv Z h0 t k .byte (5 : Int32) [(.int (102 : Int32)), (.int (97 : Int32)), (.int (108 : Int32)), (.int (115 : Int32)), (.int (101 : Int32))] (.int (0 : Int32))) (V' : Arv Z h0 u k' .byte (4 : Int32) [(.int (116 : Int32)), (.int (114 : Int32)), (.int (117 : Int32)), (.int (101 : Int32))] (.int (0 : Int32))) :
    own_Met l Z (⟨"java/lang/StringLatin1", "equals", "([B[B)Z"⟩ : MethodName) jdk_43_method_13_code 3 (some .boolean) ({ frames := 0, cells := 0, slots := 0, locals := 0 } : Room) #[(.ref t), (.ref u)] h0 (fun v h L => v = some (.int (0 : Int32)) ∧ Fr n0 L ∧ h = h0) := by
  refine own_body (plainFor_of_name pn_java_lang_StringLatin1) ?_
  intro p e s m below meth c T0 X0 e0 hx hby hml hown hnm hret hlk hZ
  replace hown : s.vm.findClass "java/lang/StringLatin1" = some m.cls := hown
  have N0 := Fr.nil n0
  refine own_of (fun tt_ kk_ => castTop (ef_jdk_43_method_13_codeRR m t u) kk_) ?_
  show own_Ends _ _ _ _ _ _ (T0.setTop (mkF m 0 #[.val (.ref t), .val (.ref u), .unset] []))
  refine own_of (fun tt_ kk_ => XS.aloadN X0.here hx rfl (hb hby d_jdk_43_method_13_code_0) rfl rfl kk_) ?_
  show own_Ends _ _ _ _ _ _ (T0.setTop (mkF m 1 #[.val (.ref t), .val (.ref u), .unset] [(.ref t)]))
  obtain ⟨cl161, Ar161, -, S161, N161', -, -⟩ := id V
  refine own_of (fun tt_ kk_ => X0.arraylength hx (by rw [e0]; exact Ar161.1) (State.isArrayOf_alike hZ.alike Ar161.2.1) (g := (mkF m 1 #[.val (.ref t), .val (.ref u), .unset] [(.ref t)])) rfl rfl (hb hby d_jdk_43_method_13_code_1) _ kk_) ?_
  rw [len_of S161 N161']
  show own_Ends _ _ _ _ _ _ (T0.setTop (mkF m 2 #[.val (.ref t), .val (.ref u), .unset] [(.int (5 : Int32))]))
  refine own_of (fun tt_ kk_ => XS.aloadN X0.here hx rfl (hb hby d_jdk_43_method_13_code_2) rfl rfl kk_) ?_
  show own_Ends _ _ _ _ _ _ (T0.setTop (mkF m 3 #[.val (.ref t), .val (.ref u), .unset] [(.ref u), (.int (5 : Int32))]))
  obtain ⟨cl162, Ar162, -, S162, N162', -, -⟩ := id V'
  refine own_of (fun tt_ kk_ => X0.arraylength hx (by rw [e0]; exact Ar162.1) (State.isArrayOf_alike hZ.alike Ar162.2.1) (g := (mkF m 3 #[.val (.ref t), .val (.ref u), .unset] [(.ref u), (.int (5 : Int32))])) rfl rfl (hb hby d_jdk_43_method_13_code_3) _ kk_) ?_
  rw [len_of S162 N162']
  show own_Ends _ _ _ _ _ _ (T0.setTop (mkF m 4 #[.val (.ref t), .val (.ref u), .unset] [(.int (4 : Int32)), (.int (5 : Int32))]))
  refine own_of (fun tt_ kk_ => XS.icmpYes X0.here hx rfl (pc0 := 4) (pc' := 34) rfl (hb hby d_jdk_43_method_13_code_4) rfl (feq (by decide : ¬ ((5 : Int32) = (4 : Int32)))).2 (by decide) (by decide) kk_) ?_
  show own_Ends _ _ _ _ _ _ (T0.setTop (mkF m 34 #[.val (.ref t), .val (.ref u), .unset] []))
  refine own_of (fun tt_ kk_ => XS.iconst X0.here hx rfl (hb hby d_jdk_43_method_13_code_34) kk_) ?_
  show own_Ends _ _ _ _ _ _ (T0.setTop (mkF m 35 #[.val (.ref t), .val (.ref u), .unset] [(.int (0 : Int32))]))
  refine own_retN X0 hx hlk e0 (t := .boolean) hret (by simp) (z' := (0 : Int32)) rfl (hb hby d_jdk_43_method_13_code_35) (by decide) (by decide) ?_
  exact ⟨rfl, N0, rfl⟩
theorem d_jdk_42_method_66_code_54 : decode jdk_42_method_66_code 54 = .ok (.iconst 0, 1) := by decide +kernel
set_option maxRecDepth 65536 in
set_option maxHeartbeats 40000000 in
theorem rm_eq_false_true (l : Launch) (Z : State) (a0 : Array Value) (hw : ∀ d ∈ tables_1, d.before a0 Z = true) (a b t u : Addr) (k k' : ClassId) (G1 : Int32) (h0 : Heap) (n0 : Nat) (Z0 : n0 ≤ h0.size) (E : Exa Z h0 a "java/lang/String") (FC : Fld Z h0 a "java/lang/String" "coder" "B" (.int (0 : Int32))) (FV : Fld Z h0 a "java/lang/String" "value" "[B" (.ref t)) (V : Arv Z h0 t k .byte (5 : Int32) [(.int (102 : Int32)), (.int (97 : Int32)), (.int (108 : Int32)), (.int (115 : Int32)), (.int (101 : Int32))] (.int (0 : Int32))) (E' : Exa Z h0 b "java/lang/String") (FC' : Fld Z h0 b "java/lang/String" "coder" "B" (.int (0 : Int32))) (FV' : Fld Z h0 b "java/lang/String" "value" "[B" (.ref u)) (V' : Arv Z h0 u k' .byte (4 : Int32) [(.int (116 : Int32)), (.int (114 : Int32)), (.int (117 : Int32)), (.int (101 : Int32))] (.int (0 : Int32))) (O2 : Sta Z Z.heap "java/lang/String" "COMPACT_STRINGS" "Z" (.int G1)) (P3 : ¬ (G1 = (0 : Int32))) (OL : Old Z n0 h0) :
    own_Met l Z (⟨"java/lang/String", "equals", "(Ljava/lang/Object;)Z"⟩ : MethodName) jdk_42_method_66_code 3 (some .boolean) ({ frames := 1, cells := 0, slots := 0, locals := 14 } : Room) #[(.ref a), (.ref b)] h0 (fun v h L => v = some (.int (0 : Int32)) ∧ Fr n0 L ∧ h = h0) := by
  refine own_body (plainFor_of_name pn_java_lang_String) ?_
  intro p e s m below meth c T0 X0 e0 hx hby hml hown hnm hret hlk hZ
  replace hown : s.vm.findClass "java/lang/String" = some m.cls := hown
  have N0 := Fr.nil n0
  refine own_of (fun tt_ kk_ => castTop (ef_jdk_42_method_66_codeRR m a b) kk_) ?_
  have nab : a ≠ b := FV.ne FV' (fun q => arv_ne V V' (Or.inl (by decide)) (Value.ref.inj q))
  show own_Ends _ _ _ _ _ _ (T0.setTop (mkF m 0 #[.val (.ref a), .val (.ref b), .unset] []))
  refine own_of (fun tt_ kk_ => XS.aloadN X0.here hx rfl (hb hby d_jdk_42_method_66_code_0) rfl rfl kk_) ?_
  show own_Ends _ _ _ _ _ _ (T0.setTop (mkF m 1 #[.val (.ref a), .val (.ref b), .unset] [(.ref a)]))
  refine own_of (fun tt_ kk_ => XS.aloadN X0.here hx rfl (hb hby d_jdk_42_method_66_code_1) rfl rfl kk_) ?_
  show own_Ends _ _ _ _ _ _ (T0.setTop (mkF m 2 #[.val (.ref a), .val (.ref b), .unset] [(.ref b), (.ref a)]))
  refine own_of (fun tt_ kk_ => Jvm.RoadKit.acmp (g := (mkF m 2 #[.val (.ref a), .val (.ref b), .unset] [(.ref b), (.ref a)])) X0 hx rfl rfl rfl (pc0 := 2) (pc' := 7) (same := false) rfl (hb hby d_jdk_42_method_66_code_2) rfl (decide_eq_false fun q => nab (Value.ref.inj q)) (by decide) (by decide) kk_) ?_
  show own_Ends _ _ _ _ _ _ (T0.setTop (mkF m 7 #[.val (.ref a), .val (.ref b), .unset] []))
  refine own_of (fun tt_ kk_ => XS.aloadN X0.here hx rfl (hb hby d_jdk_42_method_66_code_7) rfl rfl kk_) ?_
  show own_Ends _ _ _ _ _ _ (T0.setTop (mkF m 8 #[.val (.ref a), .val (.ref b), .unset] [(.ref b)]))
  obtain ⟨T163, X163, e163, st163⟩ := instY X0 hx hZ hown (hw _ (List.mem_of_getElem? (i := 26) rfl)) e0 (Ins.self E') (g := (mkF m 8 #[.val (.ref a), .val (.ref b), .unset] [(.ref b)])) rfl rfl (hb hby d_jdk_42_method_66_code_8)
  refine own_of st163 ?_
  show own_Ends _ _ _ _ _ _ (T163.setTop (mkF m 11 #[.val (.ref a), .val (.ref b), .unset] [(.int (1 : Int32))]))
  refine own_of (fun tt_ kk_ => XS.ifNo X163.here hx rfl (hb hby d_jdk_42_method_66_code_11) rfl ((if0 _ _).trans (feq (by decide : ¬ ((1 : Int32) = (0 : Int32)))).1) kk_) ?_
  show own_Ends _ _ _ _ _ _ (T163.setTop (mkF m 14 #[.val (.ref a), .val (.ref b), .unset] []))
  refine own_of (fun tt_ kk_ => XS.aloadN X163.here hx rfl (hb hby d_jdk_42_method_66_code_14) rfl rfl kk_) ?_
  show own_Ends _ _ _ _ _ _ (T163.setTop (mkF m 15 #[.val (.ref a), .val (.ref b), .unset] [(.ref b)]))
  obtain ⟨T164, X164, e164, st164⟩ := castY X163 hx hZ hown (hw _ (List.mem_of_getElem? (i := 26) rfl)) e163 (Ins.self E') (g := (mkF m 15 #[.val (.ref a), .val (.ref b), .unset] [(.ref b)])) rfl rfl (hb hby d_jdk_42_method_66_code_15)
  refine own_of st164 ?_
  show own_Ends _ _ _ _ _ _ (T164.setTop (mkF m 18 #[.val (.ref a), .val (.ref b), .unset] [(.ref b)]))
  refine own_of (fun tt_ kk_ => XS.astoreN X164.here hx rfl (hb hby d_jdk_42_method_66_code_18) rfl rfl (l' := #[.val (.ref a), .val (.ref b), .val (.ref b)]) rfl kk_) ?_
  show own_Ends _ _ _ _ _ _ (T164.setTop (mkF m 19 #[.val (.ref a), .val (.ref b), .val (.ref b)] []))
  obtain ⟨T165, X165, e165, st165⟩ := getS2 X164 hx hZ hown (host := "") (Or.inl (hw _ (List.mem_of_getElem? (i := 21) rfl))) Via.refl e164 (O2.ext OL.2) (g := (mkF m 19 #[.val (.ref a), .val (.ref b), .val (.ref b)] [])) rfl (hb hby d_jdk_42_method_66_code_19)
  refine own_of st165 ?_
  show own_Ends _ _ _ _ _ _ (T165.setTop (mkF m 22 #[.val (.ref a), .val (.ref b), .val (.ref b)] [(.int G1)]))
  refine own_of (fun tt_ kk_ => XS.ifNo X165.here hx rfl (hb hby d_jdk_42_method_66_code_22) rfl ((if0 _ _).trans (feq P3).1) kk_) ?_
  show own_Ends _ _ _ _ _ _ (T165.setTop (mkF m 25 #[.val (.ref a), .val (.ref b), .val (.ref b)] []))
  refine own_of (fun tt_ kk_ => XS.aloadN X165.here hx rfl (hb hby d_jdk_42_method_66_code_25) rfl rfl kk_) ?_
  show own_Ends _ _ _ _ _ _ (T165.setTop (mkF m 26 #[.val (.ref a), .val (.ref b), .val (.ref b)] [(.ref a)]))
  obtain ⟨T166, X166, e166, st166⟩ := getF X165 hx hZ hown (host := "") (Or.inl (hw _ (List.mem_of_getElem? (i := 38) rfl))) Via.refl e165 FC (g := (mkF m 26 #[.val (.ref a), .val (.ref b), .val (.ref b)] [(.ref a)])) rfl rfl (hb hby d_jdk_42_method_66_code_26)
  refine own_of st166 ?_
  show own_Ends _ _ _ _ _ _ (T166.setTop (mkF m 29 #[.val (.ref a), .val (.ref b), .val (.ref b)] [(.int (0 : Int32))]))
  refine own_of (fun tt_ kk_ => XS.aloadN X166.here hx rfl (hb hby d_jdk_42_method_66_code_29) rfl rfl kk_) ?_
  show own_Ends _ _ _ _ _ _ (T166.setTop (mkF m 30 #[.val (.ref a), .val (.ref b), .val (.ref b)] [(.ref b), (.int (0 : Int32))]))
  obtain ⟨T167, X167, e167, st167⟩ := getF X166 hx hZ hown (host := "") (Or.inl (hw _ (List.mem_of_getElem? (i := 38) rfl))) Via.refl e166 FC' (g := (mkF m 30 #[.val (.ref a), .val (.ref b), .val (.ref b)] [(.ref b), (.int (0 : Int32))])) rfl rfl (hb hby d_jdk_42_method_66_code_30)
  refine own_of st167 ?_
  show own_Ends _ _ _ _ _ _ (T167.setTop (mkF m 33 #[.val (.ref a), .val (.ref b), .val (.ref b)] [(.int (0 : Int32)), (.int (0 : Int32))]))
  refine own_of (fun tt_ kk_ => XS.icmpNo X167.here hx rfl (hb hby d_jdk_42_method_66_code_33) rfl (teq (by decide : ((0 : Int32) = (0 : Int32)))).2 kk_) ?_
  show own_Ends _ _ _ _ _ _ (T167.setTop (mkF m 36 #[.val (.ref a), .val (.ref b), .val (.ref b)] []))
  refine own_of (fun tt_ kk_ => XS.aloadN X167.here hx rfl (hb hby d_jdk_42_method_66_code_36) rfl rfl kk_) ?_
  show own_Ends _ _ _ _ _ _ (T167.setTop (mkF m 37 #[.val (.ref a), .val (.ref b), .val (.ref b)] [(.ref a)]))
  obtain ⟨T168, X168, e168, st168⟩ := getF X167 hx hZ hown (host := "") (Or.inl (hw _ (List.mem_of_getElem? (i := 37) rfl))) Via.refl e167 FV (g := (mkF m 37 #[.val (.ref a), .val (.ref b), .val (.ref b)] [(.ref a)])) rfl rfl (hb hby d_jdk_42_method_66_code_37)
  refine own_of st168 ?_
  show own_Ends _ _ _ _ _ _ (T168.setTop (mkF m 40 #[.val (.ref a), .val (.ref b), .val (.ref b)] [(.ref t)]))
  refine own_of (fun tt_ kk_ => XS.aloadN X168.here hx rfl (hb hby d_jdk_42_method_66_code_40) rfl rfl kk_) ?_
  show own_Ends _ _ _ _ _ _ (T168.setTop (mkF m 41 #[.val (.ref a), .val (.ref b), .val (.ref b)] [(.ref b), (.ref t)]))
  obtain ⟨T169, X169, e169, st169⟩ := getF X168 hx hZ hown (host := "") (Or.inl (hw _ (List.mem_of_getElem? (i := 37) rfl))) Via.refl e168 FV' (g := (mkF m 41 #[.val (.ref a), .val (.ref b), .val (.ref b)] [(.ref b), (.ref t)])) rfl rfl (hb hby d_jdk_42_method_66_code_41)
  refine own_of st169 ?_
  show own_Ends _ _ _ _ _ _ (T169.setTop (mkF m 44 #[.val (.ref a), .val (.ref b), .val (.ref b)] [(.ref u), (.ref t)]))
  obtain ⟨v170, T170, L170, h170, X170, e170, Q170, st170⟩ := own_static X169 hx hZ hown e169 (hw _ (List.mem_of_getElem? (i := 121) rfl)) (hw _ (List.mem_of_getElem? (i := 122) rfl)) (hw _ (List.mem_of_getElem? (i := 24) rfl)) (hw _ (List.mem_of_getElem? (i := 123) rfl)) (by decide) (argsL := [(.ref t), (.ref u)]) (rest := []) (rm_eq1_false_true l Z a0 hw t u k k' h0 n0 Z0 V V') (g := (mkF m 44 #[.val (.ref a), .val (.ref b), .val (.ref b)] [(.ref u), (.ref t)])) rfl (by rw [hml]; rfl) (lenOf pd__ABAB_r_Z rfl) rfl (by decide) (Nat.le_of_ble_eq_true rfl) (by decide) (by decide) (hb hby d_jdk_42_method_66_code_44)
  obtain ⟨rfl, Nq170, q170⟩ := Q170
  replace e170 := e170.trans q170
  have N170 := Fr.app N0 Nq170
  refine own_of st170 ?_
  show own_Ends _ _ _ _ _ _ (T170.setTop (mkF m 47 #[.val (.ref a), .val (.ref b), .val (.ref b)] [(.int (0 : Int32))]))
  refine own_of (fun tt_ kk_ => XS.ifYes X170.here hx rfl (pc0 := 47) (pc' := 54) rfl (hb hby d_jdk_42_method_66_code_47) rfl ((if0 _ _).trans (teq (by decide : ((0 : Int32) = (0 : Int32)))).1) (by decide) (by decide) kk_) ?_
  show own_Ends _ _ _ _ _ _ (T170.setTop (mkF m 54 #[.val (.ref a), .val (.ref b), .val (.ref b)] []))
  refine own_of (fun tt_ kk_ => XS.iconst X170.here hx rfl (hb hby d_jdk_42_method_66_code_54) kk_) ?_
  show own_Ends _ _ _ _ _ _ (T170.setTop (mkF m 55 #[.val (.ref a), .val (.ref b), .val (.ref b)] [(.int (0 : Int32))]))
  refine own_retN X170 hx hlk e170 (t := .boolean) hret (by simp) (z' := (0 : Int32)) rfl (hb hby d_jdk_42_method_66_code_55) (by decide) (by decide) ?_
  exact ⟨rfl, N170, rfl⟩
theorem d_jdk_43_method_32_code_0 : decode jdk_43_method_32_code 0 = .ok (.aload_n 2, 1) := by decide +kernel
theorem d_jdk_43_method_32_code_1 : decode jdk_43_method_32_code 1 = .ok (.ifnonnull 11, 3) := by decide +kernel
theorem d_jdk_43_method_32_code_12 : decode jdk_43_method_32_code 12 = .ok (.aload_n 1, 1) := by decide +kernel
theorem d_jdk_43_method_32_code_13 : decode jdk_43_method_32_code 13 = .ok (.arraylength, 1) := by decide +kernel
theorem d_jdk_43_method_32_code_14 : decode jdk_43_method_32_code 14 = .ok (.istore 4, 2) := by decide +kernel
theorem d_jdk_43_method_32_code_16 : decode jdk_43_method_32_code 16 = .ok (.iconst 0, 1) := by decide +kernel
theorem d_jdk_43_method_32_code_17 : decode jdk_43_method_32_code 17 = .ok (.istore_n 3, 1) := by decide +kernel
theorem d_jdk_43_method_32_code_18 : decode jdk_43_method_32_code 18 = .ok (.iload_n 3, 1) := by decide +kernel
theorem d_jdk_43_method_32_code_19 : decode jdk_43_method_32_code 19 = .ok (.iload 4, 2) := by decide +kernel
theorem d_jdk_43_method_32_code_21 : decode jdk_43_method_32_code 21 = .ok (.if_icmp .ge 34, 3) := by decide +kernel
theorem d_jdk_43_method_32_code_24 : decode jdk_43_method_32_code 24 = .ok (.aload_n 1, 1) := by decide +kernel
theorem d_jdk_43_method_32_code_25 : decode jdk_43_method_32_code 25 = .ok (.iload_n 3, 1) := by decide +kernel
theorem d_jdk_43_method_32_code_26 : decode jdk_43_method_32_code 26 = .ok (.baload, 1) := by decide +kernel
theorem d_jdk_43_method_32_code_27 : decode jdk_43_method_32_code 27 = .ok (.sipush 255, 3) := by decide +kernel
theorem d_jdk_43_method_32_code_30 : decode jdk_43_method_32_code 30 = .ok (.iand, 1) := by decide +kernel
theorem d_jdk_43_method_32_code_31 : decode jdk_43_method_32_code 31 = .ok (.istore 5, 2) := by decide +kernel
theorem d_jdk_43_method_32_code_33 : decode jdk_43_method_32_code 33 = .ok (.iload 5, 2) := by decide +kernel
theorem d_jdk_43_method_32_code_35 : decode jdk_43_method_32_code 35 = .ok (.getstatic 66, 3) := by decide +kernel
theorem d_jdk_43_method_32_code_38 : decode jdk_43_method_32_code 38 = .ok (.iload 5, 2) := by decide +kernel
theorem d_jdk_43_method_32_code_40 : decode jdk_43_method_32_code 40 = .ok (.invokevirtual 160, 3) := by decide +kernel
theorem d_jdk_43_method_32_code_43 : decode jdk_43_method_32_code 43 = .ok (.if_icmp .eq 6, 3) := by decide +kernel
theorem d_jdk_43_method_32_code_46 : decode jdk_43_method_32_code 46 = .ok (.goto 9, 3) := by decide +kernel
theorem d_jdk_43_method_32_code_55 : decode jdk_43_method_32_code 55 = .ok (.iload_n 3, 1) := by decide +kernel
theorem d_jdk_43_method_32_code_56 : decode jdk_43_method_32_code 56 = .ok (.iload 4, 2) := by decide +kernel
theorem d_jdk_43_method_32_code_58 : decode jdk_43_method_32_code 58 = .ok (.if_icmp .ne 5, 3) := by decide +kernel
theorem d_jdk_43_method_32_code_63 : decode jdk_43_method_32_code 63 = .ok (.aload_n 2, 1) := by decide +kernel
theorem d_jdk_43_method_32_code_64 : decode jdk_43_method_32_code 64 = .ok (.invokevirtual 162, 3) := by decide +kernel
theorem d_jdk_43_method_32_code_67 : decode jdk_43_method_32_code 67 = .ok (.astore 5, 2) := by decide +kernel
theorem d_jdk_43_method_32_code_69 : decode jdk_43_method_32_code 69 = .ok (.aload 5, 2) := by decide +kernel
theorem d_jdk_43_method_32_code_71 : decode jdk_43_method_32_code 71 = .ok (.ldc 168, 2) := by decide +kernel
theorem d_jdk_43_method_32_code_73 : decode jdk_43_method_32_code 73 = .ok (.if_acmp .eq 17, 3) := by decide +kernel
theorem d_jdk_43_method_32_code_76 : decode jdk_43_method_32_code 76 = .ok (.aload 5, 2) := by decide +kernel
theorem d_jdk_43_method_32_code_78 : decode jdk_43_method_32_code 78 = .ok (.ldc 170, 2) := by decide +kernel
theorem d_jdk_43_method_32_code_80 : decode jdk_43_method_32_code 80 = .ok (.if_acmp .eq 10, 3) := by decide +kernel
theorem d_jdk_43_method_32_code_83 : decode jdk_43_method_32_code 83 = .ok (.aload 5, 2) := by decide +kernel
theorem d_jdk_43_method_32_code_85 : decode jdk_43_method_32_code 85 = .ok (.ldc 172, 2) := by decide +kernel
theorem d_jdk_43_method_32_code_87 : decode jdk_43_method_32_code 87 = .ok (.if_acmp .ne 12, 3) := by decide +kernel
theorem d_jdk_43_method_32_code_99 : decode jdk_43_method_32_code 99 = .ok (.iload 4, 2) := by decide +kernel
theorem d_jdk_43_method_32_code_101 : decode jdk_43_method_32_code 101 = .ok (.newarray .byte, 2) := by decide +kernel
theorem d_jdk_43_method_32_code_103 : decode jdk_43_method_32_code 103 = .ok (.astore 6, 2) := by decide +kernel
theorem d_jdk_43_method_32_code_105 : decode jdk_43_method_32_code 105 = .ok (.aload_n 1, 1) := by decide +kernel
theorem d_jdk_43_method_32_code_106 : decode jdk_43_method_32_code 106 = .ok (.iconst 0, 1) := by decide +kernel
theorem d_jdk_43_method_32_code_107 : decode jdk_43_method_32_code 107 = .ok (.aload 6, 2) := by decide +kernel
theorem d_jdk_43_method_32_code_109 : decode jdk_43_method_32_code 109 = .ok (.iconst 0, 1) := by decide +kernel
theorem d_jdk_43_method_32_code_110 : decode jdk_43_method_32_code 110 = .ok (.iload_n 3, 1) := by decide +kernel
theorem d_jdk_43_method_32_code_111 : decode jdk_43_method_32_code 111 = .ok (.invokestatic 28, 3) := by decide +kernel
theorem d_jdk_43_method_32_code_114 : decode jdk_43_method_32_code 114 = .ok (.iload_n 3, 1) := by decide +kernel
theorem d_jdk_43_method_32_code_115 : decode jdk_43_method_32_code 115 = .ok (.istore 7, 2) := by decide +kernel
theorem d_jdk_43_method_32_code_117 : decode jdk_43_method_32_code 117 = .ok (.iload 7, 2) := by decide +kernel
theorem d_jdk_43_method_32_code_119 : decode jdk_43_method_32_code 119 = .ok (.iload 4, 2) := by decide +kernel
theorem d_jdk_43_method_32_code_121 : decode jdk_43_method_32_code 121 = .ok (.if_icmp .ge 54, 3) := by decide +kernel
theorem d_jdk_43_method_32_code_124 : decode jdk_43_method_32_code 124 = .ok (.aload_n 1, 1) := by decide +kernel
theorem d_jdk_43_method_32_code_125 : decode jdk_43_method_32_code 125 = .ok (.iload 7, 2) := by decide +kernel
theorem d_jdk_43_method_32_code_127 : decode jdk_43_method_32_code 127 = .ok (.baload, 1) := by decide +kernel
theorem d_jdk_43_method_32_code_128 : decode jdk_43_method_32_code 128 = .ok (.sipush 255, 3) := by decide +kernel
theorem d_jdk_43_method_32_code_131 : decode jdk_43_method_32_code 131 = .ok (.iand, 1) := by decide +kernel
theorem d_jdk_43_method_32_code_132 : decode jdk_43_method_32_code 132 = .ok (.istore 8, 2) := by decide +kernel
theorem d_jdk_43_method_32_code_134 : decode jdk_43_method_32_code 134 = .ok (.getstatic 66, 3) := by decide +kernel
theorem d_jdk_43_method_32_code_137 : decode jdk_43_method_32_code 137 = .ok (.iload 8, 2) := by decide +kernel
theorem d_jdk_43_method_32_code_139 : decode jdk_43_method_32_code 139 = .ok (.invokevirtual 160, 3) := by decide +kernel
theorem d_jdk_43_method_32_code_142 : decode jdk_43_method_32_code 142 = .ok (.istore 8, 2) := by decide +kernel
theorem d_jdk_43_method_32_code_144 : decode jdk_43_method_32_code 144 = .ok (.iload 8, 2) := by decide +kernel
theorem d_jdk_43_method_32_code_146 : decode jdk_43_method_32_code 146 = .ok (.invokestatic 88, 3) := by decide +kernel
theorem d_jdk_43_method_32_code_149 : decode jdk_43_method_32_code 149 = .ok (.ifCond .ne 12, 3) := by decide +kernel
theorem d_jdk_43_method_32_code_161 : decode jdk_43_method_32_code 161 = .ok (.aload 6, 2) := by decide +kernel
theorem d_jdk_43_method_32_code_163 : decode jdk_43_method_32_code 163 = .ok (.iload 7, 2) := by decide +kernel
theorem d_jdk_43_method_32_code_165 : decode jdk_43_method_32_code 165 = .ok (.iload 8, 2) := by decide +kernel
theorem d_jdk_43_method_32_code_167 : decode jdk_43_method_32_code 167 = .ok (.i2b, 1) := by decide +kernel
theorem d_jdk_43_method_32_code_168 : decode jdk_43_method_32_code 168 = .ok (.bastore, 1) := by decide +kernel
theorem d_jdk_43_method_32_code_169 : decode jdk_43_method_32_code 169 = .ok (.iinc 7 1, 3) := by decide +kernel
theorem d_jdk_43_method_32_code_172 : decode jdk_43_method_32_code 172 = .ok (.goto (-55), 3) := by decide +kernel
theorem d_jdk_43_method_32_code_175 : decode jdk_43_method_32_code 175 = .ok (.new 1, 3) := by decide +kernel
theorem d_jdk_43_method_32_code_178 : decode jdk_43_method_32_code 178 = .ok (.dup, 1) := by decide +kernel
theorem d_jdk_43_method_32_code_179 : decode jdk_43_method_32_code 179 = .ok (.aload 6, 2) := by decide +kernel
theorem d_jdk_43_method_32_code_181 : decode jdk_43_method_32_code 181 = .ok (.iconst 0, 1) := by decide +kernel
theorem d_jdk_43_method_32_code_182 : decode jdk_43_method_32_code 182 = .ok (.invokespecial 112, 3) := by decide +kernel
theorem d_jdk_43_method_32_code_185 : decode jdk_43_method_32_code 185 = .ok (.areturn, 1) := by decide +kernel
theorem ef_jdk_43_method_32_codeRRR (m : MethodId) (z0 : Addr) (z1 : Addr) (z2 : Addr) : entryFrame m #[(.ref z0), (.ref z1), (.ref z2)] 9 = mkF m 0 #[.val (.ref z0), .val (.ref z1), .val (.ref z2), .unset, .unset, .unset, .unset, .unset, .unset] [] := by first | (simp [entryFrame, mkF, argsToLocals, Value.category]; done) | rfl
set_option maxRecDepth 65536 in
set_option maxHeartbeats 40000000 in
theorem rm_tlc1_True (l : Launch) (Z : State) (a0 : Array Value) (hw : ∀ d ∈ tables_1, d.before a0 Z = true) (a t : Addr) (k : ClassId) (G1 : Int32) (wI wA wR wB wG tG : Addr) (clA : Cell) (kG : ClassId) (h0 : Heap) (n0 : Nat) (Z0 : n0 ≤ h0.size) (hEL : EW Z a0 own_EL) (V : Arv Z h0 t k .byte (4 : Int32) [(.int (84 : Int32)), (.int (114 : Int32)), (.int (117 : Int32)), (.int (101 : Int32))] (.int (0 : Int32))) (O2 : Sta Z Z.heap "java/lang/String" "COMPACT_STRINGS" "Z" (.int G1)) (P3 : ¬ (G1 = (0 : Int32))) (OL : Old Z n0 h0) (SI : Sta Z Z.heap "java/lang/CharacterDataLatin1" "instance" "Ljava/lang/CharacterDataLatin1;" (.ref wI)) (EI : Exa Z Z.heap wI "java/lang/CharacterDataLatin1") (SA : Sta Z Z.heap "java/lang/CharacterDataLatin1" "A" "[I" (.ref wA)) (AA : Arr Z Z.heap wA clA .int) (ZA : clA.slots.size = 256) (SL : Sta Z Z.heap "java/util/Locale" "ROOT" "Ljava/util/Locale;" (.ref wR)) (ER : Exa Z Z.heap wR "java/util/Locale") (FB : Fld Z Z.heap wR "java/util/Locale" "baseLocale" "Lsun/util/locale/BaseLocale;" (.ref wB)) (EB : Exa Z Z.heap wB "sun/util/locale/BaseLocale") (FG : Fld Z Z.heap wB "sun/util/locale/BaseLocale" "language" "Ljava/lang/String;" (.ref wG)) (FW : Fld Z Z.heap wG "java/lang/String" "value" "[B" (.ref tG)) (VG : Arv Z Z.heap tG kG .byte (0 : Int32) [] (.int (0 : Int32))) (A84 : clA.slots[84]? = some (.int (8552417 : Int32))) (A70 : clA.slots[70]? = some (.int (8552417 : Int32))) (A101 : clA.slots[101]? = some (.int (8486882 : Int32))) :
    own_MetW l Z own_EL (⟨"java/lang/StringLatin1", "toLowerCase", "(Ljava/lang/String;[BLjava/util/Locale;)Ljava/lang/String;"⟩ : MethodName) jdk_43_method_32_code 9 (some (.object "java/lang/String")) ({ frames := 2, cells := 8, slots := 44, locals := 32 } : Room) #[(.ref a), (.ref t), (.ref wR)] h0 (fun v h L => ∃ (b u : Addr) (k' : ClassId), v = some (.ref b) ∧ Fr n0 L ∧ Keep h0 h [] ∧ Exa Z h b "java/lang/String" ∧ Fld Z h b "java/lang/String" "coder" "B" (.int (0 : Int32)) ∧ Fld Z h b "java/lang/String" "value" "[B" (.ref u) ∧ Arv Z h u k' .byte (4 : Int32) [(.int (116 : Int32)), (.int (114 : Int32)), (.int (117 : Int32)), (.int (101 : Int32))] (.int (0 : Int32))) := by
  refine own_bodyW (plainFor_of_name pn_java_lang_StringLatin1) ?_
  intro p e s m below meth c T0 X0 e0 es hx hby hml hown hnm hret hlk hZ hS HC
  replace hown : (s.setVm s.vm).vm.findClass "java/lang/StringLatin1" = some m.cls := hown
  have N0 := Fr.nil n0
  have hk : 0 ≤ h0.size := Nat.zero_le _
  have wS : ∀ d ∈ Bundle.stringAtoms, d.before a0 Z = true := fun d hd => hw d ((by decide +kernel : ∀ d ∈ Bundle.stringAtoms, d ∈ tables_1) d hd)
  refine own_ofW (fun tt_ kk_ => castTop (ef_jdk_43_method_32_codeRRR m a t wR) kk_) ?_
  have K := Keep.refl h0 []
  show own_EndsW _ _ _ _ _ _ _ _ (T0.setTop (mkF m 0 #[.val (.ref a), .val (.ref t), .val (.ref wR), .unset, .unset, .unset, .unset, .unset, .unset] []))
  refine own_ofW (fun tt_ kk_ => XS.aloadN X0.here hx rfl (hb hby d_jdk_43_method_32_code_0) rfl rfl kk_) ?_
  show own_EndsW _ _ _ _ _ _ _ _ (T0.setTop (mkF m 1 #[.val (.ref a), .val (.ref t), .val (.ref wR), .unset, .unset, .unset, .unset, .unset, .unset] [(.ref wR)]))
  refine own_ofW (fun tt_ kk_ => XS.ifnonnullYes X0.here hx rfl (pc0 := 1) (pc' := 12) rfl (hb hby d_jdk_43_method_32_code_1) rfl (by decide) (by decide) kk_) ?_
  show own_EndsW _ _ _ _ _ _ _ _ (T0.setTop (mkF m 12 #[.val (.ref a), .val (.ref t), .val (.ref wR), .unset, .unset, .unset, .unset, .unset, .unset] []))
  refine own_ofW (fun tt_ kk_ => XS.aloadN X0.here hx rfl (hb hby d_jdk_43_method_32_code_12) rfl rfl kk_) ?_
  show own_EndsW _ _ _ _ _ _ _ _ (T0.setTop (mkF m 13 #[.val (.ref a), .val (.ref t), .val (.ref wR), .unset, .unset, .unset, .unset, .unset, .unset] [(.ref t)]))
  obtain ⟨cl171, Ar171, -, S171, N171', -, -⟩ := id V
  refine own_ofW (fun tt_ kk_ => X0.arraylength hx (by rw [e0]; exact Ar171.1) (State.isArrayOf_alike hZ.alike Ar171.2.1) (g := (mkF m 13 #[.val (.ref a), .val (.ref t), .val (.ref wR), .unset, .unset, .unset, .unset, .unset, .unset] [(.ref t)])) rfl rfl (hb hby d_jdk_43_method_32_code_13) _ kk_) ?_
  rw [len_of S171 N171']
  show own_EndsW _ _ _ _ _ _ _ _ (T0.setTop (mkF m 14 #[.val (.ref a), .val (.ref t), .val (.ref wR), .unset, .unset, .unset, .unset, .unset, .unset] [(.int (4 : Int32))]))
  refine own_ofW (fun tt_ kk_ => XS.istore X0.here hx rfl (hb hby d_jdk_43_method_32_code_14) rfl (l' := #[.val (.ref a), .val (.ref t), .val (.ref wR), .unset, .val (.int (4 : Int32)), .unset, .unset, .unset, .unset]) rfl kk_) ?_
  show own_EndsW _ _ _ _ _ _ _ _ (T0.setTop (mkF m 16 #[.val (.ref a), .val (.ref t), .val (.ref wR), .unset, .val (.int (4 : Int32)), .unset, .unset, .unset, .unset] []))
  refine own_ofW (fun tt_ kk_ => XS.iconst X0.here hx rfl (hb hby d_jdk_43_method_32_code_16) kk_) ?_
  show own_EndsW _ _ _ _ _ _ _ _ (T0.setTop (mkF m 17 #[.val (.ref a), .val (.ref t), .val (.ref wR), .unset, .val (.int (4 : Int32)), .unset, .unset, .unset, .unset] [(.int (0 : Int32))]))
  refine own_ofW (fun tt_ kk_ => XS.istoreN X0.here hx rfl (hb hby d_jdk_43_method_32_code_17) rfl (l' := #[.val (.ref a), .val (.ref t), .val (.ref wR), .val (.int (0 : Int32)), .val (.int (4 : Int32)), .unset, .unset, .unset, .unset]) rfl kk_) ?_
  show own_EndsW _ _ _ _ _ _ _ _ (T0.setTop (mkF m 18 #[.val (.ref a), .val (.ref t), .val (.ref wR), .val (.int (0 : Int32)), .val (.int (4 : Int32)), .unset, .unset, .unset, .unset] []))
  refine own_ofW (fun tt_ kk_ => XS.iloadN X0.here hx rfl (hb hby d_jdk_43_method_32_code_18) rfl  kk_) ?_
  show own_EndsW _ _ _ _ _ _ _ _ (T0.setTop (mkF m 19 #[.val (.ref a), .val (.ref t), .val (.ref wR), .val (.int (0 : Int32)), .val (.int (4 : Int32)), .unset, .unset, .unset, .unset] [(.int (0 : Int32))]))
  refine own_ofW (fun tt_ kk_ => XS.iload X0.here hx rfl (hb hby d_jdk_43_method_32_code_19) rfl  kk_) ?_
  show own_EndsW _ _ _ _ _ _ _ _ (T0.setTop (mkF m 21 #[.val (.ref a), .val (.ref t), .val (.ref wR), .val (.int (0 : Int32)), .val (.int (4 : Int32)), .unset, .unset, .unset, .unset] [(.int (4 : Int32)), (.int (0 : Int32))]))
  refine own_ofW (fun tt_ kk_ => XS.icmpNo X0.here hx rfl (hb hby d_jdk_43_method_32_code_21) rfl (tlt (by decide : ((0 : Int32) < (4 : Int32)))).2.1 kk_) ?_
  show own_EndsW _ _ _ _ _ _ _ _ (T0.setTop (mkF m 24 #[.val (.ref a), .val (.ref t), .val (.ref wR), .val (.int (0 : Int32)), .val (.int (4 : Int32)), .unset, .unset, .unset, .unset] []))
  refine own_ofW (fun tt_ kk_ => XS.aloadN X0.here hx rfl (hb hby d_jdk_43_method_32_code_24) rfl rfl kk_) ?_
  show own_EndsW _ _ _ _ _ _ _ _ (T0.setTop (mkF m 25 #[.val (.ref a), .val (.ref t), .val (.ref wR), .val (.int (0 : Int32)), .val (.int (4 : Int32)), .unset, .unset, .unset, .unset] [(.ref t)]))
  refine own_ofW (fun tt_ kk_ => XS.iloadN X0.here hx rfl (hb hby d_jdk_43_method_32_code_25) rfl  kk_) ?_
  show own_EndsW _ _ _ _ _ _ _ _ (T0.setTop (mkF m 26 #[.val (.ref a), .val (.ref t), .val (.ref wR), .val (.int (0 : Int32)), .val (.int (4 : Int32)), .unset, .unset, .unset, .unset] [(.int (0 : Int32)), (.ref t)]))
  obtain ⟨cl172, Ar172, q172, S172, N172', H172, G172⟩ := id V
  have hin172 : ¬ ((0 : Int32) < 0 ∨ cl172.slots.size ≤ ((0 : Int32)).toNatClampNeg) := inb_of S172 ⟨by decide, by decide⟩
  have hat172 : cl172.slots[((0 : Int32)).toNatClampNeg]? = some (.int (84 : Int32)) := H172.at hin172 rfl
  refine own_ofW (fun tt_ kk_ => X0.baloadBytes hx (j := (0 : Int32)) (v := (.int (84 : Int32))) (by rw [e0]; exact Ar172.1) (State.isArrayOf_alike hZ.alike Ar172.2.1) Ar172.2.2 hin172 hat172 (g := (mkF m 26 #[.val (.ref a), .val (.ref t), .val (.ref wR), .val (.int (0 : Int32)), .val (.int (4 : Int32)), .unset, .unset, .unset, .unset] [(.int (0 : Int32)), (.ref t)])) rfl rfl (hb hby d_jdk_43_method_32_code_26) _ kk_) ?_
  show own_EndsW _ _ _ _ _ _ _ _ (T0.setTop (mkF m 27 #[.val (.ref a), .val (.ref t), .val (.ref wR), .val (.int (0 : Int32)), .val (.int (4 : Int32)), .unset, .unset, .unset, .unset] [(.int (84 : Int32))]))
  refine own_ofW (fun tt_ kk_ => XS.sipush X0.here hx rfl (hb hby d_jdk_43_method_32_code_27) kk_) ?_
  show own_EndsW _ _ _ _ _ _ _ _ (T0.setTop (mkF m 30 #[.val (.ref a), .val (.ref t), .val (.ref wR), .val (.int (0 : Int32)), .val (.int (4 : Int32)), .unset, .unset, .unset, .unset] [(.int (255 : Int32)), (.int (84 : Int32))]))
  refine own_ofW (fun tt_ kk_ => XS.iand X0.here hx rfl (hb hby d_jdk_43_method_32_code_30) rfl kk_) ?_
  show own_EndsW _ _ _ _ _ _ _ _ (T0.setTop (mkF m 31 #[.val (.ref a), .val (.ref t), .val (.ref wR), .val (.int (0 : Int32)), .val (.int (4 : Int32)), .unset, .unset, .unset, .unset] [(.int (84 : Int32))]))
  refine own_ofW (fun tt_ kk_ => XS.istore X0.here hx rfl (hb hby d_jdk_43_method_32_code_31) rfl (l' := #[.val (.ref a), .val (.ref t), .val (.ref wR), .val (.int (0 : Int32)), .val (.int (4 : Int32)), .val (.int (84 : Int32)), .unset, .unset, .unset]) rfl kk_) ?_
  show own_EndsW _ _ _ _ _ _ _ _ (T0.setTop (mkF m 33 #[.val (.ref a), .val (.ref t), .val (.ref wR), .val (.int (0 : Int32)), .val (.int (4 : Int32)), .val (.int (84 : Int32)), .unset, .unset, .unset] []))
  refine own_ofW (fun tt_ kk_ => XS.iload X0.here hx rfl (hb hby d_jdk_43_method_32_code_33) rfl  kk_) ?_
  show own_EndsW _ _ _ _ _ _ _ _ (T0.setTop (mkF m 35 #[.val (.ref a), .val (.ref t), .val (.ref wR), .val (.int (0 : Int32)), .val (.int (4 : Int32)), .val (.int (84 : Int32)), .unset, .unset, .unset] [(.int (84 : Int32))]))
  obtain ⟨T173, X173, e173, st173⟩ := getS2 X0 hx hZ hown (host := "") (Or.inl (hw _ (List.mem_of_getElem? (i := 61) rfl))) Via.refl e0 (SI.ext OL.2) (g := (mkF m 35 #[.val (.ref a), .val (.ref t), .val (.ref wR), .val (.int (0 : Int32)), .val (.int (4 : Int32)), .val (.int (84 : Int32)), .unset, .unset, .unset] [(.int (84 : Int32))])) rfl (hb hby d_jdk_43_method_32_code_35)
  refine own_ofW st173 ?_
  show own_EndsW _ _ _ _ _ _ _ _ (T173.setTop (mkF m 38 #[.val (.ref a), .val (.ref t), .val (.ref wR), .val (.int (0 : Int32)), .val (.int (4 : Int32)), .val (.int (84 : Int32)), .unset, .unset, .unset] [(.ref wI), (.int (84 : Int32))]))
  refine own_ofW (fun tt_ kk_ => XS.iload X173.here hx rfl (hb hby d_jdk_43_method_32_code_38) rfl  kk_) ?_
  show own_EndsW _ _ _ _ _ _ _ _ (T173.setTop (mkF m 40 #[.val (.ref a), .val (.ref t), .val (.ref wR), .val (.int (0 : Int32)), .val (.int (4 : Int32)), .val (.int (84 : Int32)), .unset, .unset, .unset] [(.int (84 : Int32)), (.ref wI), (.int (84 : Int32))]))
  obtain ⟨v174, T174, L174, h174, X174, e174, Q174, st174⟩ := own_virtual X173 hx hZ hown e173 (EI.ext OL.2) (hw _ (List.mem_of_getElem? (i := 87) rfl)) (hw _ (List.mem_of_getElem? (i := 88) rfl)) (notFace_of_selects (args := #[]) (mvT hZ (hw _ (List.mem_of_getElem? (i := 90) rfl)))) (hw _ (List.mem_of_getElem? (i := 90) rfl)) (hw _ (List.mem_of_getElem? (i := 89) rfl)) (hw _ (List.mem_of_getElem? (i := 62) rfl)) (hw _ (List.mem_of_getElem? (i := 91) rfl)) (by decide) (argsL := [(.int (84 : Int32))]) (rest := [(.int (84 : Int32))]) (rm_low84 l Z a0 hw wI h0 n0 (Nat.le_trans Z0 K.1)) (g := (mkF m 40 #[.val (.ref a), .val (.ref t), .val (.ref wR), .val (.int (0 : Int32)), .val (.int (4 : Int32)), .val (.int (84 : Int32)), .unset, .unset, .unset] [(.int (84 : Int32)), (.ref wI), (.int (84 : Int32))])) rfl (by rw [hml]; rfl) (lenOf pd__I_r_I rfl) rfl (by decide) (Nat.le_of_ble_eq_true rfl) (by decide) (by decide) (hb hby d_jdk_43_method_32_code_40)
  obtain ⟨rfl, Nq174, q174⟩ := Q174
  replace e174 := e174.trans q174
  have N174 := Fr.app N0 Nq174
  refine own_ofW st174 ?_
  show own_EndsW _ _ _ _ _ _ _ _ (T174.setTop (mkF m 43 #[.val (.ref a), .val (.ref t), .val (.ref wR), .val (.int (0 : Int32)), .val (.int (4 : Int32)), .val (.int (84 : Int32)), .unset, .unset, .unset] [(.int (116 : Int32)), (.int (84 : Int32))]))
  refine own_ofW (fun tt_ kk_ => XS.icmpNo X174.here hx rfl (hb hby d_jdk_43_method_32_code_43) rfl (feq (by decide : ¬ ((84 : Int32) = (116 : Int32)))).1 kk_) ?_
  show own_EndsW _ _ _ _ _ _ _ _ (T174.setTop (mkF m 46 #[.val (.ref a), .val (.ref t), .val (.ref wR), .val (.int (0 : Int32)), .val (.int (4 : Int32)), .val (.int (84 : Int32)), .unset, .unset, .unset] []))
  refine own_ofW (fun tt_ kk_ => XS.goto X174.here hx rfl (pc0 := 46) (pc' := 55) rfl (hb hby d_jdk_43_method_32_code_46) (by decide) (by decide) kk_) ?_
  show own_EndsW _ _ _ _ _ _ _ _ (T174.setTop (mkF m 55 #[.val (.ref a), .val (.ref t), .val (.ref wR), .val (.int (0 : Int32)), .val (.int (4 : Int32)), .val (.int (84 : Int32)), .unset, .unset, .unset] []))
  refine own_ofW (fun tt_ kk_ => XS.iloadN X174.here hx rfl (hb hby d_jdk_43_method_32_code_55) rfl  kk_) ?_
  show own_EndsW _ _ _ _ _ _ _ _ (T174.setTop (mkF m 56 #[.val (.ref a), .val (.ref t), .val (.ref wR), .val (.int (0 : Int32)), .val (.int (4 : Int32)), .val (.int (84 : Int32)), .unset, .unset, .unset] [(.int (0 : Int32))]))
  refine own_ofW (fun tt_ kk_ => XS.iload X174.here hx rfl (hb hby d_jdk_43_method_32_code_56) rfl  kk_) ?_
  show own_EndsW _ _ _ _ _ _ _ _ (T174.setTop (mkF m 58 #[.val (.ref a), .val (.ref t), .val (.ref wR), .val (.int (0 : Int32)), .val (.int (4 : Int32)), .val (.int (84 : Int32)), .unset, .unset, .unset] [(.int (4 : Int32)), (.int (0 : Int32))]))
  refine own_ofW (fun tt_ kk_ => XS.icmpYes X174.here hx rfl (pc0 := 58) (pc' := 63) rfl (hb hby d_jdk_43_method_32_code_58) rfl (feq (by decide : ¬ ((0 : Int32) = (4 : Int32)))).2 (by decide) (by decide) kk_) ?_
  show own_EndsW _ _ _ _ _ _ _ _ (T174.setTop (mkF m 63 #[.val (.ref a), .val (.ref t), .val (.ref wR), .val (.int (0 : Int32)), .val (.int (4 : Int32)), .val (.int (84 : Int32)), .unset, .unset, .unset] []))
  refine own_ofW (fun tt_ kk_ => XS.aloadN X174.here hx rfl (hb hby d_jdk_43_method_32_code_63) rfl rfl kk_) ?_
  show own_EndsW _ _ _ _ _ _ _ _ (T174.setTop (mkF m 64 #[.val (.ref a), .val (.ref t), .val (.ref wR), .val (.int (0 : Int32)), .val (.int (4 : Int32)), .val (.int (84 : Int32)), .unset, .unset, .unset] [(.ref wR)]))
  obtain ⟨v175, T175, L175, h175, X175, e175, Q175, st175⟩ := own_virtual X174 hx hZ hown e174 (ER.ext OL.2) (hw _ (List.mem_of_getElem? (i := 92) rfl)) (hw _ (List.mem_of_getElem? (i := 93) rfl)) (notFace_of_selects (args := #[]) (mvT hZ (hw _ (List.mem_of_getElem? (i := 95) rfl)))) (hw _ (List.mem_of_getElem? (i := 95) rfl)) (hw _ (List.mem_of_getElem? (i := 94) rfl)) (hw _ (List.mem_of_getElem? (i := 78) rfl)) (hw _ (List.mem_of_getElem? (i := 96) rfl)) (by decide) (argsL := []) (rest := []) (rm_lang l Z a0 hw G1 wI wA wR wB wG tG clA kG h0 n0 (Nat.le_trans Z0 K.1) O2 P3 OL SI EI SA AA ZA SL ER FB EB FG FW VG A84 A70 A101) (g := (mkF m 64 #[.val (.ref a), .val (.ref t), .val (.ref wR), .val (.int (0 : Int32)), .val (.int (4 : Int32)), .val (.int (84 : Int32)), .unset, .unset, .unset] [(.ref wR)])) rfl (by rw [hml]; rfl) (lenOf pd___r_Ljava_lang_String_ rfl) rfl (by decide) (Nat.le_of_ble_eq_true rfl) (by decide) (by decide) (hb hby d_jdk_43_method_32_code_64)
  obtain ⟨rfl, Nq175, q175⟩ := Q175
  replace e175 := e175.trans q175
  have N175 := Fr.app N174 Nq175
  refine own_ofW st175 ?_
  show own_EndsW _ _ _ _ _ _ _ _ (T175.setTop (mkF m 67 #[.val (.ref a), .val (.ref t), .val (.ref wR), .val (.int (0 : Int32)), .val (.int (4 : Int32)), .val (.int (84 : Int32)), .unset, .unset, .unset] [(.ref wG)]))
  refine own_ofW (fun tt_ kk_ => XS.astore X175.here hx rfl (hb hby d_jdk_43_method_32_code_67) rfl rfl (l' := #[.val (.ref a), .val (.ref t), .val (.ref wR), .val (.int (0 : Int32)), .val (.int (4 : Int32)), .val (.ref wG), .unset, .unset, .unset]) rfl kk_) ?_
  show own_EndsW _ _ _ _ _ _ _ _ (T175.setTop (mkF m 69 #[.val (.ref a), .val (.ref t), .val (.ref wR), .val (.int (0 : Int32)), .val (.int (4 : Int32)), .val (.ref wG), .unset, .unset, .unset] []))
  refine own_ofW (fun tt_ kk_ => XS.aload X175.here hx rfl (hb hby d_jdk_43_method_32_code_69) rfl rfl kk_) ?_
  show own_EndsW _ _ _ _ _ _ _ _ (T175.setTop (mkF m 71 #[.val (.ref a), .val (.ref t), .val (.ref wR), .val (.int (0 : Int32)), .val (.int (4 : Int32)), .val (.ref wG), .unset, .unset, .unset] [(.ref wG)]))
  obtain ⟨a176, T176, h176, k176', t176, kb176, X176, e176, E176, hS, hk, hZ, hown, Es176, Cs176, Fs176, Vs176, la176, lt176, HCq176, Lt176, Sf176, st176⟩ := ldcCH X175 hx hZ hown (hw _ (List.mem_of_getElem? (i := 107) rfl)) wS e175 hS hk hEL (by decide +kernel) HC.1 (vs := [(.int (116 : Int32)), (.int (114 : Int32))]) (z := (2 : Int32)) (by decide +kernel) (by decide) (by decide) (g := (mkF m 71 #[.val (.ref a), .val (.ref t), .val (.ref wR), .val (.int (0 : Int32)), .val (.int (4 : Int32)), .val (.ref wG), .unset, .unset, .unset] [(.ref wG)])) rfl (hb hby d_jdk_43_method_32_code_71) (n := 8) (by decide +kernel) (by decide) (by decide) (by decide)
  replace HC := HC.trans HCq176
  replace V := V.ext E176
  replace OL := OL.ext E176
  replace K := K.ext E176
  refine own_ofW st176 ?_
  have ne_wG_a176 : wG ≠ a176 := (FW.ext OL.2).ne Fs176 (fun q => arv_ne (VG.ext OL.2) Vs176 (Or.inl (by decide)) (Value.ref.inj q))
  show own_EndsW _ _ _ _ _ _ _ _ (T176.setTop (mkF m 73 #[.val (.ref a), .val (.ref t), .val (.ref wR), .val (.int (0 : Int32)), .val (.int (4 : Int32)), .val (.ref wG), .unset, .unset, .unset] [(.ref a176), (.ref wG)]))
  refine own_ofW (fun tt_ kk_ => Jvm.RoadKit.acmp (g := (mkF m 73 #[.val (.ref a), .val (.ref t), .val (.ref wR), .val (.int (0 : Int32)), .val (.int (4 : Int32)), .val (.ref wG), .unset, .unset, .unset] [(.ref a176), (.ref wG)])) X176 hx rfl rfl rfl (pc0 := 73) (pc' := 76) (same := false) rfl (hb hby d_jdk_43_method_32_code_73) rfl (decide_eq_false fun q => ne_wG_a176 (Value.ref.inj q)) (by decide) (by decide) kk_) ?_
  show own_EndsW _ _ _ _ _ _ _ _ (T176.setTop (mkF m 76 #[.val (.ref a), .val (.ref t), .val (.ref wR), .val (.int (0 : Int32)), .val (.int (4 : Int32)), .val (.ref wG), .unset, .unset, .unset] []))
  refine own_ofW (fun tt_ kk_ => XS.aload X176.here hx rfl (hb hby d_jdk_43_method_32_code_76) rfl rfl kk_) ?_
  show own_EndsW _ _ _ _ _ _ _ _ (T176.setTop (mkF m 78 #[.val (.ref a), .val (.ref t), .val (.ref wR), .val (.int (0 : Int32)), .val (.int (4 : Int32)), .val (.ref wG), .unset, .unset, .unset] [(.ref wG)]))
  obtain ⟨a177, T177, h177, k177', t177, kb177, X177, e177, E177, hS, hk, hZ, hown, Es177, Cs177, Fs177, Vs177, la177, lt177, HCq177, Lt177, Sf177, st177⟩ := ldcCH X176 hx hZ hown (hw _ (List.mem_of_getElem? (i := 108) rfl)) wS e176 hS hk hEL (by decide +kernel) HC.1 (vs := [(.int (97 : Int32)), (.int (122 : Int32))]) (z := (2 : Int32)) (by decide +kernel) (by decide) (by decide) (g := (mkF m 78 #[.val (.ref a), .val (.ref t), .val (.ref wR), .val (.int (0 : Int32)), .val (.int (4 : Int32)), .val (.ref wG), .unset, .unset, .unset] [(.ref wG)])) rfl (hb hby d_jdk_43_method_32_code_78) (n := 8) (by decide +kernel) (by decide) (by decide) (by decide)
  replace HC := HC.trans HCq177
  replace V := V.ext E177
  replace OL := OL.ext E177
  replace K := K.ext E177
  refine own_ofW st177 ?_
  have ne_wG_a177 : wG ≠ a177 := (FW.ext OL.2).ne Fs177 (fun q => arv_ne (VG.ext OL.2) Vs177 (Or.inl (by decide)) (Value.ref.inj q))
  show own_EndsW _ _ _ _ _ _ _ _ (T177.setTop (mkF m 80 #[.val (.ref a), .val (.ref t), .val (.ref wR), .val (.int (0 : Int32)), .val (.int (4 : Int32)), .val (.ref wG), .unset, .unset, .unset] [(.ref a177), (.ref wG)]))
  refine own_ofW (fun tt_ kk_ => Jvm.RoadKit.acmp (g := (mkF m 80 #[.val (.ref a), .val (.ref t), .val (.ref wR), .val (.int (0 : Int32)), .val (.int (4 : Int32)), .val (.ref wG), .unset, .unset, .unset] [(.ref a177), (.ref wG)])) X177 hx rfl rfl rfl (pc0 := 80) (pc' := 83) (same := false) rfl (hb hby d_jdk_43_method_32_code_80) rfl (decide_eq_false fun q => ne_wG_a177 (Value.ref.inj q)) (by decide) (by decide) kk_) ?_
  show own_EndsW _ _ _ _ _ _ _ _ (T177.setTop (mkF m 83 #[.val (.ref a), .val (.ref t), .val (.ref wR), .val (.int (0 : Int32)), .val (.int (4 : Int32)), .val (.ref wG), .unset, .unset, .unset] []))
  refine own_ofW (fun tt_ kk_ => XS.aload X177.here hx rfl (hb hby d_jdk_43_method_32_code_83) rfl rfl kk_) ?_
  show own_EndsW _ _ _ _ _ _ _ _ (T177.setTop (mkF m 85 #[.val (.ref a), .val (.ref t), .val (.ref wR), .val (.int (0 : Int32)), .val (.int (4 : Int32)), .val (.ref wG), .unset, .unset, .unset] [(.ref wG)]))
  obtain ⟨a178, T178, h178, k178', t178, kb178, X178, e178, E178, hS, hk, hZ, hown, Es178, Cs178, Fs178, Vs178, la178, lt178, HCq178, Lt178, Sf178, st178⟩ := ldcCH X177 hx hZ hown (hw _ (List.mem_of_getElem? (i := 109) rfl)) wS e177 hS hk hEL (by decide +kernel) HC.1 (vs := [(.int (108 : Int32)), (.int (116 : Int32))]) (z := (2 : Int32)) (by decide +kernel) (by decide) (by decide) (g := (mkF m 85 #[.val (.ref a), .val (.ref t), .val (.ref wR), .val (.int (0 : Int32)), .val (.int (4 : Int32)), .val (.ref wG), .unset, .unset, .unset] [(.ref wG)])) rfl (hb hby d_jdk_43_method_32_code_85) (n := 8) (by decide +kernel) (by decide) (by decide) (by decide)
  replace HC := HC.trans HCq178
  replace V := V.ext E178
  replace OL := OL.ext E178
  replace K := K.ext E178
  refine own_ofW st178 ?_
  have ne_wG_a178 : wG ≠ a178 := (FW.ext OL.2).ne Fs178 (fun q => arv_ne (VG.ext OL.2) Vs178 (Or.inl (by decide)) (Value.ref.inj q))
  show own_EndsW _ _ _ _ _ _ _ _ (T178.setTop (mkF m 87 #[.val (.ref a), .val (.ref t), .val (.ref wR), .val (.int (0 : Int32)), .val (.int (4 : Int32)), .val (.ref wG), .unset, .unset, .unset] [(.ref a178), (.ref wG)]))
  refine own_ofW (fun tt_ kk_ => Jvm.RoadKit.acmp (g := (mkF m 87 #[.val (.ref a), .val (.ref t), .val (.ref wR), .val (.int (0 : Int32)), .val (.int (4 : Int32)), .val (.ref wG), .unset, .unset, .unset] [(.ref a178), (.ref wG)])) X178 hx rfl rfl rfl (pc0 := 87) (pc' := 99) (same := false) rfl (hb hby d_jdk_43_method_32_code_87) rfl (decide_eq_false fun q => ne_wG_a178 (Value.ref.inj q)) (by decide) (by decide) kk_) ?_
  show own_EndsW _ _ _ _ _ _ _ _ (T178.setTop (mkF m 99 #[.val (.ref a), .val (.ref t), .val (.ref wR), .val (.int (0 : Int32)), .val (.int (4 : Int32)), .val (.ref wG), .unset, .unset, .unset] []))
  refine own_ofW (fun tt_ kk_ => XS.iload X178.here hx rfl (hb hby d_jdk_43_method_32_code_99) rfl  kk_) ?_
  show own_EndsW _ _ _ _ _ _ _ _ (T178.setTop (mkF m 101 #[.val (.ref a), .val (.ref t), .val (.ref wR), .val (.int (0 : Int32)), .val (.int (4 : Int32)), .val (.ref wG), .unset, .unset, .unset] [(.int (4 : Int32))]))
  obtain ⟨T179, h179, k179, X179, e179, E179, A179, st179⟩ := newP X178 hx hZ (hw _ (List.mem_of_getElem? (i := 7) rfl)) e178 (g := (mkF m 101 #[.val (.ref a), .val (.ref t), .val (.ref wR), .val (.int (0 : Int32)), .val (.int (4 : Int32)), .val (.ref wG), .unset, .unset, .unset] [(.int (4 : Int32))])) rfl (hb hby d_jdk_43_method_32_code_101) rfl (by decide) (cap := 4) (by decide) (by decide) (by decide) (by decide)
  obtain ⟨b179, g179⟩ : ∃ z, z = h178.size := ⟨_, rfl⟩
  rw [← g179] at A179 st179
  have ne_t_b179 : t ≠ b179 := Nat.ne_of_lt (Nat.lt_of_lt_of_le V.lt (Nat.le_of_eq g179.symm))
  have sz_b179 : h0.size ≤ b179 := Nat.le_trans K.1 (Nat.le_of_eq g179.symm)
  have g_b179 : n0 ≤ b179 := Nat.le_trans Z0 sz_b179
  have Sf_b179 : Safe Z own_EL T178.vm h178 b179 := Safe.new (Nat.le_of_eq g179.symm)
  replace Sf_b179 := Safe.ext E179 HC.1 Sf_b179
  replace hk := Nat.le_trans hk E179.1
  replace HC := HC.trans (CHr.ext E179 HC.1)
  replace V := V.ext E179
  replace OL := OL.ext E179
  have V179 : Arv Z h179 b179 k179 .byte (4 : Int32) [(.int (0 : Int32)), (.int (0 : Int32)), (.int (0 : Int32)), (.int (0 : Int32))] (.int (0 : Int32)) := (Arv.new A179 (by decide)).pad (pad_rep [] (.int (0 : Int32)) 4)
  replace K := K.ext E179
  refine own_ofW st179 ?_
  show own_EndsW _ _ _ _ _ _ _ _ (T179.setTop (mkF m 103 #[.val (.ref a), .val (.ref t), .val (.ref wR), .val (.int (0 : Int32)), .val (.int (4 : Int32)), .val (.ref wG), .unset, .unset, .unset] [(.ref b179)]))
  refine own_ofW (fun tt_ kk_ => XS.astore X179.here hx rfl (hb hby d_jdk_43_method_32_code_103) rfl rfl (l' := #[.val (.ref a), .val (.ref t), .val (.ref wR), .val (.int (0 : Int32)), .val (.int (4 : Int32)), .val (.ref wG), .val (.ref b179), .unset, .unset]) rfl kk_) ?_
  show own_EndsW _ _ _ _ _ _ _ _ (T179.setTop (mkF m 105 #[.val (.ref a), .val (.ref t), .val (.ref wR), .val (.int (0 : Int32)), .val (.int (4 : Int32)), .val (.ref wG), .val (.ref b179), .unset, .unset] []))
  refine own_ofW (fun tt_ kk_ => XS.aloadN X179.here hx rfl (hb hby d_jdk_43_method_32_code_105) rfl rfl kk_) ?_
  show own_EndsW _ _ _ _ _ _ _ _ (T179.setTop (mkF m 106 #[.val (.ref a), .val (.ref t), .val (.ref wR), .val (.int (0 : Int32)), .val (.int (4 : Int32)), .val (.ref wG), .val (.ref b179), .unset, .unset] [(.ref t)]))
  refine own_ofW (fun tt_ kk_ => XS.iconst X179.here hx rfl (hb hby d_jdk_43_method_32_code_106) kk_) ?_
  show own_EndsW _ _ _ _ _ _ _ _ (T179.setTop (mkF m 107 #[.val (.ref a), .val (.ref t), .val (.ref wR), .val (.int (0 : Int32)), .val (.int (4 : Int32)), .val (.ref wG), .val (.ref b179), .unset, .unset] [(.int (0 : Int32)), (.ref t)]))
  refine own_ofW (fun tt_ kk_ => XS.aload X179.here hx rfl (hb hby d_jdk_43_method_32_code_107) rfl rfl kk_) ?_
  show own_EndsW _ _ _ _ _ _ _ _ (T179.setTop (mkF m 109 #[.val (.ref a), .val (.ref t), .val (.ref wR), .val (.int (0 : Int32)), .val (.int (4 : Int32)), .val (.ref wG), .val (.ref b179), .unset, .unset] [(.ref b179), (.int (0 : Int32)), (.ref t)]))
  refine own_ofW (fun tt_ kk_ => XS.iconst X179.here hx rfl (hb hby d_jdk_43_method_32_code_109) kk_) ?_
  show own_EndsW _ _ _ _ _ _ _ _ (T179.setTop (mkF m 110 #[.val (.ref a), .val (.ref t), .val (.ref wR), .val (.int (0 : Int32)), .val (.int (4 : Int32)), .val (.ref wG), .val (.ref b179), .unset, .unset] [(.int (0 : Int32)), (.ref b179), (.int (0 : Int32)), (.ref t)]))
  refine own_ofW (fun tt_ kk_ => XS.iloadN X179.here hx rfl (hb hby d_jdk_43_method_32_code_110) rfl  kk_) ?_
  show own_EndsW _ _ _ _ _ _ _ _ (T179.setTop (mkF m 111 #[.val (.ref a), .val (.ref t), .val (.ref wR), .val (.int (0 : Int32)), .val (.int (4 : Int32)), .val (.ref wG), .val (.ref b179), .unset, .unset] [(.int (0 : Int32)), (.int (0 : Int32)), (.ref b179), (.int (0 : Int32)), (.ref t)]))
  obtain ⟨T180, h180, L180, X180, e180, N180, Kq180, Vc180, st180⟩ := cpA X179 hx hZ hown (hw _ (List.mem_of_getElem? (i := 110) rfl)) (hw _ (List.mem_of_getElem? (i := 113) rfl)) (hw _ (List.mem_of_getElem? (i := 111) rfl)) (hw _ (List.mem_of_getElem? (i := 112) rfl)) e179 V V179 (us := []) (Or.inl ⟨rfl, rfl⟩) (by decide) (by decide) (by decide) (by decide) (by decide) rfl (Nat.le_of_ble_eq_true rfl) N175 g_b179 (g := (mkF m 111 #[.val (.ref a), .val (.ref t), .val (.ref wR), .val (.int (0 : Int32)), .val (.int (4 : Int32)), .val (.ref wG), .val (.ref b179), .unset, .unset] [(.int (0 : Int32)), (.int (0 : Int32)), (.ref b179), (.int (0 : Int32)), (.ref t)])) rfl (by rw [hml]; rfl) rfl (hb hby d_jdk_43_method_32_code_111) (by decide) (W := 0) (by show 2 * 0 + _ ≤ _; exact Nat.le_of_eq rfl) (by decide)
  replace Vc180 : Arv Z h180 b179 k179 .byte (4 : Int32) [(.int (0 : Int32)), (.int (0 : Int32)), (.int (0 : Int32)), (.int (0 : Int32))] (.int (0 : Int32)) := Vc180
  have Sf_b179' := Safe.keep Kq180 (sfS Sf_b179 sf0) HC.1 Sf_b179
  replace hk := Nat.le_trans hk Kq180.1
  replace HC := HC.trans (CHr.keep Kq180 (sfS Sf_b179 sf0) HC.1)
  replace Sf_b179 := Sf_b179'
  replace V := V.keep Kq180 (ninS ne_t_b179 nin0)
  replace OL := OL.keep Kq180 (allS g_b179 all0)
  replace K := K.trans Kq180 (allS (Or.inr sz_b179) all0)
  refine own_ofW st180 ?_
  show own_EndsW _ _ _ _ _ _ _ _ (T180.setTop (mkF m 114 #[.val (.ref a), .val (.ref t), .val (.ref wR), .val (.int (0 : Int32)), .val (.int (4 : Int32)), .val (.ref wG), .val (.ref b179), .unset, .unset] []))
  refine own_ofW (fun tt_ kk_ => XS.iloadN X180.here hx rfl (hb hby d_jdk_43_method_32_code_114) rfl  kk_) ?_
  show own_EndsW _ _ _ _ _ _ _ _ (T180.setTop (mkF m 115 #[.val (.ref a), .val (.ref t), .val (.ref wR), .val (.int (0 : Int32)), .val (.int (4 : Int32)), .val (.ref wG), .val (.ref b179), .unset, .unset] [(.int (0 : Int32))]))
  refine own_ofW (fun tt_ kk_ => XS.istore X180.here hx rfl (hb hby d_jdk_43_method_32_code_115) rfl (l' := #[.val (.ref a), .val (.ref t), .val (.ref wR), .val (.int (0 : Int32)), .val (.int (4 : Int32)), .val (.ref wG), .val (.ref b179), .val (.int (0 : Int32)), .unset]) rfl kk_) ?_
  show own_EndsW _ _ _ _ _ _ _ _ (T180.setTop (mkF m 117 #[.val (.ref a), .val (.ref t), .val (.ref wR), .val (.int (0 : Int32)), .val (.int (4 : Int32)), .val (.ref wG), .val (.ref b179), .val (.int (0 : Int32)), .unset] []))
  refine own_ofW (fun tt_ kk_ => XS.iload X180.here hx rfl (hb hby d_jdk_43_method_32_code_117) rfl  kk_) ?_
  show own_EndsW _ _ _ _ _ _ _ _ (T180.setTop (mkF m 119 #[.val (.ref a), .val (.ref t), .val (.ref wR), .val (.int (0 : Int32)), .val (.int (4 : Int32)), .val (.ref wG), .val (.ref b179), .val (.int (0 : Int32)), .unset] [(.int (0 : Int32))]))
  refine own_ofW (fun tt_ kk_ => XS.iload X180.here hx rfl (hb hby d_jdk_43_method_32_code_119) rfl  kk_) ?_
  show own_EndsW _ _ _ _ _ _ _ _ (T180.setTop (mkF m 121 #[.val (.ref a), .val (.ref t), .val (.ref wR), .val (.int (0 : Int32)), .val (.int (4 : Int32)), .val (.ref wG), .val (.ref b179), .val (.int (0 : Int32)), .unset] [(.int (4 : Int32)), (.int (0 : Int32))]))
  refine own_ofW (fun tt_ kk_ => XS.icmpNo X180.here hx rfl (hb hby d_jdk_43_method_32_code_121) rfl (tlt (by decide : ((0 : Int32) < (4 : Int32)))).2.1 kk_) ?_
  show own_EndsW _ _ _ _ _ _ _ _ (T180.setTop (mkF m 124 #[.val (.ref a), .val (.ref t), .val (.ref wR), .val (.int (0 : Int32)), .val (.int (4 : Int32)), .val (.ref wG), .val (.ref b179), .val (.int (0 : Int32)), .unset] []))
  refine own_ofW (fun tt_ kk_ => XS.aloadN X180.here hx rfl (hb hby d_jdk_43_method_32_code_124) rfl rfl kk_) ?_
  show own_EndsW _ _ _ _ _ _ _ _ (T180.setTop (mkF m 125 #[.val (.ref a), .val (.ref t), .val (.ref wR), .val (.int (0 : Int32)), .val (.int (4 : Int32)), .val (.ref wG), .val (.ref b179), .val (.int (0 : Int32)), .unset] [(.ref t)]))
  refine own_ofW (fun tt_ kk_ => XS.iload X180.here hx rfl (hb hby d_jdk_43_method_32_code_125) rfl  kk_) ?_
  show own_EndsW _ _ _ _ _ _ _ _ (T180.setTop (mkF m 127 #[.val (.ref a), .val (.ref t), .val (.ref wR), .val (.int (0 : Int32)), .val (.int (4 : Int32)), .val (.ref wG), .val (.ref b179), .val (.int (0 : Int32)), .unset] [(.int (0 : Int32)), (.ref t)]))
  obtain ⟨cl181, Ar181, q181, S181, N181', H181, G181⟩ := id V
  have hin181 : ¬ ((0 : Int32) < 0 ∨ cl181.slots.size ≤ ((0 : Int32)).toNatClampNeg) := inb_of S181 ⟨by decide, by decide⟩
  have hat181 : cl181.slots[((0 : Int32)).toNatClampNeg]? = some (.int (84 : Int32)) := H181.at hin181 rfl
  refine own_ofW (fun tt_ kk_ => X180.baloadBytes hx (j := (0 : Int32)) (v := (.int (84 : Int32))) (by rw [e180]; exact Ar181.1) (State.isArrayOf_alike hZ.alike Ar181.2.1) Ar181.2.2 hin181 hat181 (g := (mkF m 127 #[.val (.ref a), .val (.ref t), .val (.ref wR), .val (.int (0 : Int32)), .val (.int (4 : Int32)), .val (.ref wG), .val (.ref b179), .val (.int (0 : Int32)), .unset] [(.int (0 : Int32)), (.ref t)])) rfl rfl (hb hby d_jdk_43_method_32_code_127) _ kk_) ?_
  show own_EndsW _ _ _ _ _ _ _ _ (T180.setTop (mkF m 128 #[.val (.ref a), .val (.ref t), .val (.ref wR), .val (.int (0 : Int32)), .val (.int (4 : Int32)), .val (.ref wG), .val (.ref b179), .val (.int (0 : Int32)), .unset] [(.int (84 : Int32))]))
  refine own_ofW (fun tt_ kk_ => XS.sipush X180.here hx rfl (hb hby d_jdk_43_method_32_code_128) kk_) ?_
  show own_EndsW _ _ _ _ _ _ _ _ (T180.setTop (mkF m 131 #[.val (.ref a), .val (.ref t), .val (.ref wR), .val (.int (0 : Int32)), .val (.int (4 : Int32)), .val (.ref wG), .val (.ref b179), .val (.int (0 : Int32)), .unset] [(.int (255 : Int32)), (.int (84 : Int32))]))
  refine own_ofW (fun tt_ kk_ => XS.iand X180.here hx rfl (hb hby d_jdk_43_method_32_code_131) rfl kk_) ?_
  show own_EndsW _ _ _ _ _ _ _ _ (T180.setTop (mkF m 132 #[.val (.ref a), .val (.ref t), .val (.ref wR), .val (.int (0 : Int32)), .val (.int (4 : Int32)), .val (.ref wG), .val (.ref b179), .val (.int (0 : Int32)), .unset] [(.int (84 : Int32))]))
  refine own_ofW (fun tt_ kk_ => XS.istore X180.here hx rfl (hb hby d_jdk_43_method_32_code_132) rfl (l' := #[.val (.ref a), .val (.ref t), .val (.ref wR), .val (.int (0 : Int32)), .val (.int (4 : Int32)), .val (.ref wG), .val (.ref b179), .val (.int (0 : Int32)), .val (.int (84 : Int32))]) rfl kk_) ?_
  show own_EndsW _ _ _ _ _ _ _ _ (T180.setTop (mkF m 134 #[.val (.ref a), .val (.ref t), .val (.ref wR), .val (.int (0 : Int32)), .val (.int (4 : Int32)), .val (.ref wG), .val (.ref b179), .val (.int (0 : Int32)), .val (.int (84 : Int32))] []))
  obtain ⟨T182, X182, e182, st182⟩ := getS2 X180 hx hZ hown (host := "") (Or.inl (hw _ (List.mem_of_getElem? (i := 61) rfl))) Via.refl e180 (SI.ext OL.2) (g := (mkF m 134 #[.val (.ref a), .val (.ref t), .val (.ref wR), .val (.int (0 : Int32)), .val (.int (4 : Int32)), .val (.ref wG), .val (.ref b179), .val (.int (0 : Int32)), .val (.int (84 : Int32))] [])) rfl (hb hby d_jdk_43_method_32_code_134)
  refine own_ofW st182 ?_
  show own_EndsW _ _ _ _ _ _ _ _ (T182.setTop (mkF m 137 #[.val (.ref a), .val (.ref t), .val (.ref wR), .val (.int (0 : Int32)), .val (.int (4 : Int32)), .val (.ref wG), .val (.ref b179), .val (.int (0 : Int32)), .val (.int (84 : Int32))] [(.ref wI)]))
  refine own_ofW (fun tt_ kk_ => XS.iload X182.here hx rfl (hb hby d_jdk_43_method_32_code_137) rfl  kk_) ?_
  show own_EndsW _ _ _ _ _ _ _ _ (T182.setTop (mkF m 139 #[.val (.ref a), .val (.ref t), .val (.ref wR), .val (.int (0 : Int32)), .val (.int (4 : Int32)), .val (.ref wG), .val (.ref b179), .val (.int (0 : Int32)), .val (.int (84 : Int32))] [(.int (84 : Int32)), (.ref wI)]))
  obtain ⟨v183, T183, L183, h183, X183, e183, Q183, st183⟩ := own_virtual X182 hx hZ hown e182 (EI.ext OL.2) (hw _ (List.mem_of_getElem? (i := 87) rfl)) (hw _ (List.mem_of_getElem? (i := 88) rfl)) (notFace_of_selects (args := #[]) (mvT hZ (hw _ (List.mem_of_getElem? (i := 90) rfl)))) (hw _ (List.mem_of_getElem? (i := 90) rfl)) (hw _ (List.mem_of_getElem? (i := 89) rfl)) (hw _ (List.mem_of_getElem? (i := 62) rfl)) (hw _ (List.mem_of_getElem? (i := 91) rfl)) (by decide) (argsL := [(.int (84 : Int32))]) (rest := []) (rm_low84 l Z a0 hw wI h180 n0 (Nat.le_trans Z0 K.1)) (g := (mkF m 139 #[.val (.ref a), .val (.ref t), .val (.ref wR), .val (.int (0 : Int32)), .val (.int (4 : Int32)), .val (.ref wG), .val (.ref b179), .val (.int (0 : Int32)), .val (.int (84 : Int32))] [(.int (84 : Int32)), (.ref wI)])) rfl (by rw [hml]; rfl) (lenOf pd__I_r_I rfl) rfl (by decide) (Nat.le_of_ble_eq_true rfl) (by decide) (by decide) (hb hby d_jdk_43_method_32_code_139)
  obtain ⟨rfl, Nq183, q183⟩ := Q183
  replace e183 := e183.trans q183
  have N183 := Fr.app N180 Nq183
  refine own_ofW st183 ?_
  show own_EndsW _ _ _ _ _ _ _ _ (T183.setTop (mkF m 142 #[.val (.ref a), .val (.ref t), .val (.ref wR), .val (.int (0 : Int32)), .val (.int (4 : Int32)), .val (.ref wG), .val (.ref b179), .val (.int (0 : Int32)), .val (.int (84 : Int32))] [(.int (116 : Int32))]))
  refine own_ofW (fun tt_ kk_ => XS.istore X183.here hx rfl (hb hby d_jdk_43_method_32_code_142) rfl (l' := #[.val (.ref a), .val (.ref t), .val (.ref wR), .val (.int (0 : Int32)), .val (.int (4 : Int32)), .val (.ref wG), .val (.ref b179), .val (.int (0 : Int32)), .val (.int (116 : Int32))]) rfl kk_) ?_
  show own_EndsW _ _ _ _ _ _ _ _ (T183.setTop (mkF m 144 #[.val (.ref a), .val (.ref t), .val (.ref wR), .val (.int (0 : Int32)), .val (.int (4 : Int32)), .val (.ref wG), .val (.ref b179), .val (.int (0 : Int32)), .val (.int (116 : Int32))] []))
  refine own_ofW (fun tt_ kk_ => XS.iload X183.here hx rfl (hb hby d_jdk_43_method_32_code_144) rfl  kk_) ?_
  show own_EndsW _ _ _ _ _ _ _ _ (T183.setTop (mkF m 146 #[.val (.ref a), .val (.ref t), .val (.ref wR), .val (.int (0 : Int32)), .val (.int (4 : Int32)), .val (.ref wG), .val (.ref b179), .val (.int (0 : Int32)), .val (.int (116 : Int32))] [(.int (116 : Int32))]))
  obtain ⟨v184, T184, L184, h184, X184, e184, Q184, st184⟩ := own_static X183 hx hZ hown e183 (hw _ (List.mem_of_getElem? (i := 114) rfl)) (hw _ (List.mem_of_getElem? (i := 115) rfl)) (hw _ (List.mem_of_getElem? (i := 24) rfl)) (hw _ (List.mem_of_getElem? (i := 116) rfl)) (by decide) (argsL := [(.int (116 : Int32))]) (rest := []) (rm_can l Z a0 hw (116 : Int32) h180 n0 (Nat.le_trans Z0 K.1) (by decide) (by decide)) (g := (mkF m 146 #[.val (.ref a), .val (.ref t), .val (.ref wR), .val (.int (0 : Int32)), .val (.int (4 : Int32)), .val (.ref wG), .val (.ref b179), .val (.int (0 : Int32)), .val (.int (116 : Int32))] [(.int (116 : Int32))])) rfl (by rw [hml]; rfl) (lenOf pd__I_r_Z rfl) rfl (by decide) (Nat.le_of_ble_eq_true rfl) (by decide) (by decide) (hb hby d_jdk_43_method_32_code_146)
  obtain ⟨rfl, Nq184, q184⟩ := Q184
  replace e184 := e184.trans q184
  have N184 := Fr.app N183 Nq184
  refine own_ofW st184 ?_
  show own_EndsW _ _ _ _ _ _ _ _ (T184.setTop (mkF m 149 #[.val (.ref a), .val (.ref t), .val (.ref wR), .val (.int (0 : Int32)), .val (.int (4 : Int32)), .val (.ref wG), .val (.ref b179), .val (.int (0 : Int32)), .val (.int (116 : Int32))] [(.int (1 : Int32))]))
  refine own_ofW (fun tt_ kk_ => XS.ifYes X184.here hx rfl (pc0 := 149) (pc' := 161) rfl (hb hby d_jdk_43_method_32_code_149) rfl ((if0 _ _).trans (feq (by decide : ¬ ((1 : Int32) = (0 : Int32)))).2) (by decide) (by decide) kk_) ?_
  show own_EndsW _ _ _ _ _ _ _ _ (T184.setTop (mkF m 161 #[.val (.ref a), .val (.ref t), .val (.ref wR), .val (.int (0 : Int32)), .val (.int (4 : Int32)), .val (.ref wG), .val (.ref b179), .val (.int (0 : Int32)), .val (.int (116 : Int32))] []))
  refine own_ofW (fun tt_ kk_ => XS.aload X184.here hx rfl (hb hby d_jdk_43_method_32_code_161) rfl rfl kk_) ?_
  show own_EndsW _ _ _ _ _ _ _ _ (T184.setTop (mkF m 163 #[.val (.ref a), .val (.ref t), .val (.ref wR), .val (.int (0 : Int32)), .val (.int (4 : Int32)), .val (.ref wG), .val (.ref b179), .val (.int (0 : Int32)), .val (.int (116 : Int32))] [(.ref b179)]))
  refine own_ofW (fun tt_ kk_ => XS.iload X184.here hx rfl (hb hby d_jdk_43_method_32_code_163) rfl  kk_) ?_
  show own_EndsW _ _ _ _ _ _ _ _ (T184.setTop (mkF m 165 #[.val (.ref a), .val (.ref t), .val (.ref wR), .val (.int (0 : Int32)), .val (.int (4 : Int32)), .val (.ref wG), .val (.ref b179), .val (.int (0 : Int32)), .val (.int (116 : Int32))] [(.int (0 : Int32)), (.ref b179)]))
  refine own_ofW (fun tt_ kk_ => XS.iload X184.here hx rfl (hb hby d_jdk_43_method_32_code_165) rfl  kk_) ?_
  show own_EndsW _ _ _ _ _ _ _ _ (T184.setTop (mkF m 167 #[.val (.ref a), .val (.ref t), .val (.ref wR), .val (.int (0 : Int32)), .val (.int (4 : Int32)), .val (.ref wG), .val (.ref b179), .val (.int (0 : Int32)), .val (.int (116 : Int32))] [(.int (116 : Int32)), (.int (0 : Int32)), (.ref b179)]))
  refine own_ofW (fun tt_ kk_ => XS.i2b X184.here hx rfl (hb hby d_jdk_43_method_32_code_167) rfl kk_) ?_
  show own_EndsW _ _ _ _ _ _ _ _ (T184.setTop (mkF m 168 #[.val (.ref a), .val (.ref t), .val (.ref wR), .val (.int (0 : Int32)), .val (.int (4 : Int32)), .val (.ref wG), .val (.ref b179), .val (.int (0 : Int32)), .val (.int (116 : Int32))] [(.int (116 : Int32)), (.int (0 : Int32)), (.ref b179)]))
  obtain ⟨cl185, Ar185, q185, S185, N185', H185, G185⟩ := Vc180
  have hin185 : ¬ ((0 : Int32) < 0 ∨ cl185.slots.size ≤ ((0 : Int32)).toNatClampNeg) := inb_of S185 ⟨by decide, by decide⟩
  obtain ⟨T185, h185, X185, e185, W185, st185⟩ := stB X184 hx hZ e184 Ar185 (j := (0 : Int32)) hin185 (g := (mkF m 168 #[.val (.ref a), .val (.ref t), .val (.ref wR), .val (.int (0 : Int32)), .val (.int (4 : Int32)), .val (.ref wG), .val (.ref b179), .val (.int (0 : Int32)), .val (.int (116 : Int32))] [(.int (116 : Int32)), (.int (0 : Int32)), (.ref b179)])) rfl rfl (hb hby d_jdk_43_method_32_code_168)
  have V185' : Arv Z h185 b179 k179 .byte (4 : Int32) [(.int (116 : Int32)), (.int (0 : Int32)), (.int (0 : Int32)), (.int (0 : Int32))] (.int (0 : Int32)) := Arv.set Ar185 q185 S185 N185' H185 G185 rfl W185 0 rfl (Nat.le_of_ble_eq_true rfl)
  have Sf_b179' := Safe.wr W185 Sf_b179 HC.1 Sf_b179
  replace hk := Nat.le_trans hk (Keep.of_wr W185).1
  replace HC := HC.trans (CHr.wr W185 Sf_b179 HC.1)
  replace Sf_b179 := Sf_b179'
  replace V := V.other W185 ne_t_b179
  replace OL := OL.wr W185 g_b179
  have N185 := Fr.snoc X185 N184 g_b179
  replace K := K.wr W185 (Or.inr sz_b179)
  refine own_ofW st185 ?_
  show own_EndsW _ _ _ _ _ _ _ _ (T185.setTop (mkF m 169 #[.val (.ref a), .val (.ref t), .val (.ref wR), .val (.int (0 : Int32)), .val (.int (4 : Int32)), .val (.ref wG), .val (.ref b179), .val (.int (0 : Int32)), .val (.int (116 : Int32))] []))
  refine own_ofW (fun tt_ kk_ => XS.iinc X185.here hx rfl (hb hby d_jdk_43_method_32_code_169) rfl (l' := #[.val (.ref a), .val (.ref t), .val (.ref wR), .val (.int (0 : Int32)), .val (.int (4 : Int32)), .val (.ref wG), .val (.ref b179), .val (.int (1 : Int32)), .val (.int (116 : Int32))]) rfl kk_) ?_
  show own_EndsW _ _ _ _ _ _ _ _ (T185.setTop (mkF m 172 #[.val (.ref a), .val (.ref t), .val (.ref wR), .val (.int (0 : Int32)), .val (.int (4 : Int32)), .val (.ref wG), .val (.ref b179), .val (.int (1 : Int32)), .val (.int (116 : Int32))] []))
  refine own_ofW (fun tt_ kk_ => XS.goto X185.here hx rfl (pc0 := 172) (pc' := 117) rfl (hb hby d_jdk_43_method_32_code_172) (by decide) (by decide) kk_) ?_
  show own_EndsW _ _ _ _ _ _ _ _ (T185.setTop (mkF m 117 #[.val (.ref a), .val (.ref t), .val (.ref wR), .val (.int (0 : Int32)), .val (.int (4 : Int32)), .val (.ref wG), .val (.ref b179), .val (.int (1 : Int32)), .val (.int (116 : Int32))] []))
  refine own_ofW (fun tt_ kk_ => XS.iload X185.here hx rfl (hb hby d_jdk_43_method_32_code_117) rfl  kk_) ?_
  show own_EndsW _ _ _ _ _ _ _ _ (T185.setTop (mkF m 119 #[.val (.ref a), .val (.ref t), .val (.ref wR), .val (.int (0 : Int32)), .val (.int (4 : Int32)), .val (.ref wG), .val (.ref b179), .val (.int (1 : Int32)), .val (.int (116 : Int32))] [(.int (1 : Int32))]))
  refine own_ofW (fun tt_ kk_ => XS.iload X185.here hx rfl (hb hby d_jdk_43_method_32_code_119) rfl  kk_) ?_
  show own_EndsW _ _ _ _ _ _ _ _ (T185.setTop (mkF m 121 #[.val (.ref a), .val (.ref t), .val (.ref wR), .val (.int (0 : Int32)), .val (.int (4 : Int32)), .val (.ref wG), .val (.ref b179), .val (.int (1 : Int32)), .val (.int (116 : Int32))] [(.int (4 : Int32)), (.int (1 : Int32))]))
  refine own_ofW (fun tt_ kk_ => XS.icmpNo X185.here hx rfl (hb hby d_jdk_43_method_32_code_121) rfl (tlt (by decide : ((1 : Int32) < (4 : Int32)))).2.1 kk_) ?_
  show own_EndsW _ _ _ _ _ _ _ _ (T185.setTop (mkF m 124 #[.val (.ref a), .val (.ref t), .val (.ref wR), .val (.int (0 : Int32)), .val (.int (4 : Int32)), .val (.ref wG), .val (.ref b179), .val (.int (1 : Int32)), .val (.int (116 : Int32))] []))
  refine own_ofW (fun tt_ kk_ => XS.aloadN X185.here hx rfl (hb hby d_jdk_43_method_32_code_124) rfl rfl kk_) ?_
  show own_EndsW _ _ _ _ _ _ _ _ (T185.setTop (mkF m 125 #[.val (.ref a), .val (.ref t), .val (.ref wR), .val (.int (0 : Int32)), .val (.int (4 : Int32)), .val (.ref wG), .val (.ref b179), .val (.int (1 : Int32)), .val (.int (116 : Int32))] [(.ref t)]))
  refine own_ofW (fun tt_ kk_ => XS.iload X185.here hx rfl (hb hby d_jdk_43_method_32_code_125) rfl  kk_) ?_
  show own_EndsW _ _ _ _ _ _ _ _ (T185.setTop (mkF m 127 #[.val (.ref a), .val (.ref t), .val (.ref wR), .val (.int (0 : Int32)), .val (.int (4 : Int32)), .val (.ref wG), .val (.ref b179), .val (.int (1 : Int32)), .val (.int (116 : Int32))] [(.int (1 : Int32)), (.ref t)]))
  obtain ⟨cl186, Ar186, q186, S186, N186', H186, G186⟩ := id V
  have hin186 : ¬ ((1 : Int32) < 0 ∨ cl186.slots.size ≤ ((1 : Int32)).toNatClampNeg) := inb_of S186 ⟨by decide, by decide⟩
  have hat186 : cl186.slots[((1 : Int32)).toNatClampNeg]? = some (.int (114 : Int32)) := H186.at hin186 rfl
  refine own_ofW (fun tt_ kk_ => X185.baloadBytes hx (j := (1 : Int32)) (v := (.int (114 : Int32))) (by rw [e185]; exact Ar186.1) (State.isArrayOf_alike hZ.alike Ar186.2.1) Ar186.2.2 hin186 hat186 (g := (mkF m 127 #[.val (.ref a), .val (.ref t), .val (.ref wR), .val (.int (0 : Int32)), .val (.int (4 : Int32)), .val (.ref wG), .val (.ref b179), .val (.int (1 : Int32)), .val (.int (116 : Int32))] [(.int (1 : Int32)), (.ref t)])) rfl rfl (hb hby d_jdk_43_method_32_code_127) _ kk_) ?_
  show own_EndsW _ _ _ _ _ _ _ _ (T185.setTop (mkF m 128 #[.val (.ref a), .val (.ref t), .val (.ref wR), .val (.int (0 : Int32)), .val (.int (4 : Int32)), .val (.ref wG), .val (.ref b179), .val (.int (1 : Int32)), .val (.int (116 : Int32))] [(.int (114 : Int32))]))
  refine own_ofW (fun tt_ kk_ => XS.sipush X185.here hx rfl (hb hby d_jdk_43_method_32_code_128) kk_) ?_
  show own_EndsW _ _ _ _ _ _ _ _ (T185.setTop (mkF m 131 #[.val (.ref a), .val (.ref t), .val (.ref wR), .val (.int (0 : Int32)), .val (.int (4 : Int32)), .val (.ref wG), .val (.ref b179), .val (.int (1 : Int32)), .val (.int (116 : Int32))] [(.int (255 : Int32)), (.int (114 : Int32))]))
  refine own_ofW (fun tt_ kk_ => XS.iand X185.here hx rfl (hb hby d_jdk_43_method_32_code_131) rfl kk_) ?_
  show own_EndsW _ _ _ _ _ _ _ _ (T185.setTop (mkF m 132 #[.val (.ref a), .val (.ref t), .val (.ref wR), .val (.int (0 : Int32)), .val (.int (4 : Int32)), .val (.ref wG), .val (.ref b179), .val (.int (1 : Int32)), .val (.int (116 : Int32))] [(.int (114 : Int32))]))
  refine own_ofW (fun tt_ kk_ => XS.istore X185.here hx rfl (hb hby d_jdk_43_method_32_code_132) rfl (l' := #[.val (.ref a), .val (.ref t), .val (.ref wR), .val (.int (0 : Int32)), .val (.int (4 : Int32)), .val (.ref wG), .val (.ref b179), .val (.int (1 : Int32)), .val (.int (114 : Int32))]) rfl kk_) ?_
  show own_EndsW _ _ _ _ _ _ _ _ (T185.setTop (mkF m 134 #[.val (.ref a), .val (.ref t), .val (.ref wR), .val (.int (0 : Int32)), .val (.int (4 : Int32)), .val (.ref wG), .val (.ref b179), .val (.int (1 : Int32)), .val (.int (114 : Int32))] []))
  obtain ⟨T187, X187, e187, st187⟩ := getS2 X185 hx hZ hown (host := "") (Or.inl (hw _ (List.mem_of_getElem? (i := 61) rfl))) Via.refl e185 (SI.ext OL.2) (g := (mkF m 134 #[.val (.ref a), .val (.ref t), .val (.ref wR), .val (.int (0 : Int32)), .val (.int (4 : Int32)), .val (.ref wG), .val (.ref b179), .val (.int (1 : Int32)), .val (.int (114 : Int32))] [])) rfl (hb hby d_jdk_43_method_32_code_134)
  refine own_ofW st187 ?_
  show own_EndsW _ _ _ _ _ _ _ _ (T187.setTop (mkF m 137 #[.val (.ref a), .val (.ref t), .val (.ref wR), .val (.int (0 : Int32)), .val (.int (4 : Int32)), .val (.ref wG), .val (.ref b179), .val (.int (1 : Int32)), .val (.int (114 : Int32))] [(.ref wI)]))
  refine own_ofW (fun tt_ kk_ => XS.iload X187.here hx rfl (hb hby d_jdk_43_method_32_code_137) rfl  kk_) ?_
  show own_EndsW _ _ _ _ _ _ _ _ (T187.setTop (mkF m 139 #[.val (.ref a), .val (.ref t), .val (.ref wR), .val (.int (0 : Int32)), .val (.int (4 : Int32)), .val (.ref wG), .val (.ref b179), .val (.int (1 : Int32)), .val (.int (114 : Int32))] [(.int (114 : Int32)), (.ref wI)]))
  obtain ⟨v188, T188, L188, h188, X188, e188, Q188, st188⟩ := own_virtual X187 hx hZ hown e187 (EI.ext OL.2) (hw _ (List.mem_of_getElem? (i := 87) rfl)) (hw _ (List.mem_of_getElem? (i := 88) rfl)) (notFace_of_selects (args := #[]) (mvT hZ (hw _ (List.mem_of_getElem? (i := 90) rfl)))) (hw _ (List.mem_of_getElem? (i := 90) rfl)) (hw _ (List.mem_of_getElem? (i := 89) rfl)) (hw _ (List.mem_of_getElem? (i := 62) rfl)) (hw _ (List.mem_of_getElem? (i := 91) rfl)) (by decide) (argsL := [(.int (114 : Int32))]) (rest := []) (rm_low114 l Z a0 hw wI h185 n0 (Nat.le_trans Z0 K.1)) (g := (mkF m 139 #[.val (.ref a), .val (.ref t), .val (.ref wR), .val (.int (0 : Int32)), .val (.int (4 : Int32)), .val (.ref wG), .val (.ref b179), .val (.int (1 : Int32)), .val (.int (114 : Int32))] [(.int (114 : Int32)), (.ref wI)])) rfl (by rw [hml]; rfl) (lenOf pd__I_r_I rfl) rfl (by decide) (Nat.le_of_ble_eq_true rfl) (by decide) (by decide) (hb hby d_jdk_43_method_32_code_139)
  obtain ⟨rfl, Nq188, q188⟩ := Q188
  replace e188 := e188.trans q188
  have N188 := Fr.app N185 Nq188
  refine own_ofW st188 ?_
  show own_EndsW _ _ _ _ _ _ _ _ (T188.setTop (mkF m 142 #[.val (.ref a), .val (.ref t), .val (.ref wR), .val (.int (0 : Int32)), .val (.int (4 : Int32)), .val (.ref wG), .val (.ref b179), .val (.int (1 : Int32)), .val (.int (114 : Int32))] [(.int (114 : Int32))]))
  refine own_ofW (fun tt_ kk_ => XS.istore X188.here hx rfl (hb hby d_jdk_43_method_32_code_142) rfl (l' := #[.val (.ref a), .val (.ref t), .val (.ref wR), .val (.int (0 : Int32)), .val (.int (4 : Int32)), .val (.ref wG), .val (.ref b179), .val (.int (1 : Int32)), .val (.int (114 : Int32))]) rfl kk_) ?_
  show own_EndsW _ _ _ _ _ _ _ _ (T188.setTop (mkF m 144 #[.val (.ref a), .val (.ref t), .val (.ref wR), .val (.int (0 : Int32)), .val (.int (4 : Int32)), .val (.ref wG), .val (.ref b179), .val (.int (1 : Int32)), .val (.int (114 : Int32))] []))
  refine own_ofW (fun tt_ kk_ => XS.iload X188.here hx rfl (hb hby d_jdk_43_method_32_code_144) rfl  kk_) ?_
  show own_EndsW _ _ _ _ _ _ _ _ (T188.setTop (mkF m 146 #[.val (.ref a), .val (.ref t), .val (.ref wR), .val (.int (0 : Int32)), .val (.int (4 : Int32)), .val (.ref wG), .val (.ref b179), .val (.int (1 : Int32)), .val (.int (114 : Int32))] [(.int (114 : Int32))]))
  obtain ⟨v189, T189, L189, h189, X189, e189, Q189, st189⟩ := own_static X188 hx hZ hown e188 (hw _ (List.mem_of_getElem? (i := 114) rfl)) (hw _ (List.mem_of_getElem? (i := 115) rfl)) (hw _ (List.mem_of_getElem? (i := 24) rfl)) (hw _ (List.mem_of_getElem? (i := 116) rfl)) (by decide) (argsL := [(.int (114 : Int32))]) (rest := []) (rm_can l Z a0 hw (114 : Int32) h185 n0 (Nat.le_trans Z0 K.1) (by decide) (by decide)) (g := (mkF m 146 #[.val (.ref a), .val (.ref t), .val (.ref wR), .val (.int (0 : Int32)), .val (.int (4 : Int32)), .val (.ref wG), .val (.ref b179), .val (.int (1 : Int32)), .val (.int (114 : Int32))] [(.int (114 : Int32))])) rfl (by rw [hml]; rfl) (lenOf pd__I_r_Z rfl) rfl (by decide) (Nat.le_of_ble_eq_true rfl) (by decide) (by decide) (hb hby d_jdk_43_method_32_code_146)
  obtain ⟨rfl, Nq189, q189⟩ := Q189
  replace e189 := e189.trans q189
  have N189 := Fr.app N188 Nq189
  refine own_ofW st189 ?_
  show own_EndsW _ _ _ _ _ _ _ _ (T189.setTop (mkF m 149 #[.val (.ref a), .val (.ref t), .val (.ref wR), .val (.int (0 : Int32)), .val (.int (4 : Int32)), .val (.ref wG), .val (.ref b179), .val (.int (1 : Int32)), .val (.int (114 : Int32))] [(.int (1 : Int32))]))
  refine own_ofW (fun tt_ kk_ => XS.ifYes X189.here hx rfl (pc0 := 149) (pc' := 161) rfl (hb hby d_jdk_43_method_32_code_149) rfl ((if0 _ _).trans (feq (by decide : ¬ ((1 : Int32) = (0 : Int32)))).2) (by decide) (by decide) kk_) ?_
  show own_EndsW _ _ _ _ _ _ _ _ (T189.setTop (mkF m 161 #[.val (.ref a), .val (.ref t), .val (.ref wR), .val (.int (0 : Int32)), .val (.int (4 : Int32)), .val (.ref wG), .val (.ref b179), .val (.int (1 : Int32)), .val (.int (114 : Int32))] []))
  refine own_ofW (fun tt_ kk_ => XS.aload X189.here hx rfl (hb hby d_jdk_43_method_32_code_161) rfl rfl kk_) ?_
  show own_EndsW _ _ _ _ _ _ _ _ (T189.setTop (mkF m 163 #[.val (.ref a), .val (.ref t), .val (.ref wR), .val (.int (0 : Int32)), .val (.int (4 : Int32)), .val (.ref wG), .val (.ref b179), .val (.int (1 : Int32)), .val (.int (114 : Int32))] [(.ref b179)]))
  refine own_ofW (fun tt_ kk_ => XS.iload X189.here hx rfl (hb hby d_jdk_43_method_32_code_163) rfl  kk_) ?_
  show own_EndsW _ _ _ _ _ _ _ _ (T189.setTop (mkF m 165 #[.val (.ref a), .val (.ref t), .val (.ref wR), .val (.int (0 : Int32)), .val (.int (4 : Int32)), .val (.ref wG), .val (.ref b179), .val (.int (1 : Int32)), .val (.int (114 : Int32))] [(.int (1 : Int32)), (.ref b179)]))
  refine own_ofW (fun tt_ kk_ => XS.iload X189.here hx rfl (hb hby d_jdk_43_method_32_code_165) rfl  kk_) ?_
  show own_EndsW _ _ _ _ _ _ _ _ (T189.setTop (mkF m 167 #[.val (.ref a), .val (.ref t), .val (.ref wR), .val (.int (0 : Int32)), .val (.int (4 : Int32)), .val (.ref wG), .val (.ref b179), .val (.int (1 : Int32)), .val (.int (114 : Int32))] [(.int (114 : Int32)), (.int (1 : Int32)), (.ref b179)]))
  refine own_ofW (fun tt_ kk_ => XS.i2b X189.here hx rfl (hb hby d_jdk_43_method_32_code_167) rfl kk_) ?_
  show own_EndsW _ _ _ _ _ _ _ _ (T189.setTop (mkF m 168 #[.val (.ref a), .val (.ref t), .val (.ref wR), .val (.int (0 : Int32)), .val (.int (4 : Int32)), .val (.ref wG), .val (.ref b179), .val (.int (1 : Int32)), .val (.int (114 : Int32))] [(.int (114 : Int32)), (.int (1 : Int32)), (.ref b179)]))
  obtain ⟨cl190, Ar190, q190, S190, N190', H190, G190⟩ := V185'
  have hin190 : ¬ ((1 : Int32) < 0 ∨ cl190.slots.size ≤ ((1 : Int32)).toNatClampNeg) := inb_of S190 ⟨by decide, by decide⟩
  obtain ⟨T190, h190, X190, e190, W190, st190⟩ := stB X189 hx hZ e189 Ar190 (j := (1 : Int32)) hin190 (g := (mkF m 168 #[.val (.ref a), .val (.ref t), .val (.ref wR), .val (.int (0 : Int32)), .val (.int (4 : Int32)), .val (.ref wG), .val (.ref b179), .val (.int (1 : Int32)), .val (.int (114 : Int32))] [(.int (114 : Int32)), (.int (1 : Int32)), (.ref b179)])) rfl rfl (hb hby d_jdk_43_method_32_code_168)
  have V190' : Arv Z h190 b179 k179 .byte (4 : Int32) [(.int (116 : Int32)), (.int (114 : Int32)), (.int (0 : Int32)), (.int (0 : Int32))] (.int (0 : Int32)) := Arv.set Ar190 q190 S190 N190' H190 G190 rfl W190 1 rfl (Nat.le_of_ble_eq_true rfl)
  have Sf_b179' := Safe.wr W190 Sf_b179 HC.1 Sf_b179
  replace hk := Nat.le_trans hk (Keep.of_wr W190).1
  replace HC := HC.trans (CHr.wr W190 Sf_b179 HC.1)
  replace Sf_b179 := Sf_b179'
  replace V := V.other W190 ne_t_b179
  replace OL := OL.wr W190 g_b179
  have N190 := Fr.snoc X190 N189 g_b179
  replace K := K.wr W190 (Or.inr sz_b179)
  refine own_ofW st190 ?_
  show own_EndsW _ _ _ _ _ _ _ _ (T190.setTop (mkF m 169 #[.val (.ref a), .val (.ref t), .val (.ref wR), .val (.int (0 : Int32)), .val (.int (4 : Int32)), .val (.ref wG), .val (.ref b179), .val (.int (1 : Int32)), .val (.int (114 : Int32))] []))
  refine own_ofW (fun tt_ kk_ => XS.iinc X190.here hx rfl (hb hby d_jdk_43_method_32_code_169) rfl (l' := #[.val (.ref a), .val (.ref t), .val (.ref wR), .val (.int (0 : Int32)), .val (.int (4 : Int32)), .val (.ref wG), .val (.ref b179), .val (.int (2 : Int32)), .val (.int (114 : Int32))]) rfl kk_) ?_
  show own_EndsW _ _ _ _ _ _ _ _ (T190.setTop (mkF m 172 #[.val (.ref a), .val (.ref t), .val (.ref wR), .val (.int (0 : Int32)), .val (.int (4 : Int32)), .val (.ref wG), .val (.ref b179), .val (.int (2 : Int32)), .val (.int (114 : Int32))] []))
  refine own_ofW (fun tt_ kk_ => XS.goto X190.here hx rfl (pc0 := 172) (pc' := 117) rfl (hb hby d_jdk_43_method_32_code_172) (by decide) (by decide) kk_) ?_
  show own_EndsW _ _ _ _ _ _ _ _ (T190.setTop (mkF m 117 #[.val (.ref a), .val (.ref t), .val (.ref wR), .val (.int (0 : Int32)), .val (.int (4 : Int32)), .val (.ref wG), .val (.ref b179), .val (.int (2 : Int32)), .val (.int (114 : Int32))] []))
  refine own_ofW (fun tt_ kk_ => XS.iload X190.here hx rfl (hb hby d_jdk_43_method_32_code_117) rfl  kk_) ?_
  show own_EndsW _ _ _ _ _ _ _ _ (T190.setTop (mkF m 119 #[.val (.ref a), .val (.ref t), .val (.ref wR), .val (.int (0 : Int32)), .val (.int (4 : Int32)), .val (.ref wG), .val (.ref b179), .val (.int (2 : Int32)), .val (.int (114 : Int32))] [(.int (2 : Int32))]))
  refine own_ofW (fun tt_ kk_ => XS.iload X190.here hx rfl (hb hby d_jdk_43_method_32_code_119) rfl  kk_) ?_
  show own_EndsW _ _ _ _ _ _ _ _ (T190.setTop (mkF m 121 #[.val (.ref a), .val (.ref t), .val (.ref wR), .val (.int (0 : Int32)), .val (.int (4 : Int32)), .val (.ref wG), .val (.ref b179), .val (.int (2 : Int32)), .val (.int (114 : Int32))] [(.int (4 : Int32)), (.int (2 : Int32))]))
  refine own_ofW (fun tt_ kk_ => XS.icmpNo X190.here hx rfl (hb hby d_jdk_43_method_32_code_121) rfl (tlt (by decide : ((2 : Int32) < (4 : Int32)))).2.1 kk_) ?_
  show own_EndsW _ _ _ _ _ _ _ _ (T190.setTop (mkF m 124 #[.val (.ref a), .val (.ref t), .val (.ref wR), .val (.int (0 : Int32)), .val (.int (4 : Int32)), .val (.ref wG), .val (.ref b179), .val (.int (2 : Int32)), .val (.int (114 : Int32))] []))
  refine own_ofW (fun tt_ kk_ => XS.aloadN X190.here hx rfl (hb hby d_jdk_43_method_32_code_124) rfl rfl kk_) ?_
  show own_EndsW _ _ _ _ _ _ _ _ (T190.setTop (mkF m 125 #[.val (.ref a), .val (.ref t), .val (.ref wR), .val (.int (0 : Int32)), .val (.int (4 : Int32)), .val (.ref wG), .val (.ref b179), .val (.int (2 : Int32)), .val (.int (114 : Int32))] [(.ref t)]))
  refine own_ofW (fun tt_ kk_ => XS.iload X190.here hx rfl (hb hby d_jdk_43_method_32_code_125) rfl  kk_) ?_
  show own_EndsW _ _ _ _ _ _ _ _ (T190.setTop (mkF m 127 #[.val (.ref a), .val (.ref t), .val (.ref wR), .val (.int (0 : Int32)), .val (.int (4 : Int32)), .val (.ref wG), .val (.ref b179), .val (.int (2 : Int32)), .val (.int (114 : Int32))] [(.int (2 : Int32)), (.ref t)]))
  obtain ⟨cl191, Ar191, q191, S191, N191', H191, G191⟩ := id V
  have hin191 : ¬ ((2 : Int32) < 0 ∨ cl191.slots.size ≤ ((2 : Int32)).toNatClampNeg) := inb_of S191 ⟨by decide, by decide⟩
  have hat191 : cl191.slots[((2 : Int32)).toNatClampNeg]? = some (.int (117 : Int32)) := H191.at hin191 rfl
  refine own_ofW (fun tt_ kk_ => X190.baloadBytes hx (j := (2 : Int32)) (v := (.int (117 : Int32))) (by rw [e190]; exact Ar191.1) (State.isArrayOf_alike hZ.alike Ar191.2.1) Ar191.2.2 hin191 hat191 (g := (mkF m 127 #[.val (.ref a), .val (.ref t), .val (.ref wR), .val (.int (0 : Int32)), .val (.int (4 : Int32)), .val (.ref wG), .val (.ref b179), .val (.int (2 : Int32)), .val (.int (114 : Int32))] [(.int (2 : Int32)), (.ref t)])) rfl rfl (hb hby d_jdk_43_method_32_code_127) _ kk_) ?_
  show own_EndsW _ _ _ _ _ _ _ _ (T190.setTop (mkF m 128 #[.val (.ref a), .val (.ref t), .val (.ref wR), .val (.int (0 : Int32)), .val (.int (4 : Int32)), .val (.ref wG), .val (.ref b179), .val (.int (2 : Int32)), .val (.int (114 : Int32))] [(.int (117 : Int32))]))
  refine own_ofW (fun tt_ kk_ => XS.sipush X190.here hx rfl (hb hby d_jdk_43_method_32_code_128) kk_) ?_
  show own_EndsW _ _ _ _ _ _ _ _ (T190.setTop (mkF m 131 #[.val (.ref a), .val (.ref t), .val (.ref wR), .val (.int (0 : Int32)), .val (.int (4 : Int32)), .val (.ref wG), .val (.ref b179), .val (.int (2 : Int32)), .val (.int (114 : Int32))] [(.int (255 : Int32)), (.int (117 : Int32))]))
  refine own_ofW (fun tt_ kk_ => XS.iand X190.here hx rfl (hb hby d_jdk_43_method_32_code_131) rfl kk_) ?_
  show own_EndsW _ _ _ _ _ _ _ _ (T190.setTop (mkF m 132 #[.val (.ref a), .val (.ref t), .val (.ref wR), .val (.int (0 : Int32)), .val (.int (4 : Int32)), .val (.ref wG), .val (.ref b179), .val (.int (2 : Int32)), .val (.int (114 : Int32))] [(.int (117 : Int32))]))
  refine own_ofW (fun tt_ kk_ => XS.istore X190.here hx rfl (hb hby d_jdk_43_method_32_code_132) rfl (l' := #[.val (.ref a), .val (.ref t), .val (.ref wR), .val (.int (0 : Int32)), .val (.int (4 : Int32)), .val (.ref wG), .val (.ref b179), .val (.int (2 : Int32)), .val (.int (117 : Int32))]) rfl kk_) ?_
  show own_EndsW _ _ _ _ _ _ _ _ (T190.setTop (mkF m 134 #[.val (.ref a), .val (.ref t), .val (.ref wR), .val (.int (0 : Int32)), .val (.int (4 : Int32)), .val (.ref wG), .val (.ref b179), .val (.int (2 : Int32)), .val (.int (117 : Int32))] []))
  obtain ⟨T192, X192, e192, st192⟩ := getS2 X190 hx hZ hown (host := "") (Or.inl (hw _ (List.mem_of_getElem? (i := 61) rfl))) Via.refl e190 (SI.ext OL.2) (g := (mkF m 134 #[.val (.ref a), .val (.ref t), .val (.ref wR), .val (.int (0 : Int32)), .val (.int (4 : Int32)), .val (.ref wG), .val (.ref b179), .val (.int (2 : Int32)), .val (.int (117 : Int32))] [])) rfl (hb hby d_jdk_43_method_32_code_134)
  refine own_ofW st192 ?_
  show own_EndsW _ _ _ _ _ _ _ _ (T192.setTop (mkF m 137 #[.val (.ref a), .val (.ref t), .val (.ref wR), .val (.int (0 : Int32)), .val (.int (4 : Int32)), .val (.ref wG), .val (.ref b179), .val (.int (2 : Int32)), .val (.int (117 : Int32))] [(.ref wI)]))
  refine own_ofW (fun tt_ kk_ => XS.iload X192.here hx rfl (hb hby d_jdk_43_method_32_code_137) rfl  kk_) ?_
  show own_EndsW _ _ _ _ _ _ _ _ (T192.setTop (mkF m 139 #[.val (.ref a), .val (.ref t), .val (.ref wR), .val (.int (0 : Int32)), .val (.int (4 : Int32)), .val (.ref wG), .val (.ref b179), .val (.int (2 : Int32)), .val (.int (117 : Int32))] [(.int (117 : Int32)), (.ref wI)]))
  obtain ⟨v193, T193, L193, h193, X193, e193, Q193, st193⟩ := own_virtual X192 hx hZ hown e192 (EI.ext OL.2) (hw _ (List.mem_of_getElem? (i := 87) rfl)) (hw _ (List.mem_of_getElem? (i := 88) rfl)) (notFace_of_selects (args := #[]) (mvT hZ (hw _ (List.mem_of_getElem? (i := 90) rfl)))) (hw _ (List.mem_of_getElem? (i := 90) rfl)) (hw _ (List.mem_of_getElem? (i := 89) rfl)) (hw _ (List.mem_of_getElem? (i := 62) rfl)) (hw _ (List.mem_of_getElem? (i := 91) rfl)) (by decide) (argsL := [(.int (117 : Int32))]) (rest := []) (rm_low117 l Z a0 hw wI h190 n0 (Nat.le_trans Z0 K.1)) (g := (mkF m 139 #[.val (.ref a), .val (.ref t), .val (.ref wR), .val (.int (0 : Int32)), .val (.int (4 : Int32)), .val (.ref wG), .val (.ref b179), .val (.int (2 : Int32)), .val (.int (117 : Int32))] [(.int (117 : Int32)), (.ref wI)])) rfl (by rw [hml]; rfl) (lenOf pd__I_r_I rfl) rfl (by decide) (Nat.le_of_ble_eq_true rfl) (by decide) (by decide) (hb hby d_jdk_43_method_32_code_139)
  obtain ⟨rfl, Nq193, q193⟩ := Q193
  replace e193 := e193.trans q193
  have N193 := Fr.app N190 Nq193
  refine own_ofW st193 ?_
  show own_EndsW _ _ _ _ _ _ _ _ (T193.setTop (mkF m 142 #[.val (.ref a), .val (.ref t), .val (.ref wR), .val (.int (0 : Int32)), .val (.int (4 : Int32)), .val (.ref wG), .val (.ref b179), .val (.int (2 : Int32)), .val (.int (117 : Int32))] [(.int (117 : Int32))]))
  refine own_ofW (fun tt_ kk_ => XS.istore X193.here hx rfl (hb hby d_jdk_43_method_32_code_142) rfl (l' := #[.val (.ref a), .val (.ref t), .val (.ref wR), .val (.int (0 : Int32)), .val (.int (4 : Int32)), .val (.ref wG), .val (.ref b179), .val (.int (2 : Int32)), .val (.int (117 : Int32))]) rfl kk_) ?_
  show own_EndsW _ _ _ _ _ _ _ _ (T193.setTop (mkF m 144 #[.val (.ref a), .val (.ref t), .val (.ref wR), .val (.int (0 : Int32)), .val (.int (4 : Int32)), .val (.ref wG), .val (.ref b179), .val (.int (2 : Int32)), .val (.int (117 : Int32))] []))
  refine own_ofW (fun tt_ kk_ => XS.iload X193.here hx rfl (hb hby d_jdk_43_method_32_code_144) rfl  kk_) ?_
  show own_EndsW _ _ _ _ _ _ _ _ (T193.setTop (mkF m 146 #[.val (.ref a), .val (.ref t), .val (.ref wR), .val (.int (0 : Int32)), .val (.int (4 : Int32)), .val (.ref wG), .val (.ref b179), .val (.int (2 : Int32)), .val (.int (117 : Int32))] [(.int (117 : Int32))]))
  obtain ⟨v194, T194, L194, h194, X194, e194, Q194, st194⟩ := own_static X193 hx hZ hown e193 (hw _ (List.mem_of_getElem? (i := 114) rfl)) (hw _ (List.mem_of_getElem? (i := 115) rfl)) (hw _ (List.mem_of_getElem? (i := 24) rfl)) (hw _ (List.mem_of_getElem? (i := 116) rfl)) (by decide) (argsL := [(.int (117 : Int32))]) (rest := []) (rm_can l Z a0 hw (117 : Int32) h190 n0 (Nat.le_trans Z0 K.1) (by decide) (by decide)) (g := (mkF m 146 #[.val (.ref a), .val (.ref t), .val (.ref wR), .val (.int (0 : Int32)), .val (.int (4 : Int32)), .val (.ref wG), .val (.ref b179), .val (.int (2 : Int32)), .val (.int (117 : Int32))] [(.int (117 : Int32))])) rfl (by rw [hml]; rfl) (lenOf pd__I_r_Z rfl) rfl (by decide) (Nat.le_of_ble_eq_true rfl) (by decide) (by decide) (hb hby d_jdk_43_method_32_code_146)
  obtain ⟨rfl, Nq194, q194⟩ := Q194
  replace e194 := e194.trans q194
  have N194 := Fr.app N193 Nq194
  refine own_ofW st194 ?_
  show own_EndsW _ _ _ _ _ _ _ _ (T194.setTop (mkF m 149 #[.val (.ref a), .val (.ref t), .val (.ref wR), .val (.int (0 : Int32)), .val (.int (4 : Int32)), .val (.ref wG), .val (.ref b179), .val (.int (2 : Int32)), .val (.int (117 : Int32))] [(.int (1 : Int32))]))
  refine own_ofW (fun tt_ kk_ => XS.ifYes X194.here hx rfl (pc0 := 149) (pc' := 161) rfl (hb hby d_jdk_43_method_32_code_149) rfl ((if0 _ _).trans (feq (by decide : ¬ ((1 : Int32) = (0 : Int32)))).2) (by decide) (by decide) kk_) ?_
  show own_EndsW _ _ _ _ _ _ _ _ (T194.setTop (mkF m 161 #[.val (.ref a), .val (.ref t), .val (.ref wR), .val (.int (0 : Int32)), .val (.int (4 : Int32)), .val (.ref wG), .val (.ref b179), .val (.int (2 : Int32)), .val (.int (117 : Int32))] []))
  refine own_ofW (fun tt_ kk_ => XS.aload X194.here hx rfl (hb hby d_jdk_43_method_32_code_161) rfl rfl kk_) ?_
  show own_EndsW _ _ _ _ _ _ _ _ (T194.setTop (mkF m 163 #[.val (.ref a), .val (.ref t), .val (.ref wR), .val (.int (0 : Int32)), .val (.int (4 : Int32)), .val (.ref wG), .val (.ref b179), .val (.int (2 : Int32)), .val (.int (117 : Int32))] [(.ref b179)]))
  refine own_ofW (fun tt_ kk_ => XS.iload X194.here hx rfl (hb hby d_jdk_43_method_32_code_163) rfl  kk_) ?_
  show own_EndsW _ _ _ _ _ _ _ _ (T194.setTop (mkF m 165 #[.val (.ref a), .val (.ref t), .val (.ref wR), .val (.int (0 : Int32)), .val (.int (4 : Int32)), .val (.ref wG), .val (.ref b179), .val (.int (2 : Int32)), .val (.int (117 : Int32))] [(.int (2 : Int32)), (.ref b179)]))
  refine own_ofW (fun tt_ kk_ => XS.iload X194.here hx rfl (hb hby d_jdk_43_method_32_code_165) rfl  kk_) ?_
  show own_EndsW _ _ _ _ _ _ _ _ (T194.setTop (mkF m 167 #[.val (.ref a), .val (.ref t), .val (.ref wR), .val (.int (0 : Int32)), .val (.int (4 : Int32)), .val (.ref wG), .val (.ref b179), .val (.int (2 : Int32)), .val (.int (117 : Int32))] [(.int (117 : Int32)), (.int (2 : Int32)), (.ref b179)]))
  refine own_ofW (fun tt_ kk_ => XS.i2b X194.here hx rfl (hb hby d_jdk_43_method_32_code_167) rfl kk_) ?_
  show own_EndsW _ _ _ _ _ _ _ _ (T194.setTop (mkF m 168 #[.val (.ref a), .val (.ref t), .val (.ref wR), .val (.int (0 : Int32)), .val (.int (4 : Int32)), .val (.ref wG), .val (.ref b179), .val (.int (2 : Int32)), .val (.int (117 : Int32))] [(.int (117 : Int32)), (.int (2 : Int32)), (.ref b179)]))
  obtain ⟨cl195, Ar195, q195, S195, N195', H195, G195⟩ := V190'
  have hin195 : ¬ ((2 : Int32) < 0 ∨ cl195.slots.size ≤ ((2 : Int32)).toNatClampNeg) := inb_of S195 ⟨by decide, by decide⟩
  obtain ⟨T195, h195, X195, e195, W195, st195⟩ := stB X194 hx hZ e194 Ar195 (j := (2 : Int32)) hin195 (g := (mkF m 168 #[.val (.ref a), .val (.ref t), .val (.ref wR), .val (.int (0 : Int32)), .val (.int (4 : Int32)), .val (.ref wG), .val (.ref b179), .val (.int (2 : Int32)), .val (.int (117 : Int32))] [(.int (117 : Int32)), (.int (2 : Int32)), (.ref b179)])) rfl rfl (hb hby d_jdk_43_method_32_code_168)
  have V195' : Arv Z h195 b179 k179 .byte (4 : Int32) [(.int (116 : Int32)), (.int (114 : Int32)), (.int (117 : Int32)), (.int (0 : Int32))] (.int (0 : Int32)) := Arv.set Ar195 q195 S195 N195' H195 G195 rfl W195 2 rfl (Nat.le_of_ble_eq_true rfl)
  have Sf_b179' := Safe.wr W195 Sf_b179 HC.1 Sf_b179
  replace hk := Nat.le_trans hk (Keep.of_wr W195).1
  replace HC := HC.trans (CHr.wr W195 Sf_b179 HC.1)
  replace Sf_b179 := Sf_b179'
  replace V := V.other W195 ne_t_b179
  replace OL := OL.wr W195 g_b179
  have N195 := Fr.snoc X195 N194 g_b179
  replace K := K.wr W195 (Or.inr sz_b179)
  refine own_ofW st195 ?_
  show own_EndsW _ _ _ _ _ _ _ _ (T195.setTop (mkF m 169 #[.val (.ref a), .val (.ref t), .val (.ref wR), .val (.int (0 : Int32)), .val (.int (4 : Int32)), .val (.ref wG), .val (.ref b179), .val (.int (2 : Int32)), .val (.int (117 : Int32))] []))
  refine own_ofW (fun tt_ kk_ => XS.iinc X195.here hx rfl (hb hby d_jdk_43_method_32_code_169) rfl (l' := #[.val (.ref a), .val (.ref t), .val (.ref wR), .val (.int (0 : Int32)), .val (.int (4 : Int32)), .val (.ref wG), .val (.ref b179), .val (.int (3 : Int32)), .val (.int (117 : Int32))]) rfl kk_) ?_
  show own_EndsW _ _ _ _ _ _ _ _ (T195.setTop (mkF m 172 #[.val (.ref a), .val (.ref t), .val (.ref wR), .val (.int (0 : Int32)), .val (.int (4 : Int32)), .val (.ref wG), .val (.ref b179), .val (.int (3 : Int32)), .val (.int (117 : Int32))] []))
  refine own_ofW (fun tt_ kk_ => XS.goto X195.here hx rfl (pc0 := 172) (pc' := 117) rfl (hb hby d_jdk_43_method_32_code_172) (by decide) (by decide) kk_) ?_
  show own_EndsW _ _ _ _ _ _ _ _ (T195.setTop (mkF m 117 #[.val (.ref a), .val (.ref t), .val (.ref wR), .val (.int (0 : Int32)), .val (.int (4 : Int32)), .val (.ref wG), .val (.ref b179), .val (.int (3 : Int32)), .val (.int (117 : Int32))] []))
  refine own_ofW (fun tt_ kk_ => XS.iload X195.here hx rfl (hb hby d_jdk_43_method_32_code_117) rfl  kk_) ?_
  show own_EndsW _ _ _ _ _ _ _ _ (T195.setTop (mkF m 119 #[.val (.ref a), .val (.ref t), .val (.ref wR), .val (.int (0 : Int32)), .val (.int (4 : Int32)), .val (.ref wG), .val (.ref b179), .val (.int (3 : Int32)), .val (.int (117 : Int32))] [(.int (3 : Int32))]))
  refine own_ofW (fun tt_ kk_ => XS.iload X195.here hx rfl (hb hby d_jdk_43_method_32_code_119) rfl  kk_) ?_
  show own_EndsW _ _ _ _ _ _ _ _ (T195.setTop (mkF m 121 #[.val (.ref a), .val (.ref t), .val (.ref wR), .val (.int (0 : Int32)), .val (.int (4 : Int32)), .val (.ref wG), .val (.ref b179), .val (.int (3 : Int32)), .val (.int (117 : Int32))] [(.int (4 : Int32)), (.int (3 : Int32))]))
  refine own_ofW (fun tt_ kk_ => XS.icmpNo X195.here hx rfl (hb hby d_jdk_43_method_32_code_121) rfl (tlt (by decide : ((3 : Int32) < (4 : Int32)))).2.1 kk_) ?_
  show own_EndsW _ _ _ _ _ _ _ _ (T195.setTop (mkF m 124 #[.val (.ref a), .val (.ref t), .val (.ref wR), .val (.int (0 : Int32)), .val (.int (4 : Int32)), .val (.ref wG), .val (.ref b179), .val (.int (3 : Int32)), .val (.int (117 : Int32))] []))
  refine own_ofW (fun tt_ kk_ => XS.aloadN X195.here hx rfl (hb hby d_jdk_43_method_32_code_124) rfl rfl kk_) ?_
  show own_EndsW _ _ _ _ _ _ _ _ (T195.setTop (mkF m 125 #[.val (.ref a), .val (.ref t), .val (.ref wR), .val (.int (0 : Int32)), .val (.int (4 : Int32)), .val (.ref wG), .val (.ref b179), .val (.int (3 : Int32)), .val (.int (117 : Int32))] [(.ref t)]))
  refine own_ofW (fun tt_ kk_ => XS.iload X195.here hx rfl (hb hby d_jdk_43_method_32_code_125) rfl  kk_) ?_
  show own_EndsW _ _ _ _ _ _ _ _ (T195.setTop (mkF m 127 #[.val (.ref a), .val (.ref t), .val (.ref wR), .val (.int (0 : Int32)), .val (.int (4 : Int32)), .val (.ref wG), .val (.ref b179), .val (.int (3 : Int32)), .val (.int (117 : Int32))] [(.int (3 : Int32)), (.ref t)]))
  obtain ⟨cl196, Ar196, q196, S196, N196', H196, G196⟩ := id V
  have hin196 : ¬ ((3 : Int32) < 0 ∨ cl196.slots.size ≤ ((3 : Int32)).toNatClampNeg) := inb_of S196 ⟨by decide, by decide⟩
  have hat196 : cl196.slots[((3 : Int32)).toNatClampNeg]? = some (.int (101 : Int32)) := H196.at hin196 rfl
  refine own_ofW (fun tt_ kk_ => X195.baloadBytes hx (j := (3 : Int32)) (v := (.int (101 : Int32))) (by rw [e195]; exact Ar196.1) (State.isArrayOf_alike hZ.alike Ar196.2.1) Ar196.2.2 hin196 hat196 (g := (mkF m 127 #[.val (.ref a), .val (.ref t), .val (.ref wR), .val (.int (0 : Int32)), .val (.int (4 : Int32)), .val (.ref wG), .val (.ref b179), .val (.int (3 : Int32)), .val (.int (117 : Int32))] [(.int (3 : Int32)), (.ref t)])) rfl rfl (hb hby d_jdk_43_method_32_code_127) _ kk_) ?_
  show own_EndsW _ _ _ _ _ _ _ _ (T195.setTop (mkF m 128 #[.val (.ref a), .val (.ref t), .val (.ref wR), .val (.int (0 : Int32)), .val (.int (4 : Int32)), .val (.ref wG), .val (.ref b179), .val (.int (3 : Int32)), .val (.int (117 : Int32))] [(.int (101 : Int32))]))
  refine own_ofW (fun tt_ kk_ => XS.sipush X195.here hx rfl (hb hby d_jdk_43_method_32_code_128) kk_) ?_
  show own_EndsW _ _ _ _ _ _ _ _ (T195.setTop (mkF m 131 #[.val (.ref a), .val (.ref t), .val (.ref wR), .val (.int (0 : Int32)), .val (.int (4 : Int32)), .val (.ref wG), .val (.ref b179), .val (.int (3 : Int32)), .val (.int (117 : Int32))] [(.int (255 : Int32)), (.int (101 : Int32))]))
  refine own_ofW (fun tt_ kk_ => XS.iand X195.here hx rfl (hb hby d_jdk_43_method_32_code_131) rfl kk_) ?_
  show own_EndsW _ _ _ _ _ _ _ _ (T195.setTop (mkF m 132 #[.val (.ref a), .val (.ref t), .val (.ref wR), .val (.int (0 : Int32)), .val (.int (4 : Int32)), .val (.ref wG), .val (.ref b179), .val (.int (3 : Int32)), .val (.int (117 : Int32))] [(.int (101 : Int32))]))
  refine own_ofW (fun tt_ kk_ => XS.istore X195.here hx rfl (hb hby d_jdk_43_method_32_code_132) rfl (l' := #[.val (.ref a), .val (.ref t), .val (.ref wR), .val (.int (0 : Int32)), .val (.int (4 : Int32)), .val (.ref wG), .val (.ref b179), .val (.int (3 : Int32)), .val (.int (101 : Int32))]) rfl kk_) ?_
  show own_EndsW _ _ _ _ _ _ _ _ (T195.setTop (mkF m 134 #[.val (.ref a), .val (.ref t), .val (.ref wR), .val (.int (0 : Int32)), .val (.int (4 : Int32)), .val (.ref wG), .val (.ref b179), .val (.int (3 : Int32)), .val (.int (101 : Int32))] []))
  obtain ⟨T197, X197, e197, st197⟩ := getS2 X195 hx hZ hown (host := "") (Or.inl (hw _ (List.mem_of_getElem? (i := 61) rfl))) Via.refl e195 (SI.ext OL.2) (g := (mkF m 134 #[.val (.ref a), .val (.ref t), .val (.ref wR), .val (.int (0 : Int32)), .val (.int (4 : Int32)), .val (.ref wG), .val (.ref b179), .val (.int (3 : Int32)), .val (.int (101 : Int32))] [])) rfl (hb hby d_jdk_43_method_32_code_134)
  refine own_ofW st197 ?_
  show own_EndsW _ _ _ _ _ _ _ _ (T197.setTop (mkF m 137 #[.val (.ref a), .val (.ref t), .val (.ref wR), .val (.int (0 : Int32)), .val (.int (4 : Int32)), .val (.ref wG), .val (.ref b179), .val (.int (3 : Int32)), .val (.int (101 : Int32))] [(.ref wI)]))
  refine own_ofW (fun tt_ kk_ => XS.iload X197.here hx rfl (hb hby d_jdk_43_method_32_code_137) rfl  kk_) ?_
  show own_EndsW _ _ _ _ _ _ _ _ (T197.setTop (mkF m 139 #[.val (.ref a), .val (.ref t), .val (.ref wR), .val (.int (0 : Int32)), .val (.int (4 : Int32)), .val (.ref wG), .val (.ref b179), .val (.int (3 : Int32)), .val (.int (101 : Int32))] [(.int (101 : Int32)), (.ref wI)]))
  obtain ⟨v198, T198, L198, h198, X198, e198, Q198, st198⟩ := own_virtual X197 hx hZ hown e197 (EI.ext OL.2) (hw _ (List.mem_of_getElem? (i := 87) rfl)) (hw _ (List.mem_of_getElem? (i := 88) rfl)) (notFace_of_selects (args := #[]) (mvT hZ (hw _ (List.mem_of_getElem? (i := 90) rfl)))) (hw _ (List.mem_of_getElem? (i := 90) rfl)) (hw _ (List.mem_of_getElem? (i := 89) rfl)) (hw _ (List.mem_of_getElem? (i := 62) rfl)) (hw _ (List.mem_of_getElem? (i := 91) rfl)) (by decide) (argsL := [(.int (101 : Int32))]) (rest := []) (rm_low101 l Z a0 hw wI h195 n0 (Nat.le_trans Z0 K.1)) (g := (mkF m 139 #[.val (.ref a), .val (.ref t), .val (.ref wR), .val (.int (0 : Int32)), .val (.int (4 : Int32)), .val (.ref wG), .val (.ref b179), .val (.int (3 : Int32)), .val (.int (101 : Int32))] [(.int (101 : Int32)), (.ref wI)])) rfl (by rw [hml]; rfl) (lenOf pd__I_r_I rfl) rfl (by decide) (Nat.le_of_ble_eq_true rfl) (by decide) (by decide) (hb hby d_jdk_43_method_32_code_139)
  obtain ⟨rfl, Nq198, q198⟩ := Q198
  replace e198 := e198.trans q198
  have N198 := Fr.app N195 Nq198
  refine own_ofW st198 ?_
  show own_EndsW _ _ _ _ _ _ _ _ (T198.setTop (mkF m 142 #[.val (.ref a), .val (.ref t), .val (.ref wR), .val (.int (0 : Int32)), .val (.int (4 : Int32)), .val (.ref wG), .val (.ref b179), .val (.int (3 : Int32)), .val (.int (101 : Int32))] [(.int (101 : Int32))]))
  refine own_ofW (fun tt_ kk_ => XS.istore X198.here hx rfl (hb hby d_jdk_43_method_32_code_142) rfl (l' := #[.val (.ref a), .val (.ref t), .val (.ref wR), .val (.int (0 : Int32)), .val (.int (4 : Int32)), .val (.ref wG), .val (.ref b179), .val (.int (3 : Int32)), .val (.int (101 : Int32))]) rfl kk_) ?_
  show own_EndsW _ _ _ _ _ _ _ _ (T198.setTop (mkF m 144 #[.val (.ref a), .val (.ref t), .val (.ref wR), .val (.int (0 : Int32)), .val (.int (4 : Int32)), .val (.ref wG), .val (.ref b179), .val (.int (3 : Int32)), .val (.int (101 : Int32))] []))
  refine own_ofW (fun tt_ kk_ => XS.iload X198.here hx rfl (hb hby d_jdk_43_method_32_code_144) rfl  kk_) ?_
  show own_EndsW _ _ _ _ _ _ _ _ (T198.setTop (mkF m 146 #[.val (.ref a), .val (.ref t), .val (.ref wR), .val (.int (0 : Int32)), .val (.int (4 : Int32)), .val (.ref wG), .val (.ref b179), .val (.int (3 : Int32)), .val (.int (101 : Int32))] [(.int (101 : Int32))]))
  obtain ⟨v199, T199, L199, h199, X199, e199, Q199, st199⟩ := own_static X198 hx hZ hown e198 (hw _ (List.mem_of_getElem? (i := 114) rfl)) (hw _ (List.mem_of_getElem? (i := 115) rfl)) (hw _ (List.mem_of_getElem? (i := 24) rfl)) (hw _ (List.mem_of_getElem? (i := 116) rfl)) (by decide) (argsL := [(.int (101 : Int32))]) (rest := []) (rm_can l Z a0 hw (101 : Int32) h195 n0 (Nat.le_trans Z0 K.1) (by decide) (by decide)) (g := (mkF m 146 #[.val (.ref a), .val (.ref t), .val (.ref wR), .val (.int (0 : Int32)), .val (.int (4 : Int32)), .val (.ref wG), .val (.ref b179), .val (.int (3 : Int32)), .val (.int (101 : Int32))] [(.int (101 : Int32))])) rfl (by rw [hml]; rfl) (lenOf pd__I_r_Z rfl) rfl (by decide) (Nat.le_of_ble_eq_true rfl) (by decide) (by decide) (hb hby d_jdk_43_method_32_code_146)
  obtain ⟨rfl, Nq199, q199⟩ := Q199
  replace e199 := e199.trans q199
  have N199 := Fr.app N198 Nq199
  refine own_ofW st199 ?_
  show own_EndsW _ _ _ _ _ _ _ _ (T199.setTop (mkF m 149 #[.val (.ref a), .val (.ref t), .val (.ref wR), .val (.int (0 : Int32)), .val (.int (4 : Int32)), .val (.ref wG), .val (.ref b179), .val (.int (3 : Int32)), .val (.int (101 : Int32))] [(.int (1 : Int32))]))
  refine own_ofW (fun tt_ kk_ => XS.ifYes X199.here hx rfl (pc0 := 149) (pc' := 161) rfl (hb hby d_jdk_43_method_32_code_149) rfl ((if0 _ _).trans (feq (by decide : ¬ ((1 : Int32) = (0 : Int32)))).2) (by decide) (by decide) kk_) ?_
  show own_EndsW _ _ _ _ _ _ _ _ (T199.setTop (mkF m 161 #[.val (.ref a), .val (.ref t), .val (.ref wR), .val (.int (0 : Int32)), .val (.int (4 : Int32)), .val (.ref wG), .val (.ref b179), .val (.int (3 : Int32)), .val (.int (101 : Int32))] []))
  refine own_ofW (fun tt_ kk_ => XS.aload X199.here hx rfl (hb hby d_jdk_43_method_32_code_161) rfl rfl kk_) ?_
  show own_EndsW _ _ _ _ _ _ _ _ (T199.setTop (mkF m 163 #[.val (.ref a), .val (.ref t), .val (.ref wR), .val (.int (0 : Int32)), .val (.int (4 : Int32)), .val (.ref wG), .val (.ref b179), .val (.int (3 : Int32)), .val (.int (101 : Int32))] [(.ref b179)]))
  refine own_ofW (fun tt_ kk_ => XS.iload X199.here hx rfl (hb hby d_jdk_43_method_32_code_163) rfl  kk_) ?_
  show own_EndsW _ _ _ _ _ _ _ _ (T199.setTop (mkF m 165 #[.val (.ref a), .val (.ref t), .val (.ref wR), .val (.int (0 : Int32)), .val (.int (4 : Int32)), .val (.ref wG), .val (.ref b179), .val (.int (3 : Int32)), .val (.int (101 : Int32))] [(.int (3 : Int32)), (.ref b179)]))
  refine own_ofW (fun tt_ kk_ => XS.iload X199.here hx rfl (hb hby d_jdk_43_method_32_code_165) rfl  kk_) ?_
  show own_EndsW _ _ _ _ _ _ _ _ (T199.setTop (mkF m 167 #[.val (.ref a), .val (.ref t), .val (.ref wR), .val (.int (0 : Int32)), .val (.int (4 : Int32)), .val (.ref wG), .val (.ref b179), .val (.int (3 : Int32)), .val (.int (101 : Int32))] [(.int (101 : Int32)), (.int (3 : Int32)), (.ref b179)]))
  refine own_ofW (fun tt_ kk_ => XS.i2b X199.here hx rfl (hb hby d_jdk_43_method_32_code_167) rfl kk_) ?_
  show own_EndsW _ _ _ _ _ _ _ _ (T199.setTop (mkF m 168 #[.val (.ref a), .val (.ref t), .val (.ref wR), .val (.int (0 : Int32)), .val (.int (4 : Int32)), .val (.ref wG), .val (.ref b179), .val (.int (3 : Int32)), .val (.int (101 : Int32))] [(.int (101 : Int32)), (.int (3 : Int32)), (.ref b179)]))
  obtain ⟨cl200, Ar200, q200, S200, N200', H200, G200⟩ := V195'
  have hin200 : ¬ ((3 : Int32) < 0 ∨ cl200.slots.size ≤ ((3 : Int32)).toNatClampNeg) := inb_of S200 ⟨by decide, by decide⟩
  obtain ⟨T200, h200, X200, e200, W200, st200⟩ := stB X199 hx hZ e199 Ar200 (j := (3 : Int32)) hin200 (g := (mkF m 168 #[.val (.ref a), .val (.ref t), .val (.ref wR), .val (.int (0 : Int32)), .val (.int (4 : Int32)), .val (.ref wG), .val (.ref b179), .val (.int (3 : Int32)), .val (.int (101 : Int32))] [(.int (101 : Int32)), (.int (3 : Int32)), (.ref b179)])) rfl rfl (hb hby d_jdk_43_method_32_code_168)
  have V200' : Arv Z h200 b179 k179 .byte (4 : Int32) [(.int (116 : Int32)), (.int (114 : Int32)), (.int (117 : Int32)), (.int (101 : Int32))] (.int (0 : Int32)) := Arv.set Ar200 q200 S200 N200' H200 G200 rfl W200 3 rfl (Nat.le_of_ble_eq_true rfl)
  have Sf_b179' := Safe.wr W200 Sf_b179 HC.1 Sf_b179
  replace hk := Nat.le_trans hk (Keep.of_wr W200).1
  replace HC := HC.trans (CHr.wr W200 Sf_b179 HC.1)
  replace Sf_b179 := Sf_b179'
  replace V := V.other W200 ne_t_b179
  replace OL := OL.wr W200 g_b179
  have N200 := Fr.snoc X200 N199 g_b179
  replace K := K.wr W200 (Or.inr sz_b179)
  refine own_ofW st200 ?_
  show own_EndsW _ _ _ _ _ _ _ _ (T200.setTop (mkF m 169 #[.val (.ref a), .val (.ref t), .val (.ref wR), .val (.int (0 : Int32)), .val (.int (4 : Int32)), .val (.ref wG), .val (.ref b179), .val (.int (3 : Int32)), .val (.int (101 : Int32))] []))
  refine own_ofW (fun tt_ kk_ => XS.iinc X200.here hx rfl (hb hby d_jdk_43_method_32_code_169) rfl (l' := #[.val (.ref a), .val (.ref t), .val (.ref wR), .val (.int (0 : Int32)), .val (.int (4 : Int32)), .val (.ref wG), .val (.ref b179), .val (.int (4 : Int32)), .val (.int (101 : Int32))]) rfl kk_) ?_
  show own_EndsW _ _ _ _ _ _ _ _ (T200.setTop (mkF m 172 #[.val (.ref a), .val (.ref t), .val (.ref wR), .val (.int (0 : Int32)), .val (.int (4 : Int32)), .val (.ref wG), .val (.ref b179), .val (.int (4 : Int32)), .val (.int (101 : Int32))] []))
  refine own_ofW (fun tt_ kk_ => XS.goto X200.here hx rfl (pc0 := 172) (pc' := 117) rfl (hb hby d_jdk_43_method_32_code_172) (by decide) (by decide) kk_) ?_
  show own_EndsW _ _ _ _ _ _ _ _ (T200.setTop (mkF m 117 #[.val (.ref a), .val (.ref t), .val (.ref wR), .val (.int (0 : Int32)), .val (.int (4 : Int32)), .val (.ref wG), .val (.ref b179), .val (.int (4 : Int32)), .val (.int (101 : Int32))] []))
  refine own_ofW (fun tt_ kk_ => XS.iload X200.here hx rfl (hb hby d_jdk_43_method_32_code_117) rfl  kk_) ?_
  show own_EndsW _ _ _ _ _ _ _ _ (T200.setTop (mkF m 119 #[.val (.ref a), .val (.ref t), .val (.ref wR), .val (.int (0 : Int32)), .val (.int (4 : Int32)), .val (.ref wG), .val (.ref b179), .val (.int (4 : Int32)), .val (.int (101 : Int32))] [(.int (4 : Int32))]))
  refine own_ofW (fun tt_ kk_ => XS.iload X200.here hx rfl (hb hby d_jdk_43_method_32_code_119) rfl  kk_) ?_
  show own_EndsW _ _ _ _ _ _ _ _ (T200.setTop (mkF m 121 #[.val (.ref a), .val (.ref t), .val (.ref wR), .val (.int (0 : Int32)), .val (.int (4 : Int32)), .val (.ref wG), .val (.ref b179), .val (.int (4 : Int32)), .val (.int (101 : Int32))] [(.int (4 : Int32)), (.int (4 : Int32))]))
  refine own_ofW (fun tt_ kk_ => XS.icmpYes X200.here hx rfl (pc0 := 121) (pc' := 175) rfl (hb hby d_jdk_43_method_32_code_121) rfl (flt (by decide : ¬ ((4 : Int32) < (4 : Int32)))).2.1 (by decide) (by decide) kk_) ?_
  show own_EndsW _ _ _ _ _ _ _ _ (T200.setTop (mkF m 175 #[.val (.ref a), .val (.ref t), .val (.ref wR), .val (.int (0 : Int32)), .val (.int (4 : Int32)), .val (.ref wG), .val (.ref b179), .val (.int (4 : Int32)), .val (.int (101 : Int32))] []))
  obtain ⟨T201, h201, X201, e201, E201, A201, D201, -, st201⟩ := newO X200 hx hZ hown (hw _ (List.mem_of_getElem? (i := 117) rfl)) (hw _ (List.mem_of_getElem? (i := 6) rfl)) (hw _ (List.mem_of_getElem? (i := 5) rfl)) e200 (g := (mkF m 175 #[.val (.ref a), .val (.ref t), .val (.ref wR), .val (.int (0 : Int32)), .val (.int (4 : Int32)), .val (.ref wG), .val (.ref b179), .val (.int (4 : Int32)), .val (.int (101 : Int32))] [])) rfl (hb hby d_jdk_43_method_32_code_175) (by decide) (by decide)
  obtain ⟨b201, g201⟩ : ∃ z, z = h200.size := ⟨_, rfl⟩
  rw [← g201] at A201 D201 st201
  have ne_t_b201 : t ≠ b201 := Nat.ne_of_lt (Nat.lt_of_lt_of_le V.lt (Nat.le_of_eq g201.symm))
  have ne_b179_b201 : b179 ≠ b201 := Nat.ne_of_lt (Nat.lt_of_lt_of_le V200'.lt (Nat.le_of_eq g201.symm))
  have sz_b201 : h0.size ≤ b201 := Nat.le_trans K.1 (Nat.le_of_eq g201.symm)
  have g_b201 : n0 ≤ b201 := Nat.le_trans Z0 sz_b201
  have Sf_b201 : Safe Z own_EL T178.vm h200 b201 := Safe.new (Nat.le_of_eq g201.symm)
  replace Sf_b179 := Safe.ext E201 HC.1 Sf_b179
  replace Sf_b201 := Safe.ext E201 HC.1 Sf_b201
  replace hk := Nat.le_trans hk E201.1
  replace HC := HC.trans (CHr.ext E201 HC.1)
  replace V := V.ext E201
  replace OL := OL.ext E201
  replace V200' := V200'.ext E201
  have F_value_b201 : Fld Z h201 b201 "java/lang/String" "value" "[B" .null := D201 (Or.inr (hw _ (List.mem_of_getElem? (i := 8) rfl))) (ty := (.array .byte)) (by decide)
  have F_coder_b201 : Fld Z h201 b201 "java/lang/String" "coder" "B" (.int (0 : Int32)) := D201 (Or.inr (hw _ (List.mem_of_getElem? (i := 9) rfl))) (ty := .byte) (by decide)
  replace K := K.ext E201
  refine own_ofW st201 ?_
  show own_EndsW _ _ _ _ _ _ _ _ (T201.setTop (mkF m 178 #[.val (.ref a), .val (.ref t), .val (.ref wR), .val (.int (0 : Int32)), .val (.int (4 : Int32)), .val (.ref wG), .val (.ref b179), .val (.int (4 : Int32)), .val (.int (101 : Int32))] [(.ref b201)]))
  refine own_ofW (fun tt_ kk_ => XS.dup X201.here hx rfl (hb hby d_jdk_43_method_32_code_178) rfl rfl kk_) ?_
  show own_EndsW _ _ _ _ _ _ _ _ (T201.setTop (mkF m 179 #[.val (.ref a), .val (.ref t), .val (.ref wR), .val (.int (0 : Int32)), .val (.int (4 : Int32)), .val (.ref wG), .val (.ref b179), .val (.int (4 : Int32)), .val (.int (101 : Int32))] [(.ref b201), (.ref b201)]))
  refine own_ofW (fun tt_ kk_ => XS.aload X201.here hx rfl (hb hby d_jdk_43_method_32_code_179) rfl rfl kk_) ?_
  show own_EndsW _ _ _ _ _ _ _ _ (T201.setTop (mkF m 181 #[.val (.ref a), .val (.ref t), .val (.ref wR), .val (.int (0 : Int32)), .val (.int (4 : Int32)), .val (.ref wG), .val (.ref b179), .val (.int (4 : Int32)), .val (.int (101 : Int32))] [(.ref b179), (.ref b201), (.ref b201)]))
  refine own_ofW (fun tt_ kk_ => XS.iconst X201.here hx rfl (hb hby d_jdk_43_method_32_code_181) kk_) ?_
  show own_EndsW _ _ _ _ _ _ _ _ (T201.setTop (mkF m 182 #[.val (.ref a), .val (.ref t), .val (.ref wR), .val (.int (0 : Int32)), .val (.int (4 : Int32)), .val (.ref wG), .val (.ref b179), .val (.int (4 : Int32)), .val (.int (101 : Int32))] [(.int (0 : Int32)), (.ref b179), (.ref b201), (.ref b201)]))
  obtain ⟨v202, T202, L202, h202, X202, e202, Q202, st202⟩ := own_special X201 hx hZ hown e201 (b := b201) rfl (hw _ (List.mem_of_getElem? (i := 118) rfl)) (hw _ (List.mem_of_getElem? (i := 31) rfl)) (hw _ (List.mem_of_getElem? (i := 5) rfl)) (hw _ (List.mem_of_getElem? (i := 33) rfl)) (by decide) (argsL := [(.ref b179), (.int (0 : Int32))]) (rest := [(.ref b201)]) (rm_initBB l Z a0 hw b201 b179 h201 n0 (Nat.le_trans Z0 K.1) A201 F_value_b201 F_coder_b201 g_b201) (g := (mkF m 182 #[.val (.ref a), .val (.ref t), .val (.ref wR), .val (.int (0 : Int32)), .val (.int (4 : Int32)), .val (.ref wG), .val (.ref b179), .val (.int (4 : Int32)), .val (.int (101 : Int32))] [(.int (0 : Int32)), (.ref b179), (.ref b201), (.ref b201)])) rfl (by rw [hml]; rfl) (lenOf pd__ABB_r_V rfl) rfl (by decide) (Nat.le_of_ble_eq_true rfl) (by decide) (by decide) (hb hby d_jdk_43_method_32_code_182)
  obtain ⟨rfl, Nq202, Kq202, A201', F_value_b201', F_coder_b201'⟩ := Q202
  have Sf_b179' := Safe.keep Kq202 (sfS Sf_b201 sf0) HC.1 Sf_b179
  have Sf_b201' := Safe.keep Kq202 (sfS Sf_b201 sf0) HC.1 Sf_b201
  replace hk := Nat.le_trans hk Kq202.1
  replace HC := HC.trans (CHr.keep Kq202 (sfS Sf_b201 sf0) HC.1)
  replace Sf_b179 := Sf_b179'
  replace Sf_b201 := Sf_b201'
  replace V := V.keep Kq202 (ninS ne_t_b201 nin0)
  replace OL := OL.keep Kq202 (allS g_b201 all0)
  replace V200' := V200'.keep Kq202 (ninS ne_b179_b201 nin0)
  replace A201 := A201.keep Kq202
  clear A201
  have A201 := A201'
  have F_value_b201 := F_value_b201'
  have F_coder_b201 := F_coder_b201'
  replace K := K.trans Kq202 (allS (Or.inr sz_b201) all0)
  have N202 := Fr.app N200 Nq202
  refine own_ofW st202 ?_
  show own_EndsW _ _ _ _ _ _ _ _ (T202.setTop (mkF m 185 #[.val (.ref a), .val (.ref t), .val (.ref wR), .val (.int (0 : Int32)), .val (.int (4 : Int32)), .val (.ref wG), .val (.ref b179), .val (.int (4 : Int32)), .val (.int (101 : Int32))] [(.ref b201)]))
  refine own_retAW X202 hx hlk hZ hS e202 hk es hEL HC hret rfl rfl (hb hby d_jdk_43_method_32_code_185) (by decide) (by decide) ?_
  exact ⟨b201, b179, k179, rfl, N202, K, A201, F_coder_b201, F_value_b201, V200'⟩
theorem d_jdk_42_method_109_code_0 : decode jdk_42_method_109_code 0 = .ok (.aload_n 0, 1) := by decide +kernel
theorem d_jdk_42_method_109_code_1 : decode jdk_42_method_109_code 1 = .ok (.invokevirtual 492, 3) := by decide +kernel
theorem d_jdk_42_method_109_code_4 : decode jdk_42_method_109_code 4 = .ok (.ifCond .eq 15, 3) := by decide +kernel
theorem d_jdk_42_method_109_code_7 : decode jdk_42_method_109_code 7 = .ok (.aload_n 0, 1) := by decide +kernel
theorem d_jdk_42_method_109_code_8 : decode jdk_42_method_109_code 8 = .ok (.aload_n 0, 1) := by decide +kernel
theorem d_jdk_42_method_109_code_9 : decode jdk_42_method_109_code 9 = .ok (.getfield 9, 3) := by decide +kernel
theorem d_jdk_42_method_109_code_12 : decode jdk_42_method_109_code 12 = .ok (.aload_n 1, 1) := by decide +kernel
theorem pd__Ljava_lang_String_ABLjava_util_Locale__r_Ljava_lang_String_ : parseMethodDescriptor "(Ljava/lang/String;[BLjava/util/Locale;)Ljava/lang/String;" = some ⟨[(.object "java/lang/String"), (.array .byte), (.object "java/util/Locale")], some (.object "java/lang/String")⟩ := by decide +kernel
theorem d_jdk_42_method_109_code_13 : decode jdk_42_method_109_code 13 = .ok (.invokestatic 839, 3) := by decide +kernel
theorem d_jdk_42_method_109_code_16 : decode jdk_42_method_109_code 16 = .ok (.goto 12, 3) := by decide +kernel
theorem d_jdk_42_method_109_code_28 : decode jdk_42_method_109_code 28 = .ok (.areturn, 1) := by decide +kernel
theorem ef_jdk_42_method_109_codeRR (m : MethodId) (z0 : Addr) (z1 : Addr) : entryFrame m #[(.ref z0), (.ref z1)] 2 = mkF m 0 #[.val (.ref z0), .val (.ref z1)] [] := by first | (simp [entryFrame, mkF, argsToLocals, Value.category]; done) | rfl
set_option maxRecDepth 65536 in
set_option maxHeartbeats 40000000 in
theorem rm_tlc_True (l : Launch) (Z : State) (a0 : Array Value) (hw : ∀ d ∈ tables_1, d.before a0 Z = true) (a t : Addr) (k : ClassId) (G1 : Int32) (wI wA wR wB wG tG : Addr) (clA : Cell) (kG : ClassId) (h0 : Heap) (n0 : Nat) (Z0 : n0 ≤ h0.size) (hEL : EW Z a0 own_EL) (E : Exa Z h0 a "java/lang/String") (FC : Fld Z h0 a "java/lang/String" "coder" "B" (.int (0 : Int32))) (FV : Fld Z h0 a "java/lang/String" "value" "[B" (.ref t)) (V : Arv Z h0 t k .byte (4 : Int32) [(.int (84 : Int32)), (.int (114 : Int32)), (.int (117 : Int32)), (.int (101 : Int32))] (.int (0 : Int32))) (O2 : Sta Z Z.heap "java/lang/String" "COMPACT_STRINGS" "Z" (.int G1)) (P3 : ¬ (G1 = (0 : Int32))) (OL : Old Z n0 h0) (SI : Sta Z Z.heap "java/lang/CharacterDataLatin1" "instance" "Ljava/lang/CharacterDataLatin1;" (.ref wI)) (EI : Exa Z Z.heap wI "java/lang/CharacterDataLatin1") (SA : Sta Z Z.heap "java/lang/CharacterDataLatin1" "A" "[I" (.ref wA)) (AA : Arr Z Z.heap wA clA .int) (ZA : clA.slots.size = 256) (SL : Sta Z Z.heap "java/util/Locale" "ROOT" "Ljava/util/Locale;" (.ref wR)) (ER : Exa Z Z.heap wR "java/util/Locale") (FB : Fld Z Z.heap wR "java/util/Locale" "baseLocale" "Lsun/util/locale/BaseLocale;" (.ref wB)) (EB : Exa Z Z.heap wB "sun/util/locale/BaseLocale") (FG : Fld Z Z.heap wB "sun/util/locale/BaseLocale" "language" "Ljava/lang/String;" (.ref wG)) (FW : Fld Z Z.heap wG "java/lang/String" "value" "[B" (.ref tG)) (VG : Arv Z Z.heap tG kG .byte (0 : Int32) [] (.int (0 : Int32))) (A84 : clA.slots[84]? = some (.int (8552417 : Int32))) (A70 : clA.slots[70]? = some (.int (8552417 : Int32))) (A101 : clA.slots[101]? = some (.int (8486882 : Int32))) :
    own_MetW l Z own_EL (⟨"java/lang/String", "toLowerCase", "(Ljava/util/Locale;)Ljava/lang/String;"⟩ : MethodName) jdk_42_method_109_code 2 (some (.object "java/lang/String")) ({ frames := 3, cells := 8, slots := 44, locals := 52 } : Room) #[(.ref a), (.ref wR)] h0 (fun v h L => ∃ (b u : Addr) (k' : ClassId), v = some (.ref b) ∧ Fr n0 L ∧ Keep h0 h [] ∧ Exa Z h b "java/lang/String" ∧ Fld Z h b "java/lang/String" "coder" "B" (.int (0 : Int32)) ∧ Fld Z h b "java/lang/String" "value" "[B" (.ref u) ∧ Arv Z h u k' .byte (4 : Int32) [(.int (116 : Int32)), (.int (114 : Int32)), (.int (117 : Int32)), (.int (101 : Int32))] (.int (0 : Int32))) := by
  refine own_bodyW (plainFor_of_name pn_java_lang_String) ?_
  intro p e s m below meth c T0 X0 e0 es hx hby hml hown hnm hret hlk hZ hS HC
  replace hown : (s.setVm s.vm).vm.findClass "java/lang/String" = some m.cls := hown
  have N0 := Fr.nil n0
  have hk : 0 ≤ h0.size := Nat.zero_le _
  have wS : ∀ d ∈ Bundle.stringAtoms, d.before a0 Z = true := fun d hd => hw d ((by decide +kernel : ∀ d ∈ Bundle.stringAtoms, d ∈ tables_1) d hd)
  refine own_ofW (fun tt_ kk_ => castTop (ef_jdk_42_method_109_codeRR m a wR) kk_) ?_
  have K := Keep.refl h0 []
  show own_EndsW _ _ _ _ _ _ _ _ (T0.setTop (mkF m 0 #[.val (.ref a), .val (.ref wR)] []))
  refine own_ofW (fun tt_ kk_ => XS.aloadN X0.here hx rfl (hb hby d_jdk_42_method_109_code_0) rfl rfl kk_) ?_
  show own_EndsW _ _ _ _ _ _ _ _ (T0.setTop (mkF m 1 #[.val (.ref a), .val (.ref wR)] [(.ref a)]))
  obtain ⟨v203, T203, L203, h203, X203, e203, Q203, st203⟩ := own_virtual X0 hx hZ hown e0 E (hw _ (List.mem_of_getElem? (i := 47) rfl)) (hw _ (List.mem_of_getElem? (i := 48) rfl)) (notFace_of_selects (args := #[]) (mvT hZ (hw _ (List.mem_of_getElem? (i := 50) rfl)))) (hw _ (List.mem_of_getElem? (i := 50) rfl)) (hw _ (List.mem_of_getElem? (i := 49) rfl)) (hw _ (List.mem_of_getElem? (i := 5) rfl)) (hw _ (List.mem_of_getElem? (i := 51) rfl)) (by decide) (argsL := []) (rest := []) (rm_isl l Z a0 hw a G1 h0 n0 (Nat.le_trans Z0 K.1) FC O2 P3 OL) (g := (mkF m 1 #[.val (.ref a), .val (.ref wR)] [(.ref a)])) rfl (by rw [hml]; rfl) (lenOf pd___r_Z rfl) rfl (by decide) (Nat.le_of_ble_eq_true rfl) (by decide) (by decide) (hb hby d_jdk_42_method_109_code_1)
  obtain ⟨rfl, Nq203, q203⟩ := Q203
  replace e203 := e203.trans q203
  have N203 := Fr.app N0 Nq203
  refine own_ofW st203 ?_
  show own_EndsW _ _ _ _ _ _ _ _ (T203.setTop (mkF m 4 #[.val (.ref a), .val (.ref wR)] [(.int (1 : Int32))]))
  refine own_ofW (fun tt_ kk_ => XS.ifNo X203.here hx rfl (hb hby d_jdk_42_method_109_code_4) rfl ((if0 _ _).trans (feq (by decide : ¬ ((1 : Int32) = (0 : Int32)))).1) kk_) ?_
  show own_EndsW _ _ _ _ _ _ _ _ (T203.setTop (mkF m 7 #[.val (.ref a), .val (.ref wR)] []))
  refine own_ofW (fun tt_ kk_ => XS.aloadN X203.here hx rfl (hb hby d_jdk_42_method_109_code_7) rfl rfl kk_) ?_
  show own_EndsW _ _ _ _ _ _ _ _ (T203.setTop (mkF m 8 #[.val (.ref a), .val (.ref wR)] [(.ref a)]))
  refine own_ofW (fun tt_ kk_ => XS.aloadN X203.here hx rfl (hb hby d_jdk_42_method_109_code_8) rfl rfl kk_) ?_
  show own_EndsW _ _ _ _ _ _ _ _ (T203.setTop (mkF m 9 #[.val (.ref a), .val (.ref wR)] [(.ref a), (.ref a)]))
  obtain ⟨T204, X204, e204, st204⟩ := getF X203 hx hZ hown (host := "") (Or.inl (hw _ (List.mem_of_getElem? (i := 37) rfl))) Via.refl e203 FV (g := (mkF m 9 #[.val (.ref a), .val (.ref wR)] [(.ref a), (.ref a)])) rfl rfl (hb hby d_jdk_42_method_109_code_9)
  refine own_ofW st204 ?_
  show own_EndsW _ _ _ _ _ _ _ _ (T204.setTop (mkF m 12 #[.val (.ref a), .val (.ref wR)] [(.ref t), (.ref a)]))
  refine own_ofW (fun tt_ kk_ => XS.aloadN X204.here hx rfl (hb hby d_jdk_42_method_109_code_12) rfl rfl kk_) ?_
  show own_EndsW _ _ _ _ _ _ _ _ (T204.setTop (mkF m 13 #[.val (.ref a), .val (.ref wR)] [(.ref wR), (.ref t), (.ref a)]))
  obtain ⟨v205, T205, L205, h205, k205', X205, e205, Q205, hZ, hown, hS, hk, HCq205, st205⟩ := own_staticW X204 hx hZ hown e204 hS hk hEL HC.1 (hw _ (List.mem_of_getElem? (i := 84) rfl)) (hw _ (List.mem_of_getElem? (i := 85) rfl)) (hw _ (List.mem_of_getElem? (i := 24) rfl)) (hw _ (List.mem_of_getElem? (i := 86) rfl)) (by decide) (argsL := [(.ref a), (.ref t), (.ref wR)]) (rest := []) (rm_tlc1_True l Z a0 hw a t k G1 wI wA wR wB wG tG clA kG h0 n0 (Nat.le_trans Z0 K.1) hEL V O2 P3 OL SI EI SA AA ZA SL ER FB EB FG FW VG A84 A70 A101) (g := (mkF m 13 #[.val (.ref a), .val (.ref wR)] [(.ref wR), (.ref t), (.ref a)])) rfl (by rw [hml]; rfl) (lenOf pd__Ljava_lang_String_ABLjava_util_Locale__r_Ljava_lang_String_ rfl) rfl (by decide) (Nat.le_of_ble_eq_true rfl) (by decide) (by decide) (hb hby d_jdk_42_method_109_code_13)
  replace HC := HC.trans HCq205
  obtain ⟨b205, u205, k205, rfl, Nq205, Kq205, Es205, Cs205, Fs205, Vs205⟩ := Q205
  replace E := E.keep Kq205
  replace FC := FC.keep Kq205 nin0
  replace FV := FV.keep Kq205 nin0
  replace V := V.keep Kq205 nin0
  replace OL := OL.keep Kq205 all0
  replace K := K.trans Kq205 all0
  have N205 := Fr.app N203 Nq205
  refine own_ofW st205 ?_
  show own_EndsW _ _ _ _ _ _ _ _ (T205.setTop (mkF m 16 #[.val (.ref a), .val (.ref wR)] [(.ref b205)]))
  refine own_ofW (fun tt_ kk_ => XS.goto X205.here hx rfl (pc0 := 16) (pc' := 28) rfl (hb hby d_jdk_42_method_109_code_16) (by decide) (by decide) kk_) ?_
  show own_EndsW _ _ _ _ _ _ _ _ (T205.setTop (mkF m 28 #[.val (.ref a), .val (.ref wR)] [(.ref b205)]))
  refine own_retAW X205 hx hlk hZ hS e205 hk es hEL HC hret rfl rfl (hb hby d_jdk_42_method_109_code_28) (by decide) (by decide) ?_
  exact ⟨b205, u205, k205, rfl, N205, K, Es205, Cs205, Fs205, Vs205⟩
theorem d_prog_63_method_4_code_0 : decode prog_63_method_4_code 0 = .ok (.iload_n 0, 1) := by decide +kernel
theorem d_prog_63_method_4_code_1 : decode prog_63_method_4_code 1 = .ok (.ifCond .eq 8, 3) := by decide +kernel
theorem d_prog_63_method_4_code_4 : decode prog_63_method_4_code 4 = .ok (.ldc 62, 2) := by decide +kernel
theorem d_prog_63_method_4_code_6 : decode prog_63_method_4_code 6 = .ok (.goto 5, 3) := by decide +kernel
theorem d_prog_63_method_4_code_11 : decode prog_63_method_4_code 11 = .ok (.areturn, 1) := by decide +kernel
theorem pn_com_example_libenq_libenq_wire_FieldValues : plainName "com/example/libenq/libenq/wire/FieldValues" = true := by first | (simp [plainName, overriddenIn]; done) | decide +kernel
theorem ef_prog_63_method_4_codeI (m : MethodId) (z0 : Int32) : entryFrame m #[(.int z0)] 1 = mkF m 0 #[.val (.int z0)] [] := by first | (simp [entryFrame, mkF, argsToLocals, Value.category]; done) | rfl
set_option maxRecDepth 65536 in
set_option maxHeartbeats 40000000 in
theorem rm_text_True (l : Launch) (Z : State) (a0 : Array Value) (hw : ∀ d ∈ tables_1, d.before a0 Z = true)  (h0 : Heap) (n0 : Nat) (Z0 : n0 ≤ h0.size) (hEL : EW Z a0 own_EL) :
    own_MetW l Z own_EL (⟨"com/example/libenq/libenq/wire/FieldValues", "truthText", "(Z)Ljava/lang/String;"⟩ : MethodName) prog_63_method_4_code 1 (some (.object "java/lang/String")) ({ frames := 0, cells := 2, slots := 20, locals := 0 } : Room) #[(.int (1 : Int32))] h0 (fun v h L => ∃ (b u : Addr) (k' : ClassId), v = some (.ref b) ∧ Fr n0 L ∧ Keep h0 h [] ∧ Exa Z h b "java/lang/String" ∧ Fld Z h b "java/lang/String" "coder" "B" (.int (0 : Int32)) ∧ Fld Z h b "java/lang/String" "value" "[B" (.ref u) ∧ Arv Z h u k' .byte (4 : Int32) [(.int (84 : Int32)), (.int (114 : Int32)), (.int (117 : Int32)), (.int (101 : Int32))] (.int (0 : Int32))) := by
  refine own_bodyW (plainFor_of_name pn_com_example_libenq_libenq_wire_FieldValues) ?_
  intro p e s m below meth c T0 X0 e0 es hx hby hml hown hnm hret hlk hZ hS HC
  replace hown : (s.setVm s.vm).vm.findClass "com/example/libenq/libenq/wire/FieldValues" = some m.cls := hown
  have N0 := Fr.nil n0
  have hk : 0 ≤ h0.size := Nat.zero_le _
  have wS : ∀ d ∈ Bundle.stringAtoms, d.before a0 Z = true := fun d hd => hw d ((by decide +kernel : ∀ d ∈ Bundle.stringAtoms, d ∈ tables_1) d hd)
  refine own_ofW (fun tt_ kk_ => castTop (ef_prog_63_method_4_codeI m (1 : Int32)) kk_) ?_
  have K := Keep.refl h0 []
  show own_EndsW _ _ _ _ _ _ _ _ (T0.setTop (mkF m 0 #[.val (.int (1 : Int32))] []))
  refine own_ofW (fun tt_ kk_ => XS.iloadN X0.here hx rfl (hb hby d_prog_63_method_4_code_0) rfl  kk_) ?_
  show own_EndsW _ _ _ _ _ _ _ _ (T0.setTop (mkF m 1 #[.val (.int (1 : Int32))] [(.int (1 : Int32))]))
  refine own_ofW (fun tt_ kk_ => XS.ifNo X0.here hx rfl (hb hby d_prog_63_method_4_code_1) rfl ((if0 _ _).trans (feq (by decide : ¬ ((1 : Int32) = (0 : Int32)))).1) kk_) ?_
  show own_EndsW _ _ _ _ _ _ _ _ (T0.setTop (mkF m 4 #[.val (.int (1 : Int32))] []))
  obtain ⟨a206, T206, h206, k206', t206, kb206, X206, e206, E206, hS, hk, hZ, hown, Es206, Cs206, Fs206, Vs206, la206, lt206, HCq206, Lt206, Sf206, st206⟩ := ldcCH X0 hx hZ hown (hw _ (List.mem_of_getElem? (i := 125) rfl)) wS e0 hS hk hEL (by decide +kernel) HC.1 (vs := [(.int (84 : Int32)), (.int (114 : Int32)), (.int (117 : Int32)), (.int (101 : Int32))]) (z := (4 : Int32)) (by decide +kernel) (by decide) (by decide) (g := (mkF m 4 #[.val (.int (1 : Int32))] [])) rfl (hb hby d_prog_63_method_4_code_4) (n := 16) (by decide +kernel) (by decide) (by decide) (by decide)
  replace HC := HC.trans HCq206
  replace K := K.ext E206
  refine own_ofW st206 ?_
  show own_EndsW _ _ _ _ _ _ _ _ (T206.setTop (mkF m 6 #[.val (.int (1 : Int32))] [(.ref a206)]))
  refine own_ofW (fun tt_ kk_ => XS.goto X206.here hx rfl (pc0 := 6) (pc' := 11) rfl (hb hby d_prog_63_method_4_code_6) (by decide) (by decide) kk_) ?_
  show own_EndsW _ _ _ _ _ _ _ _ (T206.setTop (mkF m 11 #[.val (.int (1 : Int32))] [(.ref a206)]))
  refine own_retAW X206 hx hlk hZ hS e206 hk es hEL HC hret rfl rfl (hb hby d_prog_63_method_4_code_11) (by decide) (by decide) ?_
  exact ⟨a206, t206, kb206, rfl, N0, K, Es206, Cs206, Fs206, Vs206⟩
theorem d_prog_63_method_5_code_0 : decode prog_63_method_5_code 0 = .ok (.aload_n 1, 1) := by decide +kernel
theorem d_prog_63_method_5_code_1 : decode prog_63_method_5_code 1 = .ok (.invokevirtual 7, 3) := by decide +kernel
theorem d_prog_63_method_5_code_4 : decode prog_63_method_5_code 4 = .ok (.getstatic 66, 3) := by decide +kernel
theorem pd__Ljava_util_Locale__r_Ljava_lang_String_ : parseMethodDescriptor "(Ljava/util/Locale;)Ljava/lang/String;" = some ⟨[(.object "java/util/Locale")], some (.object "java/lang/String")⟩ := by decide +kernel
theorem d_prog_63_method_5_code_7 : decode prog_63_method_5_code 7 = .ok (.invokevirtual 72, 3) := by decide +kernel
theorem d_prog_63_method_5_code_10 : decode prog_63_method_5_code 10 = .ok (.astore_n 2, 1) := by decide +kernel
theorem d_prog_63_method_5_code_11 : decode prog_63_method_5_code 11 = .ok (.aload_n 2, 1) := by decide +kernel
theorem d_prog_63_method_5_code_12 : decode prog_63_method_5_code 12 = .ok (.ldc 76, 2) := by decide +kernel
theorem pd__Ljava_lang_Object__r_Z : parseMethodDescriptor "(Ljava/lang/Object;)Z" = some ⟨[(.object "java/lang/Object")], some .boolean⟩ := by decide +kernel
theorem d_prog_63_method_5_code_14 : decode prog_63_method_5_code 14 = .ok (.invokevirtual 49, 3) := by decide +kernel
theorem d_prog_63_method_5_code_17 : decode prog_63_method_5_code 17 = .ok (.ifCond .eq 5, 3) := by decide +kernel
theorem d_prog_63_method_5_code_20 : decode prog_63_method_5_code 20 = .ok (.iconst 1, 1) := by decide +kernel
theorem d_prog_63_method_5_code_21 : decode prog_63_method_5_code 21 = .ok (.ireturn, 1) := by decide +kernel
theorem ef_prog_63_method_5_codeRR (m : MethodId) (z0 : Addr) (z1 : Addr) : entryFrame m #[(.ref z0), (.ref z1)] 3 = mkF m 0 #[.val (.ref z0), .val (.ref z1), .unset] [] := by first | (simp [entryFrame, mkF, argsToLocals, Value.category]; done) | rfl
set_option maxRecDepth 65536 in
set_option maxHeartbeats 40000000 in
theorem rm_val_True (l : Launch) (Z : State) (a0 : Array Value) (hw : ∀ d ∈ tables_1, d.before a0 Z = true) (x0 a t : Addr) (k : ClassId) (G1 : Int32) (wI wA wR wB wG tG : Addr) (clA : Cell) (kG : ClassId) (h0 : Heap) (n0 : Nat) (Z0 : n0 ≤ h0.size) (hEL : EW Z a0 own_EL) (E : Exa Z h0 a "java/lang/String") (FC : Fld Z h0 a "java/lang/String" "coder" "B" (.int (0 : Int32))) (FV : Fld Z h0 a "java/lang/String" "value" "[B" (.ref t)) (V : Arv Z h0 t k .byte (4 : Int32) [(.int (84 : Int32)), (.int (114 : Int32)), (.int (117 : Int32)), (.int (101 : Int32))] (.int (0 : Int32))) (O2 : Sta Z Z.heap "java/lang/String" "COMPACT_STRINGS" "Z" (.int G1)) (P3 : ¬ (G1 = (0 : Int32))) (OL : Old Z n0 h0) (SI : Sta Z Z.heap "java/lang/CharacterDataLatin1" "instance" "Ljava/lang/CharacterDataLatin1;" (.ref wI)) (EI : Exa Z Z.heap wI "java/lang/CharacterDataLatin1") (SA : Sta Z Z.heap "java/lang/CharacterDataLatin1" "A" "[I" (.ref wA)) (AA : Arr Z Z.heap wA clA .int) (ZA : clA.slots.size = 256) (SL : Sta Z Z.heap "java/util/Locale" "ROOT" "Ljava/util/Locale;" (.ref wR)) (ER : Exa Z Z.heap wR "java/util/Locale") (FB : Fld Z Z.heap wR "java/util/Locale" "baseLocale" "Lsun/util/locale/BaseLocale;" (.ref wB)) (EB : Exa Z Z.heap wB "sun/util/locale/BaseLocale") (FG : Fld Z Z.heap wB "sun/util/locale/BaseLocale" "language" "Ljava/lang/String;" (.ref wG)) (FW : Fld Z Z.heap wG "java/lang/String" "value" "[B" (.ref tG)) (VG : Arv Z Z.heap tG kG .byte (0 : Int32) [] (.int (0 : Int32))) (A84 : clA.slots[84]? = some (.int (8552417 : Int32))) (A70 : clA.slots[70]? = some (.int (8552417 : Int32))) (A101 : clA.slots[101]? = some (.int (8486882 : Int32))) :
    own_MetW l Z own_EL (⟨"com/example/libenq/libenq/wire/FieldValues", "truthValue", "(Ljava/lang/String;Ljava/lang/String;)Z"⟩ : MethodName) prog_63_method_5_code 3 (some .boolean) ({ frames := 5, cells := 10, slots := 64, locals := 72 } : Room) #[(.ref x0), (.ref a)] h0 (fun v h L => v = some (.int (1 : Int32)) ∧ Fr n0 L ∧ Keep h0 h []) := by
  refine own_bodyW (plainFor_of_name pn_com_example_libenq_libenq_wire_FieldValues) ?_
  intro p e s m below meth c T0 X0 e0 es hx hby hml hown hnm hret hlk hZ hS HC
  replace hown : (s.setVm s.vm).vm.findClass "com/example/libenq/libenq/wire/FieldValues" = some m.cls := hown
  have N0 := Fr.nil n0
  have hk : 0 ≤ h0.size := Nat.zero_le _
  have wS : ∀ d ∈ Bundle.stringAtoms, d.before a0 Z = true := fun d hd => hw d ((by decide +kernel : ∀ d ∈ Bundle.stringAtoms, d ∈ tables_1) d hd)
  refine own_ofW (fun tt_ kk_ => castTop (ef_prog_63_method_5_codeRR m x0 a) kk_) ?_
  have K := Keep.refl h0 []
  show own_EndsW _ _ _ _ _ _ _ _ (T0.setTop (mkF m 0 #[.val (.ref x0), .val (.ref a), .unset] []))
  refine own_ofW (fun tt_ kk_ => XS.aloadN X0.here hx rfl (hb hby d_prog_63_method_5_code_0) rfl rfl kk_) ?_
  show own_EndsW _ _ _ _ _ _ _ _ (T0.setTop (mkF m 1 #[.val (.ref x0), .val (.ref a), .unset] [(.ref a)]))
  obtain ⟨v207, T207, L207, h207, X207, e207, Q207, st207⟩ := own_virtual X0 hx hZ hown e0 E (hw _ (List.mem_of_getElem? (i := 42) rfl)) (hw _ (List.mem_of_getElem? (i := 43) rfl)) (notFace_of_selects (args := #[]) (mvT hZ (hw _ (List.mem_of_getElem? (i := 45) rfl)))) (hw _ (List.mem_of_getElem? (i := 45) rfl)) (hw _ (List.mem_of_getElem? (i := 44) rfl)) (hw _ (List.mem_of_getElem? (i := 5) rfl)) (hw _ (List.mem_of_getElem? (i := 46) rfl)) (by decide) (argsL := []) (rest := []) (rm_strip_True l Z a0 hw a t k G1 wI wA wR wB wG tG clA kG h0 n0 (Nat.le_trans Z0 K.1) E FC FV V O2 P3 OL SI EI SA AA ZA SL ER FB EB FG FW VG A84 A70 A101) (g := (mkF m 1 #[.val (.ref x0), .val (.ref a), .unset] [(.ref a)])) rfl (by rw [hml]; rfl) (lenOf pd___r_Ljava_lang_String_ rfl) rfl (by decide) (Nat.le_of_ble_eq_true rfl) (by decide) (by decide) (hb hby d_prog_63_method_5_code_1)
  obtain ⟨rfl, Nq207, q207⟩ := Q207
  replace e207 := e207.trans q207
  have N207 := Fr.app N0 Nq207
  refine own_ofW st207 ?_
  show own_EndsW _ _ _ _ _ _ _ _ (T207.setTop (mkF m 4 #[.val (.ref x0), .val (.ref a), .unset] [(.ref a)]))
  obtain ⟨T208, X208, e208, st208⟩ := getS2 X207 hx hZ hown (host := "") (Or.inl (hw _ (List.mem_of_getElem? (i := 77) rfl))) Via.refl e207 (SL.ext OL.2) (g := (mkF m 4 #[.val (.ref x0), .val (.ref a), .unset] [(.ref a)])) rfl (hb hby d_prog_63_method_5_code_4)
  refine own_ofW st208 ?_
  show own_EndsW _ _ _ _ _ _ _ _ (T208.setTop (mkF m 7 #[.val (.ref x0), .val (.ref a), .unset] [(.ref wR), (.ref a)]))
  obtain ⟨v209, T209, L209, h209, k209', X209, e209, Q209, hZ, hown, hS, hk, HCq209, st209⟩ := own_virtualW X208 hx hZ hown e208 hS hk hEL HC.1 E (hw _ (List.mem_of_getElem? (i := 79) rfl)) (hw _ (List.mem_of_getElem? (i := 80) rfl)) (notFace_of_selects (args := #[]) (mvT hZ (hw _ (List.mem_of_getElem? (i := 82) rfl)))) (hw _ (List.mem_of_getElem? (i := 82) rfl)) (hw _ (List.mem_of_getElem? (i := 81) rfl)) (hw _ (List.mem_of_getElem? (i := 5) rfl)) (hw _ (List.mem_of_getElem? (i := 83) rfl)) (by decide) (argsL := [(.ref wR)]) (rest := []) (rm_tlc_True l Z a0 hw a t k G1 wI wA wR wB wG tG clA kG h0 n0 (Nat.le_trans Z0 K.1) hEL E FC FV V O2 P3 OL SI EI SA AA ZA SL ER FB EB FG FW VG A84 A70 A101) (g := (mkF m 7 #[.val (.ref x0), .val (.ref a), .unset] [(.ref wR), (.ref a)])) rfl (by rw [hml]; rfl) (lenOf pd__Ljava_util_Locale__r_Ljava_lang_String_ rfl) rfl (by decide) (Nat.le_of_ble_eq_true rfl) (by decide) (by decide) (hb hby d_prog_63_method_5_code_7)
  replace HC := HC.trans HCq209
  obtain ⟨b209, u209, k209, rfl, Nq209, Kq209, Es209, Cs209, Fs209, Vs209⟩ := Q209
  replace E := E.keep Kq209
  replace FC := FC.keep Kq209 nin0
  replace FV := FV.keep Kq209 nin0
  replace V := V.keep Kq209 nin0
  replace OL := OL.keep Kq209 all0
  replace K := K.trans Kq209 all0
  have N209 := Fr.app N207 Nq209
  refine own_ofW st209 ?_
  show own_EndsW _ _ _ _ _ _ _ _ (T209.setTop (mkF m 10 #[.val (.ref x0), .val (.ref a), .unset] [(.ref b209)]))
  refine own_ofW (fun tt_ kk_ => XS.astoreN X209.here hx rfl (hb hby d_prog_63_method_5_code_10) rfl rfl (l' := #[.val (.ref x0), .val (.ref a), .val (.ref b209)]) rfl kk_) ?_
  show own_EndsW _ _ _ _ _ _ _ _ (T209.setTop (mkF m 11 #[.val (.ref x0), .val (.ref a), .val (.ref b209)] []))
  refine own_ofW (fun tt_ kk_ => XS.aloadN X209.here hx rfl (hb hby d_prog_63_method_5_code_11) rfl rfl kk_) ?_
  show own_EndsW _ _ _ _ _ _ _ _ (T209.setTop (mkF m 12 #[.val (.ref x0), .val (.ref a), .val (.ref b209)] [(.ref b209)]))
  obtain ⟨a210, T210, h210, k210', t210, kb210, X210, e210, E210, hS, hk, hZ, hown, Es210, Cs210, Fs210, Vs210, la210, lt210, HCq210, Lt210, Sf210, st210⟩ := ldcCH X209 hx hZ hown (hw _ (List.mem_of_getElem? (i := 119) rfl)) wS e209 hS hk hEL (by decide +kernel) HC.1 (vs := [(.int (116 : Int32)), (.int (114 : Int32)), (.int (117 : Int32)), (.int (101 : Int32))]) (z := (4 : Int32)) (by decide +kernel) (by decide) (by decide) (g := (mkF m 12 #[.val (.ref x0), .val (.ref a), .val (.ref b209)] [(.ref b209)])) rfl (hb hby d_prog_63_method_5_code_12) (n := 16) (by decide +kernel) (by decide) (by decide) (by decide)
  replace HC := HC.trans HCq210
  replace E := E.ext E210
  replace FC := FC.ext E210
  replace FV := FV.ext E210
  replace V := V.ext E210
  replace OL := OL.ext E210
  replace Es209 := Es209.ext E210
  replace Cs209 := Cs209.ext E210
  replace Fs209 := Fs209.ext E210
  replace Vs209 := Vs209.ext E210
  replace K := K.ext E210
  refine own_ofW st210 ?_
  show own_EndsW _ _ _ _ _ _ _ _ (T210.setTop (mkF m 14 #[.val (.ref x0), .val (.ref a), .val (.ref b209)] [(.ref a210), (.ref b209)]))
  obtain ⟨v211, T211, L211, h211, X211, e211, Q211, st211⟩ := own_virtual X210 hx hZ hown e210 Es209 (hw _ (List.mem_of_getElem? (i := 120) rfl)) (hw _ (List.mem_of_getElem? (i := 14) rfl)) (notFace_of_selects (args := #[]) (mvT hZ (hw _ (List.mem_of_getElem? (i := 16) rfl)))) (hw _ (List.mem_of_getElem? (i := 16) rfl)) (hw _ (List.mem_of_getElem? (i := 15) rfl)) (hw _ (List.mem_of_getElem? (i := 5) rfl)) (hw _ (List.mem_of_getElem? (i := 17) rfl)) (by decide) (argsL := [(.ref a210)]) (rest := []) (rm_eq_true_true l Z a0 hw b209 a210 u209 t210 k209 kb210 G1 h210 n0 (Nat.le_trans Z0 K.1) Es209 Cs209 Fs209 Vs209 Es210 Cs210 Fs210 Vs210 O2 P3 OL) (g := (mkF m 14 #[.val (.ref x0), .val (.ref a), .val (.ref b209)] [(.ref a210), (.ref b209)])) rfl (by rw [hml]; rfl) (lenOf pd__Ljava_lang_Object__r_Z rfl) rfl (by decide) (Nat.le_of_ble_eq_true rfl) (by decide) (by decide) (hb hby d_prog_63_method_5_code_14)
  obtain ⟨rfl, Nq211, q211⟩ := Q211
  replace e211 := e211.trans q211
  have N211 := Fr.app N209 Nq211
  refine own_ofW st211 ?_
  show own_EndsW _ _ _ _ _ _ _ _ (T211.setTop (mkF m 17 #[.val (.ref x0), .val (.ref a), .val (.ref b209)] [(.int (1 : Int32))]))
  refine own_ofW (fun tt_ kk_ => XS.ifNo X211.here hx rfl (hb hby d_prog_63_method_5_code_17) rfl ((if0 _ _).trans (feq (by decide : ¬ ((1 : Int32) = (0 : Int32)))).1) kk_) ?_
  show own_EndsW _ _ _ _ _ _ _ _ (T211.setTop (mkF m 20 #[.val (.ref x0), .val (.ref a), .val (.ref b209)] []))
  refine own_ofW (fun tt_ kk_ => XS.iconst X211.here hx rfl (hb hby d_prog_63_method_5_code_20) kk_) ?_
  show own_EndsW _ _ _ _ _ _ _ _ (T211.setTop (mkF m 21 #[.val (.ref x0), .val (.ref a), .val (.ref b209)] [(.int (1 : Int32))]))
  refine own_retNW X211 hx hlk hZ hS e211 hk es hEL HC (t := .boolean) hret (by simp) (z' := (1 : Int32)) rfl (hb hby d_prog_63_method_5_code_21) (by decide) (by decide) ?_
  exact ⟨rfl, N211, K⟩
set_option maxRecDepth 65536 in
set_option maxHeartbeats 40000000 in
theorem rm_tlc1_False (l : Launch) (Z : State) (a0 : Array Value) (hw : ∀ d ∈ tables_1, d.before a0 Z = true) (a t : Addr) (k : ClassId) (G1 : Int32) (wI wA wR wB wG tG : Addr) (clA : Cell) (kG : ClassId) (h0 : Heap) (n0 : Nat) (Z0 : n0 ≤ h0.size) (hEL : EW Z a0 own_EL) (V : Arv Z h0 t k .byte (5 : Int32) [(.int (70 : Int32)), (.int (97 : Int32)), (.int (108 : Int32)), (.int (115 : Int32)), (.int (101 : Int32))] (.int (0 : Int32))) (O2 : Sta Z Z.heap "java/lang/String" "COMPACT_STRINGS" "Z" (.int G1)) (P3 : ¬ (G1 = (0 : Int32))) (OL : Old Z n0 h0) (SI : Sta Z Z.heap "java/lang/CharacterDataLatin1" "instance" "Ljava/lang/CharacterDataLatin1;" (.ref wI)) (EI : Exa Z Z.heap wI "java/lang/CharacterDataLatin1") (SA : Sta Z Z.heap "java/lang/CharacterDataLatin1" "A" "[I" (.ref wA)) (AA : Arr Z Z.heap wA clA .int) (ZA : clA.slots.size = 256) (SL : Sta Z Z.heap "java/util/Locale" "ROOT" "Ljava/util/Locale;" (.ref wR)) (ER : Exa Z Z.heap wR "java/util/Locale") (FB : Fld Z Z.heap wR "java/util/Locale" "baseLocale" "Lsun/util/locale/BaseLocale;" (.ref wB)) (EB : Exa Z Z.heap wB "sun/util/locale/BaseLocale") (FG : Fld Z Z.heap wB "sun/util/locale/BaseLocale" "language" "Ljava/lang/String;" (.ref wG)) (FW : Fld Z Z.heap wG "java/lang/String" "value" "[B" (.ref tG)) (VG : Arv Z Z.heap tG kG .byte (0 : Int32) [] (.int (0 : Int32))) (A84 : clA.slots[84]? = some (.int (8552417 : Int32))) (A70 : clA.slots[70]? = some (.int (8552417 : Int32))) (A101 : clA.slots[101]? = some (.int (8486882 : Int32))) :
    own_MetW l Z own_EL (⟨"java/lang/StringLatin1", "toLowerCase", "(Ljava/lang/String;[BLjava/util/Locale;)Ljava/lang/String;"⟩ : MethodName) jdk_43_method_32_code 9 (some (.object "java/lang/String")) ({ frames := 2, cells := 8, slots := 45, locals := 32 } : Room) #[(.ref a), (.ref t), (.ref wR)] h0 (fun v h L => ∃ (b u : Addr) (k' : ClassId), v = some (.ref b) ∧ Fr n0 L ∧ Keep h0 h [] ∧ Exa Z h b "java/lang/String" ∧ Fld Z h b "java/lang/String" "coder" "B" (.int (0 : Int32)) ∧ Fld Z h b "java/lang/String" "value" "[B" (.ref u) ∧ Arv Z h u k' .byte (5 : Int32) [(.int (102 : Int32)), (.int (97 : Int32)), (.int (108 : Int32)), (.int (115 : Int32)), (.int (101 : Int32))] (.int (0 : Int32))) := by
  refine own_bodyW (plainFor_of_name pn_java_lang_StringLatin1) ?_
  intro p e s m below meth c T0 X0 e0 es hx hby hml hown hnm hret hlk hZ hS HC
  replace hown : (s.setVm s.vm).vm.findClass "java/lang/StringLatin1" = some m.cls := hown
  have N0 := Fr.nil n0
  have hk : 0 ≤ h0.size := Nat.zero_le _
  have wS : ∀ d ∈ Bundle.stringAtoms, d.before a0 Z = true := fun d hd => hw d ((by decide +kernel : ∀ d ∈ Bundle.stringAtoms, d ∈ tables_1) d hd)
  refine own_ofW (fun tt_ kk_ => castTop (ef_jdk_43_method_32_codeRRR m a t wR) kk_) ?_
  have K := Keep.refl h0 []
  show own_EndsW _ _ _ _ _ _ _ _ (T0.setTop (mkF m 0 #[.val (.ref a), .val (.ref t), .val (.ref wR), .unset, .unset, .unset, .unset, .unset, .unset] []))
  refine own_ofW (fun tt_ kk_ => XS.aloadN X0.here hx rfl (hb hby d_jdk_43_method_32_code_0) rfl rfl kk_) ?_
  show own_EndsW _ _ _ _ _ _ _ _ (T0.setTop (mkF m 1 #[.val (.ref a), .val (.ref t), .val (.ref wR), .unset, .unset, .unset, .unset, .unset, .unset] [(.ref wR)]))
  refine own_ofW (fun tt_ kk_ => XS.ifnonnullYes X0.here hx rfl (pc0 := 1) (pc' := 12) rfl (hb hby d_jdk_43_method_32_code_1) rfl (by decide) (by decide) kk_) ?_
  show own_EndsW _ _ _ _ _ _ _ _ (T0.setTop (mkF m 12 #[.val (.ref a), .val (.ref t), .val (.ref wR), .unset, .unset, .unset, .unset, .unset, .unset] []))
  refine own_ofW (fun tt_ kk_ => XS.aloadN X0.here hx rfl (hb hby d_jdk_43_method_32_code_12) rfl rfl kk_) ?_
  show own_EndsW _ _ _ _ _ _ _ _ (T0.setTop (mkF m 13 #[.val (.ref a), .val (.ref t), .val (.ref wR), .unset, .unset, .unset, .unset, .unset, .unset] [(.ref t)]))
  obtain ⟨cl212, Ar212, -, S212, N212', -, -⟩ := id V
  refine own_ofW (fun tt_ kk_ => X0.arraylength hx (by rw [e0]; exact Ar212.1) (State.isArrayOf_alike hZ.alike Ar212.2.1) (g := (mkF m 13 #[.val (.ref a), .val (.ref t), .val (.ref wR), .unset, .unset, .unset, .unset, .unset, .unset] [(.ref t)])) rfl rfl (hb hby d_jdk_43_method_32_code_13) _ kk_) ?_
  rw [len_of S212 N212']
  show own_EndsW _ _ _ _ _ _ _ _ (T0.setTop (mkF m 14 #[.val (.ref a), .val (.ref t), .val (.ref wR), .unset, .unset, .unset, .unset, .unset, .unset] [(.int (5 : Int32))]))
  refine own_ofW (fun tt_ kk_ => XS.istore X0.here hx rfl (hb hby d_jdk_43_method_32_code_14) rfl (l' := #[.val (.ref a), .val (.ref t), .val (.ref wR), .unset, .val (.int (5 : Int32)), .unset, .unset, .unset, .unset]) rfl kk_) ?_
  show own_EndsW _ _ _ _ _ _ _ _ (T0.setTop (mkF m 16 #[.val (.ref a), .val (.ref t), .val (.ref wR), .unset, .val (.int (5 : Int32)), .unset, .unset, .unset, .unset] []))
  refine own_ofW (fun tt_ kk_ => XS.iconst X0.here hx rfl (hb hby d_jdk_43_method_32_code_16) kk_) ?_
  show own_EndsW _ _ _ _ _ _ _ _ (T0.setTop (mkF m 17 #[.val (.ref a), .val (.ref t), .val (.ref wR), .unset, .val (.int (5 : Int32)), .unset, .unset, .unset, .unset] [(.int (0 : Int32))]))
  refine own_ofW (fun tt_ kk_ => XS.istoreN X0.here hx rfl (hb hby d_jdk_43_method_32_code_17) rfl (l' := #[.val (.ref a), .val (.ref t), .val (.ref wR), .val (.int (0 : Int32)), .val (.int (5 : Int32)), .unset, .unset, .unset, .unset]) rfl kk_) ?_
  show own_EndsW _ _ _ _ _ _ _ _ (T0.setTop (mkF m 18 #[.val (.ref a), .val (.ref t), .val (.ref wR), .val (.int (0 : Int32)), .val (.int (5 : Int32)), .unset, .unset, .unset, .unset] []))
  refine own_ofW (fun tt_ kk_ => XS.iloadN X0.here hx rfl (hb hby d_jdk_43_method_32_code_18) rfl  kk_) ?_
  show own_EndsW _ _ _ _ _ _ _ _ (T0.setTop (mkF m 19 #[.val (.ref a), .val (.ref t), .val (.ref wR), .val (.int (0 : Int32)), .val (.int (5 : Int32)), .unset, .unset, .unset, .unset] [(.int (0 : Int32))]))
  refine own_ofW (fun tt_ kk_ => XS.iload X0.here hx rfl (hb hby d_jdk_43_method_32_code_19) rfl  kk_) ?_
  show own_EndsW _ _ _ _ _ _ _ _ (T0.setTop (mkF m 21 #[.val (.ref a), .val (.ref t), .val (.ref wR), .val (.int (0 : Int32)), .val (.int (5 : Int32)), .unset, .unset, .unset, .unset] [(.int (5 : Int32)), (.int (0 : Int32))]))
  refine own_ofW (fun tt_ kk_ => XS.icmpNo X0.here hx rfl (hb hby d_jdk_43_method_32_code_21) rfl (tlt (by decide : ((0 : Int32) < (5 : Int32)))).2.1 kk_) ?_
  show own_EndsW _ _ _ _ _ _ _ _ (T0.setTop (mkF m 24 #[.val (.ref a), .val (.ref t), .val (.ref wR), .val (.int (0 : Int32)), .val (.int (5 : Int32)), .unset, .unset, .unset, .unset] []))
  refine own_ofW (fun tt_ kk_ => XS.aloadN X0.here hx rfl (hb hby d_jdk_43_method_32_code_24) rfl rfl kk_) ?_
  show own_EndsW _ _ _ _ _ _ _ _ (T0.setTop (mkF m 25 #[.val (.ref a), .val (.ref t), .val (.ref wR), .val (.int (0 : Int32)), .val (.int (5 : Int32)), .unset, .unset, .unset, .unset] [(.ref t)]))
  refine own_ofW (fun tt_ kk_ => XS.iloadN X0.here hx rfl (hb hby d_jdk_43_method_32_code_25) rfl  kk_) ?_
  show own_EndsW _ _ _ _ _ _ _ _ (T0.setTop (mkF m 26 #[.val (.ref a), .val (.ref t), .val (.ref wR), .val (.int (0 : Int32)), .val (.int (5 : Int32)), .unset, .unset, .unset, .unset] [(.int (0 : Int32)), (.ref t)]))
  obtain ⟨cl213, Ar213, q213, S213, N213', H213, G213⟩ := id V
  have hin213 : ¬ ((0 : Int32) < 0 ∨ cl213.slots.size ≤ ((0 : Int32)).toNatClampNeg) := inb_of S213 ⟨by decide, by decide⟩
  have hat213 : cl213.slots[((0 : Int32)).toNatClampNeg]? = some (.int (70 : Int32)) := H213.at hin213 rfl
  refine own_ofW (fun tt_ kk_ => X0.baloadBytes hx (j := (0 : Int32)) (v := (.int (70 : Int32))) (by rw [e0]; exact Ar213.1) (State.isArrayOf_alike hZ.alike Ar213.2.1) Ar213.2.2 hin213 hat213 (g := (mkF m 26 #[.val (.ref a), .val (.ref t), .val (.ref wR), .val (.int (0 : Int32)), .val (.int (5 : Int32)), .unset, .unset, .unset, .unset] [(.int (0 : Int32)), (.ref t)])) rfl rfl (hb hby d_jdk_43_method_32_code_26) _ kk_) ?_
  show own_EndsW _ _ _ _ _ _ _ _ (T0.setTop (mkF m 27 #[.val (.ref a), .val (.ref t), .val (.ref wR), .val (.int (0 : Int32)), .val (.int (5 : Int32)), .unset, .unset, .unset, .unset] [(.int (70 : Int32))]))
  refine own_ofW (fun tt_ kk_ => XS.sipush X0.here hx rfl (hb hby d_jdk_43_method_32_code_27) kk_) ?_
  show own_EndsW _ _ _ _ _ _ _ _ (T0.setTop (mkF m 30 #[.val (.ref a), .val (.ref t), .val (.ref wR), .val (.int (0 : Int32)), .val (.int (5 : Int32)), .unset, .unset, .unset, .unset] [(.int (255 : Int32)), (.int (70 : Int32))]))
  refine own_ofW (fun tt_ kk_ => XS.iand X0.here hx rfl (hb hby d_jdk_43_method_32_code_30) rfl kk_) ?_
  show own_EndsW _ _ _ _ _ _ _ _ (T0.setTop (mkF m 31 #[.val (.ref a), .val (.ref t), .val (.ref wR), .val (.int (0 : Int32)), .val (.int (5 : Int32)), .unset, .unset, .unset, .unset] [(.int (70 : Int32))]))
  refine own_ofW (fun tt_ kk_ => XS.istore X0.here hx rfl (hb hby d_jdk_43_method_32_code_31) rfl (l' := #[.val (.ref a), .val (.ref t), .val (.ref wR), .val (.int (0 : Int32)), .val (.int (5 : Int32)), .val (.int (70 : Int32)), .unset, .unset, .unset]) rfl kk_) ?_
  show own_EndsW _ _ _ _ _ _ _ _ (T0.setTop (mkF m 33 #[.val (.ref a), .val (.ref t), .val (.ref wR), .val (.int (0 : Int32)), .val (.int (5 : Int32)), .val (.int (70 : Int32)), .unset, .unset, .unset] []))
  refine own_ofW (fun tt_ kk_ => XS.iload X0.here hx rfl (hb hby d_jdk_43_method_32_code_33) rfl  kk_) ?_
  show own_EndsW _ _ _ _ _ _ _ _ (T0.setTop (mkF m 35 #[.val (.ref a), .val (.ref t), .val (.ref wR), .val (.int (0 : Int32)), .val (.int (5 : Int32)), .val (.int (70 : Int32)), .unset, .unset, .unset] [(.int (70 : Int32))]))
  obtain ⟨T214, X214, e214, st214⟩ := getS2 X0 hx hZ hown (host := "") (Or.inl (hw _ (List.mem_of_getElem? (i := 61) rfl))) Via.refl e0 (SI.ext OL.2) (g := (mkF m 35 #[.val (.ref a), .val (.ref t), .val (.ref wR), .val (.int (0 : Int32)), .val (.int (5 : Int32)), .val (.int (70 : Int32)), .unset, .unset, .unset] [(.int (70 : Int32))])) rfl (hb hby d_jdk_43_method_32_code_35)
  refine own_ofW st214 ?_
  show own_EndsW _ _ _ _ _ _ _ _ (T214.setTop (mkF m 38 #[.val (.ref a), .val (.ref t), .val (.ref wR), .val (.int (0 : Int32)), .val (.int (5 : Int32)), .val (.int (70 : Int32)), .unset, .unset, .unset] [(.ref wI), (.int (70 : Int32))]))
  refine own_ofW (fun tt_ kk_ => XS.iload X214.here hx rfl (hb hby d_jdk_43_method_32_code_38) rfl  kk_) ?_
  show own_EndsW _ _ _ _ _ _ _ _ (T214.setTop (mkF m 40 #[.val (.ref a), .val (.ref t), .val (.ref wR), .val (.int (0 : Int32)), .val (.int (5 : Int32)), .val (.int (70 : Int32)), .unset, .unset, .unset] [(.int (70 : Int32)), (.ref wI), (.int (70 : Int32))]))
  obtain ⟨v215, T215, L215, h215, X215, e215, Q215, st215⟩ := own_virtual X214 hx hZ hown e214 (EI.ext OL.2) (hw _ (List.mem_of_getElem? (i := 87) rfl)) (hw _ (List.mem_of_getElem? (i := 88) rfl)) (notFace_of_selects (args := #[]) (mvT hZ (hw _ (List.mem_of_getElem? (i := 90) rfl)))) (hw _ (List.mem_of_getElem? (i := 90) rfl)) (hw _ (List.mem_of_getElem? (i := 89) rfl)) (hw _ (List.mem_of_getElem? (i := 62) rfl)) (hw _ (List.mem_of_getElem? (i := 91) rfl)) (by decide) (argsL := [(.int (70 : Int32))]) (rest := [(.int (70 : Int32))]) (rm_low70 l Z a0 hw wI h0 n0 (Nat.le_trans Z0 K.1)) (g := (mkF m 40 #[.val (.ref a), .val (.ref t), .val (.ref wR), .val (.int (0 : Int32)), .val (.int (5 : Int32)), .val (.int (70 : Int32)), .unset, .unset, .unset] [(.int (70 : Int32)), (.ref wI), (.int (70 : Int32))])) rfl (by rw [hml]; rfl) (lenOf pd__I_r_I rfl) rfl (by decide) (Nat.le_of_ble_eq_true rfl) (by decide) (by decide) (hb hby d_jdk_43_method_32_code_40)
  obtain ⟨rfl, Nq215, q215⟩ := Q215
  replace e215 := e215.trans q215
  have N215 := Fr.app N0 Nq215
  refine own_ofW st215 ?_
  show own_EndsW _ _ _ _ _ _ _ _ (T215.setTop (mkF m 43 #[.val (.ref a), .val (.ref t), .val (.ref wR), .val (.int (0 : Int32)), .val (.int (5 : Int32)), .val (.int (70 : Int32)), .unset, .unset, .unset] [(.int (102 : Int32)), (.int (70 : Int32))]))
  refine own_ofW (fun tt_ kk_ => XS.icmpNo X215.here hx rfl (hb hby d_jdk_43_method_32_code_43) rfl (feq (by decide : ¬ ((70 : Int32) = (102 : Int32)))).1 kk_) ?_
  show own_EndsW _ _ _ _ _ _ _ _ (T215.setTop (mkF m 46 #[.val (.ref a), .val (.ref t), .val (.ref wR), .val (.int (0 : Int32)), .val (.int (5 : Int32)), .val (.int (70 : Int32)), .unset, .unset, .unset] []))
  refine own_ofW (fun tt_ kk_ => XS.goto X215.here hx rfl (pc0 := 46) (pc' := 55) rfl (hb hby d_jdk_43_method_32_code_46) (by decide) (by decide) kk_) ?_
  show own_EndsW _ _ _ _ _ _ _ _ (T215.setTop (mkF m 55 #[.val (.ref a), .val (.ref t), .val (.ref wR), .val (.int (0 : Int32)), .val (.int (5 : Int32)), .val (.int (70 : Int32)), .unset, .unset, .unset] []))
  refine own_ofW (fun tt_ kk_ => XS.iloadN X215.here hx rfl (hb hby d_jdk_43_method_32_code_55) rfl  kk_) ?_
  show own_EndsW _ _ _ _ _ _ _ _ (T215.setTop (mkF m 56 #[.val (.ref a), .val (.ref t), .val (.ref wR), .val (.int (0 : Int32)), .val (.int (5 : Int32)), .val (.int (70 : Int32)), .unset, .unset, .unset] [(.int (0 : Int32))]))
  refine own_ofW (fun tt_ kk_ => XS.iload X215.here hx rfl (hb hby d_jdk_43_method_32_code_56) rfl  kk_) ?_
  show own_EndsW _ _ _ _ _ _ _ _ (T215.setTop (mkF m 58 #[.val (.ref a), .val (.ref t), .val (.ref wR), .val (.int (0 : Int32)), .val (.int (5 : Int32)), .val (.int (70 : Int32)), .unset, .unset, .unset] [(.int (5 : Int32)), (.int (0 : Int32))]))
  refine own_ofW (fun tt_ kk_ => XS.icmpYes X215.here hx rfl (pc0 := 58) (pc' := 63) rfl (hb hby d_jdk_43_method_32_code_58) rfl (feq (by decide : ¬ ((0 : Int32) = (5 : Int32)))).2 (by decide) (by decide) kk_) ?_
  show own_EndsW _ _ _ _ _ _ _ _ (T215.setTop (mkF m 63 #[.val (.ref a), .val (.ref t), .val (.ref wR), .val (.int (0 : Int32)), .val (.int (5 : Int32)), .val (.int (70 : Int32)), .unset, .unset, .unset] []))
  refine own_ofW (fun tt_ kk_ => XS.aloadN X215.here hx rfl (hb hby d_jdk_43_method_32_code_63) rfl rfl kk_) ?_
  show own_EndsW _ _ _ _ _ _ _ _ (T215.setTop (mkF m 64 #[.val (.ref a), .val (.ref t), .val (.ref wR), .val (.int (0 : Int32)), .val (.int (5 : Int32)), .val (.int (70 : Int32)), .unset, .unset, .unset] [(.ref wR)]))
  obtain ⟨v216, T216, L216, h216, X216, e216, Q216, st216⟩ := own_virtual X215 hx hZ hown e215 (ER.ext OL.2) (hw _ (List.mem_of_getElem? (i := 92) rfl)) (hw _ (List.mem_of_getElem? (i := 93) rfl)) (notFace_of_selects (args := #[]) (mvT hZ (hw _ (List.mem_of_getElem? (i := 95) rfl)))) (hw _ (List.mem_of_getElem? (i := 95) rfl)) (hw _ (List.mem_of_getElem? (i := 94) rfl)) (hw _ (List.mem_of_getElem? (i := 78) rfl)) (hw _ (List.mem_of_getElem? (i := 96) rfl)) (by decide) (argsL := []) (rest := []) (rm_lang l Z a0 hw G1 wI wA wR wB wG tG clA kG h0 n0 (Nat.le_trans Z0 K.1) O2 P3 OL SI EI SA AA ZA SL ER FB EB FG FW VG A84 A70 A101) (g := (mkF m 64 #[.val (.ref a), .val (.ref t), .val (.ref wR), .val (.int (0 : Int32)), .val (.int (5 : Int32)), .val (.int (70 : Int32)), .unset, .unset, .unset] [(.ref wR)])) rfl (by rw [hml]; rfl) (lenOf pd___r_Ljava_lang_String_ rfl) rfl (by decide) (Nat.le_of_ble_eq_true rfl) (by decide) (by decide) (hb hby d_jdk_43_method_32_code_64)
  obtain ⟨rfl, Nq216, q216⟩ := Q216
  replace e216 := e216.trans q216
  have N216 := Fr.app N215 Nq216
  refine own_ofW st216 ?_
  show own_EndsW _ _ _ _ _ _ _ _ (T216.setTop (mkF m 67 #[.val (.ref a), .val (.ref t), .val (.ref wR), .val (.int (0 : Int32)), .val (.int (5 : Int32)), .val (.int (70 : Int32)), .unset, .unset, .unset] [(.ref wG)]))
  refine own_ofW (fun tt_ kk_ => XS.astore X216.here hx rfl (hb hby d_jdk_43_method_32_code_67) rfl rfl (l' := #[.val (.ref a), .val (.ref t), .val (.ref wR), .val (.int (0 : Int32)), .val (.int (5 : Int32)), .val (.ref wG), .unset, .unset, .unset]) rfl kk_) ?_
  show own_EndsW _ _ _ _ _ _ _ _ (T216.setTop (mkF m 69 #[.val (.ref a), .val (.ref t), .val (.ref wR), .val (.int (0 : Int32)), .val (.int (5 : Int32)), .val (.ref wG), .unset, .unset, .unset] []))
  refine own_ofW (fun tt_ kk_ => XS.aload X216.here hx rfl (hb hby d_jdk_43_method_32_code_69) rfl rfl kk_) ?_
  show own_EndsW _ _ _ _ _ _ _ _ (T216.setTop (mkF m 71 #[.val (.ref a), .val (.ref t), .val (.ref wR), .val (.int (0 : Int32)), .val (.int (5 : Int32)), .val (.ref wG), .unset, .unset, .unset] [(.ref wG)]))
  obtain ⟨a217, T217, h217, k217', t217, kb217, X217, e217, E217, hS, hk, hZ, hown, Es217, Cs217, Fs217, Vs217, la217, lt217, HCq217, Lt217, Sf217, st217⟩ := ldcCH X216 hx hZ hown (hw _ (List.mem_of_getElem? (i := 107) rfl)) wS e216 hS hk hEL (by decide +kernel) HC.1 (vs := [(.int (116 : Int32)), (.int (114 : Int32))]) (z := (2 : Int32)) (by decide +kernel) (by decide) (by decide) (g := (mkF m 71 #[.val (.ref a), .val (.ref t), .val (.ref wR), .val (.int (0 : Int32)), .val (.int (5 : Int32)), .val (.ref wG), .unset, .unset, .unset] [(.ref wG)])) rfl (hb hby d_jdk_43_method_32_code_71) (n := 8) (by decide +kernel) (by decide) (by decide) (by decide)
  replace HC := HC.trans HCq217
  replace V := V.ext E217
  replace OL := OL.ext E217
  replace K := K.ext E217
  refine own_ofW st217 ?_
  have ne_wG_a217 : wG ≠ a217 := (FW.ext OL.2).ne Fs217 (fun q => arv_ne (VG.ext OL.2) Vs217 (Or.inl (by decide)) (Value.ref.inj q))
  show own_EndsW _ _ _ _ _ _ _ _ (T217.setTop (mkF m 73 #[.val (.ref a), .val (.ref t), .val (.ref wR), .val (.int (0 : Int32)), .val (.int (5 : Int32)), .val (.ref wG), .unset, .unset, .unset] [(.ref a217), (.ref wG)]))
  refine own_ofW (fun tt_ kk_ => Jvm.RoadKit.acmp (g := (mkF m 73 #[.val (.ref a), .val (.ref t), .val (.ref wR), .val (.int (0 : Int32)), .val (.int (5 : Int32)), .val (.ref wG), .unset, .unset, .unset] [(.ref a217), (.ref wG)])) X217 hx rfl rfl rfl (pc0 := 73) (pc' := 76) (same := false) rfl (hb hby d_jdk_43_method_32_code_73) rfl (decide_eq_false fun q => ne_wG_a217 (Value.ref.inj q)) (by decide) (by decide) kk_) ?_
  show own_EndsW _ _ _ _ _ _ _ _ (T217.setTop (mkF m 76 #[.val (.ref a), .val (.ref t), .val (.ref wR), .val (.int (0 : Int32)), .val (.int (5 : Int32)), .val (.ref wG), .unset, .unset, .unset] []))
  refine own_ofW (fun tt_ kk_ => XS.aload X217.here hx rfl (hb hby d_jdk_43_method_32_code_76) rfl rfl kk_) ?_
  show own_EndsW _ _ _ _ _ _ _ _ (T217.setTop (mkF m 78 #[.val (.ref a), .val (.ref t), .val (.ref wR), .val (.int (0 : Int32)), .val (.int (5 : Int32)), .val (.ref wG), .unset, .unset, .unset] [(.ref wG)]))
  obtain ⟨a218, T218, h218, k218', t218, kb218, X218, e218, E218, hS, hk, hZ, hown, Es218, Cs218, Fs218, Vs218, la218, lt218, HCq218, Lt218, Sf218, st218⟩ := ldcCH X217 hx hZ hown (hw _ (List.mem_of_getElem? (i := 108) rfl)) wS e217 hS hk hEL (by decide +kernel) HC.1 (vs := [(.int (97 : Int32)), (.int (122 : Int32))]) (z := (2 : Int32)) (by decide +kernel) (by decide) (by decide) (g := (mkF m 78 #[.val (.ref a), .val (.ref t), .val (.ref wR), .val (.int (0 : Int32)), .val (.int (5 : Int32)), .val (.ref wG), .unset, .unset, .unset] [(.ref wG)])) rfl (hb hby d_jdk_43_method_32_code_78) (n := 8) (by decide +kernel) (by decide) (by decide) (by decide)
  replace HC := HC.trans HCq218
  replace V := V.ext E218
  replace OL := OL.ext E218
  replace K := K.ext E218
  refine own_ofW st218 ?_
  have ne_wG_a218 : wG ≠ a218 := (FW.ext OL.2).ne Fs218 (fun q => arv_ne (VG.ext OL.2) Vs218 (Or.inl (by decide)) (Value.ref.inj q))
  show own_EndsW _ _ _ _ _ _ _ _ (T218.setTop (mkF m 80 #[.val (.ref a), .val (.ref t), .val (.ref wR), .val (.int (0 : Int32)), .val (.int (5 : Int32)), .val (.ref wG), .unset, .unset, .unset] [(.ref a218), (.ref wG)]))
  refine own_ofW (fun tt_ kk_ => Jvm.RoadKit.acmp (g := (mkF m 80 #[.val (.ref a), .val (.ref t), .val (.ref wR), .val (.int (0 : Int32)), .val (.int (5 : Int32)), .val (.ref wG), .unset, .unset, .unset] [(.ref a218), (.ref wG)])) X218 hx rfl rfl rfl (pc0 := 80) (pc' := 83) (same := false) rfl (hb hby d_jdk_43_method_32_code_80) rfl (decide_eq_false fun q => ne_wG_a218 (Value.ref.inj q)) (by decide) (by decide) kk_) ?_
  show own_EndsW _ _ _ _ _ _ _ _ (T218.setTop (mkF m 83 #[.val (.ref a), .val (.ref t), .val (.ref wR), .val (.int (0 : Int32)), .val (.int (5 : Int32)), .val (.ref wG), .unset, .unset, .unset] []))
  refine own_ofW (fun tt_ kk_ => XS.aload X218.here hx rfl (hb hby d_jdk_43_method_32_code_83) rfl rfl kk_) ?_
  show own_EndsW _ _ _ _ _ _ _ _ (T218.setTop (mkF m 85 #[.val (.ref a), .val (.ref t), .val (.ref wR), .val (.int (0 : Int32)), .val (.int (5 : Int32)), .val (.ref wG), .unset, .unset, .unset] [(.ref wG)]))
  obtain ⟨a219, T219, h219, k219', t219, kb219, X219, e219, E219, hS, hk, hZ, hown, Es219, Cs219, Fs219, Vs219, la219, lt219, HCq219, Lt219, Sf219, st219⟩ := ldcCH X218 hx hZ hown (hw _ (List.mem_of_getElem? (i := 109) rfl)) wS e218 hS hk hEL (by decide +kernel) HC.1 (vs := [(.int (108 : Int32)), (.int (116 : Int32))]) (z := (2 : Int32)) (by decide +kernel) (by decide) (by decide) (g := (mkF m 85 #[.val (.ref a), .val (.ref t), .val (.ref wR), .val (.int (0 : Int32)), .val (.int (5 : Int32)), .val (.ref wG), .unset, .unset, .unset] [(.ref wG)])) rfl (hb hby d_jdk_43_method_32_code_85) (n := 8) (by decide +kernel) (by decide) (by decide) (by decide)
  replace HC := HC.trans HCq219
  replace V := V.ext E219
  replace OL := OL.ext E219
  replace K := K.ext E219
  refine own_ofW st219 ?_
  have ne_wG_a219 : wG ≠ a219 := (FW.ext OL.2).ne Fs219 (fun q => arv_ne (VG.ext OL.2) Vs219 (Or.inl (by decide)) (Value.ref.inj q))
  show own_EndsW _ _ _ _ _ _ _ _ (T219.setTop (mkF m 87 #[.val (.ref a), .val (.ref t), .val (.ref wR), .val (.int (0 : Int32)), .val (.int (5 : Int32)), .val (.ref wG), .unset, .unset, .unset] [(.ref a219), (.ref wG)]))
  refine own_ofW (fun tt_ kk_ => Jvm.RoadKit.acmp (g := (mkF m 87 #[.val (.ref a), .val (.ref t), .val (.ref wR), .val (.int (0 : Int32)), .val (.int (5 : Int32)), .val (.ref wG), .unset, .unset, .unset] [(.ref a219), (.ref wG)])) X219 hx rfl rfl rfl (pc0 := 87) (pc' := 99) (same := false) rfl (hb hby d_jdk_43_method_32_code_87) rfl (decide_eq_false fun q => ne_wG_a219 (Value.ref.inj q)) (by decide) (by decide) kk_) ?_
  show own_EndsW _ _ _ _ _ _ _ _ (T219.setTop (mkF m 99 #[.val (.ref a), .val (.ref t), .val (.ref wR), .val (.int (0 : Int32)), .val (.int (5 : Int32)), .val (.ref wG), .unset, .unset, .unset] []))
  refine own_ofW (fun tt_ kk_ => XS.iload X219.here hx rfl (hb hby d_jdk_43_method_32_code_99) rfl  kk_) ?_
  show own_EndsW _ _ _ _ _ _ _ _ (T219.setTop (mkF m 101 #[.val (.ref a), .val (.ref t), .val (.ref wR), .val (.int (0 : Int32)), .val (.int (5 : Int32)), .val (.ref wG), .unset, .unset, .unset] [(.int (5 : Int32))]))
  obtain ⟨T220, h220, k220, X220, e220, E220, A220, st220⟩ := newP X219 hx hZ (hw _ (List.mem_of_getElem? (i := 7) rfl)) e219 (g := (mkF m 101 #[.val (.ref a), .val (.ref t), .val (.ref wR), .val (.int (0 : Int32)), .val (.int (5 : Int32)), .val (.ref wG), .unset, .unset, .unset] [(.int (5 : Int32))])) rfl (hb hby d_jdk_43_method_32_code_101) rfl (by decide) (cap := 5) (by decide) (by decide) (by decide) (by decide)
  obtain ⟨b220, g220⟩ : ∃ z, z = h219.size := ⟨_, rfl⟩
  rw [← g220] at A220 st220
  have ne_t_b220 : t ≠ b220 := Nat.ne_of_lt (Nat.lt_of_lt_of_le V.lt (Nat.le_of_eq g220.symm))
  have sz_b220 : h0.size ≤ b220 := Nat.le_trans K.1 (Nat.le_of_eq g220.symm)
  have g_b220 : n0 ≤ b220 := Nat.le_trans Z0 sz_b220
  have Sf_b220 : Safe Z own_EL T219.vm h219 b220 := Safe.new (Nat.le_of_eq g220.symm)
  replace Sf_b220 := Safe.ext E220 HC.1 Sf_b220
  replace hk := Nat.le_trans hk E220.1
  replace HC := HC.trans (CHr.ext E220 HC.1)
  replace V := V.ext E220
  replace OL := OL.ext E220
  have V220 : Arv Z h220 b220 k220 .byte (5 : Int32) [(.int (0 : Int32)), (.int (0 : Int32)), (.int (0 : Int32)), (.int (0 : Int32)), (.int (0 : Int32))] (.int (0 : Int32)) := (Arv.new A220 (by decide)).pad (pad_rep [] (.int (0 : Int32)) 5)
  replace K := K.ext E220
  refine own_ofW st220 ?_
  show own_EndsW _ _ _ _ _ _ _ _ (T220.setTop (mkF m 103 #[.val (.ref a), .val (.ref t), .val (.ref wR), .val (.int (0 : Int32)), .val (.int (5 : Int32)), .val (.ref wG), .unset, .unset, .unset] [(.ref b220)]))
  refine own_ofW (fun tt_ kk_ => XS.astore X220.here hx rfl (hb hby d_jdk_43_method_32_code_103) rfl rfl (l' := #[.val (.ref a), .val (.ref t), .val (.ref wR), .val (.int (0 : Int32)), .val (.int (5 : Int32)), .val (.ref wG), .val (.ref b220), .unset, .unset]) rfl kk_) ?_
  show own_EndsW _ _ _ _ _ _ _ _ (T220.setTop (mkF m 105 #[.val (.ref a), .val (.ref t), .val (.ref wR), .val (.int (0 : Int32)), .val (.int (5 : Int32)), .val (.ref wG), .val (.ref b220), .unset, .unset] []))
  refine own_ofW (fun tt_ kk_ => XS.aloadN X220.here hx rfl (hb hby d_jdk_43_method_32_code_105) rfl rfl kk_) ?_
  show own_EndsW _ _ _ _ _ _ _ _ (T220.setTop (mkF m 106 #[.val (.ref a), .val (.ref t), .val (.ref wR), .val (.int (0 : Int32)), .val (.int (5 : Int32)), .val (.ref wG), .val (.ref b220), .unset, .unset] [(.ref t)]))
  refine own_ofW (fun tt_ kk_ => XS.iconst X220.here hx rfl (hb hby d_jdk_43_method_32_code_106) kk_) ?_
  show own_EndsW _ _ _ _ _ _ _ _ (T220.setTop (mkF m 107 #[.val (.ref a), .val (.ref t), .val (.ref wR), .val (.int (0 : Int32)), .val (.int (5 : Int32)), .val (.ref wG), .val (.ref b220), .unset, .unset] [(.int (0 : Int32)), (.ref t)]))
  refine own_ofW (fun tt_ kk_ => XS.aload X220.here hx rfl (hb hby d_jdk_43_method_32_code_107) rfl rfl kk_) ?_
  show own_EndsW _ _ _ _ _ _ _ _ (T220.setTop (mkF m 109 #[.val (.ref a), .val (.ref t), .val (.ref wR), .val (.int (0 : Int32)), .val (.int (5 : Int32)), .val (.ref wG), .val (.ref b220), .unset, .unset] [(.ref b220), (.int (0 : Int32)), (.ref t)]))
  refine own_ofW (fun tt_ kk_ => XS.iconst X220.here hx rfl (hb hby d_jdk_43_method_32_code_109) kk_) ?_
  show own_EndsW _ _ _ _ _ _ _ _ (T220.setTop (mkF m 110 #[.val (.ref a), .val (.ref t), .val (.ref wR), .val (.int (0 : Int32)), .val (.int (5 : Int32)), .val (.ref wG), .val (.ref b220), .unset, .unset] [(.int (0 : Int32)), (.ref b220), (.int (0 : Int32)), (.ref t)]))
  refine own_ofW (fun tt_ kk_ => XS.iloadN X220.here hx rfl (hb hby d_jdk_43_method_32_code_110) rfl  kk_) ?_
  show own_EndsW _ _ _ _ _ _ _ _ (T220.setTop (mkF m 111 #[.val (.ref a), .val (.ref t), .val (.ref wR), .val (.int (0 : Int32)), .val (.int (5 : Int32)), .val (.ref wG), .val (.ref b220), .unset, .unset] [(.int (0 : Int32)), (.int (0 : Int32)), (.ref b220), (.int (0 : Int32)), (.ref t)]))
  obtain ⟨T221, h221, L221, X221, e221, N221, Kq221, Vc221, st221⟩ := cpA X220 hx hZ hown (hw _ (List.mem_of_getElem? (i := 110) rfl)) (hw _ (List.mem_of_getElem? (i := 113) rfl)) (hw _ (List.mem_of_getElem? (i := 111) rfl)) (hw _ (List.mem_of_getElem? (i := 112) rfl)) e220 V V220 (us := []) (Or.inl ⟨rfl, rfl⟩) (by decide) (by decide) (by decide) (by decide) (by decide) rfl (Nat.le_of_ble_eq_true rfl) N216 g_b220 (g := (mkF m 111 #[.val (.ref a), .val (.ref t), .val (.ref wR), .val (.int (0 : Int32)), .val (.int (5 : Int32)), .val (.ref wG), .val (.ref b220), .unset, .unset] [(.int (0 : Int32)), (.int (0 : Int32)), (.ref b220), (.int (0 : Int32)), (.ref t)])) rfl (by rw [hml]; rfl) rfl (hb hby d_jdk_43_method_32_code_111) (by decide) (W := 0) (by show 2 * 0 + _ ≤ _; exact Nat.le_of_eq rfl) (by decide)
  replace Vc221 : Arv Z h221 b220 k220 .byte (5 : Int32) [(.int (0 : Int32)), (.int (0 : Int32)), (.int (0 : Int32)), (.int (0 : Int32)), (.int (0 : Int32))] (.int (0 : Int32)) := Vc221
  have Sf_b220' := Safe.keep Kq221 (sfS Sf_b220 sf0) HC.1 Sf_b220
  replace hk := Nat.le_trans hk Kq221.1
  replace HC := HC.trans (CHr.keep Kq221 (sfS Sf_b220 sf0) HC.1)
  replace Sf_b220 := Sf_b220'
  replace V := V.keep Kq221 (ninS ne_t_b220 nin0)
  replace OL := OL.keep Kq221 (allS g_b220 all0)
  replace K := K.trans Kq221 (allS (Or.inr sz_b220) all0)
  refine own_ofW st221 ?_
  show own_EndsW _ _ _ _ _ _ _ _ (T221.setTop (mkF m 114 #[.val (.ref a), .val (.ref t), .val (.ref wR), .val (.int (0 : Int32)), .val (.int (5 : Int32)), .val (.ref wG), .val (.ref b220), .unset, .unset] []))
  refine own_ofW (fun tt_ kk_ => XS.iloadN X221.here hx rfl (hb hby d_jdk_43_method_32_code_114) rfl  kk_) ?_
  show own_EndsW _ _ _ _ _ _ _ _ (T221.setTop (mkF m 115 #[.val (.ref a), .val (.ref t), .val (.ref wR), .val (.int (0 : Int32)), .val (.int (5 : Int32)), .val (.ref wG), .val (.ref b220), .unset, .unset] [(.int (0 : Int32))]))
  refine own_ofW (fun tt_ kk_ => XS.istore X221.here hx rfl (hb hby d_jdk_43_method_32_code_115) rfl (l' := #[.val (.ref a), .val (.ref t), .val (.ref wR), .val (.int (0 : Int32)), .val (.int (5 : Int32)), .val (.ref wG), .val (.ref b220), .val (.int (0 : Int32)), .unset]) rfl kk_) ?_
  show own_EndsW _ _ _ _ _ _ _ _ (T221.setTop (mkF m 117 #[.val (.ref a), .val (.ref t), .val (.ref wR), .val (.int (0 : Int32)), .val (.int (5 : Int32)), .val (.ref wG), .val (.ref b220), .val (.int (0 : Int32)), .unset] []))
  refine own_ofW (fun tt_ kk_ => XS.iload X221.here hx rfl (hb hby d_jdk_43_method_32_code_117) rfl  kk_) ?_
  show own_EndsW _ _ _ _ _ _ _ _ (T221.setTop (mkF m 119 #[.val (.ref a), .val (.ref t), .val (.ref wR), .val (.int (0 : Int32)), .val (.int (5 : Int32)), .val (.ref wG), .val (.ref b220), .val (.int (0 : Int32)), .unset] [(.int (0 : Int32))]))
  refine own_ofW (fun tt_ kk_ => XS.iload X221.here hx rfl (hb hby d_jdk_43_method_32_code_119) rfl  kk_) ?_
  show own_EndsW _ _ _ _ _ _ _ _ (T221.setTop (mkF m 121 #[.val (.ref a), .val (.ref t), .val (.ref wR), .val (.int (0 : Int32)), .val (.int (5 : Int32)), .val (.ref wG), .val (.ref b220), .val (.int (0 : Int32)), .unset] [(.int (5 : Int32)), (.int (0 : Int32))]))
  refine own_ofW (fun tt_ kk_ => XS.icmpNo X221.here hx rfl (hb hby d_jdk_43_method_32_code_121) rfl (tlt (by decide : ((0 : Int32) < (5 : Int32)))).2.1 kk_) ?_
  show own_EndsW _ _ _ _ _ _ _ _ (T221.setTop (mkF m 124 #[.val (.ref a), .val (.ref t), .val (.ref wR), .val (.int (0 : Int32)), .val (.int (5 : Int32)), .val (.ref wG), .val (.ref b220), .val (.int (0 : Int32)), .unset] []))
  refine own_ofW (fun tt_ kk_ => XS.aloadN X221.here hx rfl (hb hby d_jdk_43_method_32_code_124) rfl rfl kk_) ?_
  show own_EndsW _ _ _ _ _ _ _ _ (T221.setTop (mkF m 125 #[.val (.ref a), .val (.ref t), .val (.ref wR), .val (.int (0 : Int32)), .val (.int (5 : Int32)), .val (.ref wG), .val (.ref b220), .val (.int (0 : Int32)), .unset] [(.ref t)]))
  refine own_ofW (fun tt_ kk_ => XS.iload X221.here hx rfl (hb hby d_jdk_43_method_32_code_125) rfl  kk_) ?_
  show own_EndsW _ _ _ _ _ _ _ _ (T221.setTop (mkF m 127 #[.val (.ref a), .val (.ref t), .val (.ref wR), .val (.int (0 : Int32)), .val (.int (5 : Int32)), .val (.ref wG), .val (.ref b220), .val (.int (0 : Int32)), .unset] [(.int (0 : Int32)), (.ref t)]))
  obtain ⟨cl222, Ar222, q222, S222, N222', H222, G222⟩ := id V
  have hin222 : ¬ ((0 : Int32) < 0 ∨ cl222.slots.size ≤ ((0 : Int32)).toNatClampNeg) := inb_of S222 ⟨by decide, by decide⟩
  have hat222 : cl222.slots[((0 : Int32)).toNatClampNeg]? = some (.int (70 : Int32)) := H222.at hin222 rfl
  refine own_ofW (fun tt_ kk_ => X221.baloadBytes hx (j := (0 : Int32)) (v := (.int (70 : Int32))) (by rw [e221]; exact Ar222.1) (State.isArrayOf_alike hZ.alike Ar222.2.1) Ar222.2.2 hin222 hat222 (g := (mkF m 127 #[.val (.ref a), .val (.ref t), .val (.ref wR), .val (.int (0 : Int32)), .val (.int (5 : Int32)), .val (.ref wG), .val (.ref b220), .val (.int (0 : Int32)), .unset] [(.int (0 : Int32)), (.ref t)])) rfl rfl (hb hby d_jdk_43_method_32_code_127) _ kk_) ?_
  show own_EndsW _ _ _ _ _ _ _ _ (T221.setTop (mkF m 128 #[.val (.ref a), .val (.ref t), .val (.ref wR), .val (.int (0 : Int32)), .val (.int (5 : Int32)), .val (.ref wG), .val (.ref b220), .val (.int (0 : Int32)), .unset] [(.int (70 : Int32))]))
  refine own_ofW (fun tt_ kk_ => XS.sipush X221.here hx rfl (hb hby d_jdk_43_method_32_code_128) kk_) ?_
  show own_EndsW _ _ _ _ _ _ _ _ (T221.setTop (mkF m 131 #[.val (.ref a), .val (.ref t), .val (.ref wR), .val (.int (0 : Int32)), .val (.int (5 : Int32)), .val (.ref wG), .val (.ref b220), .val (.int (0 : Int32)), .unset] [(.int (255 : Int32)), (.int (70 : Int32))]))
  refine own_ofW (fun tt_ kk_ => XS.iand X221.here hx rfl (hb hby d_jdk_43_method_32_code_131) rfl kk_) ?_
  show own_EndsW _ _ _ _ _ _ _ _ (T221.setTop (mkF m 132 #[.val (.ref a), .val (.ref t), .val (.ref wR), .val (.int (0 : Int32)), .val (.int (5 : Int32)), .val (.ref wG), .val (.ref b220), .val (.int (0 : Int32)), .unset] [(.int (70 : Int32))]))
  refine own_ofW (fun tt_ kk_ => XS.istore X221.here hx rfl (hb hby d_jdk_43_method_32_code_132) rfl (l' := #[.val (.ref a), .val (.ref t), .val (.ref wR), .val (.int (0 : Int32)), .val (.int (5 : Int32)), .val (.ref wG), .val (.ref b220), .val (.int (0 : Int32)), .val (.int (70 : Int32))]) rfl kk_) ?_
  show own_EndsW _ _ _ _ _ _ _ _ (T221.setTop (mkF m 134 #[.val (.ref a), .val (.ref t), .val (.ref wR), .val (.int (0 : Int32)), .val (.int (5 : Int32)), .val (.ref wG), .val (.ref b220), .val (.int (0 : Int32)), .val (.int (70 : Int32))] []))
  obtain ⟨T223, X223, e223, st223⟩ := getS2 X221 hx hZ hown (host := "") (Or.inl (hw _ (List.mem_of_getElem? (i := 61) rfl))) Via.refl e221 (SI.ext OL.2) (g := (mkF m 134 #[.val (.ref a), .val (.ref t), .val (.ref wR), .val (.int (0 : Int32)), .val (.int (5 : Int32)), .val (.ref wG), .val (.ref b220), .val (.int (0 : Int32)), .val (.int (70 : Int32))] [])) rfl (hb hby d_jdk_43_method_32_code_134)
  refine own_ofW st223 ?_
  show own_EndsW _ _ _ _ _ _ _ _ (T223.setTop (mkF m 137 #[.val (.ref a), .val (.ref t), .val (.ref wR), .val (.int (0 : Int32)), .val (.int (5 : Int32)), .val (.ref wG), .val (.ref b220), .val (.int (0 : Int32)), .val (.int (70 : Int32))] [(.ref wI)]))
  refine own_ofW (fun tt_ kk_ => XS.iload X223.here hx rfl (hb hby d_jdk_43_method_32_code_137) rfl  kk_) ?_
  show own_EndsW _ _ _ _ _ _ _ _ (T223.setTop (mkF m 139 #[.val (.ref a), .val (.ref t), .val (.ref wR), .val (.int (0 : Int32)), .val (.int (5 : Int32)), .val (.ref wG), .val (.ref b220), .val (.int (0 : Int32)), .val (.int (70 : Int32))] [(.int (70 : Int32)), (.ref wI)]))
  obtain ⟨v224, T224, L224, h224, X224, e224, Q224, st224⟩ := own_virtual X223 hx hZ hown e223 (EI.ext OL.2) (hw _ (List.mem_of_getElem? (i := 87) rfl)) (hw _ (List.mem_of_getElem? (i := 88) rfl)) (notFace_of_selects (args := #[]) (mvT hZ (hw _ (List.mem_of_getElem? (i := 90) rfl)))) (hw _ (List.mem_of_getElem? (i := 90) rfl)) (hw _ (List.mem_of_getElem? (i := 89) rfl)) (hw _ (List.mem_of_getElem? (i := 62) rfl)) (hw _ (List.mem_of_getElem? (i := 91) rfl)) (by decide) (argsL := [(.int (70 : Int32))]) (rest := []) (rm_low70 l Z a0 hw wI h221 n0 (Nat.le_trans Z0 K.1)) (g := (mkF m 139 #[.val (.ref a), .val (.ref t), .val (.ref wR), .val (.int (0 : Int32)), .val (.int (5 : Int32)), .val (.ref wG), .val (.ref b220), .val (.int (0 : Int32)), .val (.int (70 : Int32))] [(.int (70 : Int32)), (.ref wI)])) rfl (by rw [hml]; rfl) (lenOf pd__I_r_I rfl) rfl (by decide) (Nat.le_of_ble_eq_true rfl) (by decide) (by decide) (hb hby d_jdk_43_method_32_code_139)
  obtain ⟨rfl, Nq224, q224⟩ := Q224
  replace e224 := e224.trans q224
  have N224 := Fr.app N221 Nq224
  refine own_ofW st224 ?_
  show own_EndsW _ _ _ _ _ _ _ _ (T224.setTop (mkF m 142 #[.val (.ref a), .val (.ref t), .val (.ref wR), .val (.int (0 : Int32)), .val (.int (5 : Int32)), .val (.ref wG), .val (.ref b220), .val (.int (0 : Int32)), .val (.int (70 : Int32))] [(.int (102 : Int32))]))
  refine own_ofW (fun tt_ kk_ => XS.istore X224.here hx rfl (hb hby d_jdk_43_method_32_code_142) rfl (l' := #[.val (.ref a), .val (.ref t), .val (.ref wR), .val (.int (0 : Int32)), .val (.int (5 : Int32)), .val (.ref wG), .val (.ref b220), .val (.int (0 : Int32)), .val (.int (102 : Int32))]) rfl kk_) ?_
  show own_EndsW _ _ _ _ _ _ _ _ (T224.setTop (mkF m 144 #[.val (.ref a), .val (.ref t), .val (.ref wR), .val (.int (0 : Int32)), .val (.int (5 : Int32)), .val (.ref wG), .val (.ref b220), .val (.int (0 : Int32)), .val (.int (102 : Int32))] []))
  refine own_ofW (fun tt_ kk_ => XS.iload X224.here hx rfl (hb hby d_jdk_43_method_32_code_144) rfl  kk_) ?_
  show own_EndsW _ _ _ _ _ _ _ _ (T224.setTop (mkF m 146 #[.val (.ref a), .val (.ref t), .val (.ref wR), .val (.int (0 : Int32)), .val (.int (5 : Int32)), .val (.ref wG), .val (.ref b220), .val (.int (0 : Int32)), .val (.int (102 : Int32))] [(.int (102 : Int32))]))
  obtain ⟨v225, T225, L225, h225, X225, e225, Q225, st225⟩ := own_static X224 hx hZ hown e224 (hw _ (List.mem_of_getElem? (i := 114) rfl)) (hw _ (List.mem_of_getElem? (i := 115) rfl)) (hw _ (List.mem_of_getElem? (i := 24) rfl)) (hw _ (List.mem_of_getElem? (i := 116) rfl)) (by decide) (argsL := [(.int (102 : Int32))]) (rest := []) (rm_can l Z a0 hw (102 : Int32) h221 n0 (Nat.le_trans Z0 K.1) (by decide) (by decide)) (g := (mkF m 146 #[.val (.ref a), .val (.ref t), .val (.ref wR), .val (.int (0 : Int32)), .val (.int (5 : Int32)), .val (.ref wG), .val (.ref b220), .val (.int (0 : Int32)), .val (.int (102 : Int32))] [(.int (102 : Int32))])) rfl (by rw [hml]; rfl) (lenOf pd__I_r_Z rfl) rfl (by decide) (Nat.le_of_ble_eq_true rfl) (by decide) (by decide) (hb hby d_jdk_43_method_32_code_146)
  obtain ⟨rfl, Nq225, q225⟩ := Q225
  replace e225 := e225.trans q225
  have N225 := Fr.app N224 Nq225
  refine own_ofW st225 ?_
  show own_EndsW _ _ _ _ _ _ _ _ (T225.setTop (mkF m 149 #[.val (.ref a), .val (.ref t), .val (.ref wR), .val (.int (0 : Int32)), .val (.int (5 : Int32)), .val (.ref wG), .val (.ref b220), .val (.int (0 : Int32)), .val (.int (102 : Int32))] [(.int (1 : Int32))]))
  refine own_ofW (fun tt_ kk_ => XS.ifYes X225.here hx rfl (pc0 := 149) (pc' := 161) rfl (hb hby d_jdk_43_method_32_code_149) rfl ((if0 _ _).trans (feq (by decide : ¬ ((1 : Int32) = (0 : Int32)))).2) (by decide) (by decide) kk_) ?_
  show own_EndsW _ _ _ _ _ _ _ _ (T225.setTop (mkF m 161 #[.val (.ref a), .val (.ref t), .val (.ref wR), .val (.int (0 : Int32)), .val (.int (5 : Int32)), .val (.ref wG), .val (.ref b220), .val (.int (0 : Int32)), .val (.int (102 : Int32))] []))
  refine own_ofW (fun tt_ kk_ => XS.aload X225.here hx rfl (hb hby d_jdk_43_method_32_code_161) rfl rfl kk_) ?_
  show own_EndsW _ _ _ _ _ _ _ _ (T225.setTop (mkF m 163 #[.val (.ref a), .val (.ref t), .val (.ref wR), .val (.int (0 : Int32)), .val (.int (5 : Int32)), .val (.ref wG), .val (.ref b220), .val (.int (0 : Int32)), .val (.int (102 : Int32))] [(.ref b220)]))
  refine own_ofW (fun tt_ kk_ => XS.iload X225.here hx rfl (hb hby d_jdk_43_method_32_code_163) rfl  kk_) ?_
  show own_EndsW _ _ _ _ _ _ _ _ (T225.setTop (mkF m 165 #[.val (.ref a), .val (.ref t), .val (.ref wR), .val (.int (0 : Int32)), .val (.int (5 : Int32)), .val (.ref wG), .val (.ref b220), .val (.int (0 : Int32)), .val (.int (102 : Int32))] [(.int (0 : Int32)), (.ref b220)]))
  refine own_ofW (fun tt_ kk_ => XS.iload X225.here hx rfl (hb hby d_jdk_43_method_32_code_165) rfl  kk_) ?_
  show own_EndsW _ _ _ _ _ _ _ _ (T225.setTop (mkF m 167 #[.val (.ref a), .val (.ref t), .val (.ref wR), .val (.int (0 : Int32)), .val (.int (5 : Int32)), .val (.ref wG), .val (.ref b220), .val (.int (0 : Int32)), .val (.int (102 : Int32))] [(.int (102 : Int32)), (.int (0 : Int32)), (.ref b220)]))
  refine own_ofW (fun tt_ kk_ => XS.i2b X225.here hx rfl (hb hby d_jdk_43_method_32_code_167) rfl kk_) ?_
  show own_EndsW _ _ _ _ _ _ _ _ (T225.setTop (mkF m 168 #[.val (.ref a), .val (.ref t), .val (.ref wR), .val (.int (0 : Int32)), .val (.int (5 : Int32)), .val (.ref wG), .val (.ref b220), .val (.int (0 : Int32)), .val (.int (102 : Int32))] [(.int (102 : Int32)), (.int (0 : Int32)), (.ref b220)]))
  obtain ⟨cl226, Ar226, q226, S226, N226', H226, G226⟩ := Vc221
  have hin226 : ¬ ((0 : Int32) < 0 ∨ cl226.slots.size ≤ ((0 : Int32)).toNatClampNeg) := inb_of S226 ⟨by decide, by decide⟩
  obtain ⟨T226, h226, X226, e226, W226, st226⟩ := stB X225 hx hZ e225 Ar226 (j := (0 : Int32)) hin226 (g := (mkF m 168 #[.val (.ref a), .val (.ref t), .val (.ref wR), .val (.int (0 : Int32)), .val (.int (5 : Int32)), .val (.ref wG), .val (.ref b220), .val (.int (0 : Int32)), .val (.int (102 : Int32))] [(.int (102 : Int32)), (.int (0 : Int32)), (.ref b220)])) rfl rfl (hb hby d_jdk_43_method_32_code_168)
  have V226' : Arv Z h226 b220 k220 .byte (5 : Int32) [(.int (102 : Int32)), (.int (0 : Int32)), (.int (0 : Int32)), (.int (0 : Int32)), (.int (0 : Int32))] (.int (0 : Int32)) := Arv.set Ar226 q226 S226 N226' H226 G226 rfl W226 0 rfl (Nat.le_of_ble_eq_true rfl)
  have Sf_b220' := Safe.wr W226 Sf_b220 HC.1 Sf_b220
  replace hk := Nat.le_trans hk (Keep.of_wr W226).1
  replace HC := HC.trans (CHr.wr W226 Sf_b220 HC.1)
  replace Sf_b220 := Sf_b220'
  replace V := V.other W226 ne_t_b220
  replace OL := OL.wr W226 g_b220
  have N226 := Fr.snoc X226 N225 g_b220
  replace K := K.wr W226 (Or.inr sz_b220)
  refine own_ofW st226 ?_
  show own_EndsW _ _ _ _ _ _ _ _ (T226.setTop (mkF m 169 #[.val (.ref a), .val (.ref t), .val (.ref wR), .val (.int (0 : Int32)), .val (.int (5 : Int32)), .val (.ref wG), .val (.ref b220), .val (.int (0 : Int32)), .val (.int (102 : Int32))] []))
  refine own_ofW (fun tt_ kk_ => XS.iinc X226.here hx rfl (hb hby d_jdk_43_method_32_code_169) rfl (l' := #[.val (.ref a), .val (.ref t), .val (.ref wR), .val (.int (0 : Int32)), .val (.int (5 : Int32)), .val (.ref wG), .val (.ref b220), .val (.int (1 : Int32)), .val (.int (102 : Int32))]) rfl kk_) ?_
  show own_EndsW _ _ _ _ _ _ _ _ (T226.setTop (mkF m 172 #[.val (.ref a), .val (.ref t), .val (.ref wR), .val (.int (0 : Int32)), .val (.int (5 : Int32)), .val (.ref wG), .val (.ref b220), .val (.int (1 : Int32)), .val (.int (102 : Int32))] []))
  refine own_ofW (fun tt_ kk_ => XS.goto X226.here hx rfl (pc0 := 172) (pc' := 117) rfl (hb hby d_jdk_43_method_32_code_172) (by decide) (by decide) kk_) ?_
  show own_EndsW _ _ _ _ _ _ _ _ (T226.setTop (mkF m 117 #[.val (.ref a), .val (.ref t), .val (.ref wR), .val (.int (0 : Int32)), .val (.int (5 : Int32)), .val (.ref wG), .val (.ref b220), .val (.int (1 : Int32)), .val (.int (102 : Int32))] []))
  refine own_ofW (fun tt_ kk_ => XS.iload X226.here hx rfl (hb hby d_jdk_43_method_32_code_117) rfl  kk_) ?_
  show own_EndsW _ _ _ _ _ _ _ _ (T226.setTop (mkF m 119 #[.val (.ref a), .val (.ref t), .val (.ref wR), .val (.int (0 : Int32)), .val (.int (5 : Int32)), .val (.ref wG), .val (.ref b220), .val (.int (1 : Int32)), .val (.int (102 : Int32))] [(.int (1 : Int32))]))
  refine own_ofW (fun tt_ kk_ => XS.iload X226.here hx rfl (hb hby d_jdk_43_method_32_code_119) rfl  kk_) ?_
  show own_EndsW _ _ _ _ _ _ _ _ (T226.setTop (mkF m 121 #[.val (.ref a), .val (.ref t), .val (.ref wR), .val (.int (0 : Int32)), .val (.int (5 : Int32)), .val (.ref wG), .val (.ref b220), .val (.int (1 : Int32)), .val (.int (102 : Int32))] [(.int (5 : Int32)), (.int (1 : Int32))]))
  refine own_ofW (fun tt_ kk_ => XS.icmpNo X226.here hx rfl (hb hby d_jdk_43_method_32_code_121) rfl (tlt (by decide : ((1 : Int32) < (5 : Int32)))).2.1 kk_) ?_
  show own_EndsW _ _ _ _ _ _ _ _ (T226.setTop (mkF m 124 #[.val (.ref a), .val (.ref t), .val (.ref wR), .val (.int (0 : Int32)), .val (.int (5 : Int32)), .val (.ref wG), .val (.ref b220), .val (.int (1 : Int32)), .val (.int (102 : Int32))] []))
  refine own_ofW (fun tt_ kk_ => XS.aloadN X226.here hx rfl (hb hby d_jdk_43_method_32_code_124) rfl rfl kk_) ?_
  show own_EndsW _ _ _ _ _ _ _ _ (T226.setTop (mkF m 125 #[.val (.ref a), .val (.ref t), .val (.ref wR), .val (.int (0 : Int32)), .val (.int (5 : Int32)), .val (.ref wG), .val (.ref b220), .val (.int (1 : Int32)), .val (.int (102 : Int32))] [(.ref t)]))
  refine own_ofW (fun tt_ kk_ => XS.iload X226.here hx rfl (hb hby d_jdk_43_method_32_code_125) rfl  kk_) ?_
  show own_EndsW _ _ _ _ _ _ _ _ (T226.setTop (mkF m 127 #[.val (.ref a), .val (.ref t), .val (.ref wR), .val (.int (0 : Int32)), .val (.int (5 : Int32)), .val (.ref wG), .val (.ref b220), .val (.int (1 : Int32)), .val (.int (102 : Int32))] [(.int (1 : Int32)), (.ref t)]))
  obtain ⟨cl227, Ar227, q227, S227, N227', H227, G227⟩ := id V
  have hin227 : ¬ ((1 : Int32) < 0 ∨ cl227.slots.size ≤ ((1 : Int32)).toNatClampNeg) := inb_of S227 ⟨by decide, by decide⟩
  have hat227 : cl227.slots[((1 : Int32)).toNatClampNeg]? = some (.int (97 : Int32)) := H227.at hin227 rfl
  refine own_ofW (fun tt_ kk_ => X226.baloadBytes hx (j := (1 : Int32)) (v := (.int (97 : Int32))) (by rw [e226]; exact Ar227.1) (State.isArrayOf_alike hZ.alike Ar227.2.1) Ar227.2.2 hin227 hat227 (g := (mkF m 127 #[.val (.ref a), .val (.ref t), .val (.ref wR), .val (.int (0 : Int32)), .val (.int (5 : Int32)), .val (.ref wG), .val (.ref b220), .val (.int (1 : Int32)), .val (.int (102 : Int32))] [(.int (1 : Int32)), (.ref t)])) rfl rfl (hb hby d_jdk_43_method_32_code_127) _ kk_) ?_
  show own_EndsW _ _ _ _ _ _ _ _ (T226.setTop (mkF m 128 #[.val (.ref a), .val (.ref t), .val (.ref wR), .val (.int (0 : Int32)), .val (.int (5 : Int32)), .val (.ref wG), .val (.ref b220), .val (.int (1 : Int32)), .val (.int (102 : Int32))] [(.int (97 : Int32))]))
  refine own_ofW (fun tt_ kk_ => XS.sipush X226.here hx rfl (hb hby d_jdk_43_method_32_code_128) kk_) ?_
  show own_EndsW _ _ _ _ _ _ _ _ (T226.setTop (mkF m 131 #[.val (.ref a), .val (.ref t), .val (.ref wR), .val (.int (0 : Int32)), .val (.int (5 : Int32)), .val (.ref wG), .val (.ref b220), .val (.int (1 : Int32)), .val (.int (102 : Int32))] [(.int (255 : Int32)), (.int (97 : Int32))]))
  refine own_ofW (fun tt_ kk_ => XS.iand X226.here hx rfl (hb hby d_jdk_43_method_32_code_131) rfl kk_) ?_
  show own_EndsW _ _ _ _ _ _ _ _ (T226.setTop (mkF m 132 #[.val (.ref a), .val (.ref t), .val (.ref wR), .val (.int (0 : Int32)), .val (.int (5 : Int32)), .val (.ref wG), .val (.ref b220), .val (.int (1 : Int32)), .val (.int (102 : Int32))] [(.int (97 : Int32))]))
  refine own_ofW (fun tt_ kk_ => XS.istore X226.here hx rfl (hb hby d_jdk_43_method_32_code_132) rfl (l' := #[.val (.ref a), .val (.ref t), .val (.ref wR), .val (.int (0 : Int32)), .val (.int (5 : Int32)), .val (.ref wG), .val (.ref b220), .val (.int (1 : Int32)), .val (.int (97 : Int32))]) rfl kk_) ?_
  show own_EndsW _ _ _ _ _ _ _ _ (T226.setTop (mkF m 134 #[.val (.ref a), .val (.ref t), .val (.ref wR), .val (.int (0 : Int32)), .val (.int (5 : Int32)), .val (.ref wG), .val (.ref b220), .val (.int (1 : Int32)), .val (.int (97 : Int32))] []))
  obtain ⟨T228, X228, e228, st228⟩ := getS2 X226 hx hZ hown (host := "") (Or.inl (hw _ (List.mem_of_getElem? (i := 61) rfl))) Via.refl e226 (SI.ext OL.2) (g := (mkF m 134 #[.val (.ref a), .val (.ref t), .val (.ref wR), .val (.int (0 : Int32)), .val (.int (5 : Int32)), .val (.ref wG), .val (.ref b220), .val (.int (1 : Int32)), .val (.int (97 : Int32))] [])) rfl (hb hby d_jdk_43_method_32_code_134)
  refine own_ofW st228 ?_
  show own_EndsW _ _ _ _ _ _ _ _ (T228.setTop (mkF m 137 #[.val (.ref a), .val (.ref t), .val (.ref wR), .val (.int (0 : Int32)), .val (.int (5 : Int32)), .val (.ref wG), .val (.ref b220), .val (.int (1 : Int32)), .val (.int (97 : Int32))] [(.ref wI)]))
  refine own_ofW (fun tt_ kk_ => XS.iload X228.here hx rfl (hb hby d_jdk_43_method_32_code_137) rfl  kk_) ?_
  show own_EndsW _ _ _ _ _ _ _ _ (T228.setTop (mkF m 139 #[.val (.ref a), .val (.ref t), .val (.ref wR), .val (.int (0 : Int32)), .val (.int (5 : Int32)), .val (.ref wG), .val (.ref b220), .val (.int (1 : Int32)), .val (.int (97 : Int32))] [(.int (97 : Int32)), (.ref wI)]))
  obtain ⟨v229, T229, L229, h229, X229, e229, Q229, st229⟩ := own_virtual X228 hx hZ hown e228 (EI.ext OL.2) (hw _ (List.mem_of_getElem? (i := 87) rfl)) (hw _ (List.mem_of_getElem? (i := 88) rfl)) (notFace_of_selects (args := #[]) (mvT hZ (hw _ (List.mem_of_getElem? (i := 90) rfl)))) (hw _ (List.mem_of_getElem? (i := 90) rfl)) (hw _ (List.mem_of_getElem? (i := 89) rfl)) (hw _ (List.mem_of_getElem? (i := 62) rfl)) (hw _ (List.mem_of_getElem? (i := 91) rfl)) (by decide) (argsL := [(.int (97 : Int32))]) (rest := []) (rm_low97 l Z a0 hw wI h226 n0 (Nat.le_trans Z0 K.1)) (g := (mkF m 139 #[.val (.ref a), .val (.ref t), .val (.ref wR), .val (.int (0 : Int32)), .val (.int (5 : Int32)), .val (.ref wG), .val (.ref b220), .val (.int (1 : Int32)), .val (.int (97 : Int32))] [(.int (97 : Int32)), (.ref wI)])) rfl (by rw [hml]; rfl) (lenOf pd__I_r_I rfl) rfl (by decide) (Nat.le_of_ble_eq_true rfl) (by decide) (by decide) (hb hby d_jdk_43_method_32_code_139)
  obtain ⟨rfl, Nq229, q229⟩ := Q229
  replace e229 := e229.trans q229
  have N229 := Fr.app N226 Nq229
  refine own_ofW st229 ?_
  show own_EndsW _ _ _ _ _ _ _ _ (T229.setTop (mkF m 142 #[.val (.ref a), .val (.ref t), .val (.ref wR), .val (.int (0 : Int32)), .val (.int (5 : Int32)), .val (.ref wG), .val (.ref b220), .val (.int (1 : Int32)), .val (.int (97 : Int32))] [(.int (97 : Int32))]))
  refine own_ofW (fun tt_ kk_ => XS.istore X229.here hx rfl (hb hby d_jdk_43_method_32_code_142) rfl (l' := #[.val (.ref a), .val (.ref t), .val (.ref wR), .val (.int (0 : Int32)), .val (.int (5 : Int32)), .val (.ref wG), .val (.ref b220), .val (.int (1 : Int32)), .val (.int (97 : Int32))]) rfl kk_) ?_
  show own_EndsW _ _ _ _ _ _ _ _ (T229.setTop (mkF m 144 #[.val (.ref a), .val (.ref t), .val (.ref wR), .val (.int (0 : Int32)), .val (.int (5 : Int32)), .val (.ref wG), .val (.ref b220), .val (.int (1 : Int32)), .val (.int (97 : Int32))] []))
  refine own_ofW (fun tt_ kk_ => XS.iload X229.here hx rfl (hb hby d_jdk_43_method_32_code_144) rfl  kk_) ?_
  show own_EndsW _ _ _ _ _ _ _ _ (T229.setTop (mkF m 146 #[.val (.ref a), .val (.ref t), .val (.ref wR), .val (.int (0 : Int32)), .val (.int (5 : Int32)), .val (.ref wG), .val (.ref b220), .val (.int (1 : Int32)), .val (.int (97 : Int32))] [(.int (97 : Int32))]))
  obtain ⟨v230, T230, L230, h230, X230, e230, Q230, st230⟩ := own_static X229 hx hZ hown e229 (hw _ (List.mem_of_getElem? (i := 114) rfl)) (hw _ (List.mem_of_getElem? (i := 115) rfl)) (hw _ (List.mem_of_getElem? (i := 24) rfl)) (hw _ (List.mem_of_getElem? (i := 116) rfl)) (by decide) (argsL := [(.int (97 : Int32))]) (rest := []) (rm_can l Z a0 hw (97 : Int32) h226 n0 (Nat.le_trans Z0 K.1) (by decide) (by decide)) (g := (mkF m 146 #[.val (.ref a), .val (.ref t), .val (.ref wR), .val (.int (0 : Int32)), .val (.int (5 : Int32)), .val (.ref wG), .val (.ref b220), .val (.int (1 : Int32)), .val (.int (97 : Int32))] [(.int (97 : Int32))])) rfl (by rw [hml]; rfl) (lenOf pd__I_r_Z rfl) rfl (by decide) (Nat.le_of_ble_eq_true rfl) (by decide) (by decide) (hb hby d_jdk_43_method_32_code_146)
  obtain ⟨rfl, Nq230, q230⟩ := Q230
  replace e230 := e230.trans q230
  have N230 := Fr.app N229 Nq230
  refine own_ofW st230 ?_
  show own_EndsW _ _ _ _ _ _ _ _ (T230.setTop (mkF m 149 #[.val (.ref a), .val (.ref t), .val (.ref wR), .val (.int (0 : Int32)), .val (.int (5 : Int32)), .val (.ref wG), .val (.ref b220), .val (.int (1 : Int32)), .val (.int (97 : Int32))] [(.int (1 : Int32))]))
  refine own_ofW (fun tt_ kk_ => XS.ifYes X230.here hx rfl (pc0 := 149) (pc' := 161) rfl (hb hby d_jdk_43_method_32_code_149) rfl ((if0 _ _).trans (feq (by decide : ¬ ((1 : Int32) = (0 : Int32)))).2) (by decide) (by decide) kk_) ?_
  show own_EndsW _ _ _ _ _ _ _ _ (T230.setTop (mkF m 161 #[.val (.ref a), .val (.ref t), .val (.ref wR), .val (.int (0 : Int32)), .val (.int (5 : Int32)), .val (.ref wG), .val (.ref b220), .val (.int (1 : Int32)), .val (.int (97 : Int32))] []))
  refine own_ofW (fun tt_ kk_ => XS.aload X230.here hx rfl (hb hby d_jdk_43_method_32_code_161) rfl rfl kk_) ?_
  show own_EndsW _ _ _ _ _ _ _ _ (T230.setTop (mkF m 163 #[.val (.ref a), .val (.ref t), .val (.ref wR), .val (.int (0 : Int32)), .val (.int (5 : Int32)), .val (.ref wG), .val (.ref b220), .val (.int (1 : Int32)), .val (.int (97 : Int32))] [(.ref b220)]))
  refine own_ofW (fun tt_ kk_ => XS.iload X230.here hx rfl (hb hby d_jdk_43_method_32_code_163) rfl  kk_) ?_
  show own_EndsW _ _ _ _ _ _ _ _ (T230.setTop (mkF m 165 #[.val (.ref a), .val (.ref t), .val (.ref wR), .val (.int (0 : Int32)), .val (.int (5 : Int32)), .val (.ref wG), .val (.ref b220), .val (.int (1 : Int32)), .val (.int (97 : Int32))] [(.int (1 : Int32)), (.ref b220)]))
  refine own_ofW (fun tt_ kk_ => XS.iload X230.here hx rfl (hb hby d_jdk_43_method_32_code_165) rfl  kk_) ?_
  show own_EndsW _ _ _ _ _ _ _ _ (T230.setTop (mkF m 167 #[.val (.ref a), .val (.ref t), .val (.ref wR), .val (.int (0 : Int32)), .val (.int (5 : Int32)), .val (.ref wG), .val (.ref b220), .val (.int (1 : Int32)), .val (.int (97 : Int32))] [(.int (97 : Int32)), (.int (1 : Int32)), (.ref b220)]))
  refine own_ofW (fun tt_ kk_ => XS.i2b X230.here hx rfl (hb hby d_jdk_43_method_32_code_167) rfl kk_) ?_
  show own_EndsW _ _ _ _ _ _ _ _ (T230.setTop (mkF m 168 #[.val (.ref a), .val (.ref t), .val (.ref wR), .val (.int (0 : Int32)), .val (.int (5 : Int32)), .val (.ref wG), .val (.ref b220), .val (.int (1 : Int32)), .val (.int (97 : Int32))] [(.int (97 : Int32)), (.int (1 : Int32)), (.ref b220)]))
  obtain ⟨cl231, Ar231, q231, S231, N231', H231, G231⟩ := V226'
  have hin231 : ¬ ((1 : Int32) < 0 ∨ cl231.slots.size ≤ ((1 : Int32)).toNatClampNeg) := inb_of S231 ⟨by decide, by decide⟩
  obtain ⟨T231, h231, X231, e231, W231, st231⟩ := stB X230 hx hZ e230 Ar231 (j := (1 : Int32)) hin231 (g := (mkF m 168 #[.val (.ref a), .val (.ref t), .val (.ref wR), .val (.int (0 : Int32)), .val (.int (5 : Int32)), .val (.ref wG), .val (.ref b220), .val (.int (1 : Int32)), .val (.int (97 : Int32))] [(.int (97 : Int32)), (.int (1 : Int32)), (.ref b220)])) rfl rfl (hb hby d_jdk_43_method_32_code_168)
  have V231' : Arv Z h231 b220 k220 .byte (5 : Int32) [(.int (102 : Int32)), (.int (97 : Int32)), (.int (0 : Int32)), (.int (0 : Int32)), (.int (0 : Int32))] (.int (0 : Int32)) := Arv.set Ar231 q231 S231 N231' H231 G231 rfl W231 1 rfl (Nat.le_of_ble_eq_true rfl)
  have Sf_b220' := Safe.wr W231 Sf_b220 HC.1 Sf_b220
  replace hk := Nat.le_trans hk (Keep.of_wr W231).1
  replace HC := HC.trans (CHr.wr W231 Sf_b220 HC.1)
  replace Sf_b220 := Sf_b220'
  replace V := V.other W231 ne_t_b220
  replace OL := OL.wr W231 g_b220
  have N231 := Fr.snoc X231 N230 g_b220
  replace K := K.wr W231 (Or.inr sz_b220)
  refine own_ofW st231 ?_
  show own_EndsW _ _ _ _ _ _ _ _ (T231.setTop (mkF m 169 #[.val (.ref a), .val (.ref t), .val (.ref wR), .val (.int (0 : Int32)), .val (.int (5 : Int32)), .val (.ref wG), .val (.ref b220), .val (.int (1 : Int32)), .val (.int (97 : Int32))] []))
  refine own_ofW (fun tt_ kk_ => XS.iinc X231.here hx rfl (hb hby d_jdk_43_method_32_code_169) rfl (l' := #[.val (.ref a), .val (.ref t), .val (.ref wR), .val (.int (0 : Int32)), .val (.int (5 : Int32)), .val (.ref wG), .val (.ref b220), .val (.int (2 : Int32)), .val (.int (97 : Int32))]) rfl kk_) ?_
  show own_EndsW _ _ _ _ _ _ _ _ (T231.setTop (mkF m 172 #[.val (.ref a), .val (.ref t), .val (.ref wR), .val (.int (0 : Int32)), .val (.int (5 : Int32)), .val (.ref wG), .val (.ref b220), .val (.int (2 : Int32)), .val (.int (97 : Int32))] []))
  refine own_ofW (fun tt_ kk_ => XS.goto X231.here hx rfl (pc0 := 172) (pc' := 117) rfl (hb hby d_jdk_43_method_32_code_172) (by decide) (by decide) kk_) ?_
  show own_EndsW _ _ _ _ _ _ _ _ (T231.setTop (mkF m 117 #[.val (.ref a), .val (.ref t), .val (.ref wR), .val (.int (0 : Int32)), .val (.int (5 : Int32)), .val (.ref wG), .val (.ref b220), .val (.int (2 : Int32)), .val (.int (97 : Int32))] []))
  refine own_ofW (fun tt_ kk_ => XS.iload X231.here hx rfl (hb hby d_jdk_43_method_32_code_117) rfl  kk_) ?_
  show own_EndsW _ _ _ _ _ _ _ _ (T231.setTop (mkF m 119 #[.val (.ref a), .val (.ref t), .val (.ref wR), .val (.int (0 : Int32)), .val (.int (5 : Int32)), .val (.ref wG), .val (.ref b220), .val (.int (2 : Int32)), .val (.int (97 : Int32))] [(.int (2 : Int32))]))
  refine own_ofW (fun tt_ kk_ => XS.iload X231.here hx rfl (hb hby d_jdk_43_method_32_code_119) rfl  kk_) ?_
  show own_EndsW _ _ _ _ _ _ _ _ (T231.setTop (mkF m 121 #[.val (.ref a), .val (.ref t), .val (.ref wR), .val (.int (0 : Int32)), .val (.int (5 : Int32)), .val (.ref wG), .val (.ref b220), .val (.int (2 : Int32)), .val (.int (97 : Int32))] [(.int (5 : Int32)), (.int (2 : Int32))]))
  refine own_ofW (fun tt_ kk_ => XS.icmpNo X231.here hx rfl (hb hby d_jdk_43_method_32_code_121) rfl (tlt (by decide : ((2 : Int32) < (5 : Int32)))).2.1 kk_) ?_
  show own_EndsW _ _ _ _ _ _ _ _ (T231.setTop (mkF m 124 #[.val (.ref a), .val (.ref t), .val (.ref wR), .val (.int (0 : Int32)), .val (.int (5 : Int32)), .val (.ref wG), .val (.ref b220), .val (.int (2 : Int32)), .val (.int (97 : Int32))] []))
  refine own_ofW (fun tt_ kk_ => XS.aloadN X231.here hx rfl (hb hby d_jdk_43_method_32_code_124) rfl rfl kk_) ?_
  show own_EndsW _ _ _ _ _ _ _ _ (T231.setTop (mkF m 125 #[.val (.ref a), .val (.ref t), .val (.ref wR), .val (.int (0 : Int32)), .val (.int (5 : Int32)), .val (.ref wG), .val (.ref b220), .val (.int (2 : Int32)), .val (.int (97 : Int32))] [(.ref t)]))
  refine own_ofW (fun tt_ kk_ => XS.iload X231.here hx rfl (hb hby d_jdk_43_method_32_code_125) rfl  kk_) ?_
  show own_EndsW _ _ _ _ _ _ _ _ (T231.setTop (mkF m 127 #[.val (.ref a), .val (.ref t), .val (.ref wR), .val (.int (0 : Int32)), .val (.int (5 : Int32)), .val (.ref wG), .val (.ref b220), .val (.int (2 : Int32)), .val (.int (97 : Int32))] [(.int (2 : Int32)), (.ref t)]))
  obtain ⟨cl232, Ar232, q232, S232, N232', H232, G232⟩ := id V
  have hin232 : ¬ ((2 : Int32) < 0 ∨ cl232.slots.size ≤ ((2 : Int32)).toNatClampNeg) := inb_of S232 ⟨by decide, by decide⟩
  have hat232 : cl232.slots[((2 : Int32)).toNatClampNeg]? = some (.int (108 : Int32)) := H232.at hin232 rfl
  refine own_ofW (fun tt_ kk_ => X231.baloadBytes hx (j := (2 : Int32)) (v := (.int (108 : Int32))) (by rw [e231]; exact Ar232.1) (State.isArrayOf_alike hZ.alike Ar232.2.1) Ar232.2.2 hin232 hat232 (g := (mkF m 127 #[.val (.ref a), .val (.ref t), .val (.ref wR), .val (.int (0 : Int32)), .val (.int (5 : Int32)), .val (.ref wG), .val (.ref b220), .val (.int (2 : Int32)), .val (.int (97 : Int32))] [(.int (2 : Int32)), (.ref t)])) rfl rfl (hb hby d_jdk_43_method_32_code_127) _ kk_) ?_
  show own_EndsW _ _ _ _ _ _ _ _ (T231.setTop (mkF m 128 #[.val (.ref a), .val (.ref t), .val (.ref wR), .val (.int (0 : Int32)), .val (.int (5 : Int32)), .val (.ref wG), .val (.ref b220), .val (.int (2 : Int32)), .val (.int (97 : Int32))] [(.int (108 : Int32))]))
  refine own_ofW (fun tt_ kk_ => XS.sipush X231.here hx rfl (hb hby d_jdk_43_method_32_code_128) kk_) ?_
  show own_EndsW _ _ _ _ _ _ _ _ (T231.setTop (mkF m 131 #[.val (.ref a), .val (.ref t), .val (.ref wR), .val (.int (0 : Int32)), .val (.int (5 : Int32)), .val (.ref wG), .val (.ref b220), .val (.int (2 : Int32)), .val (.int (97 : Int32))] [(.int (255 : Int32)), (.int (108 : Int32))]))
  refine own_ofW (fun tt_ kk_ => XS.iand X231.here hx rfl (hb hby d_jdk_43_method_32_code_131) rfl kk_) ?_
  show own_EndsW _ _ _ _ _ _ _ _ (T231.setTop (mkF m 132 #[.val (.ref a), .val (.ref t), .val (.ref wR), .val (.int (0 : Int32)), .val (.int (5 : Int32)), .val (.ref wG), .val (.ref b220), .val (.int (2 : Int32)), .val (.int (97 : Int32))] [(.int (108 : Int32))]))
  refine own_ofW (fun tt_ kk_ => XS.istore X231.here hx rfl (hb hby d_jdk_43_method_32_code_132) rfl (l' := #[.val (.ref a), .val (.ref t), .val (.ref wR), .val (.int (0 : Int32)), .val (.int (5 : Int32)), .val (.ref wG), .val (.ref b220), .val (.int (2 : Int32)), .val (.int (108 : Int32))]) rfl kk_) ?_
  show own_EndsW _ _ _ _ _ _ _ _ (T231.setTop (mkF m 134 #[.val (.ref a), .val (.ref t), .val (.ref wR), .val (.int (0 : Int32)), .val (.int (5 : Int32)), .val (.ref wG), .val (.ref b220), .val (.int (2 : Int32)), .val (.int (108 : Int32))] []))
  obtain ⟨T233, X233, e233, st233⟩ := getS2 X231 hx hZ hown (host := "") (Or.inl (hw _ (List.mem_of_getElem? (i := 61) rfl))) Via.refl e231 (SI.ext OL.2) (g := (mkF m 134 #[.val (.ref a), .val (.ref t), .val (.ref wR), .val (.int (0 : Int32)), .val (.int (5 : Int32)), .val (.ref wG), .val (.ref b220), .val (.int (2 : Int32)), .val (.int (108 : Int32))] [])) rfl (hb hby d_jdk_43_method_32_code_134)
  refine own_ofW st233 ?_
  show own_EndsW _ _ _ _ _ _ _ _ (T233.setTop (mkF m 137 #[.val (.ref a), .val (.ref t), .val (.ref wR), .val (.int (0 : Int32)), .val (.int (5 : Int32)), .val (.ref wG), .val (.ref b220), .val (.int (2 : Int32)), .val (.int (108 : Int32))] [(.ref wI)]))
  refine own_ofW (fun tt_ kk_ => XS.iload X233.here hx rfl (hb hby d_jdk_43_method_32_code_137) rfl  kk_) ?_
  show own_EndsW _ _ _ _ _ _ _ _ (T233.setTop (mkF m 139 #[.val (.ref a), .val (.ref t), .val (.ref wR), .val (.int (0 : Int32)), .val (.int (5 : Int32)), .val (.ref wG), .val (.ref b220), .val (.int (2 : Int32)), .val (.int (108 : Int32))] [(.int (108 : Int32)), (.ref wI)]))
  obtain ⟨v234, T234, L234, h234, X234, e234, Q234, st234⟩ := own_virtual X233 hx hZ hown e233 (EI.ext OL.2) (hw _ (List.mem_of_getElem? (i := 87) rfl)) (hw _ (List.mem_of_getElem? (i := 88) rfl)) (notFace_of_selects (args := #[]) (mvT hZ (hw _ (List.mem_of_getElem? (i := 90) rfl)))) (hw _ (List.mem_of_getElem? (i := 90) rfl)) (hw _ (List.mem_of_getElem? (i := 89) rfl)) (hw _ (List.mem_of_getElem? (i := 62) rfl)) (hw _ (List.mem_of_getElem? (i := 91) rfl)) (by decide) (argsL := [(.int (108 : Int32))]) (rest := []) (rm_low108 l Z a0 hw wI h231 n0 (Nat.le_trans Z0 K.1)) (g := (mkF m 139 #[.val (.ref a), .val (.ref t), .val (.ref wR), .val (.int (0 : Int32)), .val (.int (5 : Int32)), .val (.ref wG), .val (.ref b220), .val (.int (2 : Int32)), .val (.int (108 : Int32))] [(.int (108 : Int32)), (.ref wI)])) rfl (by rw [hml]; rfl) (lenOf pd__I_r_I rfl) rfl (by decide) (Nat.le_of_ble_eq_true rfl) (by decide) (by decide) (hb hby d_jdk_43_method_32_code_139)
  obtain ⟨rfl, Nq234, q234⟩ := Q234
  replace e234 := e234.trans q234
  have N234 := Fr.app N231 Nq234
  refine own_ofW st234 ?_
  show own_EndsW _ _ _ _ _ _ _ _ (T234.setTop (mkF m 142 #[.val (.ref a), .val (.ref t), .val (.ref wR), .val (.int (0 : Int32)), .val (.int (5 : Int32)), .val (.ref wG), .val (.ref b220), .val (.int (2 : Int32)), .val (.int (108 : Int32))] [(.int (108 : Int32))]))
  refine own_ofW (fun tt_ kk_ => XS.istore X234.here hx rfl (hb hby d_jdk_43_method_32_code_142) rfl (l' := #[.val (.ref a), .val (.ref t), .val (.ref wR), .val (.int (0 : Int32)), .val (.int (5 : Int32)), .val (.ref wG), .val (.ref b220), .val (.int (2 : Int32)), .val (.int (108 : Int32))]) rfl kk_) ?_
  show own_EndsW _ _ _ _ _ _ _ _ (T234.setTop (mkF m 144 #[.val (.ref a), .val (.ref t), .val (.ref wR), .val (.int (0 : Int32)), .val (.int (5 : Int32)), .val (.ref wG), .val (.ref b220), .val (.int (2 : Int32)), .val (.int (108 : Int32))] []))
  refine own_ofW (fun tt_ kk_ => XS.iload X234.here hx rfl (hb hby d_jdk_43_method_32_code_144) rfl  kk_) ?_
  show own_EndsW _ _ _ _ _ _ _ _ (T234.setTop (mkF m 146 #[.val (.ref a), .val (.ref t), .val (.ref wR), .val (.int (0 : Int32)), .val (.int (5 : Int32)), .val (.ref wG), .val (.ref b220), .val (.int (2 : Int32)), .val (.int (108 : Int32))] [(.int (108 : Int32))]))
  obtain ⟨v235, T235, L235, h235, X235, e235, Q235, st235⟩ := own_static X234 hx hZ hown e234 (hw _ (List.mem_of_getElem? (i := 114) rfl)) (hw _ (List.mem_of_getElem? (i := 115) rfl)) (hw _ (List.mem_of_getElem? (i := 24) rfl)) (hw _ (List.mem_of_getElem? (i := 116) rfl)) (by decide) (argsL := [(.int (108 : Int32))]) (rest := []) (rm_can l Z a0 hw (108 : Int32) h231 n0 (Nat.le_trans Z0 K.1) (by decide) (by decide)) (g := (mkF m 146 #[.val (.ref a), .val (.ref t), .val (.ref wR), .val (.int (0 : Int32)), .val (.int (5 : Int32)), .val (.ref wG), .val (.ref b220), .val (.int (2 : Int32)), .val (.int (108 : Int32))] [(.int (108 : Int32))])) rfl (by rw [hml]; rfl) (lenOf pd__I_r_Z rfl) rfl (by decide) (Nat.le_of_ble_eq_true rfl) (by decide) (by decide) (hb hby d_jdk_43_method_32_code_146)
  obtain ⟨rfl, Nq235, q235⟩ := Q235
  replace e235 := e235.trans q235
  have N235 := Fr.app N234 Nq235
  refine own_ofW st235 ?_
  show own_EndsW _ _ _ _ _ _ _ _ (T235.setTop (mkF m 149 #[.val (.ref a), .val (.ref t), .val (.ref wR), .val (.int (0 : Int32)), .val (.int (5 : Int32)), .val (.ref wG), .val (.ref b220), .val (.int (2 : Int32)), .val (.int (108 : Int32))] [(.int (1 : Int32))]))
  refine own_ofW (fun tt_ kk_ => XS.ifYes X235.here hx rfl (pc0 := 149) (pc' := 161) rfl (hb hby d_jdk_43_method_32_code_149) rfl ((if0 _ _).trans (feq (by decide : ¬ ((1 : Int32) = (0 : Int32)))).2) (by decide) (by decide) kk_) ?_
  show own_EndsW _ _ _ _ _ _ _ _ (T235.setTop (mkF m 161 #[.val (.ref a), .val (.ref t), .val (.ref wR), .val (.int (0 : Int32)), .val (.int (5 : Int32)), .val (.ref wG), .val (.ref b220), .val (.int (2 : Int32)), .val (.int (108 : Int32))] []))
  refine own_ofW (fun tt_ kk_ => XS.aload X235.here hx rfl (hb hby d_jdk_43_method_32_code_161) rfl rfl kk_) ?_
  show own_EndsW _ _ _ _ _ _ _ _ (T235.setTop (mkF m 163 #[.val (.ref a), .val (.ref t), .val (.ref wR), .val (.int (0 : Int32)), .val (.int (5 : Int32)), .val (.ref wG), .val (.ref b220), .val (.int (2 : Int32)), .val (.int (108 : Int32))] [(.ref b220)]))
  refine own_ofW (fun tt_ kk_ => XS.iload X235.here hx rfl (hb hby d_jdk_43_method_32_code_163) rfl  kk_) ?_
  show own_EndsW _ _ _ _ _ _ _ _ (T235.setTop (mkF m 165 #[.val (.ref a), .val (.ref t), .val (.ref wR), .val (.int (0 : Int32)), .val (.int (5 : Int32)), .val (.ref wG), .val (.ref b220), .val (.int (2 : Int32)), .val (.int (108 : Int32))] [(.int (2 : Int32)), (.ref b220)]))
  refine own_ofW (fun tt_ kk_ => XS.iload X235.here hx rfl (hb hby d_jdk_43_method_32_code_165) rfl  kk_) ?_
  show own_EndsW _ _ _ _ _ _ _ _ (T235.setTop (mkF m 167 #[.val (.ref a), .val (.ref t), .val (.ref wR), .val (.int (0 : Int32)), .val (.int (5 : Int32)), .val (.ref wG), .val (.ref b220), .val (.int (2 : Int32)), .val (.int (108 : Int32))] [(.int (108 : Int32)), (.int (2 : Int32)), (.ref b220)]))
  refine own_ofW (fun tt_ kk_ => XS.i2b X235.here hx rfl (hb hby d_jdk_43_method_32_code_167) rfl kk_) ?_
  show own_EndsW _ _ _ _ _ _ _ _ (T235.setTop (mkF m 168 #[.val (.ref a), .val (.ref t), .val (.ref wR), .val (.int (0 : Int32)), .val (.int (5 : Int32)), .val (.ref wG), .val (.ref b220), .val (.int (2 : Int32)), .val (.int (108 : Int32))] [(.int (108 : Int32)), (.int (2 : Int32)), (.ref b220)]))
  obtain ⟨cl236, Ar236, q236, S236, N236', H236, G236⟩ := V231'
  have hin236 : ¬ ((2 : Int32) < 0 ∨ cl236.slots.size ≤ ((2 : Int32)).toNatClampNeg) := inb_of S236 ⟨by decide, by decide⟩
  obtain ⟨T236, h236, X236, e236, W236, st236⟩ := stB X235 hx hZ e235 Ar236 (j := (2 : Int32)) hin236 (g := (mkF m 168 #[.val (.ref a), .val (.ref t), .val (.ref wR), .val (.int (0 : Int32)), .val (.int (5 : Int32)), .val (.ref wG), .val (.ref b220), .val (.int (2 : Int32)), .val (.int (108 : Int32))] [(.int (108 : Int32)), (.int (2 : Int32)), (.ref b220)])) rfl rfl (hb hby d_jdk_43_method_32_code_168)
  have V236' : Arv Z h236 b220 k220 .byte (5 : Int32) [(.int (102 : Int32)), (.int (97 : Int32)), (.int (108 : Int32)), (.int (0 : Int32)), (.int (0 : Int32))] (.int (0 : Int32)) := Arv.set Ar236 q236 S236 N236' H236 G236 rfl W236 2 rfl (Nat.le_of_ble_eq_true rfl)
  have Sf_b220' := Safe.wr W236 Sf_b220 HC.1 Sf_b220
  replace hk := Nat.le_trans hk (Keep.of_wr W236).1
  replace HC := HC.trans (CHr.wr W236 Sf_b220 HC.1)
  replace Sf_b220 := Sf_b220'
  replace V := V.other W236 ne_t_b220
  replace OL := OL.wr W236 g_b220
  have N236 := Fr.snoc X236 N235 g_b220
  replace K := K.wr W236 (Or.inr sz_b220)
  refine own_ofW st236 ?_
  show own_EndsW _ _ _ _ _ _ _ _ (T236.setTop (mkF m 169 #[.val (.ref a), .val (.ref t), .val (.ref wR), .val (.int (0 : Int32)), .val (.int (5 : Int32)), .val (.ref wG), .val (.ref b220), .val (.int (2 : Int32)), .val (.int (108 : Int32))] []))
  refine own_ofW (fun tt_ kk_ => XS.iinc X236.here hx rfl (hb hby d_jdk_43_method_32_code_169) rfl (l' := #[.val (.ref a), .val (.ref t), .val (.ref wR), .val (.int (0 : Int32)), .val (.int (5 : Int32)), .val (.ref wG), .val (.ref b220), .val (.int (3 : Int32)), .val (.int (108 : Int32))]) rfl kk_) ?_
  show own_EndsW _ _ _ _ _ _ _ _ (T236.setTop (mkF m 172 #[.val (.ref a), .val (.ref t), .val (.ref wR), .val (.int (0 : Int32)), .val (.int (5 : Int32)), .val (.ref wG), .val (.ref b220), .val (.int (3 : Int32)), .val (.int (108 : Int32))] []))
  refine own_ofW (fun tt_ kk_ => XS.goto X236.here hx rfl (pc0 := 172) (pc' := 117) rfl (hb hby d_jdk_43_method_32_code_172) (by decide) (by decide) kk_) ?_
  show own_EndsW _ _ _ _ _ _ _ _ (T236.setTop (mkF m 117 #[.val (.ref a), .val (.ref t), .val (.ref wR), .val (.int (0 : Int32)), .val (.int (5 : Int32)), .val (.ref wG), .val (.ref b220), .val (.int (3 : Int32)), .val (.int (108 : Int32))] []))
  refine own_ofW (fun tt_ kk_ => XS.iload X236.here hx rfl (hb hby d_jdk_43_method_32_code_117) rfl  kk_) ?_
  show own_EndsW _ _ _ _ _ _ _ _ (T236.setTop (mkF m 119 #[.val (.ref a), .val (.ref t), .val (.ref wR), .val (.int (0 : Int32)), .val (.int (5 : Int32)), .val (.ref wG), .val (.ref b220), .val (.int (3 : Int32)), .val (.int (108 : Int32))] [(.int (3 : Int32))]))
  refine own_ofW (fun tt_ kk_ => XS.iload X236.here hx rfl (hb hby d_jdk_43_method_32_code_119) rfl  kk_) ?_
  show own_EndsW _ _ _ _ _ _ _ _ (T236.setTop (mkF m 121 #[.val (.ref a), .val (.ref t), .val (.ref wR), .val (.int (0 : Int32)), .val (.int (5 : Int32)), .val (.ref wG), .val (.ref b220), .val (.int (3 : Int32)), .val (.int (108 : Int32))] [(.int (5 : Int32)), (.int (3 : Int32))]))
  refine own_ofW (fun tt_ kk_ => XS.icmpNo X236.here hx rfl (hb hby d_jdk_43_method_32_code_121) rfl (tlt (by decide : ((3 : Int32) < (5 : Int32)))).2.1 kk_) ?_
  show own_EndsW _ _ _ _ _ _ _ _ (T236.setTop (mkF m 124 #[.val (.ref a), .val (.ref t), .val (.ref wR), .val (.int (0 : Int32)), .val (.int (5 : Int32)), .val (.ref wG), .val (.ref b220), .val (.int (3 : Int32)), .val (.int (108 : Int32))] []))
  refine own_ofW (fun tt_ kk_ => XS.aloadN X236.here hx rfl (hb hby d_jdk_43_method_32_code_124) rfl rfl kk_) ?_
  show own_EndsW _ _ _ _ _ _ _ _ (T236.setTop (mkF m 125 #[.val (.ref a), .val (.ref t), .val (.ref wR), .val (.int (0 : Int32)), .val (.int (5 : Int32)), .val (.ref wG), .val (.ref b220), .val (.int (3 : Int32)), .val (.int (108 : Int32))] [(.ref t)]))
  refine own_ofW (fun tt_ kk_ => XS.iload X236.here hx rfl (hb hby d_jdk_43_method_32_code_125) rfl  kk_) ?_
  show own_EndsW _ _ _ _ _ _ _ _ (T236.setTop (mkF m 127 #[.val (.ref a), .val (.ref t), .val (.ref wR), .val (.int (0 : Int32)), .val (.int (5 : Int32)), .val (.ref wG), .val (.ref b220), .val (.int (3 : Int32)), .val (.int (108 : Int32))] [(.int (3 : Int32)), (.ref t)]))
  obtain ⟨cl237, Ar237, q237, S237, N237', H237, G237⟩ := id V
  have hin237 : ¬ ((3 : Int32) < 0 ∨ cl237.slots.size ≤ ((3 : Int32)).toNatClampNeg) := inb_of S237 ⟨by decide, by decide⟩
  have hat237 : cl237.slots[((3 : Int32)).toNatClampNeg]? = some (.int (115 : Int32)) := H237.at hin237 rfl
  refine own_ofW (fun tt_ kk_ => X236.baloadBytes hx (j := (3 : Int32)) (v := (.int (115 : Int32))) (by rw [e236]; exact Ar237.1) (State.isArrayOf_alike hZ.alike Ar237.2.1) Ar237.2.2 hin237 hat237 (g := (mkF m 127 #[.val (.ref a), .val (.ref t), .val (.ref wR), .val (.int (0 : Int32)), .val (.int (5 : Int32)), .val (.ref wG), .val (.ref b220), .val (.int (3 : Int32)), .val (.int (108 : Int32))] [(.int (3 : Int32)), (.ref t)])) rfl rfl (hb hby d_jdk_43_method_32_code_127) _ kk_) ?_
  show own_EndsW _ _ _ _ _ _ _ _ (T236.setTop (mkF m 128 #[.val (.ref a), .val (.ref t), .val (.ref wR), .val (.int (0 : Int32)), .val (.int (5 : Int32)), .val (.ref wG), .val (.ref b220), .val (.int (3 : Int32)), .val (.int (108 : Int32))] [(.int (115 : Int32))]))
  refine own_ofW (fun tt_ kk_ => XS.sipush X236.here hx rfl (hb hby d_jdk_43_method_32_code_128) kk_) ?_
  show own_EndsW _ _ _ _ _ _ _ _ (T236.setTop (mkF m 131 #[.val (.ref a), .val (.ref t), .val (.ref wR), .val (.int (0 : Int32)), .val (.int (5 : Int32)), .val (.ref wG), .val (.ref b220), .val (.int (3 : Int32)), .val (.int (108 : Int32))] [(.int (255 : Int32)), (.int (115 : Int32))]))
  refine own_ofW (fun tt_ kk_ => XS.iand X236.here hx rfl (hb hby d_jdk_43_method_32_code_131) rfl kk_) ?_
  show own_EndsW _ _ _ _ _ _ _ _ (T236.setTop (mkF m 132 #[.val (.ref a), .val (.ref t), .val (.ref wR), .val (.int (0 : Int32)), .val (.int (5 : Int32)), .val (.ref wG), .val (.ref b220), .val (.int (3 : Int32)), .val (.int (108 : Int32))] [(.int (115 : Int32))]))
  refine own_ofW (fun tt_ kk_ => XS.istore X236.here hx rfl (hb hby d_jdk_43_method_32_code_132) rfl (l' := #[.val (.ref a), .val (.ref t), .val (.ref wR), .val (.int (0 : Int32)), .val (.int (5 : Int32)), .val (.ref wG), .val (.ref b220), .val (.int (3 : Int32)), .val (.int (115 : Int32))]) rfl kk_) ?_
  show own_EndsW _ _ _ _ _ _ _ _ (T236.setTop (mkF m 134 #[.val (.ref a), .val (.ref t), .val (.ref wR), .val (.int (0 : Int32)), .val (.int (5 : Int32)), .val (.ref wG), .val (.ref b220), .val (.int (3 : Int32)), .val (.int (115 : Int32))] []))
  obtain ⟨T238, X238, e238, st238⟩ := getS2 X236 hx hZ hown (host := "") (Or.inl (hw _ (List.mem_of_getElem? (i := 61) rfl))) Via.refl e236 (SI.ext OL.2) (g := (mkF m 134 #[.val (.ref a), .val (.ref t), .val (.ref wR), .val (.int (0 : Int32)), .val (.int (5 : Int32)), .val (.ref wG), .val (.ref b220), .val (.int (3 : Int32)), .val (.int (115 : Int32))] [])) rfl (hb hby d_jdk_43_method_32_code_134)
  refine own_ofW st238 ?_
  show own_EndsW _ _ _ _ _ _ _ _ (T238.setTop (mkF m 137 #[.val (.ref a), .val (.ref t), .val (.ref wR), .val (.int (0 : Int32)), .val (.int (5 : Int32)), .val (.ref wG), .val (.ref b220), .val (.int (3 : Int32)), .val (.int (115 : Int32))] [(.ref wI)]))
  refine own_ofW (fun tt_ kk_ => XS.iload X238.here hx rfl (hb hby d_jdk_43_method_32_code_137) rfl  kk_) ?_
  show own_EndsW _ _ _ _ _ _ _ _ (T238.setTop (mkF m 139 #[.val (.ref a), .val (.ref t), .val (.ref wR), .val (.int (0 : Int32)), .val (.int (5 : Int32)), .val (.ref wG), .val (.ref b220), .val (.int (3 : Int32)), .val (.int (115 : Int32))] [(.int (115 : Int32)), (.ref wI)]))
  obtain ⟨v239, T239, L239, h239, X239, e239, Q239, st239⟩ := own_virtual X238 hx hZ hown e238 (EI.ext OL.2) (hw _ (List.mem_of_getElem? (i := 87) rfl)) (hw _ (List.mem_of_getElem? (i := 88) rfl)) (notFace_of_selects (args := #[]) (mvT hZ (hw _ (List.mem_of_getElem? (i := 90) rfl)))) (hw _ (List.mem_of_getElem? (i := 90) rfl)) (hw _ (List.mem_of_getElem? (i := 89) rfl)) (hw _ (List.mem_of_getElem? (i := 62) rfl)) (hw _ (List.mem_of_getElem? (i := 91) rfl)) (by decide) (argsL := [(.int (115 : Int32))]) (rest := []) (rm_low115 l Z a0 hw wI h236 n0 (Nat.le_trans Z0 K.1)) (g := (mkF m 139 #[.val (.ref a), .val (.ref t), .val (.ref wR), .val (.int (0 : Int32)), .val (.int (5 : Int32)), .val (.ref wG), .val (.ref b220), .val (.int (3 : Int32)), .val (.int (115 : Int32))] [(.int (115 : Int32)), (.ref wI)])) rfl (by rw [hml]; rfl) (lenOf pd__I_r_I rfl) rfl (by decide) (Nat.le_of_ble_eq_true rfl) (by decide) (by decide) (hb hby d_jdk_43_method_32_code_139)
  obtain ⟨rfl, Nq239, q239⟩ := Q239
  replace e239 := e239.trans q239
  have N239 := Fr.app N236 Nq239
  refine own_ofW st239 ?_
  show own_EndsW _ _ _ _ _ _ _ _ (T239.setTop (mkF m 142 #[.val (.ref a), .val (.ref t), .val (.ref wR), .val (.int (0 : Int32)), .val (.int (5 : Int32)), .val (.ref wG), .val (.ref b220), .val (.int (3 : Int32)), .val (.int (115 : Int32))] [(.int (115 : Int32))]))
  refine own_ofW (fun tt_ kk_ => XS.istore X239.here hx rfl (hb hby d_jdk_43_method_32_code_142) rfl (l' := #[.val (.ref a), .val (.ref t), .val (.ref wR), .val (.int (0 : Int32)), .val (.int (5 : Int32)), .val (.ref wG), .val (.ref b220), .val (.int (3 : Int32)), .val (.int (115 : Int32))]) rfl kk_) ?_
  show own_EndsW _ _ _ _ _ _ _ _ (T239.setTop (mkF m 144 #[.val (.ref a), .val (.ref t), .val (.ref wR), .val (.int (0 : Int32)), .val (.int (5 : Int32)), .val (.ref wG), .val (.ref b220), .val (.int (3 : Int32)), .val (.int (115 : Int32))] []))
  refine own_ofW (fun tt_ kk_ => XS.iload X239.here hx rfl (hb hby d_jdk_43_method_32_code_144) rfl  kk_) ?_
  show own_EndsW _ _ _ _ _ _ _ _ (T239.setTop (mkF m 146 #[.val (.ref a), .val (.ref t), .val (.ref wR), .val (.int (0 : Int32)), .val (.int (5 : Int32)), .val (.ref wG), .val (.ref b220), .val (.int (3 : Int32)), .val (.int (115 : Int32))] [(.int (115 : Int32))]))
  obtain ⟨v240, T240, L240, h240, X240, e240, Q240, st240⟩ := own_static X239 hx hZ hown e239 (hw _ (List.mem_of_getElem? (i := 114) rfl)) (hw _ (List.mem_of_getElem? (i := 115) rfl)) (hw _ (List.mem_of_getElem? (i := 24) rfl)) (hw _ (List.mem_of_getElem? (i := 116) rfl)) (by decide) (argsL := [(.int (115 : Int32))]) (rest := []) (rm_can l Z a0 hw (115 : Int32) h236 n0 (Nat.le_trans Z0 K.1) (by decide) (by decide)) (g := (mkF m 146 #[.val (.ref a), .val (.ref t), .val (.ref wR), .val (.int (0 : Int32)), .val (.int (5 : Int32)), .val (.ref wG), .val (.ref b220), .val (.int (3 : Int32)), .val (.int (115 : Int32))] [(.int (115 : Int32))])) rfl (by rw [hml]; rfl) (lenOf pd__I_r_Z rfl) rfl (by decide) (Nat.le_of_ble_eq_true rfl) (by decide) (by decide) (hb hby d_jdk_43_method_32_code_146)
  obtain ⟨rfl, Nq240, q240⟩ := Q240
  replace e240 := e240.trans q240
  have N240 := Fr.app N239 Nq240
  refine own_ofW st240 ?_
  show own_EndsW _ _ _ _ _ _ _ _ (T240.setTop (mkF m 149 #[.val (.ref a), .val (.ref t), .val (.ref wR), .val (.int (0 : Int32)), .val (.int (5 : Int32)), .val (.ref wG), .val (.ref b220), .val (.int (3 : Int32)), .val (.int (115 : Int32))] [(.int (1 : Int32))]))
  refine own_ofW (fun tt_ kk_ => XS.ifYes X240.here hx rfl (pc0 := 149) (pc' := 161) rfl (hb hby d_jdk_43_method_32_code_149) rfl ((if0 _ _).trans (feq (by decide : ¬ ((1 : Int32) = (0 : Int32)))).2) (by decide) (by decide) kk_) ?_
  show own_EndsW _ _ _ _ _ _ _ _ (T240.setTop (mkF m 161 #[.val (.ref a), .val (.ref t), .val (.ref wR), .val (.int (0 : Int32)), .val (.int (5 : Int32)), .val (.ref wG), .val (.ref b220), .val (.int (3 : Int32)), .val (.int (115 : Int32))] []))
  refine own_ofW (fun tt_ kk_ => XS.aload X240.here hx rfl (hb hby d_jdk_43_method_32_code_161) rfl rfl kk_) ?_
  show own_EndsW _ _ _ _ _ _ _ _ (T240.setTop (mkF m 163 #[.val (.ref a), .val (.ref t), .val (.ref wR), .val (.int (0 : Int32)), .val (.int (5 : Int32)), .val (.ref wG), .val (.ref b220), .val (.int (3 : Int32)), .val (.int (115 : Int32))] [(.ref b220)]))
  refine own_ofW (fun tt_ kk_ => XS.iload X240.here hx rfl (hb hby d_jdk_43_method_32_code_163) rfl  kk_) ?_
  show own_EndsW _ _ _ _ _ _ _ _ (T240.setTop (mkF m 165 #[.val (.ref a), .val (.ref t), .val (.ref wR), .val (.int (0 : Int32)), .val (.int (5 : Int32)), .val (.ref wG), .val (.ref b220), .val (.int (3 : Int32)), .val (.int (115 : Int32))] [(.int (3 : Int32)), (.ref b220)]))
  refine own_ofW (fun tt_ kk_ => XS.iload X240.here hx rfl (hb hby d_jdk_43_method_32_code_165) rfl  kk_) ?_
  show own_EndsW _ _ _ _ _ _ _ _ (T240.setTop (mkF m 167 #[.val (.ref a), .val (.ref t), .val (.ref wR), .val (.int (0 : Int32)), .val (.int (5 : Int32)), .val (.ref wG), .val (.ref b220), .val (.int (3 : Int32)), .val (.int (115 : Int32))] [(.int (115 : Int32)), (.int (3 : Int32)), (.ref b220)]))
  refine own_ofW (fun tt_ kk_ => XS.i2b X240.here hx rfl (hb hby d_jdk_43_method_32_code_167) rfl kk_) ?_
  show own_EndsW _ _ _ _ _ _ _ _ (T240.setTop (mkF m 168 #[.val (.ref a), .val (.ref t), .val (.ref wR), .val (.int (0 : Int32)), .val (.int (5 : Int32)), .val (.ref wG), .val (.ref b220), .val (.int (3 : Int32)), .val (.int (115 : Int32))] [(.int (115 : Int32)), (.int (3 : Int32)), (.ref b220)]))
  obtain ⟨cl241, Ar241, q241, S241, N241', H241, G241⟩ := V236'
  have hin241 : ¬ ((3 : Int32) < 0 ∨ cl241.slots.size ≤ ((3 : Int32)).toNatClampNeg) := inb_of S241 ⟨by decide, by decide⟩
  obtain ⟨T241, h241, X241, e241, W241, st241⟩ := stB X240 hx hZ e240 Ar241 (j := (3 : Int32)) hin241 (g := (mkF m 168 #[.val (.ref a), .val (.ref t), .val (.ref wR), .val (.int (0 : Int32)), .val (.int (5 : Int32)), .val (.ref wG), .val (.ref b220), .val (.int (3 : Int32)), .val (.int (115 : Int32))] [(.int (115 : Int32)), (.int (3 : Int32)), (.ref b220)])) rfl rfl (hb hby d_jdk_43_method_32_code_168)
  have V241' : Arv Z h241 b220 k220 .byte (5 : Int32) [(.int (102 : Int32)), (.int (97 : Int32)), (.int (108 : Int32)), (.int (115 : Int32)), (.int (0 : Int32))] (.int (0 : Int32)) := Arv.set Ar241 q241 S241 N241' H241 G241 rfl W241 3 rfl (Nat.le_of_ble_eq_true rfl)
  have Sf_b220' := Safe.wr W241 Sf_b220 HC.1 Sf_b220
  replace hk := Nat.le_trans hk (Keep.of_wr W241).1
  replace HC := HC.trans (CHr.wr W241 Sf_b220 HC.1)
  replace Sf_b220 := Sf_b220'
  replace V := V.other W241 ne_t_b220
  replace OL := OL.wr W241 g_b220
  have N241 := Fr.snoc X241 N240 g_b220
  replace K := K.wr W241 (Or.inr sz_b220)
  refine own_ofW st241 ?_
  show own_EndsW _ _ _ _ _ _ _ _ (T241.setTop (mkF m 169 #[.val (.ref a), .val (.ref t), .val (.ref wR), .val (.int (0 : Int32)), .val (.int (5 : Int32)), .val (.ref wG), .val (.ref b220), .val (.int (3 : Int32)), .val (.int (115 : Int32))] []))
  refine own_ofW (fun tt_ kk_ => XS.iinc X241.here hx rfl (hb hby d_jdk_43_method_32_code_169) rfl (l' := #[.val (.ref a), .val (.ref t), .val (.ref wR), .val (.int (0 : Int32)), .val (.int (5 : Int32)), .val (.ref wG), .val (.ref b220), .val (.int (4 : Int32)), .val (.int (115 : Int32))]) rfl kk_) ?_
  show own_EndsW _ _ _ _ _ _ _ _ (T241.setTop (mkF m 172 #[.val (.ref a), .val (.ref t), .val (.ref wR), .val (.int (0 : Int32)), .val (.int (5 : Int32)), .val (.ref wG), .val (.ref b220), .val (.int (4 : Int32)), .val (.int (115 : Int32))] []))
  refine own_ofW (fun tt_ kk_ => XS.goto X241.here hx rfl (pc0 := 172) (pc' := 117) rfl (hb hby d_jdk_43_method_32_code_172) (by decide) (by decide) kk_) ?_
  show own_EndsW _ _ _ _ _ _ _ _ (T241.setTop (mkF m 117 #[.val (.ref a), .val (.ref t), .val (.ref wR), .val (.int (0 : Int32)), .val (.int (5 : Int32)), .val (.ref wG), .val (.ref b220), .val (.int (4 : Int32)), .val (.int (115 : Int32))] []))
  refine own_ofW (fun tt_ kk_ => XS.iload X241.here hx rfl (hb hby d_jdk_43_method_32_code_117) rfl  kk_) ?_
  show own_EndsW _ _ _ _ _ _ _ _ (T241.setTop (mkF m 119 #[.val (.ref a), .val (.ref t), .val (.ref wR), .val (.int (0 : Int32)), .val (.int (5 : Int32)), .val (.ref wG), .val (.ref b220), .val (.int (4 : Int32)), .val (.int (115 : Int32))] [(.int (4 : Int32))]))
  refine own_ofW (fun tt_ kk_ => XS.iload X241.here hx rfl (hb hby d_jdk_43_method_32_code_119) rfl  kk_) ?_
  show own_EndsW _ _ _ _ _ _ _ _ (T241.setTop (mkF m 121 #[.val (.ref a), .val (.ref t), .val (.ref wR), .val (.int (0 : Int32)), .val (.int (5 : Int32)), .val (.ref wG), .val (.ref b220), .val (.int (4 : Int32)), .val (.int (115 : Int32))] [(.int (5 : Int32)), (.int (4 : Int32))]))
  refine own_ofW (fun tt_ kk_ => XS.icmpNo X241.here hx rfl (hb hby d_jdk_43_method_32_code_121) rfl (tlt (by decide : ((4 : Int32) < (5 : Int32)))).2.1 kk_) ?_
  show own_EndsW _ _ _ _ _ _ _ _ (T241.setTop (mkF m 124 #[.val (.ref a), .val (.ref t), .val (.ref wR), .val (.int (0 : Int32)), .val (.int (5 : Int32)), .val (.ref wG), .val (.ref b220), .val (.int (4 : Int32)), .val (.int (115 : Int32))] []))
  refine own_ofW (fun tt_ kk_ => XS.aloadN X241.here hx rfl (hb hby d_jdk_43_method_32_code_124) rfl rfl kk_) ?_
  show own_EndsW _ _ _ _ _ _ _ _ (T241.setTop (mkF m 125 #[.val (.ref a), .val (.ref t), .val (.ref wR), .val (.int (0 : Int32)), .val (.int (5 : Int32)), .val (.ref wG), .val (.ref b220), .val (.int (4 : Int32)), .val (.int (115 : Int32))] [(.ref t)]))
  refine own_ofW (fun tt_ kk_ => XS.iload X241.here hx rfl (hb hby d_jdk_43_method_32_code_125) rfl  kk_) ?_
  show own_EndsW _ _ _ _ _ _ _ _ (T241.setTop (mkF m 127 #[.val (.ref a), .val (.ref t), .val (.ref wR), .val (.int (0 : Int32)), .val (.int (5 : Int32)), .val (.ref wG), .val (.ref b220), .val (.int (4 : Int32)), .val (.int (115 : Int32))] [(.int (4 : Int32)), (.ref t)]))
  obtain ⟨cl242, Ar242, q242, S242, N242', H242, G242⟩ := id V
  have hin242 : ¬ ((4 : Int32) < 0 ∨ cl242.slots.size ≤ ((4 : Int32)).toNatClampNeg) := inb_of S242 ⟨by decide, by decide⟩
  have hat242 : cl242.slots[((4 : Int32)).toNatClampNeg]? = some (.int (101 : Int32)) := H242.at hin242 rfl
  refine own_ofW (fun tt_ kk_ => X241.baloadBytes hx (j := (4 : Int32)) (v := (.int (101 : Int32))) (by rw [e241]; exact Ar242.1) (State.isArrayOf_alike hZ.alike Ar242.2.1) Ar242.2.2 hin242 hat242 (g := (mkF m 127 #[.val (.ref a), .val (.ref t), .val (.ref wR), .val (.int (0 : Int32)), .val (.int (5 : Int32)), .val (.ref wG), .val (.ref b220), .val (.int (4 : Int32)), .val (.int (115 : Int32))] [(.int (4 : Int32)), (.ref t)])) rfl rfl (hb hby d_jdk_43_method_32_code_127) _ kk_) ?_
  show own_EndsW _ _ _ _ _ _ _ _ (T241.setTop (mkF m 128 #[.val (.ref a), .val (.ref t), .val (.ref wR), .val (.int (0 : Int32)), .val (.int (5 : Int32)), .val (.ref wG), .val (.ref b220), .val (.int (4 : Int32)), .val (.int (115 : Int32))] [(.int (101 : Int32))]))
  refine own_ofW (fun tt_ kk_ => XS.sipush X241.here hx rfl (hb hby d_jdk_43_method_32_code_128) kk_) ?_
  show own_EndsW _ _ _ _ _ _ _ _ (T241.setTop (mkF m 131 #[.val (.ref a), .val (.ref t), .val (.ref wR), .val (.int (0 : Int32)), .val (.int (5 : Int32)), .val (.ref wG), .val (.ref b220), .val (.int (4 : Int32)), .val (.int (115 : Int32))] [(.int (255 : Int32)), (.int (101 : Int32))]))
  refine own_ofW (fun tt_ kk_ => XS.iand X241.here hx rfl (hb hby d_jdk_43_method_32_code_131) rfl kk_) ?_
  show own_EndsW _ _ _ _ _ _ _ _ (T241.setTop (mkF m 132 #[.val (.ref a), .val (.ref t), .val (.ref wR), .val (.int (0 : Int32)), .val (.int (5 : Int32)), .val (.ref wG), .val (.ref b220), .val (.int (4 : Int32)), .val (.int (115 : Int32))] [(.int (101 : Int32))]))
  refine own_ofW (fun tt_ kk_ => XS.istore X241.here hx rfl (hb hby d_jdk_43_method_32_code_132) rfl (l' := #[.val (.ref a), .val (.ref t), .val (.ref wR), .val (.int (0 : Int32)), .val (.int (5 : Int32)), .val (.ref wG), .val (.ref b220), .val (.int (4 : Int32)), .val (.int (101 : Int32))]) rfl kk_) ?_
  show own_EndsW _ _ _ _ _ _ _ _ (T241.setTop (mkF m 134 #[.val (.ref a), .val (.ref t), .val (.ref wR), .val (.int (0 : Int32)), .val (.int (5 : Int32)), .val (.ref wG), .val (.ref b220), .val (.int (4 : Int32)), .val (.int (101 : Int32))] []))
  obtain ⟨T243, X243, e243, st243⟩ := getS2 X241 hx hZ hown (host := "") (Or.inl (hw _ (List.mem_of_getElem? (i := 61) rfl))) Via.refl e241 (SI.ext OL.2) (g := (mkF m 134 #[.val (.ref a), .val (.ref t), .val (.ref wR), .val (.int (0 : Int32)), .val (.int (5 : Int32)), .val (.ref wG), .val (.ref b220), .val (.int (4 : Int32)), .val (.int (101 : Int32))] [])) rfl (hb hby d_jdk_43_method_32_code_134)
  refine own_ofW st243 ?_
  show own_EndsW _ _ _ _ _ _ _ _ (T243.setTop (mkF m 137 #[.val (.ref a), .val (.ref t), .val (.ref wR), .val (.int (0 : Int32)), .val (.int (5 : Int32)), .val (.ref wG), .val (.ref b220), .val (.int (4 : Int32)), .val (.int (101 : Int32))] [(.ref wI)]))
  refine own_ofW (fun tt_ kk_ => XS.iload X243.here hx rfl (hb hby d_jdk_43_method_32_code_137) rfl  kk_) ?_
  show own_EndsW _ _ _ _ _ _ _ _ (T243.setTop (mkF m 139 #[.val (.ref a), .val (.ref t), .val (.ref wR), .val (.int (0 : Int32)), .val (.int (5 : Int32)), .val (.ref wG), .val (.ref b220), .val (.int (4 : Int32)), .val (.int (101 : Int32))] [(.int (101 : Int32)), (.ref wI)]))
  obtain ⟨v244, T244, L244, h244, X244, e244, Q244, st244⟩ := own_virtual X243 hx hZ hown e243 (EI.ext OL.2) (hw _ (List.mem_of_getElem? (i := 87) rfl)) (hw _ (List.mem_of_getElem? (i := 88) rfl)) (notFace_of_selects (args := #[]) (mvT hZ (hw _ (List.mem_of_getElem? (i := 90) rfl)))) (hw _ (List.mem_of_getElem? (i := 90) rfl)) (hw _ (List.mem_of_getElem? (i := 89) rfl)) (hw _ (List.mem_of_getElem? (i := 62) rfl)) (hw _ (List.mem_of_getElem? (i := 91) rfl)) (by decide) (argsL := [(.int (101 : Int32))]) (rest := []) (rm_low101 l Z a0 hw wI h241 n0 (Nat.le_trans Z0 K.1)) (g := (mkF m 139 #[.val (.ref a), .val (.ref t), .val (.ref wR), .val (.int (0 : Int32)), .val (.int (5 : Int32)), .val (.ref wG), .val (.ref b220), .val (.int (4 : Int32)), .val (.int (101 : Int32))] [(.int (101 : Int32)), (.ref wI)])) rfl (by rw [hml]; rfl) (lenOf pd__I_r_I rfl) rfl (by decide) (Nat.le_of_ble_eq_true rfl) (by decide) (by decide) (hb hby d_jdk_43_method_32_code_139)
  obtain ⟨rfl, Nq244, q244⟩ := Q244
  replace e244 := e244.trans q244
  have N244 := Fr.app N241 Nq244
  refine own_ofW st244 ?_
  show own_EndsW _ _ _ _ _ _ _ _ (T244.setTop (mkF m 142 #[.val (.ref a), .val (.ref t), .val (.ref wR), .val (.int (0 : Int32)), .val (.int (5 : Int32)), .val (.ref wG), .val (.ref b220), .val (.int (4 : Int32)), .val (.int (101 : Int32))] [(.int (101 : Int32))]))
  refine own_ofW (fun tt_ kk_ => XS.istore X244.here hx rfl (hb hby d_jdk_43_method_32_code_142) rfl (l' := #[.val (.ref a), .val (.ref t), .val (.ref wR), .val (.int (0 : Int32)), .val (.int (5 : Int32)), .val (.ref wG), .val (.ref b220), .val (.int (4 : Int32)), .val (.int (101 : Int32))]) rfl kk_) ?_
  show own_EndsW _ _ _ _ _ _ _ _ (T244.setTop (mkF m 144 #[.val (.ref a), .val (.ref t), .val (.ref wR), .val (.int (0 : Int32)), .val (.int (5 : Int32)), .val (.ref wG), .val (.ref b220), .val (.int (4 : Int32)), .val (.int (101 : Int32))] []))
  refine own_ofW (fun tt_ kk_ => XS.iload X244.here hx rfl (hb hby d_jdk_43_method_32_code_144) rfl  kk_) ?_
  show own_EndsW _ _ _ _ _ _ _ _ (T244.setTop (mkF m 146 #[.val (.ref a), .val (.ref t), .val (.ref wR), .val (.int (0 : Int32)), .val (.int (5 : Int32)), .val (.ref wG), .val (.ref b220), .val (.int (4 : Int32)), .val (.int (101 : Int32))] [(.int (101 : Int32))]))
  obtain ⟨v245, T245, L245, h245, X245, e245, Q245, st245⟩ := own_static X244 hx hZ hown e244 (hw _ (List.mem_of_getElem? (i := 114) rfl)) (hw _ (List.mem_of_getElem? (i := 115) rfl)) (hw _ (List.mem_of_getElem? (i := 24) rfl)) (hw _ (List.mem_of_getElem? (i := 116) rfl)) (by decide) (argsL := [(.int (101 : Int32))]) (rest := []) (rm_can l Z a0 hw (101 : Int32) h241 n0 (Nat.le_trans Z0 K.1) (by decide) (by decide)) (g := (mkF m 146 #[.val (.ref a), .val (.ref t), .val (.ref wR), .val (.int (0 : Int32)), .val (.int (5 : Int32)), .val (.ref wG), .val (.ref b220), .val (.int (4 : Int32)), .val (.int (101 : Int32))] [(.int (101 : Int32))])) rfl (by rw [hml]; rfl) (lenOf pd__I_r_Z rfl) rfl (by decide) (Nat.le_of_ble_eq_true rfl) (by decide) (by decide) (hb hby d_jdk_43_method_32_code_146)
  obtain ⟨rfl, Nq245, q245⟩ := Q245
  replace e245 := e245.trans q245
  have N245 := Fr.app N244 Nq245
  refine own_ofW st245 ?_
  show own_EndsW _ _ _ _ _ _ _ _ (T245.setTop (mkF m 149 #[.val (.ref a), .val (.ref t), .val (.ref wR), .val (.int (0 : Int32)), .val (.int (5 : Int32)), .val (.ref wG), .val (.ref b220), .val (.int (4 : Int32)), .val (.int (101 : Int32))] [(.int (1 : Int32))]))
  refine own_ofW (fun tt_ kk_ => XS.ifYes X245.here hx rfl (pc0 := 149) (pc' := 161) rfl (hb hby d_jdk_43_method_32_code_149) rfl ((if0 _ _).trans (feq (by decide : ¬ ((1 : Int32) = (0 : Int32)))).2) (by decide) (by decide) kk_) ?_
  show own_EndsW _ _ _ _ _ _ _ _ (T245.setTop (mkF m 161 #[.val (.ref a), .val (.ref t), .val (.ref wR), .val (.int (0 : Int32)), .val (.int (5 : Int32)), .val (.ref wG), .val (.ref b220), .val (.int (4 : Int32)), .val (.int (101 : Int32))] []))
  refine own_ofW (fun tt_ kk_ => XS.aload X245.here hx rfl (hb hby d_jdk_43_method_32_code_161) rfl rfl kk_) ?_
  show own_EndsW _ _ _ _ _ _ _ _ (T245.setTop (mkF m 163 #[.val (.ref a), .val (.ref t), .val (.ref wR), .val (.int (0 : Int32)), .val (.int (5 : Int32)), .val (.ref wG), .val (.ref b220), .val (.int (4 : Int32)), .val (.int (101 : Int32))] [(.ref b220)]))
  refine own_ofW (fun tt_ kk_ => XS.iload X245.here hx rfl (hb hby d_jdk_43_method_32_code_163) rfl  kk_) ?_
  show own_EndsW _ _ _ _ _ _ _ _ (T245.setTop (mkF m 165 #[.val (.ref a), .val (.ref t), .val (.ref wR), .val (.int (0 : Int32)), .val (.int (5 : Int32)), .val (.ref wG), .val (.ref b220), .val (.int (4 : Int32)), .val (.int (101 : Int32))] [(.int (4 : Int32)), (.ref b220)]))
  refine own_ofW (fun tt_ kk_ => XS.iload X245.here hx rfl (hb hby d_jdk_43_method_32_code_165) rfl  kk_) ?_
  show own_EndsW _ _ _ _ _ _ _ _ (T245.setTop (mkF m 167 #[.val (.ref a), .val (.ref t), .val (.ref wR), .val (.int (0 : Int32)), .val (.int (5 : Int32)), .val (.ref wG), .val (.ref b220), .val (.int (4 : Int32)), .val (.int (101 : Int32))] [(.int (101 : Int32)), (.int (4 : Int32)), (.ref b220)]))
  refine own_ofW (fun tt_ kk_ => XS.i2b X245.here hx rfl (hb hby d_jdk_43_method_32_code_167) rfl kk_) ?_
  show own_EndsW _ _ _ _ _ _ _ _ (T245.setTop (mkF m 168 #[.val (.ref a), .val (.ref t), .val (.ref wR), .val (.int (0 : Int32)), .val (.int (5 : Int32)), .val (.ref wG), .val (.ref b220), .val (.int (4 : Int32)), .val (.int (101 : Int32))] [(.int (101 : Int32)), (.int (4 : Int32)), (.ref b220)]))
  obtain ⟨cl246, Ar246, q246, S246, N246', H246, G246⟩ := V241'
  have hin246 : ¬ ((4 : Int32) < 0 ∨ cl246.slots.size ≤ ((4 : Int32)).toNatClampNeg) := inb_of S246 ⟨by decide, by decide⟩
  obtain ⟨T246, h246, X246, e246, W246, st246⟩ := stB X245 hx hZ e245 Ar246 (j := (4 : Int32)) hin246 (g := (mkF m 168 #[.val (.ref a), .val (.ref t), .val (.ref wR), .val (.int (0 : Int32)), .val (.int (5 : Int32)), .val (.ref wG), .val (.ref b220), .val (.int (4 : Int32)), .val (.int (101 : Int32))] [(.int (101 : Int32)), (.int (4 : Int32)), (.ref b220)])) rfl rfl (hb hby d_jdk_43_method_32_code_168)
  have V246' : Arv Z h246 b220 k220 .byte (5 : Int32) [(.int (102 : Int32)), (.int (97 : Int32)), (.int (108 : Int32)), (.int (115 : Int32)), (.int (101 : Int32))] (.int (0 : Int32)) := Arv.set Ar246 q246 S246 N246' H246 G246 rfl W246 4 rfl (Nat.le_of_ble_eq_true rfl)
  have Sf_b220' := Safe.wr W246 Sf_b220 HC.1 Sf_b220
  replace hk := Nat.le_trans hk (Keep.of_wr W246).1
  replace HC := HC.trans (CHr.wr W246 Sf_b220 HC.1)
  replace Sf_b220 := Sf_b220'
  replace V := V.other W246 ne_t_b220
  replace OL := OL.wr W246 g_b220
  have N246 := Fr.snoc X246 N245 g_b220
  replace K := K.wr W246 (Or.inr sz_b220)
  refine own_ofW st246 ?_
  show own_EndsW _ _ _ _ _ _ _ _ (T246.setTop (mkF m 169 #[.val (.ref a), .val (.ref t), .val (.ref wR), .val (.int (0 : Int32)), .val (.int (5 : Int32)), .val (.ref wG), .val (.ref b220), .val (.int (4 : Int32)), .val (.int (101 : Int32))] []))
  refine own_ofW (fun tt_ kk_ => XS.iinc X246.here hx rfl (hb hby d_jdk_43_method_32_code_169) rfl (l' := #[.val (.ref a), .val (.ref t), .val (.ref wR), .val (.int (0 : Int32)), .val (.int (5 : Int32)), .val (.ref wG), .val (.ref b220), .val (.int (5 : Int32)), .val (.int (101 : Int32))]) rfl kk_) ?_
  show own_EndsW _ _ _ _ _ _ _ _ (T246.setTop (mkF m 172 #[.val (.ref a), .val (.ref t), .val (.ref wR), .val (.int (0 : Int32)), .val (.int (5 : Int32)), .val (.ref wG), .val (.ref b220), .val (.int (5 : Int32)), .val (.int (101 : Int32))] []))
  refine own_ofW (fun tt_ kk_ => XS.goto X246.here hx rfl (pc0 := 172) (pc' := 117) rfl (hb hby d_jdk_43_method_32_code_172) (by decide) (by decide) kk_) ?_
  show own_EndsW _ _ _ _ _ _ _ _ (T246.setTop (mkF m 117 #[.val (.ref a), .val (.ref t), .val (.ref wR), .val (.int (0 : Int32)), .val (.int (5 : Int32)), .val (.ref wG), .val (.ref b220), .val (.int (5 : Int32)), .val (.int (101 : Int32))] []))
  refine own_ofW (fun tt_ kk_ => XS.iload X246.here hx rfl (hb hby d_jdk_43_method_32_code_117) rfl  kk_) ?_
  show own_EndsW _ _ _ _ _ _ _ _ (T246.setTop (mkF m 119 #[.val (.ref a), .val (.ref t), .val (.ref wR), .val (.int (0 : Int32)), .val (.int (5 : Int32)), .val (.ref wG), .val (.ref b220), .val (.int (5 : Int32)), .val (.int (101 : Int32))] [(.int (5 : Int32))]))
  refine own_ofW (fun tt_ kk_ => XS.iload X246.here hx rfl (hb hby d_jdk_43_method_32_code_119) rfl  kk_) ?_
  show own_EndsW _ _ _ _ _ _ _ _ (T246.setTop (mkF m 121 #[.val (.ref a), .val (.ref t), .val (.ref wR), .val (.int (0 : Int32)), .val (.int (5 : Int32)), .val (.ref wG), .val (.ref b220), .val (.int (5 : Int32)), .val (.int (101 : Int32))] [(.int (5 : Int32)), (.int (5 : Int32))]))
  refine own_ofW (fun tt_ kk_ => XS.icmpYes X246.here hx rfl (pc0 := 121) (pc' := 175) rfl (hb hby d_jdk_43_method_32_code_121) rfl (flt (by decide : ¬ ((5 : Int32) < (5 : Int32)))).2.1 (by decide) (by decide) kk_) ?_
  show own_EndsW _ _ _ _ _ _ _ _ (T246.setTop (mkF m 175 #[.val (.ref a), .val (.ref t), .val (.ref wR), .val (.int (0 : Int32)), .val (.int (5 : Int32)), .val (.ref wG), .val (.ref b220), .val (.int (5 : Int32)), .val (.int (101 : Int32))] []))
  obtain ⟨T247, h247, X247, e247, E247, A247, D247, -, st247⟩ := newO X246 hx hZ hown (hw _ (List.mem_of_getElem? (i := 117) rfl)) (hw _ (List.mem_of_getElem? (i := 6) rfl)) (hw _ (List.mem_of_getElem? (i := 5) rfl)) e246 (g := (mkF m 175 #[.val (.ref a), .val (.ref t), .val (.ref wR), .val (.int (0 : Int32)), .val (.int (5 : Int32)), .val (.ref wG), .val (.ref b220), .val (.int (5 : Int32)), .val (.int (101 : Int32))] [])) rfl (hb hby d_jdk_43_method_32_code_175) (by decide) (by decide)
  obtain ⟨b247, g247⟩ : ∃ z, z = h246.size := ⟨_, rfl⟩
  rw [← g247] at A247 D247 st247
  have ne_t_b247 : t ≠ b247 := Nat.ne_of_lt (Nat.lt_of_lt_of_le V.lt (Nat.le_of_eq g247.symm))
  have ne_b220_b247 : b220 ≠ b247 := Nat.ne_of_lt (Nat.lt_of_lt_of_le V246'.lt (Nat.le_of_eq g247.symm))
  have sz_b247 : h0.size ≤ b247 := Nat.le_trans K.1 (Nat.le_of_eq g247.symm)
  have g_b247 : n0 ≤ b247 := Nat.le_trans Z0 sz_b247
  have Sf_b247 : Safe Z own_EL T219.vm h246 b247 := Safe.new (Nat.le_of_eq g247.symm)
  replace Sf_b220 := Safe.ext E247 HC.1 Sf_b220
  replace Sf_b247 := Safe.ext E247 HC.1 Sf_b247
  replace hk := Nat.le_trans hk E247.1
  replace HC := HC.trans (CHr.ext E247 HC.1)
  replace V := V.ext E247
  replace OL := OL.ext E247
  replace V246' := V246'.ext E247
  have F_value_b247 : Fld Z h247 b247 "java/lang/String" "value" "[B" .null := D247 (Or.inr (hw _ (List.mem_of_getElem? (i := 8) rfl))) (ty := (.array .byte)) (by decide)
  have F_coder_b247 : Fld Z h247 b247 "java/lang/String" "coder" "B" (.int (0 : Int32)) := D247 (Or.inr (hw _ (List.mem_of_getElem? (i := 9) rfl))) (ty := .byte) (by decide)
  replace K := K.ext E247
  refine own_ofW st247 ?_
  show own_EndsW _ _ _ _ _ _ _ _ (T247.setTop (mkF m 178 #[.val (.ref a), .val (.ref t), .val (.ref wR), .val (.int (0 : Int32)), .val (.int (5 : Int32)), .val (.ref wG), .val (.ref b220), .val (.int (5 : Int32)), .val (.int (101 : Int32))] [(.ref b247)]))
  refine own_ofW (fun tt_ kk_ => XS.dup X247.here hx rfl (hb hby d_jdk_43_method_32_code_178) rfl rfl kk_) ?_
  show own_EndsW _ _ _ _ _ _ _ _ (T247.setTop (mkF m 179 #[.val (.ref a), .val (.ref t), .val (.ref wR), .val (.int (0 : Int32)), .val (.int (5 : Int32)), .val (.ref wG), .val (.ref b220), .val (.int (5 : Int32)), .val (.int (101 : Int32))] [(.ref b247), (.ref b247)]))
  refine own_ofW (fun tt_ kk_ => XS.aload X247.here hx rfl (hb hby d_jdk_43_method_32_code_179) rfl rfl kk_) ?_
  show own_EndsW _ _ _ _ _ _ _ _ (T247.setTop (mkF m 181 #[.val (.ref a), .val (.ref t), .val (.ref wR), .val (.int (0 : Int32)), .val (.int (5 : Int32)), .val (.ref wG), .val (.ref b220), .val (.int (5 : Int32)), .val (.int (101 : Int32))] [(.ref b220), (.ref b247), (.ref b247)]))
  refine own_ofW (fun tt_ kk_ => XS.iconst X247.here hx rfl (hb hby d_jdk_43_method_32_code_181) kk_) ?_
  show own_EndsW _ _ _ _ _ _ _ _ (T247.setTop (mkF m 182 #[.val (.ref a), .val (.ref t), .val (.ref wR), .val (.int (0 : Int32)), .val (.int (5 : Int32)), .val (.ref wG), .val (.ref b220), .val (.int (5 : Int32)), .val (.int (101 : Int32))] [(.int (0 : Int32)), (.ref b220), (.ref b247), (.ref b247)]))
  obtain ⟨v248, T248, L248, h248, X248, e248, Q248, st248⟩ := own_special X247 hx hZ hown e247 (b := b247) rfl (hw _ (List.mem_of_getElem? (i := 118) rfl)) (hw _ (List.mem_of_getElem? (i := 31) rfl)) (hw _ (List.mem_of_getElem? (i := 5) rfl)) (hw _ (List.mem_of_getElem? (i := 33) rfl)) (by decide) (argsL := [(.ref b220), (.int (0 : Int32))]) (rest := [(.ref b247)]) (rm_initBB l Z a0 hw b247 b220 h247 n0 (Nat.le_trans Z0 K.1) A247 F_value_b247 F_coder_b247 g_b247) (g := (mkF m 182 #[.val (.ref a), .val (.ref t), .val (.ref wR), .val (.int (0 : Int32)), .val (.int (5 : Int32)), .val (.ref wG), .val (.ref b220), .val (.int (5 : Int32)), .val (.int (101 : Int32))] [(.int (0 : Int32)), (.ref b220), (.ref b247), (.ref b247)])) rfl (by rw [hml]; rfl) (lenOf pd__ABB_r_V rfl) rfl (by decide) (Nat.le_of_ble_eq_true rfl) (by decide) (by decide) (hb hby d_jdk_43_method_32_code_182)
  obtain ⟨rfl, Nq248, Kq248, A247', F_value_b247', F_coder_b247'⟩ := Q248
  have Sf_b220' := Safe.keep Kq248 (sfS Sf_b247 sf0) HC.1 Sf_b220
  have Sf_b247' := Safe.keep Kq248 (sfS Sf_b247 sf0) HC.1 Sf_b247
  replace hk := Nat.le_trans hk Kq248.1
  replace HC := HC.trans (CHr.keep Kq248 (sfS Sf_b247 sf0) HC.1)
  replace Sf_b220 := Sf_b220'
  replace Sf_b247 := Sf_b247'
  replace V := V.keep Kq248 (ninS ne_t_b247 nin0)
  replace OL := OL.keep Kq248 (allS g_b247 all0)
  replace V246' := V246'.keep Kq248 (ninS ne_b220_b247 nin0)
  replace A247 := A247.keep Kq248
  clear A247
  have A247 := A247'
  have F_value_b247 := F_value_b247'
  have F_coder_b247 := F_coder_b247'
  replace K := K.trans Kq248 (allS (Or.inr sz_b247) all0)
  have N248 := Fr.app N246 Nq248
  refine own_ofW st248 ?_
  show own_EndsW _ _ _ _ _ _ _ _ (T248.setTop (mkF m 185 #[.val (.ref a), .val (.ref t), .val (.ref wR), .val (.int (0 : Int32)), .val (.int (5 : Int32)), .val (.ref wG), .val (.ref b220), .val (.int (5 : Int32)), .val (.int (101 : Int32))] [(.ref b247)]))
  refine own_retAW X248 hx hlk hZ hS e248 hk es hEL HC hret rfl rfl (hb hby d_jdk_43_method_32_code_185) (by decide) (by decide) ?_
  exact ⟨b247, b220, k220, rfl, N248, K, A247, F_coder_b247, F_value_b247, V246'⟩
set_option maxRecDepth 65536 in
set_option maxHeartbeats 40000000 in
theorem rm_tlc_False (l : Launch) (Z : State) (a0 : Array Value) (hw : ∀ d ∈ tables_1, d.before a0 Z = true) (a t : Addr) (k : ClassId) (G1 : Int32) (wI wA wR wB wG tG : Addr) (clA : Cell) (kG : ClassId) (h0 : Heap) (n0 : Nat) (Z0 : n0 ≤ h0.size) (hEL : EW Z a0 own_EL) (E : Exa Z h0 a "java/lang/String") (FC : Fld Z h0 a "java/lang/String" "coder" "B" (.int (0 : Int32))) (FV : Fld Z h0 a "java/lang/String" "value" "[B" (.ref t)) (V : Arv Z h0 t k .byte (5 : Int32) [(.int (70 : Int32)), (.int (97 : Int32)), (.int (108 : Int32)), (.int (115 : Int32)), (.int (101 : Int32))] (.int (0 : Int32))) (O2 : Sta Z Z.heap "java/lang/String" "COMPACT_STRINGS" "Z" (.int G1)) (P3 : ¬ (G1 = (0 : Int32))) (OL : Old Z n0 h0) (SI : Sta Z Z.heap "java/lang/CharacterDataLatin1" "instance" "Ljava/lang/CharacterDataLatin1;" (.ref wI)) (EI : Exa Z Z.heap wI "java/lang/CharacterDataLatin1") (SA : Sta Z Z.heap "java/lang/CharacterDataLatin1" "A" "[I" (.ref wA)) (AA : Arr Z Z.heap wA clA .int) (ZA : clA.slots.size = 256) (SL : Sta Z Z.heap "java/util/Locale" "ROOT" "Ljava/util/Locale;" (.ref wR)) (ER : Exa Z Z.heap wR "java/util/Locale") (FB : Fld Z Z.heap wR "java/util/Locale" "baseLocale" "Lsun/util/locale/BaseLocale;" (.ref wB)) (EB : Exa Z Z.heap wB "sun/util/locale/BaseLocale") (FG : Fld Z Z.heap wB "sun/util/locale/BaseLocale" "language" "Ljava/lang/String;" (.ref wG)) (FW : Fld Z Z.heap wG "java/lang/String" "value" "[B" (.ref tG)) (VG : Arv Z Z.heap tG kG .byte (0 : Int32) [] (.int (0 : Int32))) (A84 : clA.slots[84]? = some (.int (8552417 : Int32))) (A70 : clA.slots[70]? = some (.int (8552417 : Int32))) (A101 : clA.slots[101]? = some (.int (8486882 : Int32))) :
    own_MetW l Z own_EL (⟨"java/lang/String", "toLowerCase", "(Ljava/util/Locale;)Ljava/lang/String;"⟩ : MethodName) jdk_42_method_109_code 2 (some (.object "java/lang/String")) ({ frames := 3, cells := 8, slots := 45, locals := 52 } : Room) #[(.ref a), (.ref wR)] h0 (fun v h L => ∃ (b u : Addr) (k' : ClassId), v = some (.ref b) ∧ Fr n0 L ∧ Keep h0 h [] ∧ Exa Z h b "java/lang/String" ∧ Fld Z h b "java/lang/String" "coder" "B" (.int (0 : Int32)) ∧ Fld Z h b "java/lang/String" "value" "[B" (.ref u) ∧ Arv Z h u k' .byte (5 : Int32) [(.int (102 : Int32)), (.int (97 : Int32)), (.int (108 : Int32)), (.int (115 : Int32)), (.int (101 : Int32))] (.int (0 : Int32))) := by
  refine own_bodyW (plainFor_of_name pn_java_lang_String) ?_
  intro p e s m below meth c T0 X0 e0 es hx hby hml hown hnm hret hlk hZ hS HC
  replace hown : (s.setVm s.vm).vm.findClass "java/lang/String" = some m.cls := hown
  have N0 := Fr.nil n0
  have hk : 0 ≤ h0.size := Nat.zero_le _
  have wS : ∀ d ∈ Bundle.stringAtoms, d.before a0 Z = true := fun d hd => hw d ((by decide +kernel : ∀ d ∈ Bundle.stringAtoms, d ∈ tables_1) d hd)
  refine own_ofW (fun tt_ kk_ => castTop (ef_jdk_42_method_109_codeRR m a wR) kk_) ?_
  have K := Keep.refl h0 []
  show own_EndsW _ _ _ _ _ _ _ _ (T0.setTop (mkF m 0 #[.val (.ref a), .val (.ref wR)] []))
  refine own_ofW (fun tt_ kk_ => XS.aloadN X0.here hx rfl (hb hby d_jdk_42_method_109_code_0) rfl rfl kk_) ?_
  show own_EndsW _ _ _ _ _ _ _ _ (T0.setTop (mkF m 1 #[.val (.ref a), .val (.ref wR)] [(.ref a)]))
  obtain ⟨v249, T249, L249, h249, X249, e249, Q249, st249⟩ := own_virtual X0 hx hZ hown e0 E (hw _ (List.mem_of_getElem? (i := 47) rfl)) (hw _ (List.mem_of_getElem? (i := 48) rfl)) (notFace_of_selects (args := #[]) (mvT hZ (hw _ (List.mem_of_getElem? (i := 50) rfl)))) (hw _ (List.mem_of_getElem? (i := 50) rfl)) (hw _ (List.mem_of_getElem? (i := 49) rfl)) (hw _ (List.mem_of_getElem? (i := 5) rfl)) (hw _ (List.mem_of_getElem? (i := 51) rfl)) (by decide) (argsL := []) (rest := []) (rm_isl l Z a0 hw a G1 h0 n0 (Nat.le_trans Z0 K.1) FC O2 P3 OL) (g := (mkF m 1 #[.val (.ref a), .val (.ref wR)] [(.ref a)])) rfl (by rw [hml]; rfl) (lenOf pd___r_Z rfl) rfl (by decide) (Nat.le_of_ble_eq_true rfl) (by decide) (by decide) (hb hby d_jdk_42_method_109_code_1)
  obtain ⟨rfl, Nq249, q249⟩ := Q249
  replace e249 := e249.trans q249
  have N249 := Fr.app N0 Nq249
  refine own_ofW st249 ?_
  show own_EndsW _ _ _ _ _ _ _ _ (T249.setTop (mkF m 4 #[.val (.ref a), .val (.ref wR)] [(.int (1 : Int32))]))
  refine own_ofW (fun tt_ kk_ => XS.ifNo X249.here hx rfl (hb hby d_jdk_42_method_109_code_4) rfl ((if0 _ _).trans (feq (by decide : ¬ ((1 : Int32) = (0 : Int32)))).1) kk_) ?_
  show own_EndsW _ _ _ _ _ _ _ _ (T249.setTop (mkF m 7 #[.val (.ref a), .val (.ref wR)] []))
  refine own_ofW (fun tt_ kk_ => XS.aloadN X249.here hx rfl (hb hby d_jdk_42_method_109_code_7) rfl rfl kk_) ?_
  show own_EndsW _ _ _ _ _ _ _ _ (T249.setTop (mkF m 8 #[.val (.ref a), .val (.ref wR)] [(.ref a)]))
  refine own_ofW (fun tt_ kk_ => XS.aloadN X249.here hx rfl (hb hby d_jdk_42_method_109_code_8) rfl rfl kk_) ?_
  show own_EndsW _ _ _ _ _ _ _ _ (T249.setTop (mkF m 9 #[.val (.ref a), .val (.ref wR)] [(.ref a), (.ref a)]))
  obtain ⟨T250, X250, e250, st250⟩ := getF X249 hx hZ hown (host := "") (Or.inl (hw _ (List.mem_of_getElem? (i := 37) rfl))) Via.refl e249 FV (g := (mkF m 9 #[.val (.ref a), .val (.ref wR)] [(.ref a), (.ref a)])) rfl rfl (hb hby d_jdk_42_method_109_code_9)
  refine own_ofW st250 ?_
  show own_EndsW _ _ _ _ _ _ _ _ (T250.setTop (mkF m 12 #[.val (.ref a), .val (.ref wR)] [(.ref t), (.ref a)]))
  refine own_ofW (fun tt_ kk_ => XS.aloadN X250.here hx rfl (hb hby d_jdk_42_method_109_code_12) rfl rfl kk_) ?_
  show own_EndsW _ _ _ _ _ _ _ _ (T250.setTop (mkF m 13 #[.val (.ref a), .val (.ref wR)] [(.ref wR), (.ref t), (.ref a)]))
  obtain ⟨v251, T251, L251, h251, k251', X251, e251, Q251, hZ, hown, hS, hk, HCq251, st251⟩ := own_staticW X250 hx hZ hown e250 hS hk hEL HC.1 (hw _ (List.mem_of_getElem? (i := 84) rfl)) (hw _ (List.mem_of_getElem? (i := 85) rfl)) (hw _ (List.mem_of_getElem? (i := 24) rfl)) (hw _ (List.mem_of_getElem? (i := 86) rfl)) (by decide) (argsL := [(.ref a), (.ref t), (.ref wR)]) (rest := []) (rm_tlc1_False l Z a0 hw a t k G1 wI wA wR wB wG tG clA kG h0 n0 (Nat.le_trans Z0 K.1) hEL V O2 P3 OL SI EI SA AA ZA SL ER FB EB FG FW VG A84 A70 A101) (g := (mkF m 13 #[.val (.ref a), .val (.ref wR)] [(.ref wR), (.ref t), (.ref a)])) rfl (by rw [hml]; rfl) (lenOf pd__Ljava_lang_String_ABLjava_util_Locale__r_Ljava_lang_String_ rfl) rfl (by decide) (Nat.le_of_ble_eq_true rfl) (by decide) (by decide) (hb hby d_jdk_42_method_109_code_13)
  replace HC := HC.trans HCq251
  obtain ⟨b251, u251, k251, rfl, Nq251, Kq251, Es251, Cs251, Fs251, Vs251⟩ := Q251
  replace E := E.keep Kq251
  replace FC := FC.keep Kq251 nin0
  replace FV := FV.keep Kq251 nin0
  replace V := V.keep Kq251 nin0
  replace OL := OL.keep Kq251 all0
  replace K := K.trans Kq251 all0
  have N251 := Fr.app N249 Nq251
  refine own_ofW st251 ?_
  show own_EndsW _ _ _ _ _ _ _ _ (T251.setTop (mkF m 16 #[.val (.ref a), .val (.ref wR)] [(.ref b251)]))
  refine own_ofW (fun tt_ kk_ => XS.goto X251.here hx rfl (pc0 := 16) (pc' := 28) rfl (hb hby d_jdk_42_method_109_code_16) (by decide) (by decide) kk_) ?_
  show own_EndsW _ _ _ _ _ _ _ _ (T251.setTop (mkF m 28 #[.val (.ref a), .val (.ref wR)] [(.ref b251)]))
  refine own_retAW X251 hx hlk hZ hS e251 hk es hEL HC hret rfl rfl (hb hby d_jdk_42_method_109_code_28) (by decide) (by decide) ?_
  exact ⟨b251, u251, k251, rfl, N251, K, Es251, Cs251, Fs251, Vs251⟩
theorem d_prog_63_method_4_code_9 : decode prog_63_method_4_code 9 = .ok (.ldc 64, 2) := by decide +kernel
set_option maxRecDepth 65536 in
set_option maxHeartbeats 40000000 in
theorem rm_text_False (l : Launch) (Z : State) (a0 : Array Value) (hw : ∀ d ∈ tables_1, d.before a0 Z = true)  (h0 : Heap) (n0 : Nat) (Z0 : n0 ≤ h0.size) (hEL : EW Z a0 own_EL) :
    own_MetW l Z own_EL (⟨"com/example/libenq/libenq/wire/FieldValues", "truthText", "(Z)Ljava/lang/String;"⟩ : MethodName) prog_63_method_4_code 1 (some (.object "java/lang/String")) ({ frames := 0, cells := 2, slots := 24, locals := 0 } : Room) #[(.int (0 : Int32))] h0 (fun v h L => ∃ (b u : Addr) (k' : ClassId), v = some (.ref b) ∧ Fr n0 L ∧ Keep h0 h [] ∧ Exa Z h b "java/lang/String" ∧ Fld Z h b "java/lang/String" "coder" "B" (.int (0 : Int32)) ∧ Fld Z h b "java/lang/String" "value" "[B" (.ref u) ∧ Arv Z h u k' .byte (5 : Int32) [(.int (70 : Int32)), (.int (97 : Int32)), (.int (108 : Int32)), (.int (115 : Int32)), (.int (101 : Int32))] (.int (0 : Int32))) := by
  refine own_bodyW (plainFor_of_name pn_com_example_libenq_libenq_wire_FieldValues) ?_
  intro p e s m below meth c T0 X0 e0 es hx hby hml hown hnm hret hlk hZ hS HC
  replace hown : (s.setVm s.vm).vm.findClass "com/example/libenq/libenq/wire/FieldValues" = some m.cls := hown
  have N0 := Fr.nil n0
  have hk : 0 ≤ h0.size := Nat.zero_le _
  have wS : ∀ d ∈ Bundle.stringAtoms, d.before a0 Z = true := fun d hd => hw d ((by decide +kernel : ∀ d ∈ Bundle.stringAtoms, d ∈ tables_1) d hd)
  refine own_ofW (fun tt_ kk_ => castTop (ef_prog_63_method_4_codeI m (0 : Int32)) kk_) ?_
  have K := Keep.refl h0 []
  show own_EndsW _ _ _ _ _ _ _ _ (T0.setTop (mkF m 0 #[.val (.int (0 : Int32))] []))
  refine own_ofW (fun tt_ kk_ => XS.iloadN X0.here hx rfl (hb hby d_prog_63_method_4_code_0) rfl  kk_) ?_
  show own_EndsW _ _ _ _ _ _ _ _ (T0.setTop (mkF m 1 #[.val (.int (0 : Int32))] [(.int (0 : Int32))]))
  refine own_ofW (fun tt_ kk_ => XS.ifYes X0.here hx rfl (pc0 := 1) (pc' := 9) rfl (hb hby d_prog_63_method_4_code_1) rfl ((if0 _ _).trans (teq (by decide : ((0 : Int32) = (0 : Int32)))).1) (by decide) (by decide) kk_) ?_
  show own_EndsW _ _ _ _ _ _ _ _ (T0.setTop (mkF m 9 #[.val (.int (0 : Int32))] []))
  obtain ⟨a252, T252, h252, k252', t252, kb252, X252, e252, E252, hS, hk, hZ, hown, Es252, Cs252, Fs252, Vs252, la252, lt252, HCq252, Lt252, Sf252, st252⟩ := ldcCH X0 hx hZ hown (hw _ (List.mem_of_getElem? (i := 4) rfl)) wS e0 hS hk hEL (by decide +kernel) HC.1 (vs := [(.int (70 : Int32)), (.int (97 : Int32)), (.int (108 : Int32)), (.int (115 : Int32)), (.int (101 : Int32))]) (z := (5 : Int32)) (by decide +kernel) (by decide) (by decide) (g := (mkF m 9 #[.val (.int (0 : Int32))] [])) rfl (hb hby d_prog_63_method_4_code_9) (n := 20) (by decide +kernel) (by decide) (by decide) (by decide)
  replace HC := HC.trans HCq252
  replace K := K.ext E252
  refine own_ofW st252 ?_
  show own_EndsW _ _ _ _ _ _ _ _ (T252.setTop (mkF m 11 #[.val (.int (0 : Int32))] [(.ref a252)]))
  refine own_retAW X252 hx hlk hZ hS e252 hk es hEL HC hret rfl rfl (hb hby d_prog_63_method_4_code_11) (by decide) (by decide) ?_
  exact ⟨a252, t252, kb252, rfl, N0, K, Es252, Cs252, Fs252, Vs252⟩
theorem d_prog_63_method_5_code_22 : decode prog_63_method_5_code 22 = .ok (.aload_n 2, 1) := by decide +kernel
theorem d_prog_63_method_5_code_23 : decode prog_63_method_5_code 23 = .ok (.ldc 78, 2) := by decide +kernel
theorem d_prog_63_method_5_code_25 : decode prog_63_method_5_code 25 = .ok (.invokevirtual 49, 3) := by decide +kernel
theorem d_prog_63_method_5_code_28 : decode prog_63_method_5_code 28 = .ok (.ifCond .eq 5, 3) := by decide +kernel
theorem d_prog_63_method_5_code_31 : decode prog_63_method_5_code 31 = .ok (.iconst 0, 1) := by decide +kernel
theorem d_prog_63_method_5_code_32 : decode prog_63_method_5_code 32 = .ok (.ireturn, 1) := by decide +kernel
set_option maxRecDepth 65536 in
set_option maxHeartbeats 40000000 in
theorem rm_val_False (l : Launch) (Z : State) (a0 : Array Value) (hw : ∀ d ∈ tables_1, d.before a0 Z = true) (x0 a t : Addr) (k : ClassId) (G1 : Int32) (wI wA wR wB wG tG : Addr) (clA : Cell) (kG : ClassId) (h0 : Heap) (n0 : Nat) (Z0 : n0 ≤ h0.size) (hEL : EW Z a0 own_EL) (E : Exa Z h0 a "java/lang/String") (FC : Fld Z h0 a "java/lang/String" "coder" "B" (.int (0 : Int32))) (FV : Fld Z h0 a "java/lang/String" "value" "[B" (.ref t)) (V : Arv Z h0 t k .byte (5 : Int32) [(.int (70 : Int32)), (.int (97 : Int32)), (.int (108 : Int32)), (.int (115 : Int32)), (.int (101 : Int32))] (.int (0 : Int32))) (O2 : Sta Z Z.heap "java/lang/String" "COMPACT_STRINGS" "Z" (.int G1)) (P3 : ¬ (G1 = (0 : Int32))) (OL : Old Z n0 h0) (SI : Sta Z Z.heap "java/lang/CharacterDataLatin1" "instance" "Ljava/lang/CharacterDataLatin1;" (.ref wI)) (EI : Exa Z Z.heap wI "java/lang/CharacterDataLatin1") (SA : Sta Z Z.heap "java/lang/CharacterDataLatin1" "A" "[I" (.ref wA)) (AA : Arr Z Z.heap wA clA .int) (ZA : clA.slots.size = 256) (SL : Sta Z Z.heap "java/util/Locale" "ROOT" "Ljava/util/Locale;" (.ref wR)) (ER : Exa Z Z.heap wR "java/util/Locale") (FB : Fld Z Z.heap wR "java/util/Locale" "baseLocale" "Lsun/util/locale/BaseLocale;" (.ref wB)) (EB : Exa Z Z.heap wB "sun/util/locale/BaseLocale") (FG : Fld Z Z.heap wB "sun/util/locale/BaseLocale" "language" "Ljava/lang/String;" (.ref wG)) (FW : Fld Z Z.heap wG "java/lang/String" "value" "[B" (.ref tG)) (VG : Arv Z Z.heap tG kG .byte (0 : Int32) [] (.int (0 : Int32))) (A84 : clA.slots[84]? = some (.int (8552417 : Int32))) (A70 : clA.slots[70]? = some (.int (8552417 : Int32))) (A101 : clA.slots[101]? = some (.int (8486882 : Int32))) :
    own_MetW l Z own_EL (⟨"com/example/libenq/libenq/wire/FieldValues", "truthValue", "(Ljava/lang/String;Ljava/lang/String;)Z"⟩ : MethodName) prog_63_method_5_code 3 (some .boolean) ({ frames := 5, cells := 12, slots := 89, locals := 72 } : Room) #[(.ref x0), (.ref a)] h0 (fun v h L => v = some (.int (0 : Int32)) ∧ Fr n0 L ∧ Keep h0 h []) := by
  refine own_bodyW (plainFor_of_name pn_com_example_libenq_libenq_wire_FieldValues) ?_
  intro p e s m below meth c T0 X0 e0 es hx hby hml hown hnm hret hlk hZ hS HC
  replace hown : (s.setVm s.vm).vm.findClass "com/example/libenq/libenq/wire/FieldValues" = some m.cls := hown
  have N0 := Fr.nil n0
  have hk : 0 ≤ h0.size := Nat.zero_le _
  have wS : ∀ d ∈ Bundle.stringAtoms, d.before a0 Z = true := fun d hd => hw d ((by decide +kernel : ∀ d ∈ Bundle.stringAtoms, d ∈ tables_1) d hd)
  refine own_ofW (fun tt_ kk_ => castTop (ef_prog_63_method_5_codeRR m x0 a) kk_) ?_
  have K := Keep.refl h0 []
  show own_EndsW _ _ _ _ _ _ _ _ (T0.setTop (mkF m 0 #[.val (.ref x0), .val (.ref a), .unset] []))
  refine own_ofW (fun tt_ kk_ => XS.aloadN X0.here hx rfl (hb hby d_prog_63_method_5_code_0) rfl rfl kk_) ?_
  show own_EndsW _ _ _ _ _ _ _ _ (T0.setTop (mkF m 1 #[.val (.ref x0), .val (.ref a), .unset] [(.ref a)]))
  obtain ⟨v253, T253, L253, h253, X253, e253, Q253, st253⟩ := own_virtual X0 hx hZ hown e0 E (hw _ (List.mem_of_getElem? (i := 42) rfl)) (hw _ (List.mem_of_getElem? (i := 43) rfl)) (notFace_of_selects (args := #[]) (mvT hZ (hw _ (List.mem_of_getElem? (i := 45) rfl)))) (hw _ (List.mem_of_getElem? (i := 45) rfl)) (hw _ (List.mem_of_getElem? (i := 44) rfl)) (hw _ (List.mem_of_getElem? (i := 5) rfl)) (hw _ (List.mem_of_getElem? (i := 46) rfl)) (by decide) (argsL := []) (rest := []) (rm_strip_False l Z a0 hw a t k G1 wI wA wR wB wG tG clA kG h0 n0 (Nat.le_trans Z0 K.1) E FC FV V O2 P3 OL SI EI SA AA ZA SL ER FB EB FG FW VG A84 A70 A101) (g := (mkF m 1 #[.val (.ref x0), .val (.ref a), .unset] [(.ref a)])) rfl (by rw [hml]; rfl) (lenOf pd___r_Ljava_lang_String_ rfl) rfl (by decide) (Nat.le_of_ble_eq_true rfl) (by decide) (by decide) (hb hby d_prog_63_method_5_code_1)
  obtain ⟨rfl, Nq253, q253⟩ := Q253
  replace e253 := e253.trans q253
  have N253 := Fr.app N0 Nq253
  refine own_ofW st253 ?_
  show own_EndsW _ _ _ _ _ _ _ _ (T253.setTop (mkF m 4 #[.val (.ref x0), .val (.ref a), .unset] [(.ref a)]))
  obtain ⟨T254, X254, e254, st254⟩ := getS2 X253 hx hZ hown (host := "") (Or.inl (hw _ (List.mem_of_getElem? (i := 77) rfl))) Via.refl e253 (SL.ext OL.2) (g := (mkF m 4 #[.val (.ref x0), .val (.ref a), .unset] [(.ref a)])) rfl (hb hby d_prog_63_method_5_code_4)
  refine own_ofW st254 ?_
  show own_EndsW _ _ _ _ _ _ _ _ (T254.setTop (mkF m 7 #[.val (.ref x0), .val (.ref a), .unset] [(.ref wR), (.ref a)]))
  obtain ⟨v255, T255, L255, h255, k255', X255, e255, Q255, hZ, hown, hS, hk, HCq255, st255⟩ := own_virtualW X254 hx hZ hown e254 hS hk hEL HC.1 E (hw _ (List.mem_of_getElem? (i := 79) rfl)) (hw _ (List.mem_of_getElem? (i := 80) rfl)) (notFace_of_selects (args := #[]) (mvT hZ (hw _ (List.mem_of_getElem? (i := 82) rfl)))) (hw _ (List.mem_of_getElem? (i := 82) rfl)) (hw _ (List.mem_of_getElem? (i := 81) rfl)) (hw _ (List.mem_of_getElem? (i := 5) rfl)) (hw _ (List.mem_of_getElem? (i := 83) rfl)) (by decide) (argsL := [(.ref wR)]) (rest := []) (rm_tlc_False l Z a0 hw a t k G1 wI wA wR wB wG tG clA kG h0 n0 (Nat.le_trans Z0 K.1) hEL E FC FV V O2 P3 OL SI EI SA AA ZA SL ER FB EB FG FW VG A84 A70 A101) (g := (mkF m 7 #[.val (.ref x0), .val (.ref a), .unset] [(.ref wR), (.ref a)])) rfl (by rw [hml]; rfl) (lenOf pd__Ljava_util_Locale__r_Ljava_lang_String_ rfl) rfl (by decide) (Nat.le_of_ble_eq_true rfl) (by decide) (by decide) (hb hby d_prog_63_method_5_code_7)
  replace HC := HC.trans HCq255
  obtain ⟨b255, u255, k255, rfl, Nq255, Kq255, Es255, Cs255, Fs255, Vs255⟩ := Q255
  replace E := E.keep Kq255
  replace FC := FC.keep Kq255 nin0
  replace FV := FV.keep Kq255 nin0
  replace V := V.keep Kq255 nin0
  replace OL := OL.keep Kq255 all0
  replace K := K.trans Kq255 all0
  have N255 := Fr.app N253 Nq255
  refine own_ofW st255 ?_
  show own_EndsW _ _ _ _ _ _ _ _ (T255.setTop (mkF m 10 #[.val (.ref x0), .val (.ref a), .unset] [(.ref b255)]))
  refine own_ofW (fun tt_ kk_ => XS.astoreN X255.here hx rfl (hb hby d_prog_63_method_5_code_10) rfl rfl (l' := #[.val (.ref x0), .val (.ref a), .val (.ref b255)]) rfl kk_) ?_
  show own_EndsW _ _ _ _ _ _ _ _ (T255.setTop (mkF m 11 #[.val (.ref x0), .val (.ref a), .val (.ref b255)] []))
  refine own_ofW (fun tt_ kk_ => XS.aloadN X255.here hx rfl (hb hby d_prog_63_method_5_code_11) rfl rfl kk_) ?_
  show own_EndsW _ _ _ _ _ _ _ _ (T255.setTop (mkF m 12 #[.val (.ref x0), .val (.ref a), .val (.ref b255)] [(.ref b255)]))
  obtain ⟨a256, T256, h256, k256', t256, kb256, X256, e256, E256, hS, hk, hZ, hown, Es256, Cs256, Fs256, Vs256, la256, lt256, HCq256, Lt256, Sf256, st256⟩ := ldcCH X255 hx hZ hown (hw _ (List.mem_of_getElem? (i := 119) rfl)) wS e255 hS hk hEL (by decide +kernel) HC.1 (vs := [(.int (116 : Int32)), (.int (114 : Int32)), (.int (117 : Int32)), (.int (101 : Int32))]) (z := (4 : Int32)) (by decide +kernel) (by decide) (by decide) (g := (mkF m 12 #[.val (.ref x0), .val (.ref a), .val (.ref b255)] [(.ref b255)])) rfl (hb hby d_prog_63_method_5_code_12) (n := 16) (by decide +kernel) (by decide) (by decide) (by decide)
  replace HC := HC.trans HCq256
  replace E := E.ext E256
  replace FC := FC.ext E256
  replace FV := FV.ext E256
  replace V := V.ext E256
  replace OL := OL.ext E256
  replace Es255 := Es255.ext E256
  replace Cs255 := Cs255.ext E256
  replace Fs255 := Fs255.ext E256
  replace Vs255 := Vs255.ext E256
  replace K := K.ext E256
  refine own_ofW st256 ?_
  show own_EndsW _ _ _ _ _ _ _ _ (T256.setTop (mkF m 14 #[.val (.ref x0), .val (.ref a), .val (.ref b255)] [(.ref a256), (.ref b255)]))
  obtain ⟨v257, T257, L257, h257, X257, e257, Q257, st257⟩ := own_virtual X256 hx hZ hown e256 Es255 (hw _ (List.mem_of_getElem? (i := 120) rfl)) (hw _ (List.mem_of_getElem? (i := 14) rfl)) (notFace_of_selects (args := #[]) (mvT hZ (hw _ (List.mem_of_getElem? (i := 16) rfl)))) (hw _ (List.mem_of_getElem? (i := 16) rfl)) (hw _ (List.mem_of_getElem? (i := 15) rfl)) (hw _ (List.mem_of_getElem? (i := 5) rfl)) (hw _ (List.mem_of_getElem? (i := 17) rfl)) (by decide) (argsL := [(.ref a256)]) (rest := []) (rm_eq_false_true l Z a0 hw b255 a256 u255 t256 k255 kb256 G1 h256 n0 (Nat.le_trans Z0 K.1) Es255 Cs255 Fs255 Vs255 Es256 Cs256 Fs256 Vs256 O2 P3 OL) (g := (mkF m 14 #[.val (.ref x0), .val (.ref a), .val (.ref b255)] [(.ref a256), (.ref b255)])) rfl (by rw [hml]; rfl) (lenOf pd__Ljava_lang_Object__r_Z rfl) rfl (by decide) (Nat.le_of_ble_eq_true rfl) (by decide) (by decide) (hb hby d_prog_63_method_5_code_14)
  obtain ⟨rfl, Nq257, q257⟩ := Q257
  replace e257 := e257.trans q257
  have N257 := Fr.app N255 Nq257
  refine own_ofW st257 ?_
  show own_EndsW _ _ _ _ _ _ _ _ (T257.setTop (mkF m 17 #[.val (.ref x0), .val (.ref a), .val (.ref b255)] [(.int (0 : Int32))]))
  refine own_ofW (fun tt_ kk_ => XS.ifYes X257.here hx rfl (pc0 := 17) (pc' := 22) rfl (hb hby d_prog_63_method_5_code_17) rfl ((if0 _ _).trans (teq (by decide : ((0 : Int32) = (0 : Int32)))).1) (by decide) (by decide) kk_) ?_
  show own_EndsW _ _ _ _ _ _ _ _ (T257.setTop (mkF m 22 #[.val (.ref x0), .val (.ref a), .val (.ref b255)] []))
  refine own_ofW (fun tt_ kk_ => XS.aloadN X257.here hx rfl (hb hby d_prog_63_method_5_code_22) rfl rfl kk_) ?_
  show own_EndsW _ _ _ _ _ _ _ _ (T257.setTop (mkF m 23 #[.val (.ref x0), .val (.ref a), .val (.ref b255)] [(.ref b255)]))
  obtain ⟨a258, T258, h258, k258', t258, kb258, X258, e258, E258, hS, hk, hZ, hown, Es258, Cs258, Fs258, Vs258, la258, lt258, HCq258, Lt258, Sf258, st258⟩ := ldcCH X257 hx hZ hown (hw _ (List.mem_of_getElem? (i := 124) rfl)) wS e257 hS hk hEL (by decide +kernel) HC.1 (vs := [(.int (102 : Int32)), (.int (97 : Int32)), (.int (108 : Int32)), (.int (115 : Int32)), (.int (101 : Int32))]) (z := (5 : Int32)) (by decide +kernel) (by decide) (by decide) (g := (mkF m 23 #[.val (.ref x0), .val (.ref a), .val (.ref b255)] [(.ref b255)])) rfl (hb hby d_prog_63_method_5_code_23) (n := 20) (by decide +kernel) (by decide) (by decide) (by decide)
  replace HC := HC.trans HCq258
  replace E := E.ext E258
  replace FC := FC.ext E258
  replace FV := FV.ext E258
  replace V := V.ext E258
  replace OL := OL.ext E258
  replace Es255 := Es255.ext E258
  replace Cs255 := Cs255.ext E258
  replace Fs255 := Fs255.ext E258
  replace Vs255 := Vs255.ext E258
  replace Es256 := Es256.ext E258
  replace Cs256 := Cs256.ext E258
  replace Fs256 := Fs256.ext E258
  replace Vs256 := Vs256.ext E258
  replace K := K.ext E258
  refine own_ofW st258 ?_
  show own_EndsW _ _ _ _ _ _ _ _ (T258.setTop (mkF m 25 #[.val (.ref x0), .val (.ref a), .val (.ref b255)] [(.ref a258), (.ref b255)]))
  obtain ⟨v259, T259, L259, h259, X259, e259, Q259, st259⟩ := own_virtual X258 hx hZ hown e258 Es255 (hw _ (List.mem_of_getElem? (i := 120) rfl)) (hw _ (List.mem_of_getElem? (i := 14) rfl)) (notFace_of_selects (args := #[]) (mvT hZ (hw _ (List.mem_of_getElem? (i := 16) rfl)))) (hw _ (List.mem_of_getElem? (i := 16) rfl)) (hw _ (List.mem_of_getElem? (i := 15) rfl)) (hw _ (List.mem_of_getElem? (i := 5) rfl)) (hw _ (List.mem_of_getElem? (i := 17) rfl)) (by decide) (argsL := [(.ref a258)]) (rest := []) (rm_eq_false_false l Z a0 hw b255 a258 u255 t258 k255 kb258 G1 h258 n0 (Nat.le_trans Z0 K.1) Es255 Cs255 Fs255 Vs255 Es258 Cs258 Fs258 Vs258 O2 P3 OL) (g := (mkF m 25 #[.val (.ref x0), .val (.ref a), .val (.ref b255)] [(.ref a258), (.ref b255)])) rfl (by rw [hml]; rfl) (lenOf pd__Ljava_lang_Object__r_Z rfl) rfl (by decide) (Nat.le_of_ble_eq_true rfl) (by decide) (by decide) (hb hby d_prog_63_method_5_code_25)
  obtain ⟨rfl, Nq259, q259⟩ := Q259
  replace e259 := e259.trans q259
  have N259 := Fr.app N257 Nq259
  refine own_ofW st259 ?_
  show own_EndsW _ _ _ _ _ _ _ _ (T259.setTop (mkF m 28 #[.val (.ref x0), .val (.ref a), .val (.ref b255)] [(.int (1 : Int32))]))
  refine own_ofW (fun tt_ kk_ => XS.ifNo X259.here hx rfl (hb hby d_prog_63_method_5_code_28) rfl ((if0 _ _).trans (feq (by decide : ¬ ((1 : Int32) = (0 : Int32)))).1) kk_) ?_
  show own_EndsW _ _ _ _ _ _ _ _ (T259.setTop (mkF m 31 #[.val (.ref x0), .val (.ref a), .val (.ref b255)] []))
  refine own_ofW (fun tt_ kk_ => XS.iconst X259.here hx rfl (hb hby d_prog_63_method_5_code_31) kk_) ?_
  show own_EndsW _ _ _ _ _ _ _ _ (T259.setTop (mkF m 32 #[.val (.ref x0), .val (.ref a), .val (.ref b255)] [(.int (0 : Int32))]))
  refine own_retNW X259 hx hlk hZ hS e259 hk es hEL HC (t := .boolean) hret (by simp) (z' := (0 : Int32)) rfl (hb hby d_prog_63_method_5_code_32) (by decide) (by decide) ?_
  exact ⟨rfl, N259, K⟩
theorem pd__Z_r_Ljava_lang_String_ : parseMethodDescriptor "(Z)Ljava/lang/String;" = some ⟨[.boolean], some (.object "java/lang/String")⟩ := by decide +kernel
theorem pd__C_r_Ljava_lang_String_ : parseMethodDescriptor "(C)Ljava/lang/String;" = some ⟨[.char], some (.object "java/lang/String")⟩ := by decide +kernel
theorem pd__Ljava_lang_String_Ljava_lang_String__r_Z : parseMethodDescriptor "(Ljava/lang/String;Ljava/lang/String;)Z" = some ⟨[(.object "java/lang/String"), (.object "java/lang/String")], some .boolean⟩ := by decide +kernel
theorem pn_com_example_libenq_libenq_wire_FieldValuesTruthTextPinLaw : plainName "com/example/libenq/libenq/wire/FieldValuesTruthTextPinLaw" = true := by first | (simp [plainName, overriddenIn]; done) | decide +kernel
theorem ef_codeII (m : MethodId) (z0 : Int32) (z1 : Int32) : entryFrame m #[(.int z0), (.int z1)] maxLocals = mkF m 0 #[.val (.int z0), .val (.int z1), .unset, .unset, .unset, .unset] [] := by first | (simp [entryFrame, mkF, argsToLocals, Value.category, maxLocals]; done) | rfl
set_option maxRecDepth 65536 in
set_option maxHeartbeats 40000000 in
theorem rm0 (l : Launch) (Z : State) (a0 : Array Value) (hw : ∀ d ∈ tables_1, d.before a0 Z = true) (p1 p2 : Int32) (G1 : Int32) (wI wA wR wB wG tG : Addr) (clA : Cell) (kG : ClassId) (h0 : Heap) (n0 : Nat) (Z0 : n0 ≤ h0.size) (hEL : EW Z a0 own_EL) (O2 : Sta Z Z.heap "java/lang/String" "COMPACT_STRINGS" "Z" (.int G1)) (P3 : ¬ (G1 = (0 : Int32))) (OL : Old Z n0 h0) (SI : Sta Z Z.heap "java/lang/CharacterDataLatin1" "instance" "Ljava/lang/CharacterDataLatin1;" (.ref wI)) (EI : Exa Z Z.heap wI "java/lang/CharacterDataLatin1") (SA : Sta Z Z.heap "java/lang/CharacterDataLatin1" "A" "[I" (.ref wA)) (AA : Arr Z Z.heap wA clA .int) (ZA : clA.slots.size = 256) (SL : Sta Z Z.heap "java/util/Locale" "ROOT" "Ljava/util/Locale;" (.ref wR)) (ER : Exa Z Z.heap wR "java/util/Locale") (FB : Fld Z Z.heap wR "java/util/Locale" "baseLocale" "Lsun/util/locale/BaseLocale;" (.ref wB)) (EB : Exa Z Z.heap wB "sun/util/locale/BaseLocale") (FG : Fld Z Z.heap wB "sun/util/locale/BaseLocale" "language" "Ljava/lang/String;" (.ref wG)) (FW : Fld Z Z.heap wG "java/lang/String" "value" "[B" (.ref tG)) (VG : Arv Z Z.heap tG kG .byte (0 : Int32) [] (.int (0 : Int32))) (A84 : clA.slots[84]? = some (.int (8552417 : Int32))) (A70 : clA.slots[70]? = some (.int (8552417 : Int32))) (A101 : clA.slots[101]? = some (.int (8486882 : Int32))) :
    own_MetW l Z own_EL x code maxLocals ret room_1 #[(.int p1), (.int p2)] h0 (fun v h L => v = some (.int 1) ∧ Fr n0 L) := by
  refine own_bodyW (plainFor_of_name pn_com_example_libenq_libenq_wire_FieldValuesTruthTextPinLaw) ?_
  intro p e s m below meth c T0 X0 e0 es hx hby hml hown hnm hret hlk hZ hS HC
  replace hown : (s.setVm s.vm).vm.findClass "com/example/libenq/libenq/wire/FieldValuesTruthTextPinLaw" = some m.cls := hown
  have N0 := Fr.nil n0
  have hk : 0 ≤ h0.size := Nat.zero_le _
  have wS : ∀ d ∈ Bundle.stringAtoms, d.before a0 Z = true := fun d hd => hw d ((by decide +kernel : ∀ d ∈ Bundle.stringAtoms, d ∈ tables_1) d hd)
  refine own_ofW (fun tt_ kk_ => castTop (ef_codeII m p1 p2) kk_) ?_
  have K := Keep.refl h0 []
  show own_EndsW _ _ _ _ _ _ _ _ (T0.setTop (mkF m 0 #[.val (.int p1), .val (.int p2), .unset, .unset, .unset, .unset] []))
  refine own_ofW (fun tt_ kk_ => XS.iloadN X0.here hx rfl (hb hby at_0) rfl  kk_) ?_
  show own_EndsW _ _ _ _ _ _ _ _ (T0.setTop (mkF m 1 #[.val (.int p1), .val (.int p2), .unset, .unset, .unset, .unset] [(.int p1)]))
  refine own_ofW (fun tt_ kk_ => XS.iconst X0.here hx rfl (hb hby at_1) kk_) ?_
  show own_EndsW _ _ _ _ _ _ _ _ (T0.setTop (mkF m 2 #[.val (.int p1), .val (.int p2), .unset, .unset, .unset, .unset] [(.int (1 : Int32)), (.int p1)]))
  refine own_ofW (fun tt_ kk_ => XS.iand X0.here hx rfl (hb hby at_2) rfl kk_) ?_
  show own_EndsW _ _ _ _ _ _ _ _ (T0.setTop (mkF m 3 #[.val (.int p1), .val (.int p2), .unset, .unset, .unset, .unset] [(.int (p1 &&& (1 : Int32)))]))
  by_cases hc260 : (p1 &&& (1 : Int32)) = (0 : Int32)
  · refine own_ofW (fun tt_ kk_ => XS.ifYes X0.here hx rfl (pc0 := 3) (pc' := 10) rfl (hb hby at_3) rfl ((if0 _ _).trans (teq hc260).1) (by decide) (by decide) kk_) ?_
    show own_EndsW _ _ _ _ _ _ _ _ (T0.setTop (mkF m 10 #[.val (.int p1), .val (.int p2), .unset, .unset, .unset, .unset] []))
    refine own_ofW (fun tt_ kk_ => XS.iconst X0.here hx rfl (hb hby at_10) kk_) ?_
    show own_EndsW _ _ _ _ _ _ _ _ (T0.setTop (mkF m 11 #[.val (.int p1), .val (.int p2), .unset, .unset, .unset, .unset] [(.int (0 : Int32))]))
    refine own_ofW (fun tt_ kk_ => XS.istoreN X0.here hx rfl (hb hby at_11) rfl (l' := #[.val (.int p1), .val (.int p2), .val (.int (0 : Int32)), .unset, .unset, .unset]) rfl kk_) ?_
    show own_EndsW _ _ _ _ _ _ _ _ (T0.setTop (mkF m 12 #[.val (.int p1), .val (.int p2), .val (.int (0 : Int32)), .unset, .unset, .unset] []))
    refine own_ofW (fun tt_ kk_ => XS.iloadN X0.here hx rfl (hb hby at_12) rfl  kk_) ?_
    show own_EndsW _ _ _ _ _ _ _ _ (T0.setTop (mkF m 13 #[.val (.int p1), .val (.int p2), .val (.int (0 : Int32)), .unset, .unset, .unset] [(.int (0 : Int32))]))
    obtain ⟨v261, T261, L261, h261, k261', X261, e261, Q261, hZ, hown, hS, hk, HCq261, st261⟩ := own_staticW X0 hx hZ hown e0 hS hk hEL HC.1 (hw _ (List.mem_of_getElem? (i := 0) rfl)) (hw _ (List.mem_of_getElem? (i := 1) rfl)) (hw _ (List.mem_of_getElem? (i := 2) rfl)) (hw _ (List.mem_of_getElem? (i := 3) rfl)) (by decide) (argsL := [(.int (0 : Int32))]) (rest := []) (rm_text_False l Z a0 hw h0 n0 (Nat.le_trans Z0 K.1) hEL) (g := (mkF m 13 #[.val (.int p1), .val (.int p2), .val (.int (0 : Int32)), .unset, .unset, .unset] [(.int (0 : Int32))])) rfl (by rw [hml]; rfl) (lenOf pd__Z_r_Ljava_lang_String_ rfl) rfl (by decide) (Nat.le_of_ble_eq_true rfl) (by decide) (by decide) (hb hby at_13)
    replace HC := HC.trans HCq261
    obtain ⟨b261, u261, k261, rfl, Nq261, Kq261, Es261, Cs261, Fs261, Vs261⟩ := Q261
    replace OL := OL.keep Kq261 all0
    replace K := K.trans Kq261 all0
    have N261 := Fr.app N0 Nq261
    refine own_ofW st261 ?_
    show own_EndsW _ _ _ _ _ _ _ _ (T261.setTop (mkF m 16 #[.val (.int p1), .val (.int p2), .val (.int (0 : Int32)), .unset, .unset, .unset] [(.ref b261)]))
    refine own_ofW (fun tt_ kk_ => XS.astoreN X261.here hx rfl (hb hby at_16) rfl rfl (l' := #[.val (.int p1), .val (.int p2), .val (.int (0 : Int32)), .val (.ref b261), .unset, .unset]) rfl kk_) ?_
    show own_EndsW _ _ _ _ _ _ _ _ (T261.setTop (mkF m 17 #[.val (.int p1), .val (.int p2), .val (.int (0 : Int32)), .val (.ref b261), .unset, .unset] []))
    refine own_ofW (fun tt_ kk_ => XS.iloadN X261.here hx rfl (hb hby at_17) rfl  kk_) ?_
    show own_EndsW _ _ _ _ _ _ _ _ (T261.setTop (mkF m 18 #[.val (.int p1), .val (.int p2), .val (.int (0 : Int32)), .val (.ref b261), .unset, .unset] [(.int (0 : Int32))]))
    refine own_ofW (fun tt_ kk_ => XS.ifYes X261.here hx rfl (pc0 := 18) (pc' := 26) rfl (hb hby at_18) rfl ((if0 _ _).trans (teq (by decide : ((0 : Int32) = (0 : Int32)))).1) (by decide) (by decide) kk_) ?_
    show own_EndsW _ _ _ _ _ _ _ _ (T261.setTop (mkF m 26 #[.val (.int p1), .val (.int p2), .val (.int (0 : Int32)), .val (.ref b261), .unset, .unset] []))
    obtain ⟨a262, T262, h262, k262', t262, kb262, X262, e262, E262, hS, hk, hZ, hown, Es262, Cs262, Fs262, Vs262, la262, lt262, HCq262, Lt262, Sf262, st262⟩ := ldcCH X261 hx hZ hown (hw _ (List.mem_of_getElem? (i := 12) rfl)) wS e261 hS hk hEL (by decide +kernel) HC.1 (vs := [(.int (70 : Int32)), (.int (97 : Int32)), (.int (108 : Int32)), (.int (115 : Int32)), (.int (101 : Int32))]) (z := (5 : Int32)) (by decide +kernel) (by decide) (by decide) (g := (mkF m 26 #[.val (.int p1), .val (.int p2), .val (.int (0 : Int32)), .val (.ref b261), .unset, .unset] [])) rfl (hb hby at_26) (n := 20) (by decide +kernel) (by decide) (by decide) (by decide)
    replace HC := HC.trans HCq262
    replace OL := OL.ext E262
    replace Es261 := Es261.ext E262
    replace Cs261 := Cs261.ext E262
    replace Fs261 := Fs261.ext E262
    replace Vs261 := Vs261.ext E262
    replace K := K.ext E262
    refine own_ofW st262 ?_
    show own_EndsW _ _ _ _ _ _ _ _ (T262.setTop (mkF m 28 #[.val (.int p1), .val (.int p2), .val (.int (0 : Int32)), .val (.ref b261), .unset, .unset] [(.ref a262)]))
    refine own_ofW (fun tt_ kk_ => XS.astore X262.here hx rfl (hb hby at_28) rfl rfl (l' := #[.val (.int p1), .val (.int p2), .val (.int (0 : Int32)), .val (.ref b261), .val (.ref a262), .unset]) rfl kk_) ?_
    show own_EndsW _ _ _ _ _ _ _ _ (T262.setTop (mkF m 30 #[.val (.int p1), .val (.int p2), .val (.int (0 : Int32)), .val (.ref b261), .val (.ref a262), .unset] []))
    refine own_ofW (fun tt_ kk_ => XS.aload X262.here hx rfl (hb hby at_30) rfl rfl kk_) ?_
    show own_EndsW _ _ _ _ _ _ _ _ (T262.setTop (mkF m 32 #[.val (.int p1), .val (.int p2), .val (.int (0 : Int32)), .val (.ref b261), .val (.ref a262), .unset] [(.ref a262)]))
    refine own_ofW (fun tt_ kk_ => XS.aloadN X262.here hx rfl (hb hby at_32) rfl rfl kk_) ?_
    show own_EndsW _ _ _ _ _ _ _ _ (T262.setTop (mkF m 33 #[.val (.int p1), .val (.int p2), .val (.int (0 : Int32)), .val (.ref b261), .val (.ref a262), .unset] [(.ref b261), (.ref a262)]))
    obtain ⟨v263, T263, L263, h263, X263, e263, Q263, st263⟩ := own_virtual X262 hx hZ hown e262 Es262 (hw _ (List.mem_of_getElem? (i := 13) rfl)) (hw _ (List.mem_of_getElem? (i := 14) rfl)) (notFace_of_selects (args := #[]) (mvT hZ (hw _ (List.mem_of_getElem? (i := 16) rfl)))) (hw _ (List.mem_of_getElem? (i := 16) rfl)) (hw _ (List.mem_of_getElem? (i := 15) rfl)) (hw _ (List.mem_of_getElem? (i := 5) rfl)) (hw _ (List.mem_of_getElem? (i := 17) rfl)) (by decide) (argsL := [(.ref b261)]) (rest := []) (rm_eq_False_False l Z a0 hw a262 b261 t262 u261 kb262 k261 G1 h262 n0 (Nat.le_trans Z0 K.1) Es262 Cs262 Fs262 Vs262 Es261 Cs261 Fs261 Vs261 O2 P3 OL) (g := (mkF m 33 #[.val (.int p1), .val (.int p2), .val (.int (0 : Int32)), .val (.ref b261), .val (.ref a262), .unset] [(.ref b261), (.ref a262)])) rfl (by rw [hml]; rfl) (lenOf pd__Ljava_lang_Object__r_Z rfl) rfl (by decide) (Nat.le_of_ble_eq_true rfl) (by decide) (by decide) (hb hby at_33)
    obtain ⟨rfl, Nq263, q263⟩ := Q263
    replace e263 := e263.trans q263
    have N263 := Fr.app N261 Nq263
    refine own_ofW st263 ?_
    show own_EndsW _ _ _ _ _ _ _ _ (T263.setTop (mkF m 36 #[.val (.int p1), .val (.int p2), .val (.int (0 : Int32)), .val (.ref b261), .val (.ref a262), .unset] [(.int (1 : Int32))]))
    refine own_ofW (fun tt_ kk_ => XS.ifYes X263.here hx rfl (pc0 := 36) (pc' := 41) rfl (hb hby at_36) rfl ((if0 _ _).trans (feq (by decide : ¬ ((1 : Int32) = (0 : Int32)))).2) (by decide) (by decide) kk_) ?_
    show own_EndsW _ _ _ _ _ _ _ _ (T263.setTop (mkF m 41 #[.val (.int p1), .val (.int p2), .val (.int (0 : Int32)), .val (.ref b261), .val (.ref a262), .unset] []))
    refine own_ofW (fun tt_ kk_ => XS.iloadN X263.here hx rfl (hb hby at_41) rfl  kk_) ?_
    show own_EndsW _ _ _ _ _ _ _ _ (T263.setTop (mkF m 42 #[.val (.int p1), .val (.int p2), .val (.int (0 : Int32)), .val (.ref b261), .val (.ref a262), .unset] [(.int p2)]))
    refine own_ofW (fun tt_ kk_ => XS.sipush X263.here hx rfl (hb hby at_42) kk_) ?_
    show own_EndsW _ _ _ _ _ _ _ _ (T263.setTop (mkF m 45 #[.val (.int p1), .val (.int p2), .val (.int (0 : Int32)), .val (.ref b261), .val (.ref a262), .unset] [(.int (255 : Int32)), (.int p2)]))
    refine own_ofW (fun tt_ kk_ => XS.iand X263.here hx rfl (hb hby at_45) rfl kk_) ?_
    show own_EndsW _ _ _ _ _ _ _ _ (T263.setTop (mkF m 46 #[.val (.int p1), .val (.int p2), .val (.int (0 : Int32)), .val (.ref b261), .val (.ref a262), .unset] [(.int (p2 &&& (255 : Int32)))]))
    refine own_ofW (fun tt_ kk_ => XS.i2c X263.here hx rfl (hb hby at_46) rfl kk_) ?_
    show own_EndsW _ _ _ _ _ _ _ _ (T263.setTop (mkF m 47 #[.val (.int p1), .val (.int p2), .val (.int (0 : Int32)), .val (.ref b261), .val (.ref a262), .unset] [(.int ((p2 &&& (255 : Int32)).toUInt32.toUInt16.toUInt32.toInt32))]))
    obtain ⟨c1, hc1⟩ : ∃ z : Int32, z = ((p2 &&& (255 : Int32)).toUInt32.toUInt16.toUInt32.toInt32) := ⟨_, rfl⟩
    rw [← hc1]
    have lat_c1 : ¬ c1 < 0 ∧ ¬ (255 : Int32) < c1 := by rw [hc1, i2c_mask]; exact own_lat p2
    show own_EndsW _ _ _ _ _ _ _ _ (T263.setTop (mkF m 47 #[.val (.int p1), .val (.int p2), .val (.int (0 : Int32)), .val (.ref b261), .val (.ref a262), .unset] [(.int c1)]))
    obtain ⟨v264, T264, L264, h264, X264, e264, Q264, st264⟩ := own_static X263 hx hZ hown e263 (hw _ (List.mem_of_getElem? (i := 18) rfl)) (hw _ (List.mem_of_getElem? (i := 19) rfl)) (hw _ (List.mem_of_getElem? (i := 5) rfl)) (hw _ (List.mem_of_getElem? (i := 20) rfl)) (by decide) (argsL := [(.int c1)]) (rest := []) (rm_valueOf l Z a0 hw c1 G1 h262 n0 (Nat.le_trans Z0 K.1) O2 P3 OL lat_c1.2) (g := (mkF m 47 #[.val (.int p1), .val (.int p2), .val (.int (0 : Int32)), .val (.ref b261), .val (.ref a262), .unset] [(.int c1)])) rfl (by rw [hml]; rfl) (lenOf pd__C_r_Ljava_lang_String_ rfl) rfl (by decide) (Nat.le_of_ble_eq_true rfl) (by decide) (by decide) (hb hby at_47)
    obtain ⟨a264, t264, k264, rfl, Nq264, Kq264, szq_a264, szq_t264, ne_a264_t264, Es264, Fs264, Cs264, Vs264⟩ := Q264
    have ne_b261_a264 : b261 ≠ a264 := Nat.ne_of_lt (Nat.lt_of_lt_of_le Es261.lt szq_a264)
    have ne_u261_a264 : u261 ≠ a264 := Nat.ne_of_lt (Nat.lt_of_lt_of_le Vs261.lt szq_a264)
    have ne_a262_a264 : a262 ≠ a264 := Nat.ne_of_lt (Nat.lt_of_lt_of_le Es262.lt szq_a264)
    have ne_t262_a264 : t262 ≠ a264 := Nat.ne_of_lt (Nat.lt_of_lt_of_le Vs262.lt szq_a264)
    have sz_a264 : h0.size ≤ a264 := Nat.le_trans K.1 szq_a264
    have g_a264 : n0 ≤ a264 := Nat.le_trans Z0 sz_a264
    have ne_b261_t264 : b261 ≠ t264 := Nat.ne_of_lt (Nat.lt_of_lt_of_le Es261.lt szq_t264)
    have ne_u261_t264 : u261 ≠ t264 := Nat.ne_of_lt (Nat.lt_of_lt_of_le Vs261.lt szq_t264)
    have ne_a262_t264 : a262 ≠ t264 := Nat.ne_of_lt (Nat.lt_of_lt_of_le Es262.lt szq_t264)
    have ne_t262_t264 : t262 ≠ t264 := Nat.ne_of_lt (Nat.lt_of_lt_of_le Vs262.lt szq_t264)
    have sz_t264 : h0.size ≤ t264 := Nat.le_trans K.1 szq_t264
    have g_t264 : n0 ≤ t264 := Nat.le_trans Z0 sz_t264
    replace hk := Nat.le_trans hk Kq264.1
    replace HC := HC.trans (CHr.keep Kq264 sf0 HC.1)
    replace OL := OL.keep Kq264 all0
    replace Es261 := Es261.keep Kq264
    replace Cs261 := Cs261.keep Kq264 nin0
    replace Fs261 := Fs261.keep Kq264 nin0
    replace Vs261 := Vs261.keep Kq264 nin0
    replace Es262 := Es262.keep Kq264
    replace Cs262 := Cs262.keep Kq264 nin0
    replace Fs262 := Fs262.keep Kq264 nin0
    replace Vs262 := Vs262.keep Kq264 nin0
    replace K := K.trans Kq264 all0
    have N264 := Fr.app N263 Nq264
    refine own_ofW st264 ?_
    show own_EndsW _ _ _ _ _ _ _ _ (T264.setTop (mkF m 50 #[.val (.int p1), .val (.int p2), .val (.int (0 : Int32)), .val (.ref b261), .val (.ref a262), .unset] [(.ref a264)]))
    refine own_ofW (fun tt_ kk_ => XS.astore X264.here hx rfl (hb hby at_50) rfl rfl (l' := #[.val (.int p1), .val (.int p2), .val (.int (0 : Int32)), .val (.ref b261), .val (.ref a262), .val (.ref a264)]) rfl kk_) ?_
    show own_EndsW _ _ _ _ _ _ _ _ (T264.setTop (mkF m 52 #[.val (.int p1), .val (.int p2), .val (.int (0 : Int32)), .val (.ref b261), .val (.ref a262), .val (.ref a264)] []))
    refine own_ofW (fun tt_ kk_ => XS.aload X264.here hx rfl (hb hby at_52) rfl rfl kk_) ?_
    show own_EndsW _ _ _ _ _ _ _ _ (T264.setTop (mkF m 54 #[.val (.int p1), .val (.int p2), .val (.int (0 : Int32)), .val (.ref b261), .val (.ref a262), .val (.ref a264)] [(.ref a264)]))
    refine own_ofW (fun tt_ kk_ => XS.aloadN X264.here hx rfl (hb hby at_54) rfl rfl kk_) ?_
    show own_EndsW _ _ _ _ _ _ _ _ (T264.setTop (mkF m 55 #[.val (.int p1), .val (.int p2), .val (.int (0 : Int32)), .val (.ref b261), .val (.ref a262), .val (.ref a264)] [(.ref b261), (.ref a264)]))
    obtain ⟨v265, T265, L265, h265, k265', X265, e265, Q265, hZ, hown, hS, hk, HCq265, st265⟩ := own_staticW X264 hx hZ hown e264 hS hk hEL HC.1 (hw _ (List.mem_of_getElem? (i := 39) rfl)) (hw _ (List.mem_of_getElem? (i := 40) rfl)) (hw _ (List.mem_of_getElem? (i := 2) rfl)) (hw _ (List.mem_of_getElem? (i := 41) rfl)) (by decide) (argsL := [(.ref a264), (.ref b261)]) (rest := []) (rm_val_False l Z a0 hw a264 b261 u261 k261 G1 wI wA wR wB wG tG clA kG h264 n0 (Nat.le_trans Z0 K.1) hEL Es261 Cs261 Fs261 Vs261 O2 P3 OL SI EI SA AA ZA SL ER FB EB FG FW VG A84 A70 A101) (g := (mkF m 55 #[.val (.int p1), .val (.int p2), .val (.int (0 : Int32)), .val (.ref b261), .val (.ref a262), .val (.ref a264)] [(.ref b261), (.ref a264)])) rfl (by rw [hml]; rfl) (lenOf pd__Ljava_lang_String_Ljava_lang_String__r_Z rfl) rfl (by decide) (Nat.le_of_ble_eq_true rfl) (by decide) (by decide) (hb hby at_55)
    replace HC := HC.trans HCq265
    obtain ⟨rfl, Nq265, Kq265⟩ := Q265
    replace OL := OL.keep Kq265 all0
    replace Es261 := Es261.keep Kq265
    replace Cs261 := Cs261.keep Kq265 nin0
    replace Fs261 := Fs261.keep Kq265 nin0
    replace Vs261 := Vs261.keep Kq265 nin0
    replace Es262 := Es262.keep Kq265
    replace Cs262 := Cs262.keep Kq265 nin0
    replace Fs262 := Fs262.keep Kq265 nin0
    replace Vs262 := Vs262.keep Kq265 nin0
    replace Es264 := Es264.keep Kq265
    replace Fs264 := Fs264.keep Kq265 nin0
    replace Cs264 := Cs264.keep Kq265 nin0
    replace Vs264 := Vs264.keep Kq265 nin0
    replace K := K.trans Kq265 all0
    have N265 := Fr.app N264 Nq265
    refine own_ofW st265 ?_
    show own_EndsW _ _ _ _ _ _ _ _ (T265.setTop (mkF m 58 #[.val (.int p1), .val (.int p2), .val (.int (0 : Int32)), .val (.ref b261), .val (.ref a262), .val (.ref a264)] [(.int (0 : Int32))]))
    refine own_ofW (fun tt_ kk_ => XS.iloadN X265.here hx rfl (hb hby at_58) rfl  kk_) ?_
    show own_EndsW _ _ _ _ _ _ _ _ (T265.setTop (mkF m 59 #[.val (.int p1), .val (.int p2), .val (.int (0 : Int32)), .val (.ref b261), .val (.ref a262), .val (.ref a264)] [(.int (0 : Int32)), (.int (0 : Int32))]))
    refine own_ofW (fun tt_ kk_ => XS.icmpNo X265.here hx rfl (hb hby at_59) rfl (teq (by decide : ((0 : Int32) = (0 : Int32)))).2 kk_) ?_
    show own_EndsW _ _ _ _ _ _ _ _ (T265.setTop (mkF m 62 #[.val (.int p1), .val (.int p2), .val (.int (0 : Int32)), .val (.ref b261), .val (.ref a262), .val (.ref a264)] []))
    refine own_ofW (fun tt_ kk_ => XS.iconst X265.here hx rfl (hb hby at_62) kk_) ?_
    show own_EndsW _ _ _ _ _ _ _ _ (T265.setTop (mkF m 63 #[.val (.int p1), .val (.int p2), .val (.int (0 : Int32)), .val (.ref b261), .val (.ref a262), .val (.ref a264)] [(.int (1 : Int32))]))
    refine own_ofW (fun tt_ kk_ => XS.goto X265.here hx rfl (pc0 := 63) (pc' := 67) rfl (hb hby at_63) (by decide) (by decide) kk_) ?_
    show own_EndsW _ _ _ _ _ _ _ _ (T265.setTop (mkF m 67 #[.val (.int p1), .val (.int p2), .val (.int (0 : Int32)), .val (.ref b261), .val (.ref a262), .val (.ref a264)] [(.int (1 : Int32))]))
    refine own_retNW X265 hx hlk hZ hS e265 hk es hEL HC (t := .boolean) hret (by simp) (z' := (1 : Int32)) rfl (hb hby at_67) (by decide) (by decide) ?_
    exact ⟨rfl, N265⟩
  · refine own_ofW (fun tt_ kk_ => XS.ifNo X0.here hx rfl (hb hby at_3) rfl ((if0 _ _).trans (feq hc260).1) kk_) ?_
    show own_EndsW _ _ _ _ _ _ _ _ (T0.setTop (mkF m 6 #[.val (.int p1), .val (.int p2), .unset, .unset, .unset, .unset] []))
    refine own_ofW (fun tt_ kk_ => XS.iconst X0.here hx rfl (hb hby at_6) kk_) ?_
    show own_EndsW _ _ _ _ _ _ _ _ (T0.setTop (mkF m 7 #[.val (.int p1), .val (.int p2), .unset, .unset, .unset, .unset] [(.int (1 : Int32))]))
    refine own_ofW (fun tt_ kk_ => XS.goto X0.here hx rfl (pc0 := 7) (pc' := 11) rfl (hb hby at_7) (by decide) (by decide) kk_) ?_
    show own_EndsW _ _ _ _ _ _ _ _ (T0.setTop (mkF m 11 #[.val (.int p1), .val (.int p2), .unset, .unset, .unset, .unset] [(.int (1 : Int32))]))
    refine own_ofW (fun tt_ kk_ => XS.istoreN X0.here hx rfl (hb hby at_11) rfl (l' := #[.val (.int p1), .val (.int p2), .val (.int (1 : Int32)), .unset, .unset, .unset]) rfl kk_) ?_
    show own_EndsW _ _ _ _ _ _ _ _ (T0.setTop (mkF m 12 #[.val (.int p1), .val (.int p2), .val (.int (1 : Int32)), .unset, .unset, .unset] []))
    refine own_ofW (fun tt_ kk_ => XS.iloadN X0.here hx rfl (hb hby at_12) rfl  kk_) ?_
    show own_EndsW _ _ _ _ _ _ _ _ (T0.setTop (mkF m 13 #[.val (.int p1), .val (.int p2), .val (.int (1 : Int32)), .unset, .unset, .unset] [(.int (1 : Int32))]))
    obtain ⟨v266, T266, L266, h266, k266', X266, e266, Q266, hZ, hown, hS, hk, HCq266, st266⟩ := own_staticW X0 hx hZ hown e0 hS hk hEL HC.1 (hw _ (List.mem_of_getElem? (i := 0) rfl)) (hw _ (List.mem_of_getElem? (i := 1) rfl)) (hw _ (List.mem_of_getElem? (i := 2) rfl)) (hw _ (List.mem_of_getElem? (i := 3) rfl)) (by decide) (argsL := [(.int (1 : Int32))]) (rest := []) (rm_text_True l Z a0 hw h0 n0 (Nat.le_trans Z0 K.1) hEL) (g := (mkF m 13 #[.val (.int p1), .val (.int p2), .val (.int (1 : Int32)), .unset, .unset, .unset] [(.int (1 : Int32))])) rfl (by rw [hml]; rfl) (lenOf pd__Z_r_Ljava_lang_String_ rfl) rfl (by decide) (Nat.le_of_ble_eq_true rfl) (by decide) (by decide) (hb hby at_13)
    replace HC := HC.trans HCq266
    obtain ⟨b266, u266, k266, rfl, Nq266, Kq266, Es266, Cs266, Fs266, Vs266⟩ := Q266
    replace OL := OL.keep Kq266 all0
    replace K := K.trans Kq266 all0
    have N266 := Fr.app N0 Nq266
    refine own_ofW st266 ?_
    show own_EndsW _ _ _ _ _ _ _ _ (T266.setTop (mkF m 16 #[.val (.int p1), .val (.int p2), .val (.int (1 : Int32)), .unset, .unset, .unset] [(.ref b266)]))
    refine own_ofW (fun tt_ kk_ => XS.astoreN X266.here hx rfl (hb hby at_16) rfl rfl (l' := #[.val (.int p1), .val (.int p2), .val (.int (1 : Int32)), .val (.ref b266), .unset, .unset]) rfl kk_) ?_
    show own_EndsW _ _ _ _ _ _ _ _ (T266.setTop (mkF m 17 #[.val (.int p1), .val (.int p2), .val (.int (1 : Int32)), .val (.ref b266), .unset, .unset] []))
    refine own_ofW (fun tt_ kk_ => XS.iloadN X266.here hx rfl (hb hby at_17) rfl  kk_) ?_
    show own_EndsW _ _ _ _ _ _ _ _ (T266.setTop (mkF m 18 #[.val (.int p1), .val (.int p2), .val (.int (1 : Int32)), .val (.ref b266), .unset, .unset] [(.int (1 : Int32))]))
    refine own_ofW (fun tt_ kk_ => XS.ifNo X266.here hx rfl (hb hby at_18) rfl ((if0 _ _).trans (feq (by decide : ¬ ((1 : Int32) = (0 : Int32)))).1) kk_) ?_
    show own_EndsW _ _ _ _ _ _ _ _ (T266.setTop (mkF m 21 #[.val (.int p1), .val (.int p2), .val (.int (1 : Int32)), .val (.ref b266), .unset, .unset] []))
    obtain ⟨a267, T267, h267, k267', t267, kb267, X267, e267, E267, hS, hk, hZ, hown, Es267, Cs267, Fs267, Vs267, la267, lt267, HCq267, Lt267, Sf267, st267⟩ := ldcCH X266 hx hZ hown (hw _ (List.mem_of_getElem? (i := 126) rfl)) wS e266 hS hk hEL (by decide +kernel) HC.1 (vs := [(.int (84 : Int32)), (.int (114 : Int32)), (.int (117 : Int32)), (.int (101 : Int32))]) (z := (4 : Int32)) (by decide +kernel) (by decide) (by decide) (g := (mkF m 21 #[.val (.int p1), .val (.int p2), .val (.int (1 : Int32)), .val (.ref b266), .unset, .unset] [])) rfl (hb hby at_21) (n := 16) (by decide +kernel) (by decide) (by decide) (by decide)
    replace HC := HC.trans HCq267
    replace OL := OL.ext E267
    replace Es266 := Es266.ext E267
    replace Cs266 := Cs266.ext E267
    replace Fs266 := Fs266.ext E267
    replace Vs266 := Vs266.ext E267
    replace K := K.ext E267
    refine own_ofW st267 ?_
    show own_EndsW _ _ _ _ _ _ _ _ (T267.setTop (mkF m 23 #[.val (.int p1), .val (.int p2), .val (.int (1 : Int32)), .val (.ref b266), .unset, .unset] [(.ref a267)]))
    refine own_ofW (fun tt_ kk_ => XS.goto X267.here hx rfl (pc0 := 23) (pc' := 28) rfl (hb hby at_23) (by decide) (by decide) kk_) ?_
    show own_EndsW _ _ _ _ _ _ _ _ (T267.setTop (mkF m 28 #[.val (.int p1), .val (.int p2), .val (.int (1 : Int32)), .val (.ref b266), .unset, .unset] [(.ref a267)]))
    refine own_ofW (fun tt_ kk_ => XS.astore X267.here hx rfl (hb hby at_28) rfl rfl (l' := #[.val (.int p1), .val (.int p2), .val (.int (1 : Int32)), .val (.ref b266), .val (.ref a267), .unset]) rfl kk_) ?_
    show own_EndsW _ _ _ _ _ _ _ _ (T267.setTop (mkF m 30 #[.val (.int p1), .val (.int p2), .val (.int (1 : Int32)), .val (.ref b266), .val (.ref a267), .unset] []))
    refine own_ofW (fun tt_ kk_ => XS.aload X267.here hx rfl (hb hby at_30) rfl rfl kk_) ?_
    show own_EndsW _ _ _ _ _ _ _ _ (T267.setTop (mkF m 32 #[.val (.int p1), .val (.int p2), .val (.int (1 : Int32)), .val (.ref b266), .val (.ref a267), .unset] [(.ref a267)]))
    refine own_ofW (fun tt_ kk_ => XS.aloadN X267.here hx rfl (hb hby at_32) rfl rfl kk_) ?_
    show own_EndsW _ _ _ _ _ _ _ _ (T267.setTop (mkF m 33 #[.val (.int p1), .val (.int p2), .val (.int (1 : Int32)), .val (.ref b266), .val (.ref a267), .unset] [(.ref b266), (.ref a267)]))
    obtain ⟨v268, T268, L268, h268, X268, e268, Q268, st268⟩ := own_virtual X267 hx hZ hown e267 Es267 (hw _ (List.mem_of_getElem? (i := 13) rfl)) (hw _ (List.mem_of_getElem? (i := 14) rfl)) (notFace_of_selects (args := #[]) (mvT hZ (hw _ (List.mem_of_getElem? (i := 16) rfl)))) (hw _ (List.mem_of_getElem? (i := 16) rfl)) (hw _ (List.mem_of_getElem? (i := 15) rfl)) (hw _ (List.mem_of_getElem? (i := 5) rfl)) (hw _ (List.mem_of_getElem? (i := 17) rfl)) (by decide) (argsL := [(.ref b266)]) (rest := []) (rm_eq_True_True l Z a0 hw a267 b266 t267 u266 kb267 k266 G1 h267 n0 (Nat.le_trans Z0 K.1) Es267 Cs267 Fs267 Vs267 Es266 Cs266 Fs266 Vs266 O2 P3 OL) (g := (mkF m 33 #[.val (.int p1), .val (.int p2), .val (.int (1 : Int32)), .val (.ref b266), .val (.ref a267), .unset] [(.ref b266), (.ref a267)])) rfl (by rw [hml]; rfl) (lenOf pd__Ljava_lang_Object__r_Z rfl) rfl (by decide) (Nat.le_of_ble_eq_true rfl) (by decide) (by decide) (hb hby at_33)
    obtain ⟨rfl, Nq268, q268⟩ := Q268
    replace e268 := e268.trans q268
    have N268 := Fr.app N266 Nq268
    refine own_ofW st268 ?_
    show own_EndsW _ _ _ _ _ _ _ _ (T268.setTop (mkF m 36 #[.val (.int p1), .val (.int p2), .val (.int (1 : Int32)), .val (.ref b266), .val (.ref a267), .unset] [(.int (1 : Int32))]))
    refine own_ofW (fun tt_ kk_ => XS.ifYes X268.here hx rfl (pc0 := 36) (pc' := 41) rfl (hb hby at_36) rfl ((if0 _ _).trans (feq (by decide : ¬ ((1 : Int32) = (0 : Int32)))).2) (by decide) (by decide) kk_) ?_
    show own_EndsW _ _ _ _ _ _ _ _ (T268.setTop (mkF m 41 #[.val (.int p1), .val (.int p2), .val (.int (1 : Int32)), .val (.ref b266), .val (.ref a267), .unset] []))
    refine own_ofW (fun tt_ kk_ => XS.iloadN X268.here hx rfl (hb hby at_41) rfl  kk_) ?_
    show own_EndsW _ _ _ _ _ _ _ _ (T268.setTop (mkF m 42 #[.val (.int p1), .val (.int p2), .val (.int (1 : Int32)), .val (.ref b266), .val (.ref a267), .unset] [(.int p2)]))
    refine own_ofW (fun tt_ kk_ => XS.sipush X268.here hx rfl (hb hby at_42) kk_) ?_
    show own_EndsW _ _ _ _ _ _ _ _ (T268.setTop (mkF m 45 #[.val (.int p1), .val (.int p2), .val (.int (1 : Int32)), .val (.ref b266), .val (.ref a267), .unset] [(.int (255 : Int32)), (.int p2)]))
    refine own_ofW (fun tt_ kk_ => XS.iand X268.here hx rfl (hb hby at_45) rfl kk_) ?_
    show own_EndsW _ _ _ _ _ _ _ _ (T268.setTop (mkF m 46 #[.val (.int p1), .val (.int p2), .val (.int (1 : Int32)), .val (.ref b266), .val (.ref a267), .unset] [(.int (p2 &&& (255 : Int32)))]))
    refine own_ofW (fun tt_ kk_ => XS.i2c X268.here hx rfl (hb hby at_46) rfl kk_) ?_
    show own_EndsW _ _ _ _ _ _ _ _ (T268.setTop (mkF m 47 #[.val (.int p1), .val (.int p2), .val (.int (1 : Int32)), .val (.ref b266), .val (.ref a267), .unset] [(.int ((p2 &&& (255 : Int32)).toUInt32.toUInt16.toUInt32.toInt32))]))
    obtain ⟨c1, hc1⟩ : ∃ z : Int32, z = ((p2 &&& (255 : Int32)).toUInt32.toUInt16.toUInt32.toInt32) := ⟨_, rfl⟩
    rw [← hc1]
    have lat_c1 : ¬ c1 < 0 ∧ ¬ (255 : Int32) < c1 := by rw [hc1, i2c_mask]; exact own_lat p2
    show own_EndsW _ _ _ _ _ _ _ _ (T268.setTop (mkF m 47 #[.val (.int p1), .val (.int p2), .val (.int (1 : Int32)), .val (.ref b266), .val (.ref a267), .unset] [(.int c1)]))
    obtain ⟨v269, T269, L269, h269, X269, e269, Q269, st269⟩ := own_static X268 hx hZ hown e268 (hw _ (List.mem_of_getElem? (i := 18) rfl)) (hw _ (List.mem_of_getElem? (i := 19) rfl)) (hw _ (List.mem_of_getElem? (i := 5) rfl)) (hw _ (List.mem_of_getElem? (i := 20) rfl)) (by decide) (argsL := [(.int c1)]) (rest := []) (rm_valueOf l Z a0 hw c1 G1 h267 n0 (Nat.le_trans Z0 K.1) O2 P3 OL lat_c1.2) (g := (mkF m 47 #[.val (.int p1), .val (.int p2), .val (.int (1 : Int32)), .val (.ref b266), .val (.ref a267), .unset] [(.int c1)])) rfl (by rw [hml]; rfl) (lenOf pd__C_r_Ljava_lang_String_ rfl) rfl (by decide) (Nat.le_of_ble_eq_true rfl) (by decide) (by decide) (hb hby at_47)
    obtain ⟨a269, t269, k269, rfl, Nq269, Kq269, szq_a269, szq_t269, ne_a269_t269, Es269, Fs269, Cs269, Vs269⟩ := Q269
    have ne_b266_a269 : b266 ≠ a269 := Nat.ne_of_lt (Nat.lt_of_lt_of_le Es266.lt szq_a269)
    have ne_u266_a269 : u266 ≠ a269 := Nat.ne_of_lt (Nat.lt_of_lt_of_le Vs266.lt szq_a269)
    have ne_a267_a269 : a267 ≠ a269 := Nat.ne_of_lt (Nat.lt_of_lt_of_le Es267.lt szq_a269)
    have ne_t267_a269 : t267 ≠ a269 := Nat.ne_of_lt (Nat.lt_of_lt_of_le Vs267.lt szq_a269)
    have sz_a269 : h0.size ≤ a269 := Nat.le_trans K.1 szq_a269
    have g_a269 : n0 ≤ a269 := Nat.le_trans Z0 sz_a269
    have ne_b266_t269 : b266 ≠ t269 := Nat.ne_of_lt (Nat.lt_of_lt_of_le Es266.lt szq_t269)
    have ne_u266_t269 : u266 ≠ t269 := Nat.ne_of_lt (Nat.lt_of_lt_of_le Vs266.lt szq_t269)
    have ne_a267_t269 : a267 ≠ t269 := Nat.ne_of_lt (Nat.lt_of_lt_of_le Es267.lt szq_t269)
    have ne_t267_t269 : t267 ≠ t269 := Nat.ne_of_lt (Nat.lt_of_lt_of_le Vs267.lt szq_t269)
    have sz_t269 : h0.size ≤ t269 := Nat.le_trans K.1 szq_t269
    have g_t269 : n0 ≤ t269 := Nat.le_trans Z0 sz_t269
    replace hk := Nat.le_trans hk Kq269.1
    replace HC := HC.trans (CHr.keep Kq269 sf0 HC.1)
    replace OL := OL.keep Kq269 all0
    replace Es266 := Es266.keep Kq269
    replace Cs266 := Cs266.keep Kq269 nin0
    replace Fs266 := Fs266.keep Kq269 nin0
    replace Vs266 := Vs266.keep Kq269 nin0
    replace Es267 := Es267.keep Kq269
    replace Cs267 := Cs267.keep Kq269 nin0
    replace Fs267 := Fs267.keep Kq269 nin0
    replace Vs267 := Vs267.keep Kq269 nin0
    replace K := K.trans Kq269 all0
    have N269 := Fr.app N268 Nq269
    refine own_ofW st269 ?_
    show own_EndsW _ _ _ _ _ _ _ _ (T269.setTop (mkF m 50 #[.val (.int p1), .val (.int p2), .val (.int (1 : Int32)), .val (.ref b266), .val (.ref a267), .unset] [(.ref a269)]))
    refine own_ofW (fun tt_ kk_ => XS.astore X269.here hx rfl (hb hby at_50) rfl rfl (l' := #[.val (.int p1), .val (.int p2), .val (.int (1 : Int32)), .val (.ref b266), .val (.ref a267), .val (.ref a269)]) rfl kk_) ?_
    show own_EndsW _ _ _ _ _ _ _ _ (T269.setTop (mkF m 52 #[.val (.int p1), .val (.int p2), .val (.int (1 : Int32)), .val (.ref b266), .val (.ref a267), .val (.ref a269)] []))
    refine own_ofW (fun tt_ kk_ => XS.aload X269.here hx rfl (hb hby at_52) rfl rfl kk_) ?_
    show own_EndsW _ _ _ _ _ _ _ _ (T269.setTop (mkF m 54 #[.val (.int p1), .val (.int p2), .val (.int (1 : Int32)), .val (.ref b266), .val (.ref a267), .val (.ref a269)] [(.ref a269)]))
    refine own_ofW (fun tt_ kk_ => XS.aloadN X269.here hx rfl (hb hby at_54) rfl rfl kk_) ?_
    show own_EndsW _ _ _ _ _ _ _ _ (T269.setTop (mkF m 55 #[.val (.int p1), .val (.int p2), .val (.int (1 : Int32)), .val (.ref b266), .val (.ref a267), .val (.ref a269)] [(.ref b266), (.ref a269)]))
    obtain ⟨v270, T270, L270, h270, k270', X270, e270, Q270, hZ, hown, hS, hk, HCq270, st270⟩ := own_staticW X269 hx hZ hown e269 hS hk hEL HC.1 (hw _ (List.mem_of_getElem? (i := 39) rfl)) (hw _ (List.mem_of_getElem? (i := 40) rfl)) (hw _ (List.mem_of_getElem? (i := 2) rfl)) (hw _ (List.mem_of_getElem? (i := 41) rfl)) (by decide) (argsL := [(.ref a269), (.ref b266)]) (rest := []) (rm_val_True l Z a0 hw a269 b266 u266 k266 G1 wI wA wR wB wG tG clA kG h269 n0 (Nat.le_trans Z0 K.1) hEL Es266 Cs266 Fs266 Vs266 O2 P3 OL SI EI SA AA ZA SL ER FB EB FG FW VG A84 A70 A101) (g := (mkF m 55 #[.val (.int p1), .val (.int p2), .val (.int (1 : Int32)), .val (.ref b266), .val (.ref a267), .val (.ref a269)] [(.ref b266), (.ref a269)])) rfl (by rw [hml]; rfl) (lenOf pd__Ljava_lang_String_Ljava_lang_String__r_Z rfl) rfl (by decide) (Nat.le_of_ble_eq_true rfl) (by decide) (by decide) (hb hby at_55)
    replace HC := HC.trans HCq270
    obtain ⟨rfl, Nq270, Kq270⟩ := Q270
    replace OL := OL.keep Kq270 all0
    replace Es266 := Es266.keep Kq270
    replace Cs266 := Cs266.keep Kq270 nin0
    replace Fs266 := Fs266.keep Kq270 nin0
    replace Vs266 := Vs266.keep Kq270 nin0
    replace Es267 := Es267.keep Kq270
    replace Cs267 := Cs267.keep Kq270 nin0
    replace Fs267 := Fs267.keep Kq270 nin0
    replace Vs267 := Vs267.keep Kq270 nin0
    replace Es269 := Es269.keep Kq270
    replace Fs269 := Fs269.keep Kq270 nin0
    replace Cs269 := Cs269.keep Kq270 nin0
    replace Vs269 := Vs269.keep Kq270 nin0
    replace K := K.trans Kq270 all0
    have N270 := Fr.app N269 Nq270
    refine own_ofW st270 ?_
    show own_EndsW _ _ _ _ _ _ _ _ (T270.setTop (mkF m 58 #[.val (.int p1), .val (.int p2), .val (.int (1 : Int32)), .val (.ref b266), .val (.ref a267), .val (.ref a269)] [(.int (1 : Int32))]))
    refine own_ofW (fun tt_ kk_ => XS.iloadN X270.here hx rfl (hb hby at_58) rfl  kk_) ?_
    show own_EndsW _ _ _ _ _ _ _ _ (T270.setTop (mkF m 59 #[.val (.int p1), .val (.int p2), .val (.int (1 : Int32)), .val (.ref b266), .val (.ref a267), .val (.ref a269)] [(.int (1 : Int32)), (.int (1 : Int32))]))
    refine own_ofW (fun tt_ kk_ => XS.icmpNo X270.here hx rfl (hb hby at_59) rfl (teq (by decide : ((1 : Int32) = (1 : Int32)))).2 kk_) ?_
    show own_EndsW _ _ _ _ _ _ _ _ (T270.setTop (mkF m 62 #[.val (.int p1), .val (.int p2), .val (.int (1 : Int32)), .val (.ref b266), .val (.ref a267), .val (.ref a269)] []))
    refine own_ofW (fun tt_ kk_ => XS.iconst X270.here hx rfl (hb hby at_62) kk_) ?_
    show own_EndsW _ _ _ _ _ _ _ _ (T270.setTop (mkF m 63 #[.val (.int p1), .val (.int p2), .val (.int (1 : Int32)), .val (.ref b266), .val (.ref a267), .val (.ref a269)] [(.int (1 : Int32))]))
    refine own_ofW (fun tt_ kk_ => XS.goto X270.here hx rfl (pc0 := 63) (pc' := 67) rfl (hb hby at_63) (by decide) (by decide) kk_) ?_
    show own_EndsW _ _ _ _ _ _ _ _ (T270.setTop (mkF m 67 #[.val (.int p1), .val (.int p2), .val (.int (1 : Int32)), .val (.ref b266), .val (.ref a267), .val (.ref a269)] [(.int (1 : Int32))]))
    refine own_retNW X270 hx hlk hZ hS e270 hk es hEL HC (t := .boolean) hret (by simp) (z' := (1 : Int32)) rfl (hb hby at_67) (by decide) (by decide) ?_
    exact ⟨rfl, N270⟩
set_option maxRecDepth 65536 in
set_option maxHeartbeats 40000000 in
theorem comes_1 {Post : Tables → Env → Array Value → State → Outcome → State → Prop} (hpost : ∀ tb e args s v u, (limb_1_1.after args s (.returned v) u = true ∧ limb_1_2.after args s (.returned v) u = true ∧ True) → ReturnedEndW s (.returned v) u (Jvm.fieldLocs frame_1_writes args s ++ Jvm.arrayLocs frame_1_arrays args s ++ Jvm.staticLocs frame_1_statics s) 40 9344 → Post tb e args s (.returned v) u) :
    ArmFor flags0 classFile x code maxLocals ret World_1 tables_1 room_1 Calls_1 rest_1 Pre_1 Post := by
  intro l hfl _ _ p e ha hc hk s m args below hf hA hF happ hP
  obtain ⟨hcalls, hrest, hpre⟩ := hP
  obtain ⟨-, -, -, hnamed, -, -, -, hat⟩ := (Spec.applies_iff hf).mp happ
  obtain ⟨hg, hn⟩ := and_e (Cond.before_iff.mp (show (Jvm.Cond.and given_1 narrow_1).before args s = true from hpre))
  obtain ⟨hcount, hg⟩ := and_e hg
  obtain ⟨hgi0, hg⟩ := and_e hg
  have hgi1 := hg
  obtain ⟨w0, w1, rfl⟩ : ∃ w0 w1 : Value, args = #[w0, w1] := by
    have hs : args.size = 2 := by simpa [Cond.value, given_1] using hcount
    obtain ⟨L⟩ := args
    match L, hs with
    | [w0, w1], _ => exact ⟨w0, w1, rfl⟩
  have hw := fun d (hd : d ∈ tables_1) => atoms_spec (ws := Jvm.Cond.code x code maxLocals ret :: tables_1) hat d (List.mem_cons_of_mem _ hd)
  have hfit : Fit s := fun {y c} hc i hi => by
    obtain ⟨ha, rfl⟩ := Array.getElem?_eq_some_iff.mp hc
    have q := List.all_eq_true.mp ((Array.all_eq_true_iff_forall_mem.mp hF) _ (Array.getElem_mem ha)) i (List.mem_range.mpr hi)
    simpa [Array.getElem?_eq_getElem hi] using q
  obtain ⟨hsets, hown0⟩ := atoms_of _ (rest_1_c_eq ▸ (show rest_1_c.before _ s = true from hrest))
  have hr0 := Cond.before_iff.mp hown0
  obtain ⟨i0, ei0⟩ := is_v hgi0
  obtain rfl : w0 = (.int i0) := Option.some.inj ei0
  obtain ⟨i1, ei1⟩ := is_v hgi1
  obtain rfl : w1 = (.int i1) := Option.some.inj ei1
  have n3 := not_v (Cond.before_iff.mp (hsets _ (List.mem_of_getElem? (i := 2) rfl)))
  obtain ⟨iG, eG⟩ := is_v (Cond.before_iff.mp (hsets _ (List.mem_of_getElem? (i := 1) rfl)))
  have SG : Sta s s.heap "java/lang/String" "COMPACT_STRINGS" "Z" (.int iG) := Sta.start eG (Or.inl (hsets _ (List.mem_of_getElem? (i := 0) rfl)))
  have cG : ¬ (iG = (0 : Int32)) := gotF (Cond.eq_ints eG (Term.int_eval (0))) n3
  obtain ⟨wI, evI⟩ := exa_v (Cond.before_iff.mp (hsets _ (List.mem_of_getElem? (i := 11) rfl)))
  have SI := Sta.start evI (Or.inl (hsets _ (List.mem_of_getElem? (i := 10) rfl)))
  have EI := Exa.start evI (Cond.before_iff.mp (hsets _ (List.mem_of_getElem? (i := 11) rfl)))
  obtain ⟨wA, evA⟩ := exa_v (Cond.before_iff.mp (hsets _ (List.mem_of_getElem? (i := 15) rfl)))
  have SA := Sta.start evA (Or.inl (hsets _ (List.mem_of_getElem? (i := 13) rfl)))
  obtain ⟨clA, AA⟩ := Arr.start evA (Cond.before_iff.mp (hsets _ (List.mem_of_getElem? (i := 14) rfl)))
  have elA := own_eq_int (Cond.before_iff.mp (hsets _ (List.mem_of_getElem? (i := 16) rfl)))
  have hszA : clA.slots.size < 2 ^ 31 := SBG.length_lt evA (AA.fin (Vm.Alike.refl _)) elA
  have ZA : clA.slots.size = 256 := by
    have q := Value.int.inj (Option.some.inj ((len_f (t := Jvm.Term.static "java/lang/CharacterDataLatin1" "A" "[I") evA (AA.fin (Vm.Alike.refl _)) hszA).symm.trans elA))
    have q2 := congrArg Int32.toInt q
    rw [len_toInt hszA] at q2
    have q3 : (256 : Int32).toInt = 256 := rfl
    omega
  have A84 : clA.slots[84]? = some (.int (8552417 : Int32)) := (elem_in (own_eq_int (Cond.before_iff.mp (hsets _ (List.mem_of_getElem? (i := 101) rfl)))) evA (Term.int_eval (84)) AA.1).2
  have A70 : clA.slots[70]? = some (.int (8552417 : Int32)) := (elem_in (own_eq_int (Cond.before_iff.mp (hsets _ (List.mem_of_getElem? (i := 87) rfl)))) evA (Term.int_eval (70)) AA.1).2
  have A101 : clA.slots[101]? = some (.int (8486882 : Int32)) := (elem_in (own_eq_int (Cond.before_iff.mp (hsets _ (List.mem_of_getElem? (i := 118) rfl)))) evA (Term.int_eval (101)) AA.1).2
  obtain ⟨wR, evR⟩ := exa_v (Cond.before_iff.mp (hsets _ (List.mem_of_getElem? (i := 275) rfl)))
  have SL := Sta.start evR (Or.inl (hsets _ (List.mem_of_getElem? (i := 274) rfl)))
  have ER := Exa.start evR (Cond.before_iff.mp (hsets _ (List.mem_of_getElem? (i := 275) rfl)))
  obtain ⟨wB, evB⟩ := exa_v (Cond.before_iff.mp (hsets _ (List.mem_of_getElem? (i := 276) rfl)))
  have FB : Fld s s.heap wR "java/util/Locale" "baseLocale" "Lsun/util/locale/BaseLocale;" (.ref wB) := Fld.start ((fld_at evR).symm.trans evB)
  have EB := Exa.start evB (Cond.before_iff.mp (hsets _ (List.mem_of_getElem? (i := 276) rfl)))
  obtain ⟨wG, evG⟩ := exa_v (Cond.before_iff.mp (hsets _ (List.mem_of_getElem? (i := 277) rfl)))
  have FG : Fld s s.heap wB "sun/util/locale/BaseLocale" "language" "Ljava/lang/String;" (.ref wG) := Fld.start ((fld_at evB).symm.trans evG)
  obtain ⟨tG, evV⟩ := exa_v (Cond.before_iff.mp (hsets _ (List.mem_of_getElem? (i := 280) rfl)))
  have FW : Fld s s.heap wG "java/lang/String" "value" "[B" (.ref tG) := Fld.start ((fld_at evG).symm.trans evV)
  obtain ⟨clG, AG⟩ := Arr.start evV (Cond.before_iff.mp (hsets _ (List.mem_of_getElem? (i := 279) rfl)))
  have elG := own_eq_int (Cond.before_iff.mp (hsets _ (List.mem_of_getElem? (i := 281) rfl)))
  have hszG : clG.slots.size < 2 ^ 31 := SBG.length_lt evV (AG.fin (Vm.Alike.refl _)) elG
  have elG2 : clG.slots.size.toInt32 = (0 : Int32) := Value.int.inj (Option.some.inj ((len_f (t := Jvm.Term.field (Jvm.Term.field (Jvm.Term.field (Jvm.Term.static "java/util/Locale" "ROOT" "Ljava/util/Locale;") "java/util/Locale" "baseLocale" "Lsun/util/locale/BaseLocale;") "sun/util/locale/BaseLocale" "language" "Ljava/lang/String;") "java/lang/String" "value" "[B") evV (AG.fin (Vm.Alike.refl _)) hszG).symm.trans elG))
  have VG : Arv s s.heap tG clG.cls .byte (0 : Int32) [] (.int (0 : Int32)) := Arv.start hfit AG hszG elG2 (by decide) (by decide) trivial
  have hEL : EW s _ own_EL := (EW.cons (text := "True") (hw _ (List.mem_of_getElem? (i := 125) rfl)) (by decide +kernel) (EW.cons (text := "False") (hw _ (List.mem_of_getElem? (i := 4) rfl)) (by decide +kernel) (EW.cons (text := "true") (hw _ (List.mem_of_getElem? (i := 119) rfl)) (by decide +kernel) (EW.cons (text := "false") (hw _ (List.mem_of_getElem? (i := 124) rfl)) (by decide +kernel) (EW.cons (text := "True") (hw _ (List.mem_of_getElem? (i := 126) rfl)) (by decide +kernel) (EW.cons (text := "False") (hw _ (List.mem_of_getElem? (i := 12) rfl)) (by decide +kernel) (EW.cons (text := "tr") (hw _ (List.mem_of_getElem? (i := 107) rfl)) (by decide +kernel) (EW.cons (text := "az") (hw _ (List.mem_of_getElem? (i := 108) rfl)) (by decide +kernel) (EW.cons (text := "lt") (hw _ (List.mem_of_getElem? (i := 109) rfl)) (by decide +kernel) EW.nil)))))))))
  have HC := CHv.start hEL (fun p hp => hcalls.1 p hp) (hsets _ (List.mem_of_getElem? (i := 2) rfl)) (hw _ (List.mem_of_getElem? (i := 7) rfl)) (hw _ (List.mem_of_getElem? (i := 6) rfl))
  obtain ⟨n, o, h1, h2, h3, _, L, rfl, ⟨rfl, N⟩, -, hq⟩ := rm0 l s _ hw i0 i1 iG wI wA wR wB wG tG clA clG.cls s.heap s.heap.size (Nat.le_refl _) hEL SG cG (Old.start s) SI EI SA AA ZA SL ER FB EB FG FW VG A84 A70 A101 tables_1 p e ha hc hk s m _ below hf ((Spec.applies_iff_loose hf).mp happ).1 ⟨rfl, State.Warmed39.refl s, rfl, HC⟩ trivial
  refine ⟨n, _, h1, h2, h3, hpost _ _ _ _ _ _ ⟨Cond.after_iff.mpr rfl, Cond.after_iff.mpr (eq_i res_at (Term.int_eval (1)) rfl), trivial⟩ ⟨hq.1, hq.2.1, hq.2.2.1, (hq.2.2.2.sift fun y hy => Or.inr (N y hy)).mono (by decide) (by decide)⟩⟩
theorem main_1_1 : Claimed_1_1 := comes_1 fun _ _ _ _ _ _ h hF => ⟨h.1, hF⟩
theorem main_1_2 : Claimed_1_2 := comes_1 fun _ _ _ _ _ _ h hF => ⟨h.2.1, hF⟩
end Jvm.Pilot.@@N@@
namespace Jvm.Pilot.@@N@@
open Jvm Jvm.ClassFile Sem Op Lib Jvm.Free Jvm.Stand Jvm.Pilot.@@N@@.Jvm.D
/-! MADE BY PROGRAM (witnessworld.py) out of the Statement's table words and the real class files: 22 classes; the members and pool entries that the words name. The judged class is class 1, her method 1. -/
namespace start1
open Jvm.ClassFile
def u (s : String) : CpInfo := .utf8 (stringToUtf16 s)
/-- a pool by its gaps: so many unusable entries, then the entry; so many at the end -/
def gap : Nat → List CpInfo → List CpInfo
  | 0, r => r
  | n + 1, r => .unusable :: gap n r
def poolList (es : List (Nat × CpInfo)) (last : Nat) : List CpInfo := es.foldr (fun e r => gap e.1 (e.2 :: r)) (gap last [])
def pool (es : List (Nat × CpInfo)) (last : Nat) : Array CpInfo := ⟨poolList es last⟩
def fileOf (pool : Array CpInfo) (this : Nat) (attrs : Array Attribute := #[]) (ms : Array MethodInfo := #[]) (fl : Nat := 33) (sup : Nat := 0) (ifs : Array Nat := #[]) (fds : Array FieldInfo := #[]) : ClassFile where
  minorVersion := 0
  majorVersion := 65
  constantPool := pool
  accessFlags := fl
  thisClass := this
  superClass := sup
  interfaces := ifs
  fields := fds
  methods := ms
  attributes := attrs
def plain (name : String) (sup : Option ClassId) : Class where
  name := name
  kind := .ordinary
  loader := none
  accessFlags := 33
  super := sup
  interfaces := #[]
  cf := none
  fields := #[]
  methods := #[]
  instanceTypes := #[]
  staticTypes := #[]
  resolved := #[]
  callSites := []
  init := .initialized
  statics := none
  mirror := none

def pool0 : Array CpInfo := pool [(5, u "<init>"), (0, u "()V"), (1, .class_ 10), (1, u "java/lang/Object")] 113

def k0c0 : Code := { maxStack := 0, maxLocals := 1, code := object_method_1_code, exceptionTable := #[], attributes := #[] }
def k0m0 : Method := { name := "<init>", desc := "()V", sig := { parameters := [], returnType := none }, accessFlags := 1, code := some k0c0 }
/-- java/lang/Object -/
def k0 : Class := { plain "java/lang/Object" none with
  accessFlags := 33
  interfaces := #[]
  cf := some (fileOf pool0 8 #[] #[{ accessFlags := 1, nameIndex := 5, descriptorIndex := 6, attributes := #[] }] 33 0 #[] #[])
  fields := #[]
  methods := #[k0m0]
  instanceTypes := #[]
  staticTypes := #[]
  resolved := Array.replicate 124 none
  statics := none }

def pool1 : Array CpInfo := pool [(2, .class_ 4), (1, u "java/lang/Object"), (0, u "<init>"), (0, u "()V"), (0, .methodref 8 9), (0, .class_ 10), (0, .nameAndType 11 12), (0, u "com/example/libenq/libenq/wire/FieldValues"), (0, u "truthText"), (0, u "(Z)Ljava/lang/String;"), (0, .string 14), (0, u "True"), (0, .string 16), (0, u "False"), (0, .methodref 18 19), (0, .class_ 20), (0, .nameAndType 21 22), (0, u "java/lang/String"), (0, u "equals"), (0, u "(Ljava/lang/Object;)Z"), (0, .methodref 18 24), (0, .nameAndType 25 26), (0, u "valueOf"), (0, u "(C)Ljava/lang/String;"), (0, .methodref 8 28), (0, .nameAndType 29 30), (0, u "truthValue"), (0, u "(Ljava/lang/String;Ljava/lang/String;)Z"), (0, .class_ 32), (0, u "com/example/libenq/libenq/wire/FieldValuesTruthTextPinLaw"), (2, u "law"), (0, u "(II)Z")] 3

def k1m0 : Method := { name := "<init>", desc := "()V", sig := { parameters := [], returnType := none }, accessFlags := 2, code := none }
def k1c1 : Code := { maxStack := 2, maxLocals := 6, code := code, exceptionTable := #[], attributes := #[] }
def k1m1 : Method := { name := "law", desc := "(II)Z", sig := { parameters := [.int, .int], returnType := some .boolean }, accessFlags := 9, code := some k1c1 }
/-- com/example/libenq/libenq/wire/FieldValuesTruthTextPinLaw -/
def k1 : Class := { plain "com/example/libenq/libenq/wire/FieldValuesTruthTextPinLaw" (some 0) with
  accessFlags := 49
  interfaces := #[]
  cf := some (fileOf pool1 31 #[] #[{ accessFlags := 2, nameIndex := 5, descriptorIndex := 6, attributes := #[] }, { accessFlags := 9, nameIndex := 35, descriptorIndex := 36, attributes := #[] }] 49 2 #[] #[])
  fields := #[]
  methods := #[k1m0, k1m1]
  instanceTypes := #[]
  staticTypes := #[]
  resolved := Array.replicate 40 none
  statics := none }

def pool2 : Array CpInfo := pool [(2, .class_ 4), (1, u "java/lang/Object"), (0, u "<init>"), (0, u "()V"), (0, .methodref 8 9), (0, .class_ 10), (0, .nameAndType 11 12), (0, u "java/lang/String"), (0, u "strip"), (0, u "()Ljava/lang/String;"), (36, .methodref 8 50), (0, .nameAndType 51 52), (0, u "equals"), (0, u "(Ljava/lang/Object;)Z"), (9, .string 63), (0, u "True"), (0, .string 65), (0, u "False"), (0, .fieldref 67 68), (0, .class_ 69), (0, .nameAndType 70 71), (0, u "java/util/Locale"), (0, u "ROOT"), (0, u "Ljava/util/Locale;"), (0, .methodref 8 73), (0, .nameAndType 74 75), (0, u "toLowerCase"), (0, u "(Ljava/util/Locale;)Ljava/lang/String;"), (0, .string 77), (0, u "true"), (0, .string 79), (0, u "false"), (1, .class_ 82), (0, u "com/example/libenq/libenq/wire/FieldValues"), (9, u "truthText"), (0, u "(Z)Ljava/lang/String;"), (0, u "truthValue"), (0, u "(Ljava/lang/String;Ljava/lang/String;)Z")] 21

def k2m0 : Method := { name := "<init>", desc := "()V", sig := { parameters := [], returnType := none }, accessFlags := 2, code := none }
def k2c1 : Code := { maxStack := 1, maxLocals := 1, code := prog_63_method_4_code, exceptionTable := #[], attributes := #[] }
def k2m1 : Method := { name := "truthText", desc := "(Z)Ljava/lang/String;", sig := { parameters := [.boolean], returnType := some (.object "java/lang/String") }, accessFlags := 9, code := some k2c1 }
def k2c2 : Code := { maxStack := 5, maxLocals := 3, code := prog_63_method_5_code, exceptionTable := #[], attributes := #[] }
def k2m2 : Method := { name := "truthValue", desc := "(Ljava/lang/String;Ljava/lang/String;)Z", sig := { parameters := [(.object "java/lang/String"), (.object "java/lang/String")], returnType := some .boolean }, accessFlags := 9, code := some k2c2 }
/-- com/example/libenq/libenq/wire/FieldValues -/
def k2 : Class := { plain "com/example/libenq/libenq/wire/FieldValues" (some 0) with
  accessFlags := 49
  interfaces := #[]
  cf := some (fileOf pool2 81 #[] #[{ accessFlags := 2, nameIndex := 5, descriptorIndex := 6, attributes := #[] }, { accessFlags := 9, nameIndex := 92, descriptorIndex := 93, attributes := #[] }, { accessFlags := 9, nameIndex := 94, descriptorIndex := 95, attributes := #[] }] 49 2 #[] #[])
  fields := #[]
  methods := #[k2m0, k2m1, k2m2]
  instanceTypes := #[]
  staticTypes := #[]
  resolved := Array.replicate 117 none
  statics := none }

def pool3 : Array CpInfo := pool [(1, .class_ 2), (0, u "java/io/Serializable"), (0, .class_ 4), (0, u "java/lang/Object")] 2

/-- java/io/Serializable -/
def k3 : Class := { plain "java/io/Serializable" (some 0) with
  accessFlags := 1537
  interfaces := #[]
  cf := some (fileOf pool3 1 #[] #[] 1537 3 #[] #[])
  fields := #[]
  methods := #[]
  instanceTypes := #[]
  staticTypes := #[]
  resolved := Array.replicate 7 none
  statics := none }

def pool4 : Array CpInfo := pool [(1, .class_ 2), (0, u "java/lang/Comparable"), (0, .class_ 4), (0, u "java/lang/Object")] 7

/-- java/lang/Comparable -/
def k4 : Class := { plain "java/lang/Comparable" (some 0) with
  accessFlags := 1537
  interfaces := #[]
  cf := some (fileOf pool4 1 #[] #[] 1537 3 #[] #[])
  fields := #[]
  methods := #[]
  instanceTypes := #[]
  staticTypes := #[]
  resolved := Array.replicate 12 none
  statics := none }

def pool5 : Array CpInfo := pool [(2, .class_ 4), (1, u "java/lang/CharSequence"), (42, .class_ 48), (0, u "java/lang/CharSequence$1CodePointIterator"), (10, .class_ 60), (0, u "java/lang/CharSequence$1CharIterator"), (5, .class_ 67), (0, u "java/lang/Object")] 63

/-- java/lang/CharSequence -/
def k5 : Class := { plain "java/lang/CharSequence" (some 0) with
  accessFlags := 1537
  interfaces := #[]
  cf := some (fileOf pool5 2 #[.nestMembers #[47, 59]] #[] 1537 66 #[] #[])
  fields := #[]
  methods := #[]
  instanceTypes := #[]
  staticTypes := #[]
  resolved := Array.replicate 131 none
  statics := none }

def pool6 : Array CpInfo := pool [(1, .class_ 2), (0, u "java/lang/constant/Constable"), (0, .class_ 4), (0, u "java/lang/Object")] 6

/-- java/lang/constant/Constable -/
def k6 : Class := { plain "java/lang/constant/Constable" (some 0) with
  accessFlags := 1537
  interfaces := #[]
  cf := some (fileOf pool6 1 #[] #[] 1537 3 #[] #[])
  fields := #[]
  methods := #[]
  instanceTypes := #[]
  staticTypes := #[]
  resolved := Array.replicate 11 none
  statics := none }

def pool7 : Array CpInfo := pool [(1, .class_ 2), (0, u "java/lang/constant/ConstantDesc"), (0, .class_ 4), (0, u "java/lang/Object")] 32

/-- java/lang/constant/ConstantDesc -/
def k7 : Class := { plain "java/lang/constant/ConstantDesc" (some 0) with
  accessFlags := 1537
  interfaces := #[]
  cf := some (fileOf pool7 1 #[] #[] 1537 3 #[] #[])
  fields := #[]
  methods := #[]
  instanceTypes := #[]
  staticTypes := #[]
  resolved := Array.replicate 37 none
  statics := none }

def pool8 : Array CpInfo := pool [(1, .methodref 2 3), (0, .class_ 4), (0, .nameAndType 5 6), (0, u "java/lang/Object"), (0, u "<init>"), (0, u "()V"), (2, .fieldref 10 11), (0, .class_ 12), (0, .nameAndType 13 14), (0, u "java/lang/String"), (0, u "value"), (0, u "[B"), (0, .fieldref 10 16), (0, .nameAndType 17 18), (0, u "coder"), (0, u "B"), (2, u "hash"), (0, u "I"), (2, u "hashIsZero"), (0, u "Z"), (11, .fieldref 10 39), (0, .nameAndType 40 26), (0, u "COMPACT_STRINGS"), (12, u "toBytes"), (53, .class_ 109), (1, u "java/lang/StringLatin1"), (32, u "()Z"), (66, .methodref 10 210), (0, .nameAndType 5 211), (0, u "([BB)V"), (157, u "(C)Z"), (94, u "()Ljava/lang/String;"), (27, .methodref 10 493), (0, .nameAndType 494 142), (0, u "isLatin1"), (46, .methodref 107 542), (0, .nameAndType 543 544), (0, u "equals"), (0, u "([B[B)Z"), (28, u "(Ljava/lang/Object;)Z"), (1, .class_ 576), (0, u "java/lang/CharSequence"), (22, u "CASE_INSENSITIVE_ORDER"), (0, u "Ljava/util/Comparator;"), (181, u "valueOf"), (0, u "(C)Ljava/lang/String;"), (55, .methodref 107 840), (0, .nameAndType 841 842), (0, u "toLowerCase"), (0, u "(Ljava/lang/String;[BLjava/util/Locale;)Ljava/lang/String;"), (9, u "(Ljava/util/Locale;)Ljava/lang/String;"), (9, u "([B)Ljava/lang/String;"), (1, .methodref 107 865), (0, .nameAndType 866 862), (0, u "strip"), (148, .methodref 107 1016), (0, .nameAndType 1017 369), (0, u "canEncode"), (0, .methodref 107 1019), (0, .nameAndType 53 1020), (0, u "(C)[B"), (80, u "serialPersistentFields"), (0, u "[Ljava/io/ObjectStreamField;"), (0, .class_ 1104), (0, u "java/lang/String$CaseInsensitiveComparator"), (1, .class_ 1107), (0, u "java/io/Serializable"), (0, .class_ 1109), (0, u "java/lang/Comparable"), (0, .class_ 1111), (0, u "java/lang/constant/Constable"), (0, .class_ 1113), (0, u "java/lang/constant/ConstantDesc"), (2, u "serialVersionUID"), (0, u "J"), (3, u "REPL"), (0, u "C"), (2, u "LATIN1"), (1, u "UTF16")] 323

def k8m0 : Method := { name := "<init>", desc := "()V", sig := { parameters := [], returnType := none }, accessFlags := 1, code := none }
def k8c1 : Code := { maxStack := 2, maxLocals := 3, code := jdk_42_method_66_code, exceptionTable := #[], attributes := #[] }
def k8m1 : Method := { name := "equals", desc := "(Ljava/lang/Object;)Z", sig := { parameters := [(.object "java/lang/Object")], returnType := some .boolean }, accessFlags := 1, code := some k8c1 }
def k8c2 : Code := { maxStack := 3, maxLocals := 2, code := jdk_42_method_109_code, exceptionTable := #[], attributes := #[] }
def k8m2 : Method := { name := "toLowerCase", desc := "(Ljava/util/Locale;)Ljava/lang/String;", sig := { parameters := [(.object "java/util/Locale")], returnType := some (.object "java/lang/String") }, accessFlags := 1, code := some k8c2 }
def k8c3 : Code := { maxStack := 1, maxLocals := 2, code := jdk_42_method_114_code, exceptionTable := #[], attributes := #[] }
def k8m3 : Method := { name := "strip", desc := "()Ljava/lang/String;", sig := { parameters := [], returnType := some (.object "java/lang/String") }, accessFlags := 1, code := some k8c3 }
def k8c4 : Code := { maxStack := 4, maxLocals := 1, code := jdk_42_method_139_code, exceptionTable := #[], attributes := #[] }
def k8m4 : Method := { name := "valueOf", desc := "(C)Ljava/lang/String;", sig := { parameters := [.char], returnType := some (.object "java/lang/String") }, accessFlags := 9, code := some k8c4 }
def k8c5 : Code := { maxStack := 2, maxLocals := 3, code := jdk_42_method_151_code, exceptionTable := #[], attributes := #[] }
def k8m5 : Method := { name := "<init>", desc := "([BB)V", sig := { parameters := [(.array .byte), .byte], returnType := none }, accessFlags := 0, code := some k8c5 }
def k8c6 : Code := { maxStack := 1, maxLocals := 1, code := jdk_42_method_154_code, exceptionTable := #[], attributes := #[] }
def k8m6 : Method := { name := "isLatin1", desc := "()Z", sig := { parameters := [], returnType := some .boolean }, accessFlags := 0, code := some k8c6 }
/-- java/lang/String -/
def k8 : Class := { plain "java/lang/String" (some 0) with
  accessFlags := 49
  interfaces := #[3, 4, 5, 6, 7]
  cf := some (fileOf pool8 10 #[.nestMembers #[1103]] #[{ accessFlags := 1, nameIndex := 5, descriptorIndex := 6, attributes := #[] }, { accessFlags := 1, nameIndex := 543, descriptorIndex := 573, attributes := #[] }, { accessFlags := 1, nameIndex := 841, descriptorIndex := 852, attributes := #[] }, { accessFlags := 1, nameIndex := 866, descriptorIndex := 464, attributes := #[] }, { accessFlags := 9, nameIndex := 782, descriptorIndex := 783, attributes := #[] }, { accessFlags := 0, nameIndex := 5, descriptorIndex := 211, attributes := #[] }, { accessFlags := 0, nameIndex := 494, descriptorIndex := 142, attributes := #[] }] 49 2 #[1106, 1108, 575, 1110, 1112] #[{ accessFlags := 18, nameIndex := 13, descriptorIndex := 14, attributes := #[] }, { accessFlags := 18, nameIndex := 17, descriptorIndex := 18, attributes := #[] }, { accessFlags := 2, nameIndex := 21, descriptorIndex := 22, attributes := #[] }, { accessFlags := 2, nameIndex := 25, descriptorIndex := 26, attributes := #[] }, { accessFlags := 26, nameIndex := 1116, descriptorIndex := 1117, attributes := #[] }, { accessFlags := 24, nameIndex := 40, descriptorIndex := 26, attributes := #[] }, { accessFlags := 26, nameIndex := 1101, descriptorIndex := 1102, attributes := #[] }, { accessFlags := 26, nameIndex := 1121, descriptorIndex := 1122, attributes := #[] }, { accessFlags := 25, nameIndex := 599, descriptorIndex := 600, attributes := #[] }, { accessFlags := 24, nameIndex := 1125, descriptorIndex := 18, attributes := #[] }, { accessFlags := 24, nameIndex := 1127, descriptorIndex := 18, attributes := #[] }])
  fields := #[{ name := "value", type := (.array .byte), accessFlags := 18, slot := 0, constantValue := 0 }, { name := "coder", type := .byte, accessFlags := 18, slot := 1, constantValue := 0 }, { name := "hash", type := .int, accessFlags := 2, slot := 2, constantValue := 0 }, { name := "hashIsZero", type := .boolean, accessFlags := 2, slot := 3, constantValue := 0 }, { name := "serialVersionUID", type := .long, accessFlags := 26, slot := 0, constantValue := 0 }, { name := "COMPACT_STRINGS", type := .boolean, accessFlags := 24, slot := 1, constantValue := 0 }, { name := "serialPersistentFields", type := (.array (.object "java/io/ObjectStreamField")), accessFlags := 26, slot := 2, constantValue := 0 }, { name := "REPL", type := .char, accessFlags := 26, slot := 3, constantValue := 0 }, { name := "CASE_INSENSITIVE_ORDER", type := (.object "java/util/Comparator"), accessFlags := 25, slot := 4, constantValue := 0 }, { name := "LATIN1", type := .byte, accessFlags := 24, slot := 5, constantValue := 0 }, { name := "UTF16", type := .byte, accessFlags := 24, slot := 6, constantValue := 0 }]
  methods := #[k8m0, k8m1, k8m2, k8m3, k8m4, k8m5, k8m6]
  instanceTypes := #[(.array .byte), .byte, .int, .boolean]
  staticTypes := #[.long, .boolean, (.array (.object "java/io/ObjectStreamField")), .char, (.object "java/util/Comparator"), .byte, .byte]
  resolved := Array.replicate 1451 none
  statics := some 0 }

def pool9 : Array CpInfo := pool [(1, .class_ 2), (0, u "java/lang/String"), (1, .class_ 6), (1, u "java/lang/Object"), (0, u "<init>"), (0, u "()V"), (5, .class_ 16), (1, u "java/lang/StringLatin1"), (11, .methodref 29 30), (0, .class_ 31), (0, .nameAndType 32 33), (0, u "java/lang/System"), (0, u "arraycopy"), (0, u "(Ljava/lang/Object;ILjava/lang/Object;II)V"), (16, .methodref 14 51), (0, .nameAndType 52 53), (0, u "getChar"), (0, u "([BI)C"), (3, u "([B)I"), (8, .fieldref 67 68), (0, .class_ 69), (0, .nameAndType 70 71), (0, u "java/lang/CharacterDataLatin1"), (0, u "instance"), (0, u "Ljava/lang/CharacterDataLatin1;"), (3, u "(I)I"), (4, u "toLowerCase"), (7, .methodref 14 89), (0, .nameAndType 90 91), (0, u "canEncode"), (0, u "(I)Z"), (13, u "(C)Z"), (6, .methodref 1 113), (0, .nameAndType 7 114), (0, u "([BB)V"), (6, u "$assertionsDisabled"), (0, u "Z"), (37, .methodref 67 161), (0, .nameAndType 80 75), (0, .methodref 163 164), (0, .class_ 165), (0, .nameAndType 166 167), (0, u "java/util/Locale"), (0, u "getLanguage"), (0, u "()Ljava/lang/String;"), (0, .string 169), (0, u "tr"), (0, .string 171), (0, u "az"), (0, .string 173), (0, u "lt"), (37, .methodref 67 212), (0, .nameAndType 213 91), (0, u "isWhitespace"), (0, .methodref 14 215), (0, .nameAndType 216 57), (0, u "indexOfNonWhitespace"), (0, .methodref 14 218), (0, .nameAndType 219 57), (0, u "lastIndexOfNonWhitespace"), (1, .class_ 223), (1, u "java/lang/StringLatin1$LinesSpliterator"), (57, u "equals"), (0, u "([B[B)Z"), (67, u "(Ljava/lang/String;[BLjava/util/Locale;)Ljava/lang/String;"), (16, u "([B)Ljava/lang/String;"), (3, u "strip"), (8, u "toBytes"), (1, u "(C)[B"), (7, .class_ 391), (0, u "java/lang/StringLatin1$CharsSpliterator")] 3

def k9m0 : Method := { name := "<init>", desc := "()V", sig := { parameters := [], returnType := none }, accessFlags := 0, code := none }
def k9c1 : Code := { maxStack := 2, maxLocals := 1, code := jdk_43_method_3_code, exceptionTable := #[], attributes := #[] }
def k9m1 : Method := { name := "canEncode", desc := "(C)Z", sig := { parameters := [.char], returnType := some .boolean }, accessFlags := 9, code := some k9c1 }
def k9c2 : Code := { maxStack := 2, maxLocals := 1, code := jdk_43_method_4_code, exceptionTable := #[], attributes := #[] }
def k9m2 : Method := { name := "canEncode", desc := "(I)Z", sig := { parameters := [.int], returnType := some .boolean }, accessFlags := 9, code := some k9c2 }
def k9c3 : Code := { maxStack := 3, maxLocals := 3, code := jdk_43_method_13_code, exceptionTable := #[], attributes := #[] }
def k9m3 : Method := { name := "equals", desc := "([B[B)Z", sig := { parameters := [(.array .byte), (.array .byte)], returnType := some .boolean }, accessFlags := 9, code := some k9c3 }
def k9c4 : Code := { maxStack := 5, maxLocals := 9, code := jdk_43_method_32_code, exceptionTable := #[], attributes := #[] }
def k9m4 : Method := { name := "toLowerCase", desc := "(Ljava/lang/String;[BLjava/util/Locale;)Ljava/lang/String;", sig := { parameters := [(.object "java/lang/String"), (.array .byte), (.object "java/util/Locale")], returnType := some (.object "java/lang/String") }, accessFlags := 9, code := some k9c4 }
def k9c5 : Code := { maxStack := 2, maxLocals := 4, code := jdk_43_method_37_code, exceptionTable := #[], attributes := #[] }
def k9m5 : Method := { name := "indexOfNonWhitespace", desc := "([B)I", sig := { parameters := [(.array .byte)], returnType := some .int }, accessFlags := 9, code := some k9c5 }
def k9c6 : Code := { maxStack := 3, maxLocals := 4, code := jdk_43_method_38_code, exceptionTable := #[], attributes := #[] }
def k9m6 : Method := { name := "lastIndexOfNonWhitespace", desc := "([B)I", sig := { parameters := [(.array .byte)], returnType := some .int }, accessFlags := 9, code := some k9c6 }
def k9c7 : Code := { maxStack := 4, maxLocals := 4, code := jdk_43_method_39_code, exceptionTable := #[], attributes := #[] }
def k9m7 : Method := { name := "strip", desc := "([B)Ljava/lang/String;", sig := { parameters := [(.array .byte)], returnType := some (.object "java/lang/String") }, accessFlags := 9, code := some k9c7 }
def k9c8 : Code := { maxStack := 2, maxLocals := 2, code := jdk_43_method_44_code, exceptionTable := #[], attributes := #[] }
def k9m8 : Method := { name := "getChar", desc := "([BI)C", sig := { parameters := [(.array .byte), .int], returnType := some .char }, accessFlags := 9, code := some k9c8 }
def k9c9 : Code := { maxStack := 4, maxLocals := 1, code := jdk_43_method_46_code, exceptionTable := #[], attributes := #[] }
def k9m9 : Method := { name := "toBytes", desc := "(C)[B", sig := { parameters := [.char], returnType := some (.array .byte) }, accessFlags := 9, code := some k9c9 }
/-- java/lang/StringLatin1 -/
def k9 : Class := { plain "java/lang/StringLatin1" (some 0) with
  accessFlags := 48
  interfaces := #[]
  cf := some (fileOf pool9 14 #[.nestMembers #[390, 221]] #[{ accessFlags := 0, nameIndex := 7, descriptorIndex := 8, attributes := #[] }, { accessFlags := 9, nameIndex := 90, descriptorIndex := 105, attributes := #[] }, { accessFlags := 9, nameIndex := 90, descriptorIndex := 91, attributes := #[] }, { accessFlags := 9, nameIndex := 281, descriptorIndex := 282, attributes := #[] }, { accessFlags := 9, nameIndex := 80, descriptorIndex := 350, attributes := #[] }, { accessFlags := 9, nameIndex := 216, descriptorIndex := 57, attributes := #[] }, { accessFlags := 9, nameIndex := 219, descriptorIndex := 57, attributes := #[] }, { accessFlags := 9, nameIndex := 371, descriptorIndex := 367, attributes := #[] }, { accessFlags := 9, nameIndex := 52, descriptorIndex := 53, attributes := #[] }, { accessFlags := 9, nameIndex := 380, descriptorIndex := 382, attributes := #[] }] 48 4 #[] #[{ accessFlags := 4120, nameIndex := 121, descriptorIndex := 122, attributes := #[] }])
  fields := #[{ name := "$assertionsDisabled", type := .boolean, accessFlags := 4120, slot := 0, constantValue := 0 }]
  methods := #[k9m0, k9m1, k9m2, k9m3, k9m4, k9m5, k9m6, k9m7, k9m8, k9m9]
  instanceTypes := #[]
  staticTypes := #[.boolean]
  resolved := Array.replicate 395 none
  statics := none }

def pool10 : Array CpInfo := pool [(2, .class_ 4), (1, u "java/lang/Object"), (0, u "<init>"), (0, u "()V"), (1, .class_ 10), (1, u "java/lang/CharacterData")] 75

def k10m0 : Method := { name := "<init>", desc := "()V", sig := { parameters := [], returnType := none }, accessFlags := 0, code := none }
/-- java/lang/CharacterData -/
def k10 : Class := { plain "java/lang/CharacterData" (some 0) with
  accessFlags := 1056
  interfaces := #[]
  cf := some (fileOf pool10 8 #[] #[{ accessFlags := 0, nameIndex := 5, descriptorIndex := 6, attributes := #[] }] 1056 2 #[] #[])
  fields := #[]
  methods := #[k10m0]
  instanceTypes := #[]
  staticTypes := #[]
  resolved := Array.replicate 86 none
  statics := none }

def pool11 : Array CpInfo := pool [(1, .fieldref 2 3), (0, .class_ 4), (0, .nameAndType 5 6), (0, u "java/lang/CharacterDataLatin1"), (0, u "A"), (0, u "[I"), (2, u "B"), (0, u "[C"), (3, u "(I)I"), (0, .methodref 2 16), (0, .nameAndType 17 14), (0, u "getProperties"), (3, u "(I)Z"), (5, u "DIGITS"), (0, u "[B"), (8, u "sharpsMap"), (1, .class_ 41), (1, u "java/lang/CharacterData"), (0, u "<init>"), (0, u "()V"), (3, u "instance"), (0, u "Ljava/lang/CharacterDataLatin1;"), (63, u "toLowerCase"), (14, u "isWhitespace")] 13

def k11c0 : Code := { maxStack := 2, maxLocals := 4, code := jdk_116_method_1_code, exceptionTable := #[], attributes := #[] }
def k11m0 : Method := { name := "getProperties", desc := "(I)I", sig := { parameters := [.int], returnType := some .int }, accessFlags := 0, code := some k11c0 }
def k11c1 : Code := { maxStack := 2, maxLocals := 3, code := jdk_116_method_20_code, exceptionTable := #[], attributes := #[] }
def k11m1 : Method := { name := "toLowerCase", desc := "(I)I", sig := { parameters := [.int], returnType := some .int }, accessFlags := 0, code := some k11c1 }
def k11c2 : Code := { maxStack := 2, maxLocals := 3, code := jdk_116_method_26_code, exceptionTable := #[], attributes := #[] }
def k11m2 : Method := { name := "isWhitespace", desc := "(I)Z", sig := { parameters := [.int], returnType := some .boolean }, accessFlags := 0, code := some k11c2 }
def k11m3 : Method := { name := "<init>", desc := "()V", sig := { parameters := [], returnType := none }, accessFlags := 2, code := none }
/-- java/lang/CharacterDataLatin1 -/
def k11 : Class := { plain "java/lang/CharacterDataLatin1" (some 10) with
  accessFlags := 32
  interfaces := #[]
  cf := some (fileOf pool11 2 #[] #[{ accessFlags := 0, nameIndex := 17, descriptorIndex := 14, attributes := #[] }, { accessFlags := 0, nameIndex := 112, descriptorIndex := 14, attributes := #[] }, { accessFlags := 0, nameIndex := 127, descriptorIndex := 21, attributes := #[] }, { accessFlags := 2, nameIndex := 42, descriptorIndex := 43, attributes := #[] }] 32 39 #[] #[{ accessFlags := 26, nameIndex := 27, descriptorIndex := 28, attributes := #[] }, { accessFlags := 8, nameIndex := 37, descriptorIndex := 10, attributes := #[] }, { accessFlags := 24, nameIndex := 47, descriptorIndex := 48, attributes := #[] }, { accessFlags := 24, nameIndex := 5, descriptorIndex := 6, attributes := #[] }, { accessFlags := 24, nameIndex := 9, descriptorIndex := 10, attributes := #[] }])
  fields := #[{ name := "DIGITS", type := (.array .byte), accessFlags := 26, slot := 0, constantValue := 0 }, { name := "sharpsMap", type := (.array .char), accessFlags := 8, slot := 1, constantValue := 0 }, { name := "instance", type := (.object "java/lang/CharacterDataLatin1"), accessFlags := 24, slot := 2, constantValue := 0 }, { name := "A", type := (.array .int), accessFlags := 24, slot := 3, constantValue := 0 }, { name := "B", type := (.array .char), accessFlags := 24, slot := 4, constantValue := 0 }]
  methods := #[k11m0, k11m1, k11m2, k11m3]
  instanceTypes := #[]
  staticTypes := #[(.array .byte), (.array .char), (.object "java/lang/CharacterDataLatin1"), (.array .int), (.array .char)]
  resolved := Array.replicate 141 none
  statics := some 1 }

def pool12 : Array CpInfo := pool [(1, .class_ 2), (0, u "java/lang/Cloneable"), (0, .class_ 4), (0, u "java/lang/Object")] 2

/-- java/lang/Cloneable -/
def k12 : Class := { plain "java/lang/Cloneable" (some 0) with
  accessFlags := 1537
  interfaces := #[]
  cf := some (fileOf pool12 1 #[] #[] 1537 3 #[] #[])
  fields := #[]
  methods := #[]
  instanceTypes := #[]
  staticTypes := #[]
  resolved := Array.replicate 7 none
  statics := none }

def pool13 : Array CpInfo := pool [(2, .class_ 4), (1, u "sun/util/locale/BaseLocale"), (2, .class_ 8), (0, u "java/util/Locale"), (6, u "CONSTANT_LOCALES"), (0, u "Ljava/util/Map;"), (7, .class_ 26), (1, u "java/lang/Object"), (1, .fieldref 7 29), (0, .nameAndType 30 31), (0, u "baseLocale"), (0, u "Lsun/util/locale/BaseLocale;"), (2, u "localeExtensions"), (0, u "Lsun/util/locale/LocaleExtensions;"), (31, .class_ 69), (1, u "java/util/Locale$Cache"), (3, .class_ 74), (0, u "java/util/Locale$LocaleKey"), (3, u "defaultLocale"), (0, u "Ljava/util/Locale;"), (6, .class_ 88), (1, u "java/util/Locale$Category"), (4, u "defaultDisplayLocale"), (6, u "$assertionsDisabled"), (0, u "Z"), (12, u "defaultFormatLocale"), (12, u "Ljava/lang/String;"), (131, u "isoCountries"), (0, u "[Ljava/lang/String;"), (15, .class_ 278), (1, u "java/util/Locale$IsoCountryCode"), (4, u "isoLanguages"), (9, .methodref 2 294), (0, .nameAndType 295 296), (0, u "getLanguage"), (0, u "()Ljava/lang/String;"), (78, u "languageTag"), (114, .class_ 492), (1, u "java/util/Locale$LocaleNameGetter"), (125, u "hashCodeValue"), (0, u "I"), (29, u "ROOT"), (129, .class_ 781), (1, u "java/util/Locale$FilteringMode"), (39, u "ENGLISH"), (2, u "FRENCH"), (2, u "GERMAN"), (2, u "ITALIAN"), (2, u "JAPANESE"), (2, u "KOREAN"), (2, u "CHINESE"), (2, u "SIMPLIFIED_CHINESE"), (2, u "TRADITIONAL_CHINESE"), (2, u "FRANCE"), (2, u "GERMANY"), (2, u "ITALY"), (2, u "JAPAN"), (2, u "KOREA"), (2, u "UK"), (2, u "US"), (2, u "CANADA"), (2, u "CANADA_FRENCH"), (2, u "CHINA"), (2, u "PRC"), (2, u "TAIWAN"), (13, u "serialPersistentFields"), (0, u "[Ljava/io/ObjectStreamField;"), (0, .class_ 898), (0, u "java/lang/Cloneable"), (0, .class_ 900), (0, u "java/io/Serializable"), (2, u "PRIVATE_USE_EXTENSION"), (0, u "C"), (2, u "UNICODE_LOCALE_EXTENSION"), (1, u "serialVersionUID"), (0, u "J"), (2, u "DISPLAY_LANGUAGE"), (1, u "DISPLAY_COUNTRY"), (1, u "DISPLAY_VARIANT"), (1, u "DISPLAY_SCRIPT"), (1, u "DISPLAY_UEXT_KEY"), (1, u "DISPLAY_UEXT_TYPE"), (174, .class_ 1099), (0, u "java/util/Locale$LanguageRange"), (0, .class_ 1101), (0, u "java/util/Locale$Builder"), (0, .class_ 1103), (0, u "java/util/Locale$IsoCountryCode$3"), (0, .class_ 1105), (0, u "java/util/Locale$IsoCountryCode$2"), (0, .class_ 1107), (0, u "java/util/Locale$IsoCountryCode$1")] 46

def k13c0 : Code := { maxStack := 1, maxLocals := 1, code := jdk_2628_method_27_code, exceptionTable := #[], attributes := #[] }
def k13m0 : Method := { name := "getLanguage", desc := "()Ljava/lang/String;", sig := { parameters := [], returnType := some (.object "java/lang/String") }, accessFlags := 1, code := some k13c0 }
/-- java/util/Locale -/
def k13 : Class := { plain "java/util/Locale" (some 0) with
  accessFlags := 49
  interfaces := #[12, 3]
  cf := some (fileOf pool13 7 #[.nestMembers #[1098, 779, 1100, 86, 490, 73, 67, 276, 1102, 1104, 1106]] #[{ accessFlags := 1, nameIndex := 295, descriptorIndex := 296, attributes := #[] }] 49 24 #[897, 899] #[{ accessFlags := 25, nameIndex := 821, descriptorIndex := 79, attributes := #[] }, { accessFlags := 25, nameIndex := 824, descriptorIndex := 79, attributes := #[] }, { accessFlags := 25, nameIndex := 827, descriptorIndex := 79, attributes := #[] }, { accessFlags := 25, nameIndex := 830, descriptorIndex := 79, attributes := #[] }, { accessFlags := 25, nameIndex := 833, descriptorIndex := 79, attributes := #[] }, { accessFlags := 25, nameIndex := 836, descriptorIndex := 79, attributes := #[] }, { accessFlags := 25, nameIndex := 839, descriptorIndex := 79, attributes := #[] }, { accessFlags := 25, nameIndex := 842, descriptorIndex := 79, attributes := #[] }, { accessFlags := 25, nameIndex := 845, descriptorIndex := 79, attributes := #[] }, { accessFlags := 25, nameIndex := 848, descriptorIndex := 79, attributes := #[] }, { accessFlags := 25, nameIndex := 851, descriptorIndex := 79, attributes := #[] }, { accessFlags := 25, nameIndex := 854, descriptorIndex := 79, attributes := #[] }, { accessFlags := 25, nameIndex := 857, descriptorIndex := 79, attributes := #[] }, { accessFlags := 25, nameIndex := 860, descriptorIndex := 79, attributes := #[] }, { accessFlags := 25, nameIndex := 863, descriptorIndex := 79, attributes := #[] }, { accessFlags := 25, nameIndex := 866, descriptorIndex := 79, attributes := #[] }, { accessFlags := 25, nameIndex := 869, descriptorIndex := 79, attributes := #[] }, { accessFlags := 25, nameIndex := 872, descriptorIndex := 79, attributes := #[] }, { accessFlags := 25, nameIndex := 649, descriptorIndex := 79, attributes := #[] }, { accessFlags := 26, nameIndex := 15, descriptorIndex := 16, attributes := #[] }, { accessFlags := 25, nameIndex := 875, descriptorIndex := 79, attributes := #[] }, { accessFlags := 25, nameIndex := 878, descriptorIndex := 79, attributes := #[] }, { accessFlags := 25, nameIndex := 881, descriptorIndex := 79, attributes := #[] }, { accessFlags := 25, nameIndex := 903, descriptorIndex := 904, attributes := #[] }, { accessFlags := 25, nameIndex := 907, descriptorIndex := 904, attributes := #[] }, { accessFlags := 24, nameIndex := 909, descriptorIndex := 910, attributes := #[] }, { accessFlags := 26, nameIndex := 913, descriptorIndex := 619, attributes := #[] }, { accessFlags := 26, nameIndex := 915, descriptorIndex := 619, attributes := #[] }, { accessFlags := 26, nameIndex := 917, descriptorIndex := 619, attributes := #[] }, { accessFlags := 26, nameIndex := 919, descriptorIndex := 619, attributes := #[] }, { accessFlags := 26, nameIndex := 921, descriptorIndex := 619, attributes := #[] }, { accessFlags := 26, nameIndex := 923, descriptorIndex := 619, attributes := #[] }, { accessFlags := 130, nameIndex := 30, descriptorIndex := 31, attributes := #[] }, { accessFlags := 130, nameIndex := 34, descriptorIndex := 35, attributes := #[] }, { accessFlags := 130, nameIndex := 618, descriptorIndex := 619, attributes := #[] }, { accessFlags := 74, nameIndex := 78, descriptorIndex := 79, attributes := #[] }, { accessFlags := 74, nameIndex := 93, descriptorIndex := 79, attributes := #[] }, { accessFlags := 74, nameIndex := 114, descriptorIndex := 79, attributes := #[] }, { accessFlags := 194, nameIndex := 375, descriptorIndex := 127, attributes := #[] }, { accessFlags := 26, nameIndex := 895, descriptorIndex := 896, attributes := #[] }, { accessFlags := 74, nameIndex := 283, descriptorIndex := 260, attributes := #[] }, { accessFlags := 74, nameIndex := 259, descriptorIndex := 260, attributes := #[] }, { accessFlags := 4120, nameIndex := 100, descriptorIndex := 101, attributes := #[] }])
  fields := #[{ name := "ENGLISH", type := (.object "java/util/Locale"), accessFlags := 25, slot := 0, constantValue := 0 }, { name := "FRENCH", type := (.object "java/util/Locale"), accessFlags := 25, slot := 1, constantValue := 0 }, { name := "GERMAN", type := (.object "java/util/Locale"), accessFlags := 25, slot := 2, constantValue := 0 }, { name := "ITALIAN", type := (.object "java/util/Locale"), accessFlags := 25, slot := 3, constantValue := 0 }, { name := "JAPANESE", type := (.object "java/util/Locale"), accessFlags := 25, slot := 4, constantValue := 0 }, { name := "KOREAN", type := (.object "java/util/Locale"), accessFlags := 25, slot := 5, constantValue := 0 }, { name := "CHINESE", type := (.object "java/util/Locale"), accessFlags := 25, slot := 6, constantValue := 0 }, { name := "SIMPLIFIED_CHINESE", type := (.object "java/util/Locale"), accessFlags := 25, slot := 7, constantValue := 0 }, { name := "TRADITIONAL_CHINESE", type := (.object "java/util/Locale"), accessFlags := 25, slot := 8, constantValue := 0 }, { name := "FRANCE", type := (.object "java/util/Locale"), accessFlags := 25, slot := 9, constantValue := 0 }, { name := "GERMANY", type := (.object "java/util/Locale"), accessFlags := 25, slot := 10, constantValue := 0 }, { name := "ITALY", type := (.object "java/util/Locale"), accessFlags := 25, slot := 11, constantValue := 0 }, { name := "JAPAN", type := (.object "java/util/Locale"), accessFlags := 25, slot := 12, constantValue := 0 }, { name := "KOREA", type := (.object "java/util/Locale"), accessFlags := 25, slot := 13, constantValue := 0 }, { name := "UK", type := (.object "java/util/Locale"), accessFlags := 25, slot := 14, constantValue := 0 }, { name := "US", type := (.object "java/util/Locale"), accessFlags := 25, slot := 15, constantValue := 0 }, { name := "CANADA", type := (.object "java/util/Locale"), accessFlags := 25, slot := 16, constantValue := 0 }, { name := "CANADA_FRENCH", type := (.object "java/util/Locale"), accessFlags := 25, slot := 17, constantValue := 0 }, { name := "ROOT", type := (.object "java/util/Locale"), accessFlags := 25, slot := 18, constantValue := 0 }, { name := "CONSTANT_LOCALES", type := (.object "java/util/Map"), accessFlags := 26, slot := 19, constantValue := 0 }, { name := "CHINA", type := (.object "java/util/Locale"), accessFlags := 25, slot := 20, constantValue := 0 }, { name := "PRC", type := (.object "java/util/Locale"), accessFlags := 25, slot := 21, constantValue := 0 }, { name := "TAIWAN", type := (.object "java/util/Locale"), accessFlags := 25, slot := 22, constantValue := 0 }, { name := "PRIVATE_USE_EXTENSION", type := .char, accessFlags := 25, slot := 23, constantValue := 0 }, { name := "UNICODE_LOCALE_EXTENSION", type := .char, accessFlags := 25, slot := 24, constantValue := 0 }, { name := "serialVersionUID", type := .long, accessFlags := 24, slot := 25, constantValue := 0 }, { name := "DISPLAY_LANGUAGE", type := .int, accessFlags := 26, slot := 26, constantValue := 0 }, { name := "DISPLAY_COUNTRY", type := .int, accessFlags := 26, slot := 27, constantValue := 0 }, { name := "DISPLAY_VARIANT", type := .int, accessFlags := 26, slot := 28, constantValue := 0 }, { name := "DISPLAY_SCRIPT", type := .int, accessFlags := 26, slot := 29, constantValue := 0 }, { name := "DISPLAY_UEXT_KEY", type := .int, accessFlags := 26, slot := 30, constantValue := 0 }, { name := "DISPLAY_UEXT_TYPE", type := .int, accessFlags := 26, slot := 31, constantValue := 0 }, { name := "baseLocale", type := (.object "sun/util/locale/BaseLocale"), accessFlags := 130, slot := 0, constantValue := 0 }, { name := "localeExtensions", type := (.object "sun/util/locale/LocaleExtensions"), accessFlags := 130, slot := 1, constantValue := 0 }, { name := "hashCodeValue", type := .int, accessFlags := 130, slot := 2, constantValue := 0 }, { name := "defaultLocale", type := (.object "java/util/Locale"), accessFlags := 74, slot := 32, constantValue := 0 }, { name := "defaultDisplayLocale", type := (.object "java/util/Locale"), accessFlags := 74, slot := 33, constantValue := 0 }, { name := "defaultFormatLocale", type := (.object "java/util/Locale"), accessFlags := 74, slot := 34, constantValue := 0 }, { name := "languageTag", type := (.object "java/lang/String"), accessFlags := 194, slot := 3, constantValue := 0 }, { name := "serialPersistentFields", type := (.array (.object "java/io/ObjectStreamField")), accessFlags := 26, slot := 35, constantValue := 0 }, { name := "isoLanguages", type := (.array (.object "java/lang/String")), accessFlags := 74, slot := 36, constantValue := 0 }, { name := "isoCountries", type := (.array (.object "java/lang/String")), accessFlags := 74, slot := 37, constantValue := 0 }, { name := "$assertionsDisabled", type := .boolean, accessFlags := 4120, slot := 38, constantValue := 0 }]
  methods := #[k13m0]
  instanceTypes := #[(.object "sun/util/locale/BaseLocale"), (.object "sun/util/locale/LocaleExtensions"), .int, (.object "java/lang/String")]
  staticTypes := #[(.object "java/util/Locale"), (.object "java/util/Locale"), (.object "java/util/Locale"), (.object "java/util/Locale"), (.object "java/util/Locale"), (.object "java/util/Locale"), (.object "java/util/Locale"), (.object "java/util/Locale"), (.object "java/util/Locale"), (.object "java/util/Locale"), (.object "java/util/Locale"), (.object "java/util/Locale"), (.object "java/util/Locale"), (.object "java/util/Locale"), (.object "java/util/Locale"), (.object "java/util/Locale"), (.object "java/util/Locale"), (.object "java/util/Locale"), (.object "java/util/Locale"), (.object "java/util/Map"), (.object "java/util/Locale"), (.object "java/util/Locale"), (.object "java/util/Locale"), .char, .char, .long, .int, .int, .int, .int, .int, .int, (.object "java/util/Locale"), (.object "java/util/Locale"), (.object "java/util/Locale"), (.array (.object "java/io/ObjectStreamField")), (.array (.object "java/lang/String")), (.array (.object "java/lang/String")), .boolean]
  resolved := Array.replicate 1154 none
  statics := some 2 }

def pool14 : Array CpInfo := pool [(2, .class_ 4), (1, u "java/lang/Object"), (13, u "()Ljava/lang/String;"), (0, .fieldref 20 21), (0, .class_ 22), (0, .nameAndType 23 24), (0, u "sun/util/locale/BaseLocale"), (0, u "language"), (0, u "Ljava/lang/String;"), (5, u "script"), (5, u "region"), (2, u "variant"), (11, u "constantBaseLocales"), (0, u "[Lsun/util/locale/BaseLocale;"), (2, u "getLanguage"), (10, .class_ 67), (0, u "sun/util/locale/BaseLocale$Key"), (2, .class_ 72), (1, u "sun/util/locale/BaseLocale$Cache"), (24, u "OLD_ISO_CODES"), (0, u "Z"), (32, u "hash"), (0, u "I"), (41, u "US"), (15, u "ENGLISH"), (0, u "B"), (2, u "FRENCH"), (1, u "GERMAN"), (1, u "ITALIAN"), (1, u "JAPANESE"), (1, u "KOREAN"), (1, u "CHINESE"), (1, u "SIMPLIFIED_CHINESE"), (1, u "TRADITIONAL_CHINESE"), (1, u "FRANCE"), (1, u "GERMANY"), (1, u "ITALY"), (1, u "JAPAN"), (1, u "KOREA"), (1, u "UK"), (2, u "CANADA"), (1, u "CANADA_FRENCH"), (1, u "ROOT"), (1, u "NUM_CONSTANTS"), (1, u "SEP")] 31

def k14c0 : Code := { maxStack := 1, maxLocals := 1, code := jdk_3003_method_5_code, exceptionTable := #[], attributes := #[] }
def k14m0 : Method := { name := "getLanguage", desc := "()Ljava/lang/String;", sig := { parameters := [], returnType := some (.object "java/lang/String") }, accessFlags := 1, code := some k14c0 }
/-- sun/util/locale/BaseLocale -/
def k14 : Class := { plain "sun/util/locale/BaseLocale" (some 0) with
  accessFlags := 49
  interfaces := #[]
  cf := some (fileOf pool14 20 #[.nestMembers #[70, 66]] #[{ accessFlags := 1, nameIndex := 55, descriptorIndex := 18, attributes := #[] }] 49 2 #[] #[{ accessFlags := 9, nameIndex := 51, descriptorIndex := 52, attributes := #[] }, { accessFlags := 25, nameIndex := 190, descriptorIndex := 191, attributes := #[] }, { accessFlags := 25, nameIndex := 194, descriptorIndex := 191, attributes := #[] }, { accessFlags := 25, nameIndex := 196, descriptorIndex := 191, attributes := #[] }, { accessFlags := 25, nameIndex := 198, descriptorIndex := 191, attributes := #[] }, { accessFlags := 25, nameIndex := 200, descriptorIndex := 191, attributes := #[] }, { accessFlags := 25, nameIndex := 202, descriptorIndex := 191, attributes := #[] }, { accessFlags := 25, nameIndex := 204, descriptorIndex := 191, attributes := #[] }, { accessFlags := 25, nameIndex := 206, descriptorIndex := 191, attributes := #[] }, { accessFlags := 25, nameIndex := 208, descriptorIndex := 191, attributes := #[] }, { accessFlags := 25, nameIndex := 210, descriptorIndex := 191, attributes := #[] }, { accessFlags := 25, nameIndex := 212, descriptorIndex := 191, attributes := #[] }, { accessFlags := 25, nameIndex := 214, descriptorIndex := 191, attributes := #[] }, { accessFlags := 25, nameIndex := 216, descriptorIndex := 191, attributes := #[] }, { accessFlags := 25, nameIndex := 218, descriptorIndex := 191, attributes := #[] }, { accessFlags := 25, nameIndex := 220, descriptorIndex := 191, attributes := #[] }, { accessFlags := 25, nameIndex := 174, descriptorIndex := 191, attributes := #[] }, { accessFlags := 25, nameIndex := 223, descriptorIndex := 191, attributes := #[] }, { accessFlags := 25, nameIndex := 225, descriptorIndex := 191, attributes := #[] }, { accessFlags := 25, nameIndex := 227, descriptorIndex := 191, attributes := #[] }, { accessFlags := 25, nameIndex := 229, descriptorIndex := 191, attributes := #[] }, { accessFlags := 25, nameIndex := 231, descriptorIndex := 24, attributes := #[] }, { accessFlags := 18, nameIndex := 23, descriptorIndex := 24, attributes := #[] }, { accessFlags := 18, nameIndex := 30, descriptorIndex := 24, attributes := #[] }, { accessFlags := 18, nameIndex := 36, descriptorIndex := 24, attributes := #[] }, { accessFlags := 18, nameIndex := 39, descriptorIndex := 24, attributes := #[] }, { accessFlags := 2, nameIndex := 131, descriptorIndex := 132, attributes := #[] }, { accessFlags := 26, nameIndex := 97, descriptorIndex := 98, attributes := #[] }])
  fields := #[{ name := "constantBaseLocales", type := (.array (.object "sun/util/locale/BaseLocale")), accessFlags := 9, slot := 0, constantValue := 0 }, { name := "ENGLISH", type := .byte, accessFlags := 25, slot := 1, constantValue := 0 }, { name := "FRENCH", type := .byte, accessFlags := 25, slot := 2, constantValue := 0 }, { name := "GERMAN", type := .byte, accessFlags := 25, slot := 3, constantValue := 0 }, { name := "ITALIAN", type := .byte, accessFlags := 25, slot := 4, constantValue := 0 }, { name := "JAPANESE", type := .byte, accessFlags := 25, slot := 5, constantValue := 0 }, { name := "KOREAN", type := .byte, accessFlags := 25, slot := 6, constantValue := 0 }, { name := "CHINESE", type := .byte, accessFlags := 25, slot := 7, constantValue := 0 }, { name := "SIMPLIFIED_CHINESE", type := .byte, accessFlags := 25, slot := 8, constantValue := 0 }, { name := "TRADITIONAL_CHINESE", type := .byte, accessFlags := 25, slot := 9, constantValue := 0 }, { name := "FRANCE", type := .byte, accessFlags := 25, slot := 10, constantValue := 0 }, { name := "GERMANY", type := .byte, accessFlags := 25, slot := 11, constantValue := 0 }, { name := "ITALY", type := .byte, accessFlags := 25, slot := 12, constantValue := 0 }, { name := "JAPAN", type := .byte, accessFlags := 25, slot := 13, constantValue := 0 }, { name := "KOREA", type := .byte, accessFlags := 25, slot := 14, constantValue := 0 }, { name := "UK", type := .byte, accessFlags := 25, slot := 15, constantValue := 0 }, { name := "US", type := .byte, accessFlags := 25, slot := 16, constantValue := 0 }, { name := "CANADA", type := .byte, accessFlags := 25, slot := 17, constantValue := 0 }, { name := "CANADA_FRENCH", type := .byte, accessFlags := 25, slot := 18, constantValue := 0 }, { name := "ROOT", type := .byte, accessFlags := 25, slot := 19, constantValue := 0 }, { name := "NUM_CONSTANTS", type := .byte, accessFlags := 25, slot := 20, constantValue := 0 }, { name := "SEP", type := (.object "java/lang/String"), accessFlags := 25, slot := 21, constantValue := 0 }, { name := "language", type := (.object "java/lang/String"), accessFlags := 18, slot := 0, constantValue := 0 }, { name := "script", type := (.object "java/lang/String"), accessFlags := 18, slot := 1, constantValue := 0 }, { name := "region", type := (.object "java/lang/String"), accessFlags := 18, slot := 2, constantValue := 0 }, { name := "variant", type := (.object "java/lang/String"), accessFlags := 18, slot := 3, constantValue := 0 }, { name := "hash", type := .int, accessFlags := 2, slot := 4, constantValue := 0 }, { name := "OLD_ISO_CODES", type := .boolean, accessFlags := 26, slot := 22, constantValue := 0 }]
  methods := #[k14m0]
  instanceTypes := #[(.object "java/lang/String"), (.object "java/lang/String"), (.object "java/lang/String"), (.object "java/lang/String"), .int]
  staticTypes := #[(.array (.object "sun/util/locale/BaseLocale")), .byte, .byte, .byte, .byte, .byte, .byte, .byte, .byte, .byte, .byte, .byte, .byte, .byte, .byte, .byte, .byte, .byte, .byte, .byte, .byte, (.object "java/lang/String"), .boolean]
  resolved := Array.replicate 263 none
  statics := none }

def pool15 : Array CpInfo := pool [(2, .class_ 4), (1, u "java/lang/Object"), (0, u "<init>"), (0, u "()V"), (1, .class_ 10), (1, u "java/lang/System"), (0, u "allowSecurityManager"), (0, u "I"), (16, u "cons"), (0, u "Ljava/io/Console;"), (77, .class_ 110), (1, u "java/lang/System$CallersHolder"), (43, u "initialErrStream"), (0, u "Ljava/io/PrintStream;"), (19, u "security"), (0, u "Ljava/lang/SecurityManager;"), (31, .class_ 209), (0, u "java/lang/System$1"), (7, u "props"), (0, u "Ljava/util/Properties;"), (2, u "lineSeparator"), (0, u "Ljava/lang/String;"), (96, .class_ 321), (1, u "java/lang/System$LoggerFinder"), (5, .class_ 328), (0, u "java/lang/System$Logger"), (67, u "err"), (2, u "out"), (91, u "notSupportedJnuEncoding"), (15, u "in"), (17, u "initialIn"), (0, u "Ljava/io/InputStream;"), (35, u "bootLayer"), (0, u "Ljava/lang/ModuleLayer;"), (99, .class_ 664), (0, u "java/lang/System$2"), (9, u "NEVER"), (2, u "MAYBE"), (49, u "arraycopy"), (0, u "(Ljava/lang/Object;ILjava/lang/Object;II)V"), (72, .class_ 802), (0, u "java/lang/System$Logger$Level")] 31

def k15m0 : Method := { name := "<init>", desc := "()V", sig := { parameters := [], returnType := none }, accessFlags := 2, code := none }
def k15m1 : Method := { name := "arraycopy", desc := "(Ljava/lang/Object;ILjava/lang/Object;II)V", sig := { parameters := [(.object "java/lang/Object"), .int, (.object "java/lang/Object"), .int, .int], returnType := none }, accessFlags := 265, code := none }
/-- java/lang/System -/
def k15 : Class := { plain "java/lang/System" (some 0) with
  accessFlags := 49
  interfaces := #[]
  cf := some (fileOf pool15 8 #[.nestMembers #[319, 327, 801, 108, 663, 208]] #[{ accessFlags := 2, nameIndex := 5, descriptorIndex := 6, attributes := #[] }, { accessFlags := 265, nameIndex := 727, descriptorIndex := 728, attributes := #[] }] 49 2 #[] #[{ accessFlags := 25, nameIndex := 507, descriptorIndex := 526, attributes := #[] }, { accessFlags := 25, nameIndex := 399, descriptorIndex := 155, attributes := #[] }, { accessFlags := 25, nameIndex := 396, descriptorIndex := 155, attributes := #[] }, { accessFlags := 10, nameIndex := 525, descriptorIndex := 526, attributes := #[] }, { accessFlags := 26, nameIndex := 674, descriptorIndex := 12, attributes := #[] }, { accessFlags := 26, nameIndex := 677, descriptorIndex := 12, attributes := #[] }, { accessFlags := 10, nameIndex := 11, descriptorIndex := 12, attributes := #[] }, { accessFlags := 74, nameIndex := 175, descriptorIndex := 176, attributes := #[] }, { accessFlags := 10, nameIndex := 491, descriptorIndex := 222, attributes := #[] }, { accessFlags := 74, nameIndex := 29, descriptorIndex := 30, attributes := #[] }, { accessFlags := 74, nameIndex := 154, descriptorIndex := 155, attributes := #[] }, { accessFlags := 10, nameIndex := 217, descriptorIndex := 218, attributes := #[] }, { accessFlags := 10, nameIndex := 221, descriptorIndex := 222, attributes := #[] }, { accessFlags := 8, nameIndex := 562, descriptorIndex := 563, attributes := #[] }])
  fields := #[{ name := "in", type := (.object "java/io/InputStream"), accessFlags := 25, slot := 0, constantValue := 0 }, { name := "out", type := (.object "java/io/PrintStream"), accessFlags := 25, slot := 1, constantValue := 0 }, { name := "err", type := (.object "java/io/PrintStream"), accessFlags := 25, slot := 2, constantValue := 0 }, { name := "initialIn", type := (.object "java/io/InputStream"), accessFlags := 10, slot := 3, constantValue := 0 }, { name := "NEVER", type := .int, accessFlags := 26, slot := 4, constantValue := 0 }, { name := "MAYBE", type := .int, accessFlags := 26, slot := 5, constantValue := 0 }, { name := "allowSecurityManager", type := .int, accessFlags := 10, slot := 6, constantValue := 0 }, { name := "security", type := (.object "java/lang/SecurityManager"), accessFlags := 74, slot := 7, constantValue := 0 }, { name := "notSupportedJnuEncoding", type := (.object "java/lang/String"), accessFlags := 10, slot := 8, constantValue := 0 }, { name := "cons", type := (.object "java/io/Console"), accessFlags := 74, slot := 9, constantValue := 0 }, { name := "initialErrStream", type := (.object "java/io/PrintStream"), accessFlags := 74, slot := 10, constantValue := 0 }, { name := "props", type := (.object "java/util/Properties"), accessFlags := 10, slot := 11, constantValue := 0 }, { name := "lineSeparator", type := (.object "java/lang/String"), accessFlags := 10, slot := 12, constantValue := 0 }, { name := "bootLayer", type := (.object "java/lang/ModuleLayer"), accessFlags := 8, slot := 13, constantValue := 0 }]
  methods := #[k15m0, k15m1]
  instanceTypes := #[]
  staticTypes := #[(.object "java/io/InputStream"), (.object "java/io/PrintStream"), (.object "java/io/PrintStream"), (.object "java/io/InputStream"), .int, .int, .int, (.object "java/lang/SecurityManager"), (.object "java/lang/String"), (.object "java/io/Console"), (.object "java/io/PrintStream"), (.object "java/util/Properties"), (.object "java/lang/String"), (.object "java/lang/ModuleLayer")]
  resolved := Array.replicate 834 none
  statics := none }

def pool16 : Array CpInfo := pool [(9, u "<init>"), (6, .class_ 18), (1, u "java/lang/Object"), (0, u "()V"), (1, .class_ 23), (1, u "jdk/internal/util/ArraysSupport"), (0, u "LOG2_ARRAY_LONG_INDEX_SCALE"), (0, u "I"), (2, u "U"), (0, u "Ljdk/internal/misc/Unsafe;"), (8, u "BIG_ENDIAN"), (0, u "Z"), (8, u "LOG2_BYTE_BIT_SIZE"), (4, u "LOG2_ARRAY_INT_INDEX_SCALE"), (54, u "JLA"), (0, u "Ljdk/internal/access/JavaLangAccess;"), (11, u "LOG2_ARRAY_BOOLEAN_INDEX_SCALE"), (9, u "LOG2_ARRAY_BYTE_INDEX_SCALE"), (5, u "LOG2_ARRAY_CHAR_INDEX_SCALE"), (5, u "LOG2_ARRAY_SHORT_INDEX_SCALE"), (18, u "LOG2_ARRAY_FLOAT_INDEX_SCALE"), (24, u "LOG2_ARRAY_DOUBLE_INDEX_SCALE"), (89, u "T_BOOLEAN"), (2, u "T_CHAR"), (1, u "T_FLOAT"), (1, u "T_DOUBLE"), (1, u "T_BYTE"), (1, u "T_SHORT"), (1, u "T_INT"), (1, u "T_LONG"), (1, u "SOFT_MAX_ARRAY_LENGTH")] 83

def k16m0 : Method := { name := "<init>", desc := "()V", sig := { parameters := [], returnType := none }, accessFlags := 2, code := none }
/-- jdk/internal/util/ArraysSupport -/
def k16 : Class := { plain "jdk/internal/util/ArraysSupport" (some 0) with
  accessFlags := 33
  interfaces := #[]
  cf := some (fileOf pool16 21 #[] #[{ accessFlags := 2, nameIndex := 9, descriptorIndex := 19, attributes := #[] }] 33 16 #[] #[{ accessFlags := 24, nameIndex := 28, descriptorIndex := 29, attributes := #[] }, { accessFlags := 26, nameIndex := 38, descriptorIndex := 39, attributes := #[] }, { accessFlags := 25, nameIndex := 121, descriptorIndex := 25, attributes := #[] }, { accessFlags := 25, nameIndex := 131, descriptorIndex := 25, attributes := #[] }, { accessFlags := 25, nameIndex := 137, descriptorIndex := 25, attributes := #[] }, { accessFlags := 25, nameIndex := 143, descriptorIndex := 25, attributes := #[] }, { accessFlags := 25, nameIndex := 53, descriptorIndex := 25, attributes := #[] }, { accessFlags := 25, nameIndex := 24, descriptorIndex := 25, attributes := #[] }, { accessFlags := 25, nameIndex := 162, descriptorIndex := 25, attributes := #[] }, { accessFlags := 25, nameIndex := 187, descriptorIndex := 25, attributes := #[] }, { accessFlags := 26, nameIndex := 48, descriptorIndex := 25, attributes := #[] }, { accessFlags := 25, nameIndex := 277, descriptorIndex := 25, attributes := #[] }, { accessFlags := 25, nameIndex := 280, descriptorIndex := 25, attributes := #[] }, { accessFlags := 25, nameIndex := 282, descriptorIndex := 25, attributes := #[] }, { accessFlags := 25, nameIndex := 284, descriptorIndex := 25, attributes := #[] }, { accessFlags := 25, nameIndex := 286, descriptorIndex := 25, attributes := #[] }, { accessFlags := 25, nameIndex := 288, descriptorIndex := 25, attributes := #[] }, { accessFlags := 25, nameIndex := 290, descriptorIndex := 25, attributes := #[] }, { accessFlags := 25, nameIndex := 292, descriptorIndex := 25, attributes := #[] }, { accessFlags := 26, nameIndex := 108, descriptorIndex := 109, attributes := #[] }, { accessFlags := 25, nameIndex := 294, descriptorIndex := 25, attributes := #[] }])
  fields := #[{ name := "U", type := (.object "jdk/internal/misc/Unsafe"), accessFlags := 24, slot := 0, constantValue := 0 }, { name := "BIG_ENDIAN", type := .boolean, accessFlags := 26, slot := 1, constantValue := 0 }, { name := "LOG2_ARRAY_BOOLEAN_INDEX_SCALE", type := .int, accessFlags := 25, slot := 2, constantValue := 0 }, { name := "LOG2_ARRAY_BYTE_INDEX_SCALE", type := .int, accessFlags := 25, slot := 3, constantValue := 0 }, { name := "LOG2_ARRAY_CHAR_INDEX_SCALE", type := .int, accessFlags := 25, slot := 4, constantValue := 0 }, { name := "LOG2_ARRAY_SHORT_INDEX_SCALE", type := .int, accessFlags := 25, slot := 5, constantValue := 0 }, { name := "LOG2_ARRAY_INT_INDEX_SCALE", type := .int, accessFlags := 25, slot := 6, constantValue := 0 }, { name := "LOG2_ARRAY_LONG_INDEX_SCALE", type := .int, accessFlags := 25, slot := 7, constantValue := 0 }, { name := "LOG2_ARRAY_FLOAT_INDEX_SCALE", type := .int, accessFlags := 25, slot := 8, constantValue := 0 }, { name := "LOG2_ARRAY_DOUBLE_INDEX_SCALE", type := .int, accessFlags := 25, slot := 9, constantValue := 0 }, { name := "LOG2_BYTE_BIT_SIZE", type := .int, accessFlags := 26, slot := 10, constantValue := 0 }, { name := "T_BOOLEAN", type := .int, accessFlags := 25, slot := 11, constantValue := 0 }, { name := "T_CHAR", type := .int, accessFlags := 25, slot := 12, constantValue := 0 }, { name := "T_FLOAT", type := .int, accessFlags := 25, slot := 13, constantValue := 0 }, { name := "T_DOUBLE", type := .int, accessFlags := 25, slot := 14, constantValue := 0 }, { name := "T_BYTE", type := .int, accessFlags := 25, slot := 15, constantValue := 0 }, { name := "T_SHORT", type := .int, accessFlags := 25, slot := 16, constantValue := 0 }, { name := "T_INT", type := .int, accessFlags := 25, slot := 17, constantValue := 0 }, { name := "T_LONG", type := .int, accessFlags := 25, slot := 18, constantValue := 0 }, { name := "JLA", type := (.object "jdk/internal/access/JavaLangAccess"), accessFlags := 26, slot := 19, constantValue := 0 }, { name := "SOFT_MAX_ARRAY_LENGTH", type := .int, accessFlags := 25, slot := 20, constantValue := 0 }]
  methods := #[k16m0]
  instanceTypes := #[]
  staticTypes := #[(.object "jdk/internal/misc/Unsafe"), .boolean, .int, .int, .int, .int, .int, .int, .int, .int, .int, .int, .int, .int, .int, .int, .int, .int, .int, (.object "jdk/internal/access/JavaLangAccess"), .int]
  resolved := Array.replicate 378 none
  statics := some 3 }

def pool17 : Array CpInfo := pool [(2, .class_ 4), (1, u "java/lang/Object"), (0, u "<init>"), (0, u "()V"), (17, .class_ 26), (1, u "jdk/internal/util/Preconditions"), (28, .class_ 56), (0, u "jdk/internal/util/Preconditions$4"), (57, .class_ 115), (0, u "jdk/internal/util/Preconditions$1"), (7, u "SIOOBE_FORMATTER"), (0, u "Ljava/util/function/BiFunction;"), (0, .class_ 126), (0, u "jdk/internal/util/Preconditions$2"), (3, u "AIOOBE_FORMATTER"), (0, .class_ 132), (0, u "jdk/internal/util/Preconditions$3"), (3, u "IOOBE_FORMATTER")] 57

def k17m0 : Method := { name := "<init>", desc := "()V", sig := { parameters := [], returnType := none }, accessFlags := 1, code := none }
/-- jdk/internal/util/Preconditions -/
def k17 : Class := { plain "jdk/internal/util/Preconditions" (some 0) with
  accessFlags := 33
  interfaces := #[]
  cf := some (fileOf pool17 24 #[.nestMembers #[55, 131, 125, 114]] #[{ accessFlags := 1, nameIndex := 5, descriptorIndex := 6, attributes := #[] }] 33 2 #[] #[{ accessFlags := 25, nameIndex := 123, descriptorIndex := 124, attributes := #[] }, { accessFlags := 25, nameIndex := 130, descriptorIndex := 124, attributes := #[] }, { accessFlags := 25, nameIndex := 136, descriptorIndex := 124, attributes := #[] }])
  fields := #[{ name := "SIOOBE_FORMATTER", type := (.object "java/util/function/BiFunction"), accessFlags := 25, slot := 0, constantValue := 0 }, { name := "AIOOBE_FORMATTER", type := (.object "java/util/function/BiFunction"), accessFlags := 25, slot := 1, constantValue := 0 }, { name := "IOOBE_FORMATTER", type := (.object "java/util/function/BiFunction"), accessFlags := 25, slot := 2, constantValue := 0 }]
  methods := #[k17m0]
  instanceTypes := #[]
  staticTypes := #[(.object "java/util/function/BiFunction"), (.object "java/util/function/BiFunction"), (.object "java/util/function/BiFunction")]
  resolved := Array.replicate 194 none
  statics := some 4 }

/-- the primitive byte -/
def k18 : Class := { plain "byte" none with kind := .primitive 'B', accessFlags := 0x411 }
/-- [B -/
def k19 : Class := { plain "[B" (some 0) with kind := .array 18 .byte, interfaces := #[12, 3], accessFlags := 1041 }

/-- the primitive int -/
def k20 : Class := { plain "int" none with kind := .primitive 'I', accessFlags := 0x411 }
/-- [I -/
def k21 : Class := { plain "[I" (some 0) with kind := .array 20 .int, interfaces := #[12, 3], accessFlags := 1041 }

def heap : Heap := #[{ cls := 8, slots := #[.long 0, .int 1, .null, .int 0, .null, .int 0, .int 0], vm := .statics 8 },
  { cls := 11, slots := #[.null, .null, .ref 9, .ref 10, .null], vm := .statics 11 },
  { cls := 13, slots := #[.null, .null, .null, .null, .null, .null, .null, .null, .null, .null, .null, .null, .null, .null, .null, .null, .null, .null, .ref 5, .null, .null, .null, .null, .int 0, .int 0, .long 0, .int 0, .int 0, .int 0, .int 0, .int 0, .int 0, .null, .null, .null, .null, .null, .null, .int 0], vm := .statics 13 },
  { cls := 16, slots := #[.null, .int 0, .int 0, .int 0, .int 0, .int 0, .int 0, .int 0, .int 0, .int 0, .int 0, .int 0, .int 0, .int 0, .int 0, .int 0, .int 0, .int 0, .int 0, .null, .int 0], vm := .statics 16 },
  { cls := 17, slots := #[.null, .null, .null], vm := .statics 17 },
  { cls := 13, slots := #[.ref 6, .null, .int 0, .null], vm := .none },
  { cls := 14, slots := #[.ref 7, .null, .null, .null, .int 0], vm := .none },
  { cls := 8, slots := #[.ref 8, .int 0, .int 0, .int 0], vm := .none },
  { cls := 19, slots := #[], vm := .none },
  { cls := 11, slots := #[], vm := .none },
  { cls := 21, slots := #[.int 1207963663, .int 1207963663, .int 1207963663, .int 1207963663, .int 1207963663, .int 1207963663, .int 1207963663, .int 1207963663, .int 1207963663, .int 1476411407, .int 1342193679, .int 1476411407, .int 1610629135, .int 1342193679, .int 1207963663, .int 1207963663, .int 1207963663, .int 1207963663, .int 1207963663, .int 1207963663, .int 1207963663, .int 1207963663, .int 1207963663, .int 1207963663, .int 1207963663, .int 1207963663, .int 1207963663, .int 1207963663, .int 1342193679, .int 1342193679, .int 1342193679, .int 1476411407, .int 1610629132, .int 1744830488, .int 1744830488, .int 671088664, .int 671113242, .int 671088664, .int 1744830488, .int 1744830488, .int (-402653163), .int (-402653162), .int 1744830488, .int 536870937, .int 939524120, .int 536870932, .int 939524120, .int 939524120, .int 402667017, .int 402667017, .int 402667017, .int 402667017, .int 402667017, .int 402667017, .int 402667017, .int 402667017, .int 402667017, .int 402667017, .int 939524120, .int 1744830488, .int (-402653159), .int 1744830489, .int (-402653159), .int 1744830488, .int 1744830488, .int 8552417, .int 8552417, .int 8552417, .int 8552417, .int 8552417, .int 8552417, .int 8552417, .int 8552417, .int 8552417, .int 8552417, .int 8552417, .int 8552417, .int 8552417, .int 8552417, .int 8552417, .int 8552417, .int 8552417, .int 8552417, .int 8552417, .int 8552417, .int 8552417, .int 8552417, .int 8552417, .int 8552417, .int 8552417, .int 8552417, .int (-402653163), .int 1744830488, .int (-402653162), .int 1744830491, .int 1744850967, .int 1744830491, .int 8486882, .int 8486882, .int 8486882, .int 8486882, .int 8486882, .int 8486882, .int 8486882, .int 8486882, .int 8486882, .int 8486882, .int 8486882, .int 8486882, .int 8486882, .int 8486882, .int 8486882, .int 8486882, .int 8486882, .int 8486882, .int 8486882, .int 8486882, .int 8486882, .int 8486882, .int 8486882, .int 8486882, .int 8486882, .int 8486882, .int (-402653163), .int 1744830489, .int (-402653162), .int 1744830489, .int 1207963663, .int 1207963663, .int 1207963663, .int 1207963663, .int 1207963663, .int 1207963663, .int 1342181391, .int 1207963663, .int 1207963663, .int 1207963663, .int 1207963663, .int 1207963663, .int 1207963663, .int 1207963663, .int 1207963663, .int 1207963663, .int 1207963663, .int 1207963663, .int 1207963663, .int 1207963663, .int 1207963663, .int 1207963663, .int 1207963663, .int 1207963663, .int 1207963663, .int 1207963663, .int 1207963663, .int 1207963663, .int 1207963663, .int 1207963663, .int 1207963663, .int 1207963663, .int 1207963663, .int 939524108, .int 1744830488, .int 671113242, .int 671113242, .int 671113242, .int 671113242, .int 1744830492, .int 1744830488, .int 1744830491, .int 1744830492, .int 28677, .int (-402653155), .int 1744830489, .int 1207963664, .int 1744830492, .int 1744830491, .int 671088668, .int 671088665, .int 402654731, .int 402654731, .int 1744830491, .int 134049794, .int 1744830488, .int 1744830488, .int 1744830491, .int 402654475, .int 28677, .int (-402653154), .int 1744832523, .int 1744832523, .int 1744832523, .int 1744830488, .int 8548353, .int 8548353, .int 8548353, .int 8548353, .int 8548353, .int 8548353, .int 8548353, .int 8548353, .int 8548353, .int 8548353, .int 8548353, .int 8548353, .int 8548353, .int 8548353, .int 8548353, .int 8548353, .int 8548353, .int 8548353, .int 8548353, .int 8548353, .int 8548353, .int 8548353, .int 8548353, .int 1744830489, .int 8548353, .int 8548353, .int 8548353, .int 8548353, .int 8548353, .int 8548353, .int 8548353, .int 134049794, .int 8482818, .int 8482818, .int 8482818, .int 8482818, .int 8482818, .int 8482818, .int 8482818, .int 8482818, .int 8482818, .int 8482818, .int 8482818, .int 8482818, .int 8482818, .int 8482818, .int 8482818, .int 8482818, .int 8482818, .int 8482818, .int 8482818, .int 8482818, .int 8482818, .int 8482818, .int 8482818, .int 1744830489, .int 8482818, .int 8482818, .int 8482818, .int 8482818, .int 8482818, .int 8482818, .int 8482818, .int 102592514], vm := .none }]
def classes : Array Class := #[k0, k1, k2, k3, k4, k5, k6, k7, k8, k9, k10, k11, k12, k13, k14, k15, k16, k17, k18, k19, k20, k21]
def interned : List (Array UInt16 × Addr) := []
def slotsUsed : Nat := 344
def theMethod : MethodId := ⟨1, 1⟩
def args0 : Array Value := #[.int 1, .int 65]
def aboutOver (below : List Frame) : State where
  vm := { classes := classes, interned := interned.toArray }
  heap := heap
  slotsUsed := slotsUsed
  threads := #[{ frames := .invoking theMethod args0 :: below }]
def below0 : List Frame := [.native { method := ⟨0, 0⟩, args := #[] }]
def about1 : State := aboutOver below0
def p0 : Program := .bare "" "" ""
def e0 : Env := launch0.env 0 0 0
theorem w_frames : about1.frames = Frame.invoking theMethod args0 :: below0 := rfl
set_option maxRecDepth 65536 in
theorem w_args : argsFit about1.vm theMethod args0 = true := by decide +kernel
set_option maxRecDepth 65536 in
theorem w_heap : heapFits about1 = true := by decide +kernel
set_option maxRecDepth 65536 in
theorem w_runnable : about1.curStatus? = some .runnable := by decide +kernel
set_option maxRecDepth 65536 in
theorem w_alone : about1.alone = true := by decide +kernel
set_option maxRecDepth 65536 in
theorem w_named : about1.methodNamed? x = some theMethod := by decide +kernel
set_option maxRecDepth 65536 in
theorem w_hears : about1.hears theMethod below0 = true := by decide +kernel
set_option maxRecDepth 65536 in
theorem w_ripe : about1.ripe theMethod args0 below0 = true := by decide +kernel
theorem w_running : about1.status = .running := rfl
set_option maxRecDepth 65536 in
theorem w_room : about1.hasRoom e0.platform room_1 = true :=
  launch0.hasRoom_least _ room_1 (by decide +kernel) (by decide +kernel) (by decide +kernel) (by decide +kernel) (by decide +kernel) (by decide +kernel)
theorem allAtoms_all (ts : List Jvm.Cond) (a : Array Jvm.Value) (st : Jvm.State) : (allAtoms ts).before a st = ts.all (fun c => c.before a st) := by
  induction ts with
  | nil => rfl
  | cons c t ih =>
    show (Jvm.Cond.and c (allAtoms t)).before a st = _
    rw [Jvm.Cond.before_and, ih, List.all_cons]
def words1 : List Jvm.Cond := Jvm.Cond.code x code maxLocals ret :: tables_1
/-- a 'code' word, met by the world's own term for the bytes: nothing is compared byte by byte -/
theorem code_word {y : MethodName} {bytes : ByteArray} {mx : Nat} {rt : Option FieldType} {a : Array Value} {s : State} {m : MethodId} {meth : Method} {c : Code} (h1 : s.methodNamed? y = some m) (h2 : s.vm.method? m = some meth) (h3 : meth.code = some c) (h4 : c.code = bytes)
    (h5 : (c.maxLocals == mx && c.exceptionTable.isEmpty && decide (c.maxStack ≤ mostOperands) && decide (meth.sig.returnType = rt) && !meth.locks && decide (parseMethodDescriptor y.desc = some meth.sig)) = true) : (Jvm.Cond.code y bytes mx rt).before a s = true := by
  simp only [Bool.and_eq_true, beq_iff_eq, Bool.not_eq_true', decide_eq_true_eq] at h5
  obtain ⟨⟨⟨⟨⟨g1, g2⟩, g3⟩, g4⟩, g5⟩, g6⟩ := h5
  simp [Cond.before, Cond.holds, Cond.value, h1, h2, h3, h4, g1, g2, g3, g4, g5, g6]
def isCode : Jvm.Cond → Bool
  | .code _ _ _ _ => true
  | _ => false
theorem all_split {L : List Jvm.Cond} {P : Jvm.Cond → Bool} (h1 : L.all (fun c => isCode c || P c) = true) (h2 : ∀ c ∈ L.filter isCode, P c = true) : L.all P = true := by
  refine List.all_eq_true.mpr fun c hc => ?_
  have h := List.all_eq_true.mp h1 c hc
  rcases Bool.eq_false_or_eq_true (isCode c) with hi | hi
  · exact h2 c (List.mem_filter.mpr ⟨hc, hi⟩)
  · simpa [hi] using h
set_option maxRecDepth 65536 in
theorem w_c0 : (Jvm.Cond.code x code maxLocals ret).before args0 about1 = true := code_word (m := ⟨1, 1⟩) (meth := k1m1) (c := k1c1) (by decide +kernel) rfl rfl rfl (by decide +kernel)
set_option maxRecDepth 65536 in
theorem w_c1 : (Jvm.Cond.code ({ cls := "com/example/libenq/libenq/wire/FieldValues", name := "truthText", desc := "(Z)Ljava/lang/String;" } : Jvm.MethodName) prog_63_method_4_code (1 : Nat) (Option.some (Jvm.ClassFile.FieldType.object "java/lang/String"))).before args0 about1 = true := code_word (m := ⟨2, 1⟩) (meth := k2m1) (c := k2c1) (by decide +kernel) rfl rfl rfl (by decide +kernel)
set_option maxRecDepth 65536 in
theorem w_c2 : (Jvm.Cond.code ({ cls := "java/lang/String", name := "equals", desc := "(Ljava/lang/Object;)Z" } : Jvm.MethodName) jdk_42_method_66_code (3 : Nat) (Option.some Jvm.ClassFile.FieldType.boolean)).before args0 about1 = true := code_word (m := ⟨8, 1⟩) (meth := k8m1) (c := k8c1) (by decide +kernel) rfl rfl rfl (by decide +kernel)
set_option maxRecDepth 65536 in
theorem w_c3 : (Jvm.Cond.code ({ cls := "java/lang/String", name := "valueOf", desc := "(C)Ljava/lang/String;" } : Jvm.MethodName) jdk_42_method_139_code (1 : Nat) (Option.some (Jvm.ClassFile.FieldType.object "java/lang/String"))).before args0 about1 = true := code_word (m := ⟨8, 4⟩) (meth := k8m4) (c := k8c4) (by decide +kernel) rfl rfl rfl (by decide +kernel)
set_option maxRecDepth 65536 in
theorem w_c4 : (Jvm.Cond.code ({ cls := "java/lang/StringLatin1", name := "canEncode", desc := "(C)Z" } : Jvm.MethodName) jdk_43_method_3_code (1 : Nat) (Option.some Jvm.ClassFile.FieldType.boolean)).before args0 about1 = true := code_word (m := ⟨9, 1⟩) (meth := k9m1) (c := k9c1) (by decide +kernel) rfl rfl rfl (by decide +kernel)
set_option maxRecDepth 65536 in
theorem w_c5 : (Jvm.Cond.code ({ cls := "java/lang/StringLatin1", name := "toBytes", desc := "(C)[B" } : Jvm.MethodName) jdk_43_method_46_code (1 : Nat) (Option.some (Jvm.ClassFile.FieldType.array Jvm.ClassFile.FieldType.byte))).before args0 about1 = true := code_word (m := ⟨9, 9⟩) (meth := k9m9) (c := k9c9) (by decide +kernel) rfl rfl rfl (by decide +kernel)
set_option maxRecDepth 65536 in
theorem w_c6 : (Jvm.Cond.code ({ cls := "java/lang/String", name := "<init>", desc := "([BB)V" } : Jvm.MethodName) jdk_42_method_151_code (3 : Nat) (Option.none : Option Jvm.ClassFile.FieldType)).before args0 about1 = true := code_word (m := ⟨8, 5⟩) (meth := k8m5) (c := k8c5) (by decide +kernel) rfl rfl rfl (by decide +kernel)
set_option maxRecDepth 65536 in
theorem w_c7 : (Jvm.Cond.code ({ cls := "java/lang/Object", name := "<init>", desc := "()V" } : Jvm.MethodName) object_method_1_code (1 : Nat) (Option.none : Option Jvm.ClassFile.FieldType)).before args0 about1 = true := code_word (m := ⟨0, 0⟩) (meth := k0m0) (c := k0c0) (by decide +kernel) rfl rfl rfl (by decide +kernel)
set_option maxRecDepth 65536 in
theorem w_c8 : (Jvm.Cond.code ({ cls := "com/example/libenq/libenq/wire/FieldValues", name := "truthValue", desc := "(Ljava/lang/String;Ljava/lang/String;)Z" } : Jvm.MethodName) prog_63_method_5_code (3 : Nat) (Option.some Jvm.ClassFile.FieldType.boolean)).before args0 about1 = true := code_word (m := ⟨2, 2⟩) (meth := k2m2) (c := k2c2) (by decide +kernel) rfl rfl rfl (by decide +kernel)
set_option maxRecDepth 65536 in
theorem w_c9 : (Jvm.Cond.code ({ cls := "java/lang/String", name := "strip", desc := "()Ljava/lang/String;" } : Jvm.MethodName) jdk_42_method_114_code (2 : Nat) (Option.some (Jvm.ClassFile.FieldType.object "java/lang/String"))).before args0 about1 = true := code_word (m := ⟨8, 3⟩) (meth := k8m3) (c := k8c3) (by decide +kernel) rfl rfl rfl (by decide +kernel)
set_option maxRecDepth 65536 in
theorem w_c10 : (Jvm.Cond.code ({ cls := "java/lang/String", name := "isLatin1", desc := "()Z" } : Jvm.MethodName) jdk_42_method_154_code (1 : Nat) (Option.some Jvm.ClassFile.FieldType.boolean)).before args0 about1 = true := code_word (m := ⟨8, 6⟩) (meth := k8m6) (c := k8c6) (by decide +kernel) rfl rfl rfl (by decide +kernel)
set_option maxRecDepth 65536 in
theorem w_c11 : (Jvm.Cond.code ({ cls := "java/lang/StringLatin1", name := "strip", desc := "([B)Ljava/lang/String;" } : Jvm.MethodName) jdk_43_method_39_code (4 : Nat) (Option.some (Jvm.ClassFile.FieldType.object "java/lang/String"))).before args0 about1 = true := code_word (m := ⟨9, 7⟩) (meth := k9m7) (c := k9c7) (by decide +kernel) rfl rfl rfl (by decide +kernel)
set_option maxRecDepth 65536 in
theorem w_c12 : (Jvm.Cond.code ({ cls := "java/lang/StringLatin1", name := "indexOfNonWhitespace", desc := "([B)I" } : Jvm.MethodName) jdk_43_method_37_code (4 : Nat) (Option.some Jvm.ClassFile.FieldType.int)).before args0 about1 = true := code_word (m := ⟨9, 5⟩) (meth := k9m5) (c := k9c5) (by decide +kernel) rfl rfl rfl (by decide +kernel)
set_option maxRecDepth 65536 in
theorem w_c13 : (Jvm.Cond.code ({ cls := "java/lang/StringLatin1", name := "getChar", desc := "([BI)C" } : Jvm.MethodName) jdk_43_method_44_code (2 : Nat) (Option.some Jvm.ClassFile.FieldType.char)).before args0 about1 = true := code_word (m := ⟨9, 8⟩) (meth := k9m8) (c := k9c8) (by decide +kernel) rfl rfl rfl (by decide +kernel)
set_option maxRecDepth 65536 in
theorem w_c14 : (Jvm.Cond.code ({ cls := "java/lang/CharacterDataLatin1", name := "isWhitespace", desc := "(I)Z" } : Jvm.MethodName) jdk_116_method_26_code (3 : Nat) (Option.some Jvm.ClassFile.FieldType.boolean)).before args0 about1 = true := code_word (m := ⟨11, 2⟩) (meth := k11m2) (c := k11c2) (by decide +kernel) rfl rfl rfl (by decide +kernel)
set_option maxRecDepth 65536 in
theorem w_c15 : (Jvm.Cond.code ({ cls := "java/lang/CharacterDataLatin1", name := "getProperties", desc := "(I)I" } : Jvm.MethodName) jdk_116_method_1_code (4 : Nat) (Option.some Jvm.ClassFile.FieldType.int)).before args0 about1 = true := code_word (m := ⟨11, 0⟩) (meth := k11m0) (c := k11c0) (by decide +kernel) rfl rfl rfl (by decide +kernel)
set_option maxRecDepth 65536 in
theorem w_c16 : (Jvm.Cond.code ({ cls := "java/lang/StringLatin1", name := "lastIndexOfNonWhitespace", desc := "([B)I" } : Jvm.MethodName) jdk_43_method_38_code (4 : Nat) (Option.some Jvm.ClassFile.FieldType.int)).before args0 about1 = true := code_word (m := ⟨9, 6⟩) (meth := k9m6) (c := k9c6) (by decide +kernel) rfl rfl rfl (by decide +kernel)
set_option maxRecDepth 65536 in
theorem w_c17 : (Jvm.Cond.code ({ cls := "java/lang/String", name := "toLowerCase", desc := "(Ljava/util/Locale;)Ljava/lang/String;" } : Jvm.MethodName) jdk_42_method_109_code (2 : Nat) (Option.some (Jvm.ClassFile.FieldType.object "java/lang/String"))).before args0 about1 = true := code_word (m := ⟨8, 2⟩) (meth := k8m2) (c := k8c2) (by decide +kernel) rfl rfl rfl (by decide +kernel)
set_option maxRecDepth 65536 in
theorem w_c18 : (Jvm.Cond.code ({ cls := "java/lang/StringLatin1", name := "toLowerCase", desc := "(Ljava/lang/String;[BLjava/util/Locale;)Ljava/lang/String;" } : Jvm.MethodName) jdk_43_method_32_code (9 : Nat) (Option.some (Jvm.ClassFile.FieldType.object "java/lang/String"))).before args0 about1 = true := code_word (m := ⟨9, 4⟩) (meth := k9m4) (c := k9c4) (by decide +kernel) rfl rfl rfl (by decide +kernel)
set_option maxRecDepth 65536 in
theorem w_c19 : (Jvm.Cond.code ({ cls := "java/lang/CharacterDataLatin1", name := "toLowerCase", desc := "(I)I" } : Jvm.MethodName) jdk_116_method_20_code (3 : Nat) (Option.some Jvm.ClassFile.FieldType.int)).before args0 about1 = true := code_word (m := ⟨11, 1⟩) (meth := k11m1) (c := k11c1) (by decide +kernel) rfl rfl rfl (by decide +kernel)
set_option maxRecDepth 65536 in
theorem w_c20 : (Jvm.Cond.code ({ cls := "java/util/Locale", name := "getLanguage", desc := "()Ljava/lang/String;" } : Jvm.MethodName) jdk_2628_method_27_code (1 : Nat) (Option.some (Jvm.ClassFile.FieldType.object "java/lang/String"))).before args0 about1 = true := code_word (m := ⟨13, 0⟩) (meth := k13m0) (c := k13c0) (by decide +kernel) rfl rfl rfl (by decide +kernel)
set_option maxRecDepth 65536 in
theorem w_c21 : (Jvm.Cond.code ({ cls := "sun/util/locale/BaseLocale", name := "getLanguage", desc := "()Ljava/lang/String;" } : Jvm.MethodName) jdk_3003_method_5_code (1 : Nat) (Option.some (Jvm.ClassFile.FieldType.object "java/lang/String"))).before args0 about1 = true := code_word (m := ⟨14, 0⟩) (meth := k14m0) (c := k14c0) (by decide +kernel) rfl rfl rfl (by decide +kernel)
set_option maxRecDepth 65536 in
theorem w_c22 : (Jvm.Cond.code ({ cls := "java/lang/StringLatin1", name := "canEncode", desc := "(I)Z" } : Jvm.MethodName) jdk_43_method_4_code (1 : Nat) (Option.some Jvm.ClassFile.FieldType.boolean)).before args0 about1 = true := code_word (m := ⟨9, 2⟩) (meth := k9m2) (c := k9c2) (by decide +kernel) rfl rfl rfl (by decide +kernel)
set_option maxRecDepth 65536 in
theorem w_c23 : (Jvm.Cond.code ({ cls := "java/lang/StringLatin1", name := "equals", desc := "([B[B)Z" } : Jvm.MethodName) jdk_43_method_13_code (3 : Nat) (Option.some Jvm.ClassFile.FieldType.boolean)).before args0 about1 = true := code_word (m := ⟨9, 3⟩) (meth := k9m3) (c := k9c3) (by decide +kernel) rfl rfl rfl (by decide +kernel)
def codes1 : List Jvm.Cond := [Jvm.Cond.code x code maxLocals ret, Jvm.Cond.code ({ cls := "com/example/libenq/libenq/wire/FieldValues", name := "truthText", desc := "(Z)Ljava/lang/String;" } : Jvm.MethodName) prog_63_method_4_code (1 : Nat) (Option.some (Jvm.ClassFile.FieldType.object "java/lang/String")), Jvm.Cond.code ({ cls := "java/lang/String", name := "equals", desc := "(Ljava/lang/Object;)Z" } : Jvm.MethodName) jdk_42_method_66_code (3 : Nat) (Option.some Jvm.ClassFile.FieldType.boolean), Jvm.Cond.code ({ cls := "java/lang/String", name := "valueOf", desc := "(C)Ljava/lang/String;" } : Jvm.MethodName) jdk_42_method_139_code (1 : Nat) (Option.some (Jvm.ClassFile.FieldType.object "java/lang/String")), Jvm.Cond.code ({ cls := "java/lang/StringLatin1", name := "canEncode", desc := "(C)Z" } : Jvm.MethodName) jdk_43_method_3_code (1 : Nat) (Option.some Jvm.ClassFile.FieldType.boolean), Jvm.Cond.code ({ cls := "java/lang/StringLatin1", name := "toBytes", desc := "(C)[B" } : Jvm.MethodName) jdk_43_method_46_code (1 : Nat) (Option.some (Jvm.ClassFile.FieldType.array Jvm.ClassFile.FieldType.byte)), Jvm.Cond.code ({ cls := "java/lang/String", name := "<init>", desc := "([BB)V" } : Jvm.MethodName) jdk_42_method_151_code (3 : Nat) (Option.none : Option Jvm.ClassFile.FieldType), Jvm.Cond.code ({ cls := "java/lang/Object", name := "<init>", desc := "()V" } : Jvm.MethodName) object_method_1_code (1 : Nat) (Option.none : Option Jvm.ClassFile.FieldType), Jvm.Cond.code ({ cls := "com/example/libenq/libenq/wire/FieldValues", name := "truthValue", desc := "(Ljava/lang/String;Ljava/lang/String;)Z" } : Jvm.MethodName) prog_63_method_5_code (3 : Nat) (Option.some Jvm.ClassFile.FieldType.boolean), Jvm.Cond.code ({ cls := "java/lang/String", name := "strip", desc := "()Ljava/lang/String;" } : Jvm.MethodName) jdk_42_method_114_code (2 : Nat) (Option.some (Jvm.ClassFile.FieldType.object "java/lang/String")), Jvm.Cond.code ({ cls := "java/lang/String", name := "isLatin1", desc := "()Z" } : Jvm.MethodName) jdk_42_method_154_code (1 : Nat) (Option.some Jvm.ClassFile.FieldType.boolean), Jvm.Cond.code ({ cls := "java/lang/StringLatin1", name := "strip", desc := "([B)Ljava/lang/String;" } : Jvm.MethodName) jdk_43_method_39_code (4 : Nat) (Option.some (Jvm.ClassFile.FieldType.object "java/lang/String")), Jvm.Cond.code ({ cls := "java/lang/StringLatin1", name := "indexOfNonWhitespace", desc := "([B)I" } : Jvm.MethodName) jdk_43_method_37_code (4 : Nat) (Option.some Jvm.ClassFile.FieldType.int), Jvm.Cond.code ({ cls := "java/lang/StringLatin1", name := "getChar", desc := "([BI)C" } : Jvm.MethodName) jdk_43_method_44_code (2 : Nat) (Option.some Jvm.ClassFile.FieldType.char), Jvm.Cond.code ({ cls := "java/lang/CharacterDataLatin1", name := "isWhitespace", desc := "(I)Z" } : Jvm.MethodName) jdk_116_method_26_code (3 : Nat) (Option.some Jvm.ClassFile.FieldType.boolean), Jvm.Cond.code ({ cls := "java/lang/CharacterDataLatin1", name := "getProperties", desc := "(I)I" } : Jvm.MethodName) jdk_116_method_1_code (4 : Nat) (Option.some Jvm.ClassFile.FieldType.int), Jvm.Cond.code ({ cls := "java/lang/StringLatin1", name := "lastIndexOfNonWhitespace", desc := "([B)I" } : Jvm.MethodName) jdk_43_method_38_code (4 : Nat) (Option.some Jvm.ClassFile.FieldType.int), Jvm.Cond.code ({ cls := "java/lang/String", name := "toLowerCase", desc := "(Ljava/util/Locale;)Ljava/lang/String;" } : Jvm.MethodName) jdk_42_method_109_code (2 : Nat) (Option.some (Jvm.ClassFile.FieldType.object "java/lang/String")), Jvm.Cond.code ({ cls := "java/lang/StringLatin1", name := "toLowerCase", desc := "(Ljava/lang/String;[BLjava/util/Locale;)Ljava/lang/String;" } : Jvm.MethodName) jdk_43_method_32_code (9 : Nat) (Option.some (Jvm.ClassFile.FieldType.object "java/lang/String")), Jvm.Cond.code ({ cls := "java/lang/CharacterDataLatin1", name := "toLowerCase", desc := "(I)I" } : Jvm.MethodName) jdk_116_method_20_code (3 : Nat) (Option.some Jvm.ClassFile.FieldType.int), Jvm.Cond.code ({ cls := "java/util/Locale", name := "getLanguage", desc := "()Ljava/lang/String;" } : Jvm.MethodName) jdk_2628_method_27_code (1 : Nat) (Option.some (Jvm.ClassFile.FieldType.object "java/lang/String")), Jvm.Cond.code ({ cls := "sun/util/locale/BaseLocale", name := "getLanguage", desc := "()Ljava/lang/String;" } : Jvm.MethodName) jdk_3003_method_5_code (1 : Nat) (Option.some (Jvm.ClassFile.FieldType.object "java/lang/String")), Jvm.Cond.code ({ cls := "java/lang/StringLatin1", name := "canEncode", desc := "(I)Z" } : Jvm.MethodName) jdk_43_method_4_code (1 : Nat) (Option.some Jvm.ClassFile.FieldType.boolean), Jvm.Cond.code ({ cls := "java/lang/StringLatin1", name := "equals", desc := "([B[B)Z" } : Jvm.MethodName) jdk_43_method_13_code (3 : Nat) (Option.some Jvm.ClassFile.FieldType.boolean)]
set_option maxRecDepth 65536 in
theorem codes_eq : words1.filter isCode = codes1 := rfl
theorem w_codes : ∀ c ∈ words1.filter isCode, c.before args0 about1 = true := by
  rw [codes_eq]
  intro c hc
  simp only [codes1, List.mem_cons, List.not_mem_nil, or_false] at hc
  rcases hc with rfl | rfl | rfl | rfl | rfl | rfl | rfl | rfl | rfl | rfl | rfl | rfl | rfl | rfl | rfl | rfl | rfl | rfl | rfl | rfl | rfl | rfl | rfl | rfl
  · exact w_c0
  · exact w_c1
  · exact w_c2
  · exact w_c3
  · exact w_c4
  · exact w_c5
  · exact w_c6
  · exact w_c7
  · exact w_c8
  · exact w_c9
  · exact w_c10
  · exact w_c11
  · exact w_c12
  · exact w_c13
  · exact w_c14
  · exact w_c15
  · exact w_c16
  · exact w_c17
  · exact w_c18
  · exact w_c19
  · exact w_c20
  · exact w_c21
  · exact w_c22
  · exact w_c23
set_option maxRecDepth 65536 in
theorem w_t1 : (words1.take 24).all (fun c => isCode c || c.before args0 about1) = true := by decide +kernel
set_option maxRecDepth 65536 in
theorem w_t2 : ((words1.drop 24).take 24).all (fun c => isCode c || c.before args0 about1) = true := by decide +kernel
set_option maxRecDepth 65536 in
theorem w_t3 : (((words1.drop 24).drop 24).take 24).all (fun c => isCode c || c.before args0 about1) = true := by decide +kernel
set_option maxRecDepth 65536 in
theorem w_t4 : ((((words1.drop 24).drop 24).drop 24).take 24).all (fun c => isCode c || c.before args0 about1) = true := by decide +kernel
set_option maxRecDepth 65536 in
theorem w_t5 : (((((words1.drop 24).drop 24).drop 24).drop 24).take 24).all (fun c => isCode c || c.before args0 about1) = true := by decide +kernel
set_option maxRecDepth 65536 in
theorem w_t6 : (((((words1.drop 24).drop 24).drop 24).drop 24).drop 24).all (fun c => isCode c || c.before args0 about1) = true := by decide +kernel
theorem w_tables : (allAtoms (Jvm.Cond.code x code maxLocals ret :: tables_1)).before args0 about1 = true := by
  rw [allAtoms_all]
  show words1.all (fun c => c.before args0 about1) = true
  refine all_split ?_ w_codes
  rw [← List.take_append_drop 24 words1, List.all_append, w_t1, ← List.take_append_drop 24 (words1.drop 24), List.all_append, w_t2, ← List.take_append_drop 24 ((words1.drop 24).drop 24), List.all_append, w_t3, ← List.take_append_drop 24 (((words1.drop 24).drop 24).drop 24), List.all_append, w_t4, ← List.take_append_drop 24 ((((words1.drop 24).drop 24).drop 24).drop 24), List.all_append, w_t5, w_t6]
  rfl
set_option maxRecDepth 65536 in
theorem w_rest : rest_1_c.before args0 about1 = true := by decide +kernel
set_option maxRecDepth 65536 in
theorem w_case : (Jvm.Cond.and given_1 narrow_1).before args0 about1 = true := by decide +kernel
set_option maxRecDepth 65536 in
theorem w_consts : constsHeld consts_1 about1 := Jvm.Lit.constsHeldB_iff.mp (by decide +kernel)
theorem w_applies : (headSpec (Jvm.Cond.code x code maxLocals ret :: tables_1) room_1).applies x e0.platform about1 = true :=
  (Spec.applies_iff w_frames).mpr ⟨w_running, w_runnable, w_alone, w_named, w_hears, w_ripe, w_room, w_tables⟩
theorem atStart : AtStart classFile x code maxLocals ret World_1 tables_1 room_1 Calls_1 rest_1 Pre_1 launch0 p0 e0 about1 theMethod args0 below0 :=
  ⟨lists_1, trivial, launch0.admits_env _ _ _, launch0.least_env, fairChoices_fair.cas, fairChoices_fair.clock, w_frames, w_args, w_heap, w_applies, ⟨w_consts, trivial⟩, w_rest, w_case⟩
end start1
theorem witness_1 : WitnessClaimed_1 := ⟨start1.p0, start1.e0, start1.about1, start1.theMethod, start1.args0, start1.below0, start1.atStart⟩
end Jvm.Pilot.@@N@@
