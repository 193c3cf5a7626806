import JvmDerived
import JvmDerived.Pilot.@@N@@Statement
import JvmDerived.Pilot.@@N@@Code
set_option linter.unusedVariables false
set_option linter.unusedSimpArgs false
namespace Jvm.Pilot.@@N@@
open Jvm Jvm.ClassFile Sem Op Lib Jvm.Free Jvm.Stand Jvm.LawKit Jvm.RoadKit Bundle Jvm.Pilot.@@N@@.Jvm.D
section Own
variable {p : Program} {l : Launch} {e : Env} {R : Room} {s : State} {m : MethodId} {args : Array Value} {below : List Frame} {meth : Method} {c : Code} {T : State} {locs : List Loc} {cells slots : Nat} {Z : State} {a0 : Array Value} {h h0 : Heap} {Q : Option Value → Heap → List Loc → Prop} {S S' : State}
/-- a body's contract: from the heap h0 with the arguments as' it returns, and Q says of the value, the heap and the places written -/
def own_Met (l : Launch) (Z : State) (y : MethodName) (bytes : ByteArray) (maxL : Nat) (rt : Option FieldType) (rm : Room) (as' : Array Value) (h0 : Heap) (Q : Option Value → Heap → List Loc → Prop) : Prop :=
  ∀ ws : List Jvm.Cond, MetFree l y (head1 (Jvm.Cond.code y bytes maxL rt :: ws) rm) (fun a U => a = as' ∧ Z.Warmed39 U.vm ∧ U.heap = h0) (fun _ _ _ _ _ => True) (fun _ U o U' => ∃ v L, o = .returned v ∧ Q v U'.heap L ∧ FrameEnd U o U' L rm.cells rm.slots)
/-- from S the body comes to its end, and Q holds there -/
def own_Ends (p : Program) (e : Env) (below : List Frame) (s : State) (rm : Room) (Q : Option Value → Heap → List Loc → Prop) (S : State) : Prop :=
  ∃ s₂ o, Steps p.tables e below S s₂ ∧ s₂.status = .running ∧ Ended s₂ below o ∧ ∃ v L, o = .returned v ∧ Q v s₂.heap L ∧ FrameEnd s o s₂ L rm.cells rm.slots
theorem own_of (hs : ∀ t, Steps p.tables e below S' t → Steps p.tables e below S t) (k : own_Ends p e below s R Q S') : own_Ends p e below s R Q S := by
  obtain ⟨s₂, o, h1, h2⟩ := k; exact ⟨s₂, o, hs _ h1, h2⟩
theorem own_tr (hs : Steps p.tables e below S S') (k : own_Ends p e below s R Q S') : own_Ends p e below s R Q S := by
  obtain ⟨s₂, o, h1, h2⟩ := k; exact ⟨s₂, o, hs.trans h1, h2⟩
theorem own_ends_mono {Q' : Option Value → Heap → List Loc → Prop} (hq : ∀ v h L, Q v h L → Q' v h L) (k : own_Ends p e below s R Q S) : own_Ends p e below s R Q' S := by
  obtain ⟨s₂, o, h1, h2, h3, v, L, h4, h5, h6⟩ := k; exact ⟨s₂, o, h1, h2, h3, v, L, h4, hq _ _ _ h5, h6⟩
theorem own_met_mono {y : MethodName} {bytes : ByteArray} {maxL : Nat} {rt : Option FieldType} {rm : Room} {as' : Array Value} {Q' : Option Value → Heap → List Loc → Prop} (k : own_Met l Z y bytes maxL rt rm as' h0 Q) (hq : ∀ v h L, Q v h L → Q' v h L) : own_Met l Z y bytes maxL rt rm as' h0 Q' := by
  intro ws p e ha hc hk s m args below hf happ hP hK
  obtain ⟨n, o, g1, g2, g3, v, L, g4, g5, g6⟩ := k ws p e ha hc hk s m args below hf happ hP hK
  exact ⟨n, o, g1, g2, g3, v, L, g4, hq _ _ _ g5, g6⟩
theorem own_body {y : MethodName} {bytes : ByteArray} {maxL : Nat} {rt : Option FieldType} {rm : Room} {as' : Array Value} (hpl : plainFor y = true)
    (body : ∀ (p : Program) (e : Env) (s : State) (m : MethodId) (below : List Frame) (meth : Method) (c : Code) (T : State), Stand p l e rm s m as' below meth c T [] 0 0 → T.heap = h0 → p.tables.exec = Jvm.exec → c.code = bytes → c.maxLocals = maxL → s.vm.findClass y.cls = some m.cls → meth.name = y.name → meth.sig.returnType = rt → meth.locks = false → Z.Warmed39 s.vm → own_Ends p e below s rm Q (T.setTop (entryFrame m as' maxL))) :
    own_Met l Z y bytes maxL rt rm as' h0 Q := by
  intro ws
  refine MetFree.of_bodySF hpl hisR ?_
  intro p e s m args below meth c s₁ Bd hml0 hP hK
  obtain ⟨rfl, hZ, hh⟩ := hP
  exact body p e s m below meth c s₁ (Stand.of_body Bd) (by rw [← hh, Bd.state]; rfl) Bd.exec Bd.bytes hml0 (findClass_of_methodNamed Bd.named) (name_of_methodNamed Bd.named Bd.method).1 Bd.returns Bd.notSynchronized hZ
theorem own_ret (X : Stand p l e R s m args below meth c T locs cells slots) (hlk : meth.locks = false) {v : Option Value} (hv : meth.sig.returnType = none → v = none) (eT : T.heap = h) (hc : cells ≤ R.cells) (hs : slots ≤ R.slots) (hq : Q v h locs)
    (st : ∀ fs : List Frame, (∀ (f : JFrame) (acts : List Action), f.method = m → f.locked = none → f.entered = [] → (doReturn e (T.setTop f) acts v).1 = T.setFrames fs) → Steps p.tables e below S (T.setFrames fs)) : own_Ends p e below s R Q S := by
  subst eT
  obtain ⟨fs, hr, hrun, hended, hW, hsame⟩ := X.leave hv hlk
  exact ⟨_, _, st fs hr, hrun, hended, _, _, rfl, hq, ⟨_, rfl⟩, hW, hsame.mono hc hs⟩
theorem own_retI (X : Stand p l e R s m args below meth c T locs cells slots) (hx : p.tables.exec = Jvm.exec) (hlk : meth.locks = false) (eT : T.heap = h) {pc : Nat} {Ls : Array Slot} {z : Int32} {rest : List Value} (hret : meth.sig.returnType = some .int) (hd : decode c.code pc = .ok (.ireturn, 1))
    (hc : cells ≤ R.cells) (hs : slots ≤ R.slots) (hq : Q (some (.int z)) h locs) : own_Ends p e below s R Q (T.setTop (mkF m pc Ls (.int z :: rest))) :=
  own_ret X hlk (fun q => by rw [hret] at q; cases q) eT hc hs hq fun fs hr => retOut X hx hret rfl (Or.inl ⟨rfl, Or.inl rfl, z, rfl⟩) hd hr
theorem own_retN (X : Stand p l e R s m args below meth c T locs cells slots) (hx : p.tables.exec = Jvm.exec) (hlk : meth.locks = false) (eT : T.heap = h) {pc : Nat} {Ls : Array Slot} {z z' : Int32} {rest : List Value} {t : FieldType} (hret : meth.sig.returnType = some t) (ht : t = .boolean ∨ t = .byte ∨ t = .char ∨ t = .short) (hz : nar t z = z') (hd : decode c.code pc = .ok (.ireturn, 1))
    (hc : cells ≤ R.cells) (hs : slots ≤ R.slots) (hq : Q (some (.int z')) h locs) : own_Ends p e below s R Q (T.setTop (mkF m pc Ls (.int z :: rest))) := by
  subst hz
  exact own_ret X hlk (fun q => by rw [hret] at q; cases q) eT hc hs hq fun fs hr => retN X hx hret ht hd hr
theorem own_retJ (X : Stand p l e R s m args below meth c T locs cells slots) (hx : p.tables.exec = Jvm.exec) (hlk : meth.locks = false) (eT : T.heap = h) {pc : Nat} {Ls : Array Slot} {z : Int64} {rest : List Value} (hret : meth.sig.returnType = some .long) (hd : decode c.code pc = .ok (.lreturn, 1))
    (hc : cells ≤ R.cells) (hs : slots ≤ R.slots) (hq : Q (some (.long z)) h locs) : own_Ends p e below s R Q (T.setTop (mkF m pc Ls (.long z :: rest))) :=
  own_ret X hlk (fun q => by rw [hret] at q; cases q) eT hc hs hq fun fs hr => retOut X hx hret rfl (Or.inr (Or.inl ⟨rfl, rfl, z, rfl⟩)) hd hr
theorem own_retA (X : Stand p l e R s m args below meth c T locs cells slots) (hx : p.tables.exec = Jvm.exec) (hlk : meth.locks = false) (eT : T.heap = h) {pc : Nat} {Ls : Array Slot} {w : Value} {rest : List Value} {t : FieldType} (hret : meth.sig.returnType = some t) (ht : t.isReference = true) (hw : w.isRef = true) (hd : decode c.code pc = .ok (.areturn, 1))
    (hc : cells ≤ R.cells) (hs : slots ≤ R.slots) (hq : Q (some w) h locs) : own_Ends p e below s R Q (T.setTop (mkF m pc Ls (w :: rest))) :=
  own_ret X hlk (fun q => by rw [hret] at q; cases q) eT hc hs hq fun fs hr => retOut X hx hret (by rcases ref_cases hw with rfl | ⟨z, rfl⟩ <;> cases t <;> first | rfl | (simp [FieldType.isReference] at ht)) (Or.inr (Or.inr (Or.inr (Or.inr ⟨rfl, ht, hw⟩)))) hd hr
theorem own_retV (X : Stand p l e R s m args below meth c T locs cells slots) (hx : p.tables.exec = Jvm.exec) (hlk : meth.locks = false) (eT : T.heap = h) {pc : Nat} {Ls : Array Slot} (hret : meth.sig.returnType = none) (hd : decode c.code pc = .ok (.return_, 1))
    (hc : cells ≤ R.cells) (hs : slots ≤ R.slots) (hq : Q none h locs) : own_Ends p e below s R Q (T.setTop (mkF m pc Ls [])) :=
  own_ret X hlk (fun _ => rfl) eT hc hs hq fun fs hr => X.returnOut hx hret hd hr
/-! calls by the callee's contract -/
variable {y z : MethodName} {bytes : ByteArray} {maxL : Nat} {rt : Option FieldType} {rm : Room} {Qc : Option Value → Heap → List Loc → Prop} {own C : String} {index : Nat} {g : JFrame} {argsL rest : List Value} {b : Addr}
theorem own_static (X : Stand p l e R s m args below meth c T locs cells slots) (hx : p.tables.exec = Jvm.exec) (hZ : Z.Warmed39 s.vm) (hown : s.vm.findClass own = some m.cls) (eT : T.heap = h)
    (w1 : (Jvm.Cond.methodLink own index y).before a0 Z = true) (w2 : (Jvm.Cond.static y).before a0 Z = true) (w3 : (Jvm.Cond.initialized y.cls).before a0 Z = true) (w4 : (Jvm.Cond.code y bytes maxL rt).before a0 Z = true)
    (hy : y.cls ≠ "java/lang/invoke/MethodHandle" ∧ y.cls ≠ "java/lang/invoke/VarHandle") (hM : own_Met l Z y bytes maxL rt rm argsL.toArray h Qc)
    (hg : g.method = m) (hsz : g.locals.size = c.maxLocals) (hlen : ∀ sig, parseMethodDescriptor y.desc = some sig → argsL.length = sig.parameters.length) (hst : g.stack = argsL.reverse ++ rest)
    (hf : rm.frames + 1 ≤ R.frames) (hl : (2 * g.monitorRoom + (rest.map fun v => v.category).sum) + (maxL + 11) + rm.locals ≤ R.locals) (hc : cells + rm.cells ≤ R.cells) (hs : slots + rm.slots ≤ R.slots)
    (hd : decode c.code g.pc = .ok (.invokestatic index, 3)) :
    ∃ (v : Option Value) (T' : State) (L : List Loc) (h' : Heap), Stand p l e R s m args below meth c T' (locs ++ L) (cells + rm.cells) (slots + rm.slots) ∧ T'.heap = h' ∧ Qc v h' L ∧ ∀ t, Steps p.tables e below (T'.setTop { g with pc := g.pc + 3, stack := v.toList ++ rest }) t → Steps p.tables e below (T.setTop g) t := by
  obtain ⟨v, _, ⟨T', L', k', n'⟩, -, X', ⟨Lc, hQ, e1, e2, e3⟩, st⟩ := Jvm.LawKit.callS X hx hown (mvT hZ w1) (mvT hZ w2) (mvT hZ w3) (mvT hZ w4) hy (backOf (hM []) hZ w4 w3 hf hl) hg hsz hlen hst (Nat.le_refl _) hd (fun _ _ => ⟨rfl, eT, hc, hs⟩)
  dsimp only [Pt.U, Pt.locs, Pt.cells, Pt.slots] at X' e1 e2 e3 st hQ
  subst e1 e2 e3
  exact ⟨v, T', Lc, _, X', rfl, hQ, st⟩
theorem own_special (X : Stand p l e R s m args below meth c T locs cells slots) (hx : p.tables.exec = Jvm.exec) (hZ : Z.Warmed39 s.vm) (hown : s.vm.findClass own = some m.cls) (eT : T.heap = h) (hy1 : y.name = "<init>")
    (w1 : (Jvm.Cond.methodLink own index y).before a0 Z = true) (w2 : (Jvm.Cond.instanceMethod y).before a0 Z = true) (w3 : (Jvm.Cond.initialized y.cls).before a0 Z = true) (w4 : (Jvm.Cond.code y bytes maxL none).before a0 Z = true)
    (hy : y.cls ≠ "java/lang/invoke/MethodHandle" ∧ y.cls ≠ "java/lang/invoke/VarHandle") (hM : own_Met l Z y bytes maxL none rm (.ref b :: argsL).toArray h Qc)
    (hg : g.method = m) (hsz : g.locals.size = c.maxLocals) (hlen : ∀ sig, parseMethodDescriptor y.desc = some sig → argsL.length = sig.parameters.length) (hst : g.stack = argsL.reverse ++ .ref b :: rest)
    (hf : rm.frames + 1 ≤ R.frames) (hl : (2 * g.monitorRoom + (rest.map fun v => v.category).sum) + (maxL + 11) + rm.locals ≤ R.locals) (hc : cells + rm.cells ≤ R.cells) (hs : slots + rm.slots ≤ R.slots)
    (hd : decode c.code g.pc = .ok (.invokespecial index, 3)) :
    ∃ (v : Option Value) (T' : State) (L : List Loc) (h' : Heap), Stand p l e R s m args below meth c T' (locs ++ L) (cells + rm.cells) (slots + rm.slots) ∧ T'.heap = h' ∧ Qc v h' L ∧ ∀ t, Steps p.tables e below (T'.setTop { g with pc := g.pc + 3, stack := v.toList ++ rest }) t → Steps p.tables e below (T.setTop g) t := by
  obtain ⟨v, _, ⟨T', L', k', n'⟩, -, X', ⟨Lc, hQ, e1, e2, e3⟩, st⟩ := X.specialBack hx hy1 hown (mvT hZ w1) (mvT hZ w2) (mvT hZ w4) hy (backOf (hM []) hZ w4 w3 hf hl) hg hsz (Steps.refl _) hlen hst (Nat.le_refl _) hd (fun _ _ => ⟨rfl, eT, hc, hs⟩)
  dsimp only [Pt.U, Pt.locs, Pt.cells, Pt.slots] at X' e1 e2 e3 st hQ
  subst e1 e2 e3
  exact ⟨v, T', Lc, _, X', rfl, hQ, fun t k => st.trans k⟩
theorem own_virtual (X : Stand p l e R s m args below meth c T locs cells slots) (hx : p.tables.exec = Jvm.exec) (hZ : Z.Warmed39 s.vm) (hown : s.vm.findClass own = some m.cls) (eT : T.heap = h) (E : Exa Z h b C)
    (w1 : (Jvm.Cond.methodLink own index y).before a0 Z = true) (w2 : (Jvm.Cond.declares y).before a0 Z = true) (hnf : NotFace s y) (w5 : (Jvm.Cond.selects C y z).before a0 Z = true) (w6 : (Jvm.Cond.instanceMethod z).before a0 Z = true) (w3 : (Jvm.Cond.initialized z.cls).before a0 Z = true) (w4 : (Jvm.Cond.code z bytes maxL rt).before a0 Z = true)
    (hy : y.cls ≠ "java/lang/invoke/MethodHandle" ∧ y.cls ≠ "java/lang/invoke/VarHandle") (hM : own_Met l Z z bytes maxL rt rm (.ref b :: argsL).toArray h Qc)
    (hg : g.method = m) (hsz : g.locals.size = c.maxLocals) (hlen : ∀ sig, parseMethodDescriptor y.desc = some sig → argsL.length = sig.parameters.length) (hst : g.stack = argsL.reverse ++ .ref b :: rest)
    (hf : rm.frames + 1 ≤ R.frames) (hl : (2 * g.monitorRoom + (rest.map fun v => v.category).sum) + (maxL + 11) + rm.locals ≤ R.locals) (hc : cells + rm.cells ≤ R.cells) (hs : slots + rm.slots ≤ R.slots)
    (hd : decode c.code g.pc = .ok (.invokevirtual index, 3)) :
    ∃ (v : Option Value) (T' : State) (L : List Loc) (h' : Heap), Stand p l e R s m args below meth c T' (locs ++ L) (cells + rm.cells) (slots + rm.slots) ∧ T'.heap = h' ∧ Qc v h' L ∧ ∀ t, Steps p.tables e below (T'.setTop { g with pc := g.pc + 3, stack := v.toList ++ rest }) t → Steps p.tables e below (T.setTop g) t := by
  obtain ⟨cq, kq, qa, qb, qc⟩ := isOf hZ eT E
  obtain ⟨v, _, ⟨T', L', k', n'⟩, -, X', ⟨Lc, hQ, e1, e2, e3⟩, st⟩ := X.virtualBack hx hown (mvT hZ w1) (mvT hZ w2) hnf (mvT hZ w5) (mvT hZ w6) hy (backOf (hM []) hZ w4 w3 hf hl) qa qc hg hsz (Steps.refl _) hlen hst (Nat.le_refl _) hd (fun _ _ => ⟨rfl, eT, hc, hs⟩)
  dsimp only [Pt.U, Pt.locs, Pt.cells, Pt.slots] at X' e1 e2 e3 st hQ
  subst e1 e2 e3
  exact ⟨v, T', Lc, _, X', rfl, hQ, fun t k => st.trans k⟩
theorem own_virtualUp {owner : String} (X : Stand p l e R s m args below meth c T locs cells slots) (hx : p.tables.exec = Jvm.exec) (hZ : Z.Warmed39 s.vm) (hown : s.vm.findClass own = some m.cls) (eT : T.heap = h) (E : Exa Z h b C)
    (w1 : (Jvm.Cond.methodLink own index y).before a0 Z = true) (w7 : (Jvm.Cond.sameMethod y.cls owner y.name y.desc).before a0 Z = true) (w2 : (Jvm.Cond.declares ⟨owner, y.name, y.desc⟩).before a0 Z = true) (w5 : (Jvm.Cond.selects C y z).before a0 Z = true) (w6 : (Jvm.Cond.instanceMethod z).before a0 Z = true) (w3 : (Jvm.Cond.initialized z.cls).before a0 Z = true) (w4 : (Jvm.Cond.code z bytes maxL rt).before a0 Z = true)
    (hy : owner ≠ "java/lang/invoke/MethodHandle" ∧ owner ≠ "java/lang/invoke/VarHandle") (hM : own_Met l Z z bytes maxL rt rm (.ref b :: argsL).toArray h Qc)
    (hg : g.method = m) (hsz : g.locals.size = c.maxLocals) (hlen : ∀ sig, parseMethodDescriptor y.desc = some sig → argsL.length = sig.parameters.length) (hst : g.stack = argsL.reverse ++ .ref b :: rest)
    (hf : rm.frames + 1 ≤ R.frames) (hl : (2 * g.monitorRoom + (rest.map fun v => v.category).sum) + (maxL + 11) + rm.locals ≤ R.locals) (hc : cells + rm.cells ≤ R.cells) (hs : slots + rm.slots ≤ R.slots)
    (hd : decode c.code g.pc = .ok (.invokevirtual index, 3)) :
    ∃ (v : Option Value) (T' : State) (L : List Loc) (h' : Heap), Stand p l e R s m args below meth c T' (locs ++ L) (cells + rm.cells) (slots + rm.slots) ∧ T'.heap = h' ∧ Qc v h' L ∧ ∀ t, Steps p.tables e below (T'.setTop { g with pc := g.pc + 3, stack := v.toList ++ rest }) t → Steps p.tables e below (T.setTop g) t := by
  obtain ⟨cq, kq, qa, qb, qc⟩ := isOf hZ eT E
  obtain ⟨v, _, ⟨T', L', k', n'⟩, -, X', ⟨Lc, hQ, e1, e2, e3⟩, st⟩ := X.virtualBackUp hx hown (mvT hZ w1) (mvT hZ w7) (mvT hZ w2) hy (mvT hZ w5) (mvT hZ w6) (backOf (hM []) hZ w4 w3 hf hl) qa qc hg hsz (Steps.refl _) hlen hst (Nat.le_refl _) hd (fun _ _ => ⟨rfl, eT, hc, hs⟩)
  dsimp only [Pt.U, Pt.locs, Pt.cells, Pt.slots] at X' e1 e2 e3 st hQ
  subst e1 e2 e3
  exact ⟨v, T', Lc, _, X', rfl, hQ, fun t k => st.trans k⟩
end Own
section Own2
variable {p : Program} {l : Launch} {e : Env} {R : Room} {s : State} {m : MethodId} {args : Array Value} {below : List Frame} {meth : Method} {c : Code} {T : State} {locs : List Loc} {cells slots : Nat} {Z : State} {a0 : Array Value} {h h0 : Heap}
variable {y z : MethodName} {bytes : ByteArray} {maxL : Nat} {rt : Option FieldType} {rm : Room} {Qc : Option Value → Heap → List Loc → Prop} {own C : String} {index count : Nat} {g : JFrame} {argsL rest : List Value} {b : Addr}
theorem own_interface (X : Stand p l e R s m args below meth c T locs cells slots) (hx : p.tables.exec = Jvm.exec) (hZ : Z.Warmed39 s.vm) (hown : s.vm.findClass own = some m.cls) (eT : T.heap = h) (E : Exa Z h b C)
    (w1 : (Jvm.Cond.methodLink own index y).before a0 Z = true) (w2 : (Jvm.Cond.declares y).before a0 Z = true) (w7 : (Jvm.Cond.interfaceMethod y.cls y.cls y.name y.desc).before args s = true) (w5 : (Jvm.Cond.selects C y z).before a0 Z = true) (w6 : (Jvm.Cond.instanceMethod z).before a0 Z = true)
    (w8 : (Jvm.Cond.publicMethod z).before a0 Z = true) (w9 : (Jvm.Cond.unhidden C y.name y.desc).before a0 Z = true) (w10 : (Jvm.Cond.castable C y.cls).before a0 Z = true) (w3 : (Jvm.Cond.initialized z.cls).before a0 Z = true) (w4 : (Jvm.Cond.code z bytes maxL rt).before a0 Z = true)
    (hy : y.cls ≠ "java/lang/invoke/MethodHandle" ∧ y.cls ≠ "java/lang/invoke/VarHandle") (hM : own_Met l Z z bytes maxL rt rm (.ref b :: argsL).toArray h Qc)
    (hg : g.method = m) (hsz : g.locals.size = c.maxLocals) (hlen : ∀ sig, parseMethodDescriptor y.desc = some sig → argsL.length = sig.parameters.length) (hst : g.stack = argsL.reverse ++ .ref b :: rest)
    (hf : rm.frames + 1 ≤ R.frames) (hl : (2 * g.monitorRoom + (rest.map fun v => v.category).sum) + (maxL + 11) + rm.locals ≤ R.locals) (hc : cells + rm.cells ≤ R.cells) (hs : slots + rm.slots ≤ R.slots)
    (hd : decode c.code g.pc = .ok (.invokeinterface index count, 5)) :
    ∃ (v : Option Value) (T' : State) (L : List Loc) (h' : Heap), Stand p l e R s m args below meth c T' (locs ++ L) (cells + rm.cells) (slots + rm.slots) ∧ T'.heap = h' ∧ Qc v h' L ∧ ∀ t, Steps p.tables e below (T'.setTop { g with pc := g.pc + 5, stack := v.toList ++ rest }) t → Steps p.tables e below (T.setTop g) t := by
  obtain ⟨cq, kq, qa, qb, qc⟩ := isOf hZ eT E
  obtain ⟨v, _, ⟨T', L', k', n'⟩, -, X', ⟨Lc, hQ, e1, e2, e3⟩, st⟩ := X.interfaceBack hx hown (mvT hZ w1) (mvT hZ w2) w7 (mvT hZ w5) (mvT hZ w6) (mvT hZ w8) (mvT hZ w9) (mvT hZ w10) hy (backOf (hM []) hZ w4 w3 hf hl) qa qb qc hg hsz (Steps.refl _) hlen hst (Nat.le_refl _) hd (fun _ _ => ⟨rfl, eT, hc, hs⟩)
  dsimp only [Pt.U, Pt.locs, Pt.cells, Pt.slots] at X' e1 e2 e3 st hQ
  subst e1 e2 e3
  exact ⟨v, T', Lc, _, X', rfl, hQ, fun t k => st.trans k⟩
end Own2
section Own3
variable {p : Program} {l : Launch} {e : Env} {R : Room} {s : State} {m : MethodId} {args : Array Value} {below : List Frame} {meth : Method} {c : Code} {T : State} {locs : List Loc} {cells slots : Nat} {Z : State} {a0 : Array Value} {h h0 : Heap} {own C : String} {index count : Nat} {g : JFrame} {rest : List Value} {a mr : Addr}
theorem own_mir_eval {args : Array Value} (hZ : Z.Warmed39 s.vm) (M : Mir Z C mr) : (Jvm.Term.mirror C).eval args s none [] s = some (.ref mr) := by
  obtain ⟨c, k, f1, f2, f3, -⟩ := M
  obtain ⟨k', q, r⟩ := hZ.alike.2.2 _ _ f2
  have f1' : s.vm.findClass C = some c := by rw [hZ.alike.findClass]; exact f1
  have f3' : k'.mirror = some mr := by rw [r]; exact f3
  simp [Term.eval, f1', q, f3']
theorem own_ldcMir (X : Stand p l e R s m args below meth c T locs cells slots) (hx : p.tables.exec = Jvm.exec) (hZ : Z.Warmed39 s.vm) (hown : s.vm.findClass own = some m.cls) (eT : T.heap = h) (w : (Jvm.Cond.classLink own index C).before a0 Z = true) (M : Mir Z C mr) (hg : g.method = m) (hd : decode c.code g.pc = .ok (.ldc index, 2)) :
    ∃ T' : State, Stand p l e R s m args below meth c T' locs cells slots ∧ T'.heap = h ∧ ∀ t, Steps p.tables e below (T'.setTop { g with pc := g.pc + 2, stack := .ref mr :: g.stack }) t → Steps p.tables e below (T.setTop g) t := by
  obtain ⟨vm', X', st⟩ := X.ldcMirror hx hown (mvT hZ w) (own_mir_eval hZ M) hg hd
  exact ⟨_, X', eT, st⟩
theorem own_getClassI {xi : MethodName} (X : Stand p l e R s m args below meth c T locs cells slots) (hx : p.tables.exec = Jvm.exec) (hZ : Z.Warmed39 s.vm) (hown : s.vm.findClass own = some m.cls) (eT : T.heap = h) (E : Exa Z h a C) (M : Mir Z C mr)
    (w1 : (Jvm.Cond.methodLink own index xi).before a0 Z = true) (w2 : (Jvm.Cond.declares ⟨"java/lang/Object", "getClass", "()Ljava/lang/Class;"⟩).before a0 Z = true) (w3 : (Jvm.Cond.interfaceMethod xi.cls "java/lang/Object" xi.name xi.desc).before args s = true) (w4 : (Jvm.Cond.selects C xi ⟨"java/lang/Object", "getClass", "()Ljava/lang/Class;"⟩).before a0 Z = true)
    (w5 : (Jvm.Cond.instanceMethod ⟨"java/lang/Object", "getClass", "()Ljava/lang/Class;"⟩).before a0 Z = true) (w6 : (Jvm.Cond.publicMethod ⟨"java/lang/Object", "getClass", "()Ljava/lang/Class;"⟩).before a0 Z = true) (w7 : (Jvm.Cond.unhidden C xi.name xi.desc).before a0 Z = true) (w8 : (Jvm.Cond.castable C xi.cls).before a0 Z = true) (w9 : (Jvm.Cond.native ⟨"java/lang/Object", "getClass", "()Ljava/lang/Class;"⟩).before a0 Z = true)
    (hy : xi.cls ≠ "java/lang/invoke/MethodHandle" ∧ xi.cls ≠ "java/lang/invoke/VarHandle") (hxo : xi.cls ≠ "java/lang/Object") (hname : xi.name = "getClass") (hdesc : xi.desc = "()Ljava/lang/Class;")
    (hg : g.method = m) (hsz : g.locals.size = c.maxLocals) (hst : g.stack = .ref a :: rest) (hd : decode c.code g.pc = .ok (.invokeinterface index count, 5)) (hf : 1 ≤ R.frames) (hl : 2 * g.monitorRoom + (rest.map fun v => v.category).sum + (nativeFrameWords "java/lang/Object" "getClass" 1 + 11) ≤ R.locals) :
    ∃ T' : State, Stand p l e R s m args below meth c T' locs cells slots ∧ T'.heap = h ∧ ∀ t, Steps p.tables e below (T'.setTop { g with pc := g.pc + 5, stack := .ref mr :: rest }) t → Steps p.tables e below (T.setTop g) t := by
  obtain ⟨cq, kq, qa, qb, qc⟩ := isOf hZ eT E
  have hm : kq.mirror = some mr := by
    obtain ⟨c', k, f1, f2, f3, -⟩ := M
    obtain ⟨k', q, r⟩ := hZ.alike.2.2 _ _ f2
    rw [hZ.alike.findClass] at qa
    cases qa.symm.trans f1
    cases qb.symm.trans q
    rw [r]; exact f3
  obtain ⟨vm', X', st⟩ := X.getClassOfI hx hown (mvT hZ w1) (mvT hZ w2) w3 (mvT hZ w4) (mvT hZ w5) (mvT hZ w6) (mvT hZ w7) (mvT hZ w8) (mvT hZ w9) hy hxo hname hdesc qa qb qc hm hg hsz hst hd hf hl
  exact ⟨_, X', eT, st⟩
end Own3
theorem own_eq_int {args : Array Value} {s : State} {t : Jvm.Term} {k : Int32} (h : (Jvm.Cond.eq t (.int k)).value args s none s [] = some true) : t.eval args s none [] s = some (.int k) := by
  simp only [Cond.value, Term.eval] at h
  cases ht : t.eval args s none [] s with
  | none => simp [ht] at h
  | some v => cases v <;> simp [ht] at h; rw [h]
theorem own_i2c (x : Int32) : nar .char ((x &&& (255 : Int32)).toUInt32.toUInt16.toUInt32.toInt32) = x &&& 255 := by
  show ((x &&& (255 : Int32)).toUInt32.toUInt16.toUInt32.toInt32).toUInt32.toUInt16.toUInt32.toInt32 = _
  rw [i2c_mask, i2c_mask]
theorem own_lat (x : Int32) : ¬ (x &&& (255 : Int32)) < 0 ∧ ¬ (255 : Int32) < (x &&& (255 : Int32)) := by
  have h : (x &&& (255 : Int32)).toInt = x.toInt % 256 := c_mask x (255 : Int32) 8 (by decide) (by decide)
  have e1 : (0 : Int32).toInt = 0 := rfl
  have e2 : (255 : Int32).toInt = 255 := rfl
  rw [Int32.lt_iff_toInt_lt, Int32.lt_iff_toInt_lt, h, e1, e2]; omega
theorem own_latc {c x : Int32} (e : c = nar .char ((x &&& (255 : Int32)).toUInt32.toUInt16.toUInt32.toInt32)) : ¬ c < 0 ∧ ¬ (255 : Int32) < c := by rw [e, own_i2c]; exact own_lat x
theorem own_one {c : Int32} {P : Int32 → Prop} (h : P c) : ∀ d ∈ [c], P d := fun d hd => by rw [List.mem_singleton.mp hd]; exact h
theorem own_narb (x : Int32) : nar .byte (x.toInt8.toInt32) = x.toInt8.toInt32 := by simp [nar]
theorem pn_java_lang_StringLatin1 : plainName "java/lang/StringLatin1" = true := by first | (simp [plainName, overriddenIn]; done) | decide +kernel
theorem ef_jdk_43_method_3_codeI (m : MethodId) (z0 : Int32) : entryFrame m #[(.int z0)] 1 = mkF m 0 #[.val (.int z0)] [] := by first | (simp [entryFrame, mkF, argsToLocals, Value.category]; done) | rfl
theorem d_jdk_43_method_3_code_0 : decode jdk_43_method_3_code 0 = .ok (.iload_n 0, 1) := by decide +kernel
theorem d_jdk_43_method_3_code_1 : decode jdk_43_method_3_code 1 = .ok (.sipush 255, 3) := by decide +kernel
theorem d_jdk_43_method_3_code_4 : decode jdk_43_method_3_code 4 = .ok (.if_icmp .gt 7, 3) := by decide +kernel
theorem d_jdk_43_method_3_code_7 : decode jdk_43_method_3_code 7 = .ok (.iconst 1, 1) := by decide +kernel
theorem d_jdk_43_method_3_code_8 : decode jdk_43_method_3_code 8 = .ok (.goto 4, 3) := by decide +kernel
theorem d_jdk_43_method_3_code_12 : decode jdk_43_method_3_code 12 = .ok (.ireturn, 1) := by decide +kernel
set_option maxRecDepth 65536 in
set_option maxHeartbeats 40000000 in
theorem rm_canEncode (l : Launch) (Z : State) (a0 : Array Value) (hw : ∀ d ∈ tables_1, d.before a0 Z = true) (ch : Int32) (h0 : Heap) (n0 : Nat) (Z0 : n0 ≤ h0.size) (hle : ¬ (255 : Int32) < ch) :
    own_Met l Z (⟨"java/lang/StringLatin1", "canEncode", "(C)Z"⟩ : MethodName) jdk_43_method_3_code 1 (some .boolean) ({ frames := 0, cells := 0, slots := 0, locals := 0 } : Room) #[(.int ch)] h0 (fun v h L => v = some (.int (1 : Int32)) ∧ Fr n0 L ∧ h = h0) := by
  refine own_body (plainFor_of_name pn_java_lang_StringLatin1) ?_
  intro p e s m below meth c T0 X0 e0 hx hby hml hown hnm hret hlk hZ
  replace hown : s.vm.findClass "java/lang/StringLatin1" = some m.cls := hown
  have N0 := Fr.nil n0
  refine own_of (fun tt_ kk_ => castTop (ef_jdk_43_method_3_codeI m ch) kk_) ?_
  show own_Ends _ _ _ _ _ _ (T0.setTop (mkF m 0 #[.val (.int ch)] []))
  refine own_of (fun tt_ kk_ => XS.iloadN X0.here hx rfl (hb hby d_jdk_43_method_3_code_0) rfl  kk_) ?_
  show own_Ends _ _ _ _ _ _ (T0.setTop (mkF m 1 #[.val (.int ch)] [(.int ch)]))
  refine own_of (fun tt_ kk_ => XS.sipush X0.here hx rfl (hb hby d_jdk_43_method_3_code_1) kk_) ?_
  show own_Ends _ _ _ _ _ _ (T0.setTop (mkF m 4 #[.val (.int ch)] [(.int (255 : Int32)), (.int ch)]))
  refine own_of (fun tt_ kk_ => XS.icmpNo X0.here hx rfl (hb hby d_jdk_43_method_3_code_4) rfl (flt hle).2.2.1 kk_) ?_
  show own_Ends _ _ _ _ _ _ (T0.setTop (mkF m 7 #[.val (.int ch)] []))
  refine own_of (fun tt_ kk_ => XS.iconst X0.here hx rfl (hb hby d_jdk_43_method_3_code_7) kk_) ?_
  show own_Ends _ _ _ _ _ _ (T0.setTop (mkF m 8 #[.val (.int ch)] [(.int (1 : Int32))]))
  refine own_of (fun tt_ kk_ => XS.goto X0.here hx rfl (pc0 := 8) (pc' := 12) rfl (hb hby d_jdk_43_method_3_code_8) (by decide) (by decide) kk_) ?_
  show own_Ends _ _ _ _ _ _ (T0.setTop (mkF m 12 #[.val (.int ch)] [(.int (1 : Int32))]))
  refine own_retN X0 hx hlk e0 (t := .boolean) hret (by simp) (z' := (1 : Int32)) rfl (hb hby d_jdk_43_method_3_code_12) (by decide) (by decide) ?_
  exact ⟨rfl, N0, rfl⟩
theorem ef_jdk_43_method_46_codeI (m : MethodId) (z0 : Int32) : entryFrame m #[(.int z0)] 1 = mkF m 0 #[.val (.int z0)] [] := by first | (simp [entryFrame, mkF, argsToLocals, Value.category]; done) | rfl
theorem d_jdk_43_method_46_code_0 : decode jdk_43_method_46_code 0 = .ok (.iconst 1, 1) := by decide +kernel
theorem d_jdk_43_method_46_code_1 : decode jdk_43_method_46_code 1 = .ok (.newarray .byte, 2) := by decide +kernel
theorem d_jdk_43_method_46_code_3 : decode jdk_43_method_46_code 3 = .ok (.dup, 1) := by decide +kernel
theorem d_jdk_43_method_46_code_4 : decode jdk_43_method_46_code 4 = .ok (.iconst 0, 1) := by decide +kernel
theorem d_jdk_43_method_46_code_5 : decode jdk_43_method_46_code 5 = .ok (.iload_n 0, 1) := by decide +kernel
theorem d_jdk_43_method_46_code_6 : decode jdk_43_method_46_code 6 = .ok (.i2b, 1) := by decide +kernel
theorem d_jdk_43_method_46_code_7 : decode jdk_43_method_46_code 7 = .ok (.bastore, 1) := by decide +kernel
theorem d_jdk_43_method_46_code_8 : decode jdk_43_method_46_code 8 = .ok (.areturn, 1) := by decide +kernel
set_option maxRecDepth 65536 in
set_option maxHeartbeats 40000000 in
theorem rm_toBytes (l : Launch) (Z : State) (a0 : Array Value) (hw : ∀ d ∈ tables_1, d.before a0 Z = true) (ch : Int32) (h0 : Heap) (n0 : Nat) (Z0 : n0 ≤ h0.size) :
    own_Met l Z (⟨"java/lang/StringLatin1", "toBytes", "(C)[B"⟩ : MethodName) jdk_43_method_46_code 1 (some (.array .byte)) ({ frames := 0, cells := 1, slots := 1, locals := 0 } : Room) #[(.int ch)] h0 (fun v h L => ∃ (t : Addr) (k : ClassId), v = some (.ref t) ∧ Fr n0 L ∧ Keep h0 h [] ∧ h0.size ≤ t ∧ Arv Z h t k .byte (1 : Int32) [(.int (ch.toInt8.toInt32))] (.int (0 : Int32))) := by
  refine own_body (plainFor_of_name pn_java_lang_StringLatin1) ?_
  intro p e s m below meth c T0 X0 e0 hx hby hml hown hnm hret hlk hZ
  replace hown : s.vm.findClass "java/lang/StringLatin1" = some m.cls := hown
  have N0 := Fr.nil n0
  refine own_of (fun tt_ kk_ => castTop (ef_jdk_43_method_46_codeI m ch) kk_) ?_
  have K := Keep.refl h0 []
  show own_Ends _ _ _ _ _ _ (T0.setTop (mkF m 0 #[.val (.int ch)] []))
  refine own_of (fun tt_ kk_ => XS.iconst X0.here hx rfl (hb hby d_jdk_43_method_46_code_0) kk_) ?_
  show own_Ends _ _ _ _ _ _ (T0.setTop (mkF m 1 #[.val (.int ch)] [(.int (1 : Int32))]))
  obtain ⟨T1, h1, k1, X1, e1, E1, A1, st1⟩ := newP X0 hx hZ (hw _ (List.mem_of_getElem? (i := 171) rfl)) e0 (g := (mkF m 1 #[.val (.int ch)] [(.int (1 : Int32))])) rfl (hb hby d_jdk_43_method_46_code_1) rfl (by decide) (cap := 1) (by decide) (by decide) (by decide) (by decide)
  obtain ⟨b1, g1⟩ : ∃ z, z = h0.size := ⟨_, rfl⟩
  rw [← g1] at A1 st1
  have sz_b1 : h0.size ≤ b1 := Nat.le_trans K.1 (Nat.le_of_eq g1.symm)
  have g_b1 : n0 ≤ b1 := Nat.le_trans Z0 sz_b1
  have V1 : Arv Z h1 b1 k1 .byte (1 : Int32) [(.int (0 : Int32))] (.int (0 : Int32)) := (Arv.new A1 (by decide)).pad (pad_rep [] (.int (0 : Int32)) 1)
  replace K := K.ext E1
  refine own_of st1 ?_
  show own_Ends _ _ _ _ _ _ (T1.setTop (mkF m 3 #[.val (.int ch)] [(.ref b1)]))
  refine own_of (fun tt_ kk_ => XS.dup X1.here hx rfl (hb hby d_jdk_43_method_46_code_3) rfl rfl kk_) ?_
  show own_Ends _ _ _ _ _ _ (T1.setTop (mkF m 4 #[.val (.int ch)] [(.ref b1), (.ref b1)]))
  refine own_of (fun tt_ kk_ => XS.iconst X1.here hx rfl (hb hby d_jdk_43_method_46_code_4) kk_) ?_
  show own_Ends _ _ _ _ _ _ (T1.setTop (mkF m 5 #[.val (.int ch)] [(.int (0 : Int32)), (.ref b1), (.ref b1)]))
  refine own_of (fun tt_ kk_ => XS.iloadN X1.here hx rfl (hb hby d_jdk_43_method_46_code_5) rfl  kk_) ?_
  show own_Ends _ _ _ _ _ _ (T1.setTop (mkF m 6 #[.val (.int ch)] [(.int ch), (.int (0 : Int32)), (.ref b1), (.ref b1)]))
  refine own_of (fun tt_ kk_ => XS.i2b X1.here hx rfl (hb hby d_jdk_43_method_46_code_6) rfl kk_) ?_
  show own_Ends _ _ _ _ _ _ (T1.setTop (mkF m 7 #[.val (.int ch)] [(.int (ch.toInt8.toInt32)), (.int (0 : Int32)), (.ref b1), (.ref b1)]))
  obtain ⟨cl2, Ar2, q2, S2, N2', H2, G2⟩ := V1
  have hin2 : ¬ ((0 : Int32) < 0 ∨ cl2.slots.size ≤ ((0 : Int32)).toNatClampNeg) := inb_of S2 ⟨by decide, by decide⟩
  obtain ⟨T2, h2, X2, e2, W2, st2⟩ := stB X1 hx hZ e1 Ar2 (j := (0 : Int32)) hin2 (g := (mkF m 7 #[.val (.int ch)] [(.int (ch.toInt8.toInt32)), (.int (0 : Int32)), (.ref b1), (.ref b1)])) rfl rfl (hb hby d_jdk_43_method_46_code_7)
  have V2' : Arv Z h2 b1 k1 .byte (1 : Int32) [(.int (nar .byte (ch.toInt8.toInt32)))] (.int (0 : Int32)) := Arv.set Ar2 q2 S2 N2' H2 G2 (fits_nar_byte _) W2 0 rfl (Nat.le_of_ble_eq_true rfl)
  have N2 := Fr.snoc X2 N0 g_b1
  replace K := K.wr W2 (Or.inr sz_b1)
  refine own_of st2 ?_
  show own_Ends _ _ _ _ _ _ (T2.setTop (mkF m 8 #[.val (.int ch)] [(.ref b1)]))
  refine own_retA X2 hx hlk e2 hret rfl rfl (hb hby d_jdk_43_method_46_code_8) (by decide) (by decide) ?_
  rw [own_narb] at V2'
  exact ⟨b1, k1, rfl, N2, K, sz_b1, V2'⟩
theorem pn_java_lang_String : plainName "java/lang/String" = true := by first | (simp [plainName, overriddenIn]; done) | decide +kernel
theorem ef_jdk_42_method_151_codeRRI (m : MethodId) (z0 : Addr) (z1 : Addr) (z2 : Int32) : entryFrame m #[(.ref z0), (.ref z1), (.int z2)] 3 = mkF m 0 #[.val (.ref z0), .val (.ref z1), .val (.int z2)] [] := by first | (simp [entryFrame, mkF, argsToLocals, Value.category]; done) | rfl
theorem d_jdk_42_method_151_code_0 : decode jdk_42_method_151_code 0 = .ok (.aload_n 0, 1) := by decide +kernel
theorem d_jdk_42_method_151_code_1 : decode jdk_42_method_151_code 1 = .ok (.invokespecial 1, 3) := by decide +kernel
theorem d_jdk_42_method_151_code_4 : decode jdk_42_method_151_code 4 = .ok (.aload_n 0, 1) := by decide +kernel
theorem d_jdk_42_method_151_code_5 : decode jdk_42_method_151_code 5 = .ok (.aload_n 1, 1) := by decide +kernel
theorem d_jdk_42_method_151_code_6 : decode jdk_42_method_151_code 6 = .ok (.putfield 9, 3) := by decide +kernel
theorem d_jdk_42_method_151_code_9 : decode jdk_42_method_151_code 9 = .ok (.aload_n 0, 1) := by decide +kernel
theorem d_jdk_42_method_151_code_10 : decode jdk_42_method_151_code 10 = .ok (.iload_n 2, 1) := by decide +kernel
theorem d_jdk_42_method_151_code_11 : decode jdk_42_method_151_code 11 = .ok (.putfield 15, 3) := by decide +kernel
theorem d_jdk_42_method_151_code_14 : decode jdk_42_method_151_code 14 = .ok (.return_, 1) := by decide +kernel
set_option maxRecDepth 65536 in
set_option maxHeartbeats 40000000 in
theorem rm_initBB (l : Launch) (Z : State) (a0 : Array Value) (hw : ∀ d ∈ tables_1, d.before a0 Z = true) (a b : Addr) (h0 : Heap) (n0 : Nat) (Z0 : n0 ≤ h0.size) (E : Exa Z h0 a "java/lang/String") (FV : Fld Z h0 a "java/lang/String" "value" "[B" .null) (FC : Fld Z h0 a "java/lang/String" "coder" "B" (.int (0 : Int32))) (g_a : n0 ≤ a) :
    own_Met l Z (⟨"java/lang/String", "<init>", "([BB)V"⟩ : MethodName) jdk_42_method_151_code 3 none ({ frames := 1, cells := 0, slots := 0, locals := 12 } : Room) #[(.ref a), (.ref b), (.int (0 : Int32))] h0 (fun v h L => v = none ∧ Fr n0 L ∧ Keep h0 h [a] ∧ Exa Z h a "java/lang/String" ∧ Fld Z h a "java/lang/String" "value" "[B" (.ref b) ∧ Fld Z h a "java/lang/String" "coder" "B" (.int (0 : Int32))) := by
  refine own_body (plainFor_of_name pn_java_lang_String) ?_
  intro p e s m below meth c T0 X0 e0 hx hby hml hown hnm hret hlk hZ
  replace hown : s.vm.findClass "java/lang/String" = some m.cls := hown
  have N0 := Fr.nil n0
  refine own_of (fun tt_ kk_ => castTop (ef_jdk_42_method_151_codeRRI m a b (0 : Int32)) kk_) ?_
  have K := Keep.refl h0 [a]
  show own_Ends _ _ _ _ _ _ (T0.setTop (mkF m 0 #[.val (.ref a), .val (.ref b), .val (.int (0 : Int32))] []))
  refine own_of (fun tt_ kk_ => XS.aloadN X0.here hx rfl (hb hby d_jdk_42_method_151_code_0) rfl rfl kk_) ?_
  show own_Ends _ _ _ _ _ _ (T0.setTop (mkF m 1 #[.val (.ref a), .val (.ref b), .val (.int (0 : Int32))] [(.ref a)]))
  obtain ⟨T3, X3, e3, st3⟩ := initO X0 hx hZ hown (hw _ (List.mem_of_getElem? (i := 176) rfl)) (hw _ (List.mem_of_getElem? (i := 13) rfl)) (hw _ (List.mem_of_getElem? (i := 14) rfl)) e0 (g := (mkF m 1 #[.val (.ref a), .val (.ref b), .val (.int (0 : Int32))] [(.ref a)])) rfl (by rw [hml]; rfl) rfl (hb hby d_jdk_42_method_151_code_1) (by decide) (W := 0) (by show 2 * 0 + _ ≤ _; exact Nat.le_of_eq rfl) (by decide)
  refine own_of st3 ?_
  show own_Ends _ _ _ _ _ _ (T3.setTop (mkF m 4 #[.val (.ref a), .val (.ref b), .val (.int (0 : Int32))] []))
  refine own_of (fun tt_ kk_ => XS.aloadN X3.here hx rfl (hb hby d_jdk_42_method_151_code_4) rfl rfl kk_) ?_
  show own_Ends _ _ _ _ _ _ (T3.setTop (mkF m 5 #[.val (.ref a), .val (.ref b), .val (.int (0 : Int32))] [(.ref a)]))
  refine own_of (fun tt_ kk_ => XS.aloadN X3.here hx rfl (hb hby d_jdk_42_method_151_code_5) rfl rfl kk_) ?_
  show own_Ends _ _ _ _ _ _ (T3.setTop (mkF m 6 #[.val (.ref a), .val (.ref b), .val (.int (0 : Int32))] [(.ref b), (.ref a)]))
  obtain ⟨T4, h4, X4, e4, W4, st4⟩ := putF X3 hx hZ hown (host := "") (Or.inl (hw _ (List.mem_of_getElem? (i := 177) rfl))) Via.refl e3 FV E (Or.inr ⟨(hw _ (List.mem_of_getElem? (i := 178) rfl)), rfl, hnm⟩) (hw _ (List.mem_of_getElem? (i := 167) rfl)) (ty := (.array .byte)) (by decide) rfl rfl (g := (mkF m 6 #[.val (.ref a), .val (.ref b), .val (.int (0 : Int32))] [(.ref b), (.ref a)])) rfl rfl (hb hby d_jdk_42_method_151_code_6)
  replace FV := FV.same W4
  replace E := E.wr W4
  replace FC := FC.other W4 (Or.inr (slot_ne (Or.inr (hw _ (List.mem_of_getElem? (i := 180) rfl))) (Or.inr (hw _ (List.mem_of_getElem? (i := 178) rfl))) (by decide) (t := .byte) (t' := (.array .byte)) (by decide) (by decide)))
  have N4 := Fr.snoc X4 N0 g_a
  replace K := K.wr W4 (Or.inl (List.mem_of_getElem? (i := 0) rfl))
  refine own_of st4 ?_
  show own_Ends _ _ _ _ _ _ (T4.setTop (mkF m 9 #[.val (.ref a), .val (.ref b), .val (.int (0 : Int32))] []))
  refine own_of (fun tt_ kk_ => XS.aloadN X4.here hx rfl (hb hby d_jdk_42_method_151_code_9) rfl rfl kk_) ?_
  show own_Ends _ _ _ _ _ _ (T4.setTop (mkF m 10 #[.val (.ref a), .val (.ref b), .val (.int (0 : Int32))] [(.ref a)]))
  refine own_of (fun tt_ kk_ => XS.iloadN X4.here hx rfl (hb hby d_jdk_42_method_151_code_10) rfl  kk_) ?_
  show own_Ends _ _ _ _ _ _ (T4.setTop (mkF m 11 #[.val (.ref a), .val (.ref b), .val (.int (0 : Int32))] [(.int (0 : Int32)), (.ref a)]))
  obtain ⟨T5, h5, X5, e5, W5, st5⟩ := putFN X4 hx hZ hown (hw _ (List.mem_of_getElem? (i := 179) rfl)) Via.refl e4 FC E (Or.inr ⟨(hw _ (List.mem_of_getElem? (i := 180) rfl)), rfl, hnm⟩) (hw _ (List.mem_of_getElem? (i := 167) rfl)) (ty := .byte) (v' := (.int (0 : Int32))) (by decide) rfl rfl (g := (mkF m 11 #[.val (.ref a), .val (.ref b), .val (.int (0 : Int32))] [(.int (0 : Int32)), (.ref a)])) rfl rfl (hb hby d_jdk_42_method_151_code_11)
  replace FC := FC.same W5
  replace E := E.wr W5
  replace FV := FV.other W5 (Or.inr (slot_ne (Or.inr (hw _ (List.mem_of_getElem? (i := 178) rfl))) (Or.inr (hw _ (List.mem_of_getElem? (i := 180) rfl))) (by decide) (t := (.array .byte)) (t' := .byte) (by decide) (by decide)))
  have N5 := Fr.snoc X5 N4 g_a
  replace K := K.wr W5 (Or.inl (List.mem_of_getElem? (i := 0) rfl))
  refine own_of st5 ?_
  show own_Ends _ _ _ _ _ _ (T5.setTop (mkF m 14 #[.val (.ref a), .val (.ref b), .val (.int (0 : Int32))] []))
  refine own_retV X5 hx hlk e5 hret (hb hby d_jdk_42_method_151_code_14) (by decide) (by decide) ?_
  exact ⟨rfl, N5, K, E, FV, FC⟩
theorem ef_jdk_42_method_139_codeI (m : MethodId) (z0 : Int32) : entryFrame m #[(.int z0)] 1 = mkF m 0 #[.val (.int z0)] [] := by first | (simp [entryFrame, mkF, argsToLocals, Value.category]; done) | rfl
theorem d_jdk_42_method_139_code_0 : decode jdk_42_method_139_code 0 = .ok (.getstatic 38, 3) := by decide +kernel
theorem d_jdk_42_method_139_code_3 : decode jdk_42_method_139_code 3 = .ok (.ifCond .eq 23, 3) := by decide +kernel
theorem d_jdk_42_method_139_code_6 : decode jdk_42_method_139_code 6 = .ok (.iload_n 0, 1) := by decide +kernel
theorem pd__C_r_Z : parseMethodDescriptor "(C)Z" = some ⟨[.char], some .boolean⟩ := by decide +kernel
theorem d_jdk_42_method_139_code_7 : decode jdk_42_method_139_code 7 = .ok (.invokestatic 1015, 3) := by decide +kernel
theorem d_jdk_42_method_139_code_10 : decode jdk_42_method_139_code 10 = .ok (.ifCond .eq 16, 3) := by decide +kernel
theorem d_jdk_42_method_139_code_13 : decode jdk_42_method_139_code 13 = .ok (.new 10, 3) := by decide +kernel
theorem d_jdk_42_method_139_code_16 : decode jdk_42_method_139_code 16 = .ok (.dup, 1) := by decide +kernel
theorem d_jdk_42_method_139_code_17 : decode jdk_42_method_139_code 17 = .ok (.iload_n 0, 1) := by decide +kernel
theorem pd__C_r_AB : parseMethodDescriptor "(C)[B" = some ⟨[.char], some (.array .byte)⟩ := by decide +kernel
theorem d_jdk_42_method_139_code_18 : decode jdk_42_method_139_code 18 = .ok (.invokestatic 1018, 3) := by decide +kernel
theorem d_jdk_42_method_139_code_21 : decode jdk_42_method_139_code 21 = .ok (.iconst 0, 1) := by decide +kernel
theorem pd__ABB_r_V : parseMethodDescriptor "([BB)V" = some ⟨[(.array .byte), .byte], none⟩ := by decide +kernel
theorem d_jdk_42_method_139_code_22 : decode jdk_42_method_139_code 22 = .ok (.invokespecial 209, 3) := by decide +kernel
theorem d_jdk_42_method_139_code_25 : decode jdk_42_method_139_code 25 = .ok (.areturn, 1) := by decide +kernel
set_option maxRecDepth 65536 in
set_option maxHeartbeats 40000000 in
theorem rm_valueOf (l : Launch) (Z : State) (a0 : Array Value) (hw : ∀ d ∈ tables_1, d.before a0 Z = true) (ch G1 : Int32) (h0 : Heap) (n0 : Nat) (Z0 : n0 ≤ h0.size) (O2 : Sta Z Z.heap "java/lang/String" "COMPACT_STRINGS" "Z" (.int G1)) (P3 : ¬ (G1 = (0 : Int32))) (OL : Old Z n0 h0) (hle : ¬ (255 : Int32) < ch) :
    own_Met l Z (⟨"java/lang/String", "valueOf", "(C)Ljava/lang/String;"⟩ : MethodName) jdk_42_method_139_code 1 (some (.object "java/lang/String")) ({ frames := 2, cells := 2, slots := 5, locals := 27 } : Room) #[(.int ch)] h0 (fun v h L => ∃ (a t : Addr) (k : ClassId), v = some (.ref a) ∧ Fr n0 L ∧ Keep h0 h [] ∧ h0.size ≤ a ∧ h0.size ≤ t ∧ a ≠ t ∧ Exa Z h a "java/lang/String" ∧ Fld Z h a "java/lang/String" "value" "[B" (.ref t) ∧ Fld Z h a "java/lang/String" "coder" "B" (.int (0 : Int32)) ∧ Arv Z h t k .byte (1 : Int32) [(.int (ch.toInt8.toInt32))] (.int (0 : Int32))) := by
  refine own_body (plainFor_of_name pn_java_lang_String) ?_
  intro p e s m below meth c T0 X0 e0 hx hby hml hown hnm hret hlk hZ
  replace hown : s.vm.findClass "java/lang/String" = some m.cls := hown
  have N0 := Fr.nil n0
  refine own_of (fun tt_ kk_ => castTop (ef_jdk_42_method_139_codeI m ch) kk_) ?_
  have K := Keep.refl h0 []
  show own_Ends _ _ _ _ _ _ (T0.setTop (mkF m 0 #[.val (.int ch)] []))
  obtain ⟨T6, X6, e6, st6⟩ := getS2 X0 hx hZ hown (host := "") (Or.inl (hw _ (List.mem_of_getElem? (i := 161) rfl))) Via.refl e0 (O2.ext OL.2) (g := (mkF m 0 #[.val (.int ch)] [])) rfl (hb hby d_jdk_42_method_139_code_0)
  refine own_of st6 ?_
  show own_Ends _ _ _ _ _ _ (T6.setTop (mkF m 3 #[.val (.int ch)] [(.int G1)]))
  refine own_of (fun tt_ kk_ => XS.ifNo X6.here hx rfl (hb hby d_jdk_42_method_139_code_3) rfl ((if0 _ _).trans (feq P3).1) kk_) ?_
  show own_Ends _ _ _ _ _ _ (T6.setTop (mkF m 6 #[.val (.int ch)] []))
  refine own_of (fun tt_ kk_ => XS.iloadN X6.here hx rfl (hb hby d_jdk_42_method_139_code_6) rfl  kk_) ?_
  show own_Ends _ _ _ _ _ _ (T6.setTop (mkF m 7 #[.val (.int ch)] [(.int ch)]))
  obtain ⟨v7, T7, L7, h7, X7, e7, Q7, st7⟩ := own_static X6 hx hZ hown e6 (hw _ (List.mem_of_getElem? (i := 162) rfl)) (hw _ (List.mem_of_getElem? (i := 163) rfl)) (hw _ (List.mem_of_getElem? (i := 164) rfl)) (hw _ (List.mem_of_getElem? (i := 165) rfl)) (by decide) (argsL := [(.int ch)]) (rest := []) (rm_canEncode l Z a0 hw ch h0 n0 (Nat.le_trans Z0 K.1) hle) (g := (mkF m 7 #[.val (.int ch)] [(.int ch)])) rfl (by rw [hml]; rfl) (lenOf pd__C_r_Z rfl) rfl (by decide) (Nat.le_of_ble_eq_true rfl) (by decide) (by decide) (hb hby d_jdk_42_method_139_code_7)
  obtain ⟨rfl, Nq7, q7⟩ := Q7
  replace e7 := e7.trans q7
  have N7 := Fr.app N0 Nq7
  refine own_of st7 ?_
  show own_Ends _ _ _ _ _ _ (T7.setTop (mkF m 10 #[.val (.int ch)] [(.int (1 : Int32))]))
  refine own_of (fun tt_ kk_ => XS.ifNo X7.here hx rfl (hb hby d_jdk_42_method_139_code_10) rfl ((if0 _ _).trans (feq (by decide : ¬ ((1 : Int32) = (0 : Int32)))).1) kk_) ?_
  show own_Ends _ _ _ _ _ _ (T7.setTop (mkF m 13 #[.val (.int ch)] []))
  obtain ⟨T8, h8, X8, e8, E8, A8, D8, -, st8⟩ := newO X7 hx hZ hown (hw _ (List.mem_of_getElem? (i := 166) rfl)) (hw _ (List.mem_of_getElem? (i := 167) rfl)) (hw _ (List.mem_of_getElem? (i := 159) rfl)) e7 (g := (mkF m 13 #[.val (.int ch)] [])) rfl (hb hby d_jdk_42_method_139_code_13) (by decide) (by decide)
  obtain ⟨b8, g8⟩ : ∃ z, z = h0.size := ⟨_, rfl⟩
  rw [← g8] at A8 D8 st8
  have sz_b8 : h0.size ≤ b8 := Nat.le_trans K.1 (Nat.le_of_eq g8.symm)
  have g_b8 : n0 ≤ b8 := Nat.le_trans Z0 sz_b8
  replace OL := OL.ext E8
  have F_value_b8 : Fld Z h8 b8 "java/lang/String" "value" "[B" .null := D8 (Or.inr (hw _ (List.mem_of_getElem? (i := 178) rfl))) (ty := (.array .byte)) (by decide)
  have F_coder_b8 : Fld Z h8 b8 "java/lang/String" "coder" "B" (.int (0 : Int32)) := D8 (Or.inr (hw _ (List.mem_of_getElem? (i := 180) rfl))) (ty := .byte) (by decide)
  replace K := K.ext E8
  refine own_of st8 ?_
  show own_Ends _ _ _ _ _ _ (T8.setTop (mkF m 16 #[.val (.int ch)] [(.ref b8)]))
  refine own_of (fun tt_ kk_ => XS.dup X8.here hx rfl (hb hby d_jdk_42_method_139_code_16) rfl rfl kk_) ?_
  show own_Ends _ _ _ _ _ _ (T8.setTop (mkF m 17 #[.val (.int ch)] [(.ref b8), (.ref b8)]))
  refine own_of (fun tt_ kk_ => XS.iloadN X8.here hx rfl (hb hby d_jdk_42_method_139_code_17) rfl  kk_) ?_
  show own_Ends _ _ _ _ _ _ (T8.setTop (mkF m 18 #[.val (.int ch)] [(.int ch), (.ref b8), (.ref b8)]))
  obtain ⟨v9, T9, L9, h9, X9, e9, Q9, st9⟩ := own_static X8 hx hZ hown e8 (hw _ (List.mem_of_getElem? (i := 168) rfl)) (hw _ (List.mem_of_getElem? (i := 169) rfl)) (hw _ (List.mem_of_getElem? (i := 164) rfl)) (hw _ (List.mem_of_getElem? (i := 170) rfl)) (by decide) (argsL := [(.int ch)]) (rest := [(.ref b8), (.ref b8)]) (rm_toBytes l Z a0 hw ch h8 n0 (Nat.le_trans Z0 K.1)) (g := (mkF m 18 #[.val (.int ch)] [(.int ch), (.ref b8), (.ref b8)])) rfl (by rw [hml]; rfl) (lenOf pd__C_r_AB rfl) rfl (by decide) (Nat.le_of_ble_eq_true rfl) (by decide) (by decide) (hb hby d_jdk_42_method_139_code_18)
  obtain ⟨t9, k9, rfl, Nq9, Kq9, szq_t9, Vt9⟩ := Q9
  have ne_b8_t9 : b8 ≠ t9 := Nat.ne_of_lt (Nat.lt_of_lt_of_le A8.lt szq_t9)
  have sz_t9 : h0.size ≤ t9 := Nat.le_trans K.1 szq_t9
  have g_t9 : n0 ≤ t9 := Nat.le_trans Z0 sz_t9
  replace OL := OL.keep Kq9 all0
  replace A8 := A8.keep Kq9
  replace F_value_b8 := F_value_b8.keep Kq9 nin0
  replace F_coder_b8 := F_coder_b8.keep Kq9 nin0
  replace K := K.trans Kq9 all0
  have N9 := Fr.app N7 Nq9
  refine own_of st9 ?_
  show own_Ends _ _ _ _ _ _ (T9.setTop (mkF m 21 #[.val (.int ch)] [(.ref t9), (.ref b8), (.ref b8)]))
  refine own_of (fun tt_ kk_ => XS.iconst X9.here hx rfl (hb hby d_jdk_42_method_139_code_21) kk_) ?_
  show own_Ends _ _ _ _ _ _ (T9.setTop (mkF m 22 #[.val (.int ch)] [(.int (0 : Int32)), (.ref t9), (.ref b8), (.ref b8)]))
  obtain ⟨v10, T10, L10, h10, X10, e10, Q10, st10⟩ := own_special X9 hx hZ hown e9 (b := b8) rfl (hw _ (List.mem_of_getElem? (i := 172) rfl)) (hw _ (List.mem_of_getElem? (i := 173) rfl)) (hw _ (List.mem_of_getElem? (i := 159) rfl)) (hw _ (List.mem_of_getElem? (i := 175) rfl)) (by decide) (argsL := [(.ref t9), (.int (0 : Int32))]) (rest := [(.ref b8)]) (rm_initBB l Z a0 hw b8 t9 h9 n0 (Nat.le_trans Z0 K.1) A8 F_value_b8 F_coder_b8 g_b8) (g := (mkF m 22 #[.val (.int ch)] [(.int (0 : Int32)), (.ref t9), (.ref b8), (.ref b8)])) rfl (by rw [hml]; rfl) (lenOf pd__ABB_r_V rfl) rfl (by decide) (Nat.le_of_ble_eq_true rfl) (by decide) (by decide) (hb hby d_jdk_42_method_139_code_22)
  obtain ⟨rfl, Nq10, Kq10, A8', F_value_b8', F_coder_b8'⟩ := Q10
  replace OL := OL.keep Kq10 (allS g_b8 all0)
  replace A8 := A8.keep Kq10
  replace Vt9 := Vt9.keep Kq10 (ninS (Ne.symm ne_b8_t9) nin0)
  clear A8
  have A8 := A8'
  have F_value_b8 := F_value_b8'
  have F_coder_b8 := F_coder_b8'
  replace K := K.trans Kq10 (allS (Or.inr sz_b8) all0)
  have N10 := Fr.app N9 Nq10
  refine own_of st10 ?_
  show own_Ends _ _ _ _ _ _ (T10.setTop (mkF m 25 #[.val (.int ch)] [(.ref b8)]))
  refine own_retA X10 hx hlk e10 hret rfl rfl (hb hby d_jdk_42_method_139_code_25) (by decide) (by decide) ?_
  exact ⟨b8, t9, k9, rfl, N10, K, sz_b8, sz_t9, ne_b8_t9, A8, F_value_b8, F_coder_b8, Vt9⟩
theorem pn_java_util_AbstractCollection : plainName "java/util/AbstractCollection" = true := by first | (simp [plainName, overriddenIn]; done) | decide +kernel
theorem ef_jdk_22_method_1_codeR (m : MethodId) (z0 : Addr) : entryFrame m #[(.ref z0)] 1 = mkF m 0 #[.val (.ref z0)] [] := by first | (simp [entryFrame, mkF, argsToLocals, Value.category]; done) | rfl
theorem d_jdk_22_method_1_code_0 : decode jdk_22_method_1_code 0 = .ok (.aload_n 0, 1) := by decide +kernel
theorem d_jdk_22_method_1_code_1 : decode jdk_22_method_1_code 1 = .ok (.invokespecial 1, 3) := by decide +kernel
theorem d_jdk_22_method_1_code_4 : decode jdk_22_method_1_code 4 = .ok (.return_, 1) := by decide +kernel
set_option maxRecDepth 65536 in
set_option maxHeartbeats 40000000 in
theorem rm_abc (l : Launch) (Z : State) (a0 : Array Value) (hw : ∀ d ∈ tables_1, d.before a0 Z = true) (a : Addr) (h0 : Heap) (n0 : Nat) (Z0 : n0 ≤ h0.size) :
    own_Met l Z (⟨"java/util/AbstractCollection", "<init>", "()V"⟩ : MethodName) jdk_22_method_1_code 1 none ({ frames := 1, cells := 0, slots := 0, locals := 12 } : Room) #[(.ref a)] h0 (fun v h L => v = none ∧ Fr n0 L ∧ h = h0) := by
  refine own_body (plainFor_of_name pn_java_util_AbstractCollection) ?_
  intro p e s m below meth c T0 X0 e0 hx hby hml hown hnm hret hlk hZ
  replace hown : s.vm.findClass "java/util/AbstractCollection" = some m.cls := hown
  have N0 := Fr.nil n0
  refine own_of (fun tt_ kk_ => castTop (ef_jdk_22_method_1_codeR m a) kk_) ?_
  show own_Ends _ _ _ _ _ _ (T0.setTop (mkF m 0 #[.val (.ref a)] []))
  refine own_of (fun tt_ kk_ => XS.aloadN X0.here hx rfl (hb hby d_jdk_22_method_1_code_0) rfl rfl kk_) ?_
  show own_Ends _ _ _ _ _ _ (T0.setTop (mkF m 1 #[.val (.ref a)] [(.ref a)]))
  obtain ⟨T11, X11, e11, st11⟩ := initO X0 hx hZ hown (hw _ (List.mem_of_getElem? (i := 33) rfl)) (hw _ (List.mem_of_getElem? (i := 13) rfl)) (hw _ (List.mem_of_getElem? (i := 14) rfl)) e0 (g := (mkF m 1 #[.val (.ref a)] [(.ref a)])) rfl (by rw [hml]; rfl) rfl (hb hby d_jdk_22_method_1_code_1) (by decide) (W := 0) (by show 2 * 0 + _ ≤ _; exact Nat.le_of_eq rfl) (by decide)
  refine own_of st11 ?_
  show own_Ends _ _ _ _ _ _ (T11.setTop (mkF m 4 #[.val (.ref a)] []))
  refine own_retV X11 hx hlk e11 hret (hb hby d_jdk_22_method_1_code_4) (by decide) (by decide) ?_
  exact ⟨rfl, N0, rfl⟩
theorem pn_java_util_AbstractList : plainName "java/util/AbstractList" = true := by first | (simp [plainName, overriddenIn]; done) | decide +kernel
theorem ef_jdk_39_method_1_codeR (m : MethodId) (z0 : Addr) : entryFrame m #[(.ref z0)] 1 = mkF m 0 #[.val (.ref z0)] [] := by first | (simp [entryFrame, mkF, argsToLocals, Value.category]; done) | rfl
theorem d_jdk_39_method_1_code_0 : decode jdk_39_method_1_code 0 = .ok (.aload_n 0, 1) := by decide +kernel
theorem pd___r_V : parseMethodDescriptor "()V" = some ⟨[], none⟩ := by decide +kernel
theorem d_jdk_39_method_1_code_1 : decode jdk_39_method_1_code 1 = .ok (.invokespecial 1, 3) := by decide +kernel
theorem d_jdk_39_method_1_code_4 : decode jdk_39_method_1_code 4 = .ok (.aload_n 0, 1) := by decide +kernel
theorem d_jdk_39_method_1_code_5 : decode jdk_39_method_1_code 5 = .ok (.iconst 0, 1) := by decide +kernel
theorem d_jdk_39_method_1_code_6 : decode jdk_39_method_1_code 6 = .ok (.putfield 7, 3) := by decide +kernel
theorem d_jdk_39_method_1_code_9 : decode jdk_39_method_1_code 9 = .ok (.return_, 1) := by decide +kernel
set_option maxRecDepth 65536 in
set_option maxHeartbeats 40000000 in
theorem rm_abl (l : Launch) (Z : State) (a0 : Array Value) (hw : ∀ d ∈ tables_1, d.before a0 Z = true) (a : Addr) (h0 : Heap) (n0 : Nat) (Z0 : n0 ≤ h0.size) (E : Exa Z h0 a "java/util/ArrayList") (F_modCount : Fld Z h0 a "java/util/AbstractList" "modCount" "I" (.int (0 : Int32))) (F_elementData : Fld Z h0 a "java/util/ArrayList" "elementData" "[Ljava/lang/Object;" .null) (F_size : Fld Z h0 a "java/util/ArrayList" "size" "I" (.int (0 : Int32))) (g_a : n0 ≤ a) :
    own_Met l Z (⟨"java/util/AbstractList", "<init>", "()V"⟩ : MethodName) jdk_39_method_1_code 1 none ({ frames := 2, cells := 0, slots := 0, locals := 24 } : Room) #[(.ref a)] h0 (fun v h L => v = none ∧ Fr n0 L ∧ Keep h0 h [a] ∧ Exa Z h a "java/util/ArrayList" ∧ Fld Z h a "java/util/AbstractList" "modCount" "I" (.int (0 : Int32)) ∧ Fld Z h a "java/util/ArrayList" "elementData" "[Ljava/lang/Object;" .null ∧ Fld Z h a "java/util/ArrayList" "size" "I" (.int (0 : Int32))) := by
  refine own_body (plainFor_of_name pn_java_util_AbstractList) ?_
  intro p e s m below meth c T0 X0 e0 hx hby hml hown hnm hret hlk hZ
  replace hown : s.vm.findClass "java/util/AbstractList" = some m.cls := hown
  have N0 := Fr.nil n0
  refine own_of (fun tt_ kk_ => castTop (ef_jdk_39_method_1_codeR m a) kk_) ?_
  have K := Keep.refl h0 [a]
  show own_Ends _ _ _ _ _ _ (T0.setTop (mkF m 0 #[.val (.ref a)] []))
  refine own_of (fun tt_ kk_ => XS.aloadN X0.here hx rfl (hb hby d_jdk_39_method_1_code_0) rfl rfl kk_) ?_
  show own_Ends _ _ _ _ _ _ (T0.setTop (mkF m 1 #[.val (.ref a)] [(.ref a)]))
  obtain ⟨v12, T12, L12, h12, X12, e12, Q12, st12⟩ := own_special X0 hx hZ hown e0 (b := a) rfl (hw _ (List.mem_of_getElem? (i := 27) rfl)) (hw _ (List.mem_of_getElem? (i := 28) rfl)) (hw _ (List.mem_of_getElem? (i := 31) rfl)) (hw _ (List.mem_of_getElem? (i := 32) rfl)) (by decide) (argsL := []) (rest := []) (rm_abc l Z a0 hw a h0 n0 (Nat.le_trans Z0 K.1)) (g := (mkF m 1 #[.val (.ref a)] [(.ref a)])) rfl (by rw [hml]; rfl) (lenOf pd___r_V rfl) rfl (by decide) (Nat.le_of_ble_eq_true rfl) (by decide) (by decide) (hb hby d_jdk_39_method_1_code_1)
  obtain ⟨rfl, Nq12, q12⟩ := Q12
  replace e12 := e12.trans q12
  have N12 := Fr.app N0 Nq12
  refine own_of st12 ?_
  show own_Ends _ _ _ _ _ _ (T12.setTop (mkF m 4 #[.val (.ref a)] []))
  refine own_of (fun tt_ kk_ => XS.aloadN X12.here hx rfl (hb hby d_jdk_39_method_1_code_4) rfl rfl kk_) ?_
  show own_Ends _ _ _ _ _ _ (T12.setTop (mkF m 5 #[.val (.ref a)] [(.ref a)]))
  refine own_of (fun tt_ kk_ => XS.iconst X12.here hx rfl (hb hby d_jdk_39_method_1_code_5) kk_) ?_
  show own_Ends _ _ _ _ _ _ (T12.setTop (mkF m 6 #[.val (.ref a)] [(.int (0 : Int32)), (.ref a)]))
  obtain ⟨T13, h13, X13, e13, W13, st13⟩ := putF X12 hx hZ hown (host := "") (Or.inl (hw _ (List.mem_of_getElem? (i := 34) rfl))) Via.refl e12 F_modCount E (Or.inl (hw _ (List.mem_of_getElem? (i := 35) rfl))) (hw _ (List.mem_of_getElem? (i := 16) rfl)) (ty := .int) (by decide) rfl rfl (g := (mkF m 6 #[.val (.ref a)] [(.int (0 : Int32)), (.ref a)])) rfl rfl (hb hby d_jdk_39_method_1_code_6)
  replace F_modCount := F_modCount.same W13
  replace E := E.wr W13
  replace F_elementData := F_elementData.other W13 (Or.inr (slot_ne (Or.inl (hw _ (List.mem_of_getElem? (i := 38) rfl))) (Or.inl (hw _ (List.mem_of_getElem? (i := 35) rfl))) (by decide) (t := (.array (.object "java/lang/Object"))) (t' := .int) (by decide) (by decide)))
  replace F_size := F_size.other W13 (Or.inr (slot_ne (Or.inl (hw _ (List.mem_of_getElem? (i := 156) rfl))) (Or.inl (hw _ (List.mem_of_getElem? (i := 35) rfl))) (by decide) (t := .int) (t' := .int) (by decide) (by decide)))
  have N13 := Fr.snoc X13 N12 g_a
  replace K := K.wr W13 (Or.inl (List.mem_of_getElem? (i := 0) rfl))
  refine own_of st13 ?_
  show own_Ends _ _ _ _ _ _ (T13.setTop (mkF m 9 #[.val (.ref a)] []))
  refine own_retV X13 hx hlk e13 hret (hb hby d_jdk_39_method_1_code_9) (by decide) (by decide) ?_
  exact ⟨rfl, N13, K, E, F_modCount, F_elementData, F_size⟩
theorem pn_java_util_ArrayList : plainName "java/util/ArrayList" = true := by first | (simp [plainName, overriddenIn]; done) | decide +kernel
theorem ef_jdk_38_method_2_codeR (m : MethodId) (z0 : Addr) : entryFrame m #[(.ref z0)] 1 = mkF m 0 #[.val (.ref z0)] [] := by first | (simp [entryFrame, mkF, argsToLocals, Value.category]; done) | rfl
theorem d_jdk_38_method_2_code_0 : decode jdk_38_method_2_code 0 = .ok (.aload_n 0, 1) := by decide +kernel
theorem d_jdk_38_method_2_code_1 : decode jdk_38_method_2_code 1 = .ok (.invokespecial 1, 3) := by decide +kernel
theorem d_jdk_38_method_2_code_4 : decode jdk_38_method_2_code 4 = .ok (.aload_n 0, 1) := by decide +kernel
theorem d_jdk_38_method_2_code_5 : decode jdk_38_method_2_code 5 = .ok (.getstatic 39, 3) := by decide +kernel
theorem d_jdk_38_method_2_code_8 : decode jdk_38_method_2_code 8 = .ok (.putfield 9, 3) := by decide +kernel
theorem d_jdk_38_method_2_code_11 : decode jdk_38_method_2_code 11 = .ok (.return_, 1) := by decide +kernel
set_option maxRecDepth 65536 in
set_option maxHeartbeats 40000000 in
theorem rm_al (l : Launch) (Z : State) (a0 : Array Value) (hw : ∀ d ∈ tables_1, d.before a0 Z = true) (a wD : Addr) (h0 : Heap) (n0 : Nat) (Z0 : n0 ≤ h0.size) (E : Exa Z h0 a "java/util/ArrayList") (F_modCount : Fld Z h0 a "java/util/AbstractList" "modCount" "I" (.int (0 : Int32))) (F_elementData : Fld Z h0 a "java/util/ArrayList" "elementData" "[Ljava/lang/Object;" .null) (F_size : Fld Z h0 a "java/util/ArrayList" "size" "I" (.int (0 : Int32))) (g_a : n0 ≤ a) (O3 : Sta Z Z.heap "java/util/ArrayList" "DEFAULTCAPACITY_EMPTY_ELEMENTDATA" "[Ljava/lang/Object;" (.ref wD)) (OL : Old Z n0 h0) :
    own_Met l Z (⟨"java/util/ArrayList", "<init>", "()V"⟩ : MethodName) jdk_38_method_2_code 1 none ({ frames := 3, cells := 0, slots := 0, locals := 36 } : Room) #[(.ref a)] h0 (fun v h L => v = none ∧ Fr n0 L ∧ Keep h0 h [a] ∧ Exa Z h a "java/util/ArrayList" ∧ Fld Z h a "java/util/AbstractList" "modCount" "I" (.int (0 : Int32)) ∧ Fld Z h a "java/util/ArrayList" "elementData" "[Ljava/lang/Object;" (.ref wD) ∧ Fld Z h a "java/util/ArrayList" "size" "I" (.int (0 : Int32))) := by
  refine own_body (plainFor_of_name pn_java_util_ArrayList) ?_
  intro p e s m below meth c T0 X0 e0 hx hby hml hown hnm hret hlk hZ
  replace hown : s.vm.findClass "java/util/ArrayList" = some m.cls := hown
  have N0 := Fr.nil n0
  refine own_of (fun tt_ kk_ => castTop (ef_jdk_38_method_2_codeR m a) kk_) ?_
  have K := Keep.refl h0 [a]
  show own_Ends _ _ _ _ _ _ (T0.setTop (mkF m 0 #[.val (.ref a)] []))
  refine own_of (fun tt_ kk_ => XS.aloadN X0.here hx rfl (hb hby d_jdk_38_method_2_code_0) rfl rfl kk_) ?_
  show own_Ends _ _ _ _ _ _ (T0.setTop (mkF m 1 #[.val (.ref a)] [(.ref a)]))
  obtain ⟨v14, T14, L14, h14, X14, e14, Q14, st14⟩ := own_special X0 hx hZ hown e0 (b := a) rfl (hw _ (List.mem_of_getElem? (i := 21) rfl)) (hw _ (List.mem_of_getElem? (i := 22) rfl)) (hw _ (List.mem_of_getElem? (i := 25) rfl)) (hw _ (List.mem_of_getElem? (i := 26) rfl)) (by decide) (argsL := []) (rest := []) (rm_abl l Z a0 hw a h0 n0 (Nat.le_trans Z0 K.1) E F_modCount F_elementData F_size g_a) (g := (mkF m 1 #[.val (.ref a)] [(.ref a)])) rfl (by rw [hml]; rfl) (lenOf pd___r_V rfl) rfl (by decide) (Nat.le_of_ble_eq_true rfl) (by decide) (by decide) (hb hby d_jdk_38_method_2_code_1)
  obtain ⟨rfl, Nq14, Kq14, E', F_modCount', F_elementData', F_size'⟩ := Q14
  replace E := E.keep Kq14
  replace OL := OL.keep Kq14 (allS g_a all0)
  clear E
  have E := E'
  have F_modCount := F_modCount'
  have F_elementData := F_elementData'
  have F_size := F_size'
  replace K := K.trans Kq14 (allS (Or.inl (List.mem_of_getElem? (i := 0) rfl)) all0)
  have N14 := Fr.app N0 Nq14
  refine own_of st14 ?_
  show own_Ends _ _ _ _ _ _ (T14.setTop (mkF m 4 #[.val (.ref a)] []))
  refine own_of (fun tt_ kk_ => XS.aloadN X14.here hx rfl (hb hby d_jdk_38_method_2_code_4) rfl rfl kk_) ?_
  show own_Ends _ _ _ _ _ _ (T14.setTop (mkF m 5 #[.val (.ref a)] [(.ref a)]))
  obtain ⟨T15, X15, e15, st15⟩ := getS2 X14 hx hZ hown (host := "") (Or.inl (hw _ (List.mem_of_getElem? (i := 36) rfl))) Via.refl e14 (O3.ext OL.2) (g := (mkF m 5 #[.val (.ref a)] [(.ref a)])) rfl (hb hby d_jdk_38_method_2_code_5)
  refine own_of st15 ?_
  show own_Ends _ _ _ _ _ _ (T15.setTop (mkF m 8 #[.val (.ref a)] [(.ref wD), (.ref a)]))
  obtain ⟨T16, h16, X16, e16, W16, st16⟩ := putF X15 hx hZ hown (host := "") (Or.inl (hw _ (List.mem_of_getElem? (i := 37) rfl))) Via.refl e15 F_elementData E (Or.inl (hw _ (List.mem_of_getElem? (i := 38) rfl))) (hw _ (List.mem_of_getElem? (i := 16) rfl)) (ty := (.array (.object "java/lang/Object"))) (by decide) rfl rfl (g := (mkF m 8 #[.val (.ref a)] [(.ref wD), (.ref a)])) rfl rfl (hb hby d_jdk_38_method_2_code_8)
  replace F_elementData := F_elementData.same W16
  replace E := E.wr W16
  replace OL := OL.wr W16 g_a
  replace F_modCount := F_modCount.other W16 (Or.inr (slot_ne (Or.inl (hw _ (List.mem_of_getElem? (i := 35) rfl))) (Or.inl (hw _ (List.mem_of_getElem? (i := 38) rfl))) (by decide) (t := .int) (t' := (.array (.object "java/lang/Object"))) (by decide) (by decide)))
  replace F_size := F_size.other W16 (Or.inr (slot_ne (Or.inl (hw _ (List.mem_of_getElem? (i := 156) rfl))) (Or.inl (hw _ (List.mem_of_getElem? (i := 38) rfl))) (by decide) (t := .int) (t' := (.array (.object "java/lang/Object"))) (by decide) (by decide)))
  have N16 := Fr.snoc X16 N14 g_a
  replace K := K.wr W16 (Or.inl (List.mem_of_getElem? (i := 0) rfl))
  refine own_of st16 ?_
  show own_Ends _ _ _ _ _ _ (T16.setTop (mkF m 11 #[.val (.ref a)] []))
  refine own_retV X16 hx hlk e16 hret (hb hby d_jdk_38_method_2_code_11) (by decide) (by decide) ?_
  exact ⟨rfl, N16, K, E, F_modCount, F_elementData, F_size⟩
theorem pn_com_example_extlint_extlint_model_Element : plainName "com/example/extlint/extlint/model/Element" = true := by first | (simp [plainName, overriddenIn]; done) | decide +kernel
theorem ef_prog_21_method_1_codeRRNNIII (m : MethodId) (z0 : Addr) (z1 : Addr) (z2 : Int32) (z3 : Int32) (z4 : Int32) : entryFrame m #[(.ref z0), (.ref z1), .null, .null, (.int z2), (.int z3), (.int z4)] 7 = mkF m 0 #[.val (.ref z0), .val (.ref z1), .val .null, .val .null, .val (.int z2), .val (.int z3), .val (.int z4)] [] := by first | (simp [entryFrame, mkF, argsToLocals, Value.category]; done) | rfl
theorem d_prog_21_method_1_code_0 : decode prog_21_method_1_code 0 = .ok (.aload_n 0, 1) := by decide +kernel
theorem d_prog_21_method_1_code_1 : decode prog_21_method_1_code 1 = .ok (.invokespecial 1, 3) := by decide +kernel
theorem d_prog_21_method_1_code_4 : decode prog_21_method_1_code 4 = .ok (.aload_n 0, 1) := by decide +kernel
theorem d_prog_21_method_1_code_5 : decode prog_21_method_1_code 5 = .ok (.new 7, 3) := by decide +kernel
theorem d_prog_21_method_1_code_8 : decode prog_21_method_1_code 8 = .ok (.dup, 1) := by decide +kernel
theorem d_prog_21_method_1_code_9 : decode prog_21_method_1_code 9 = .ok (.invokespecial 9, 3) := by decide +kernel
theorem d_prog_21_method_1_code_12 : decode prog_21_method_1_code 12 = .ok (.putfield 10, 3) := by decide +kernel
theorem d_prog_21_method_1_code_15 : decode prog_21_method_1_code 15 = .ok (.aload_n 0, 1) := by decide +kernel
theorem d_prog_21_method_1_code_16 : decode prog_21_method_1_code 16 = .ok (.aload_n 1, 1) := by decide +kernel
theorem d_prog_21_method_1_code_17 : decode prog_21_method_1_code 17 = .ok (.putfield 16, 3) := by decide +kernel
theorem d_prog_21_method_1_code_20 : decode prog_21_method_1_code 20 = .ok (.aload_n 0, 1) := by decide +kernel
theorem d_prog_21_method_1_code_21 : decode prog_21_method_1_code 21 = .ok (.aload_n 2, 1) := by decide +kernel
theorem d_prog_21_method_1_code_22 : decode prog_21_method_1_code 22 = .ok (.putfield 20, 3) := by decide +kernel
theorem d_prog_21_method_1_code_25 : decode prog_21_method_1_code 25 = .ok (.aload_n 0, 1) := by decide +kernel
theorem d_prog_21_method_1_code_26 : decode prog_21_method_1_code 26 = .ok (.aload_n 3, 1) := by decide +kernel
theorem d_prog_21_method_1_code_27 : decode prog_21_method_1_code 27 = .ok (.putfield 24, 3) := by decide +kernel
theorem d_prog_21_method_1_code_30 : decode prog_21_method_1_code 30 = .ok (.aload_n 0, 1) := by decide +kernel
theorem d_prog_21_method_1_code_31 : decode prog_21_method_1_code 31 = .ok (.iload 4, 2) := by decide +kernel
theorem d_prog_21_method_1_code_33 : decode prog_21_method_1_code 33 = .ok (.putfield 28, 3) := by decide +kernel
theorem d_prog_21_method_1_code_36 : decode prog_21_method_1_code 36 = .ok (.aload_n 0, 1) := by decide +kernel
theorem d_prog_21_method_1_code_37 : decode prog_21_method_1_code 37 = .ok (.iload 5, 2) := by decide +kernel
theorem d_prog_21_method_1_code_39 : decode prog_21_method_1_code 39 = .ok (.putfield 32, 3) := by decide +kernel
theorem d_prog_21_method_1_code_42 : decode prog_21_method_1_code 42 = .ok (.aload_n 0, 1) := by decide +kernel
theorem d_prog_21_method_1_code_43 : decode prog_21_method_1_code 43 = .ok (.iload 6, 2) := by decide +kernel
theorem d_prog_21_method_1_code_45 : decode prog_21_method_1_code 45 = .ok (.putfield 35, 3) := by decide +kernel
theorem d_prog_21_method_1_code_48 : decode prog_21_method_1_code 48 = .ok (.return_, 1) := by decide +kernel
set_option maxRecDepth 65536 in
set_option maxHeartbeats 40000000 in
theorem rm_init (l : Launch) (Z : State) (a0 : Array Value) (hw : ∀ d ∈ tables_1, d.before a0 Z = true) (a fm wD : Addr) (ln cn : Int32) (h0 : Heap) (n0 : Nat) (Z0 : n0 ≤ h0.size) (E : Exa Z h0 a "com/example/extlint/extlint/model/Element") (F_children : Fld Z h0 a "com/example/extlint/extlint/model/Element" "children" "Ljava/util/List;" .null) (F_format : Fld Z h0 a "com/example/extlint/extlint/model/Element" "format" "Lcom/example/extlint/extlint/model/Format;" .null) (F_parent : Fld Z h0 a "com/example/extlint/extlint/model/Element" "parent" "Lcom/example/extlint/extlint/model/Element;" .null) (F_name : Fld Z h0 a "com/example/extlint/extlint/model/Element" "name" "Ljava/lang/String;" .null) (F_index : Fld Z h0 a "com/example/extlint/extlint/model/Element" "index" "I" (.int (0 : Int32))) (F_line : Fld Z h0 a "com/example/extlint/extlint/model/Element" "line" "I" (.int (0 : Int32))) (F_column : Fld Z h0 a "com/example/extlint/extlint/model/Element" "column" "I" (.int (0 : Int32))) (F_resourceType : Fld Z h0 a "com/example/extlint/extlint/model/Element" "resourceType" "Ljava/lang/String;" .null) (F_value : Fld Z h0 a "com/example/extlint/extlint/model/Element" "value" "Lcom/example/extlint/extlint/model/Primitive;" .null) (F_primitive : Fld Z h0 a "com/example/extlint/extlint/model/Element" "primitive" "Z" (.int (0 : Int32))) (g_a : n0 ≤ a) (O3 : Sta Z Z.heap "java/util/ArrayList" "DEFAULTCAPACITY_EMPTY_ELEMENTDATA" "[Ljava/lang/Object;" (.ref wD)) (OL : Old Z n0 h0) :
    own_Met l Z (⟨"com/example/extlint/extlint/model/Element", "<init>", "(Lcom/example/extlint/extlint/model/Format;Lcom/example/extlint/extlint/model/Element;Ljava/lang/String;III)V"⟩ : MethodName) prog_21_method_1_code 7 none ({ frames := 4, cells := 1, slots := 3, locals := 64 } : Room) #[(.ref a), (.ref fm), .null, .null, (.int (-1 : Int32)), (.int ln), (.int cn)] h0 (fun v h L => ∃ b : Addr, v = none ∧ Fr n0 L ∧ Keep h0 h [a] ∧ h0.size ≤ b ∧ Exa Z h a "com/example/extlint/extlint/model/Element" ∧ Fld Z h a "com/example/extlint/extlint/model/Element" "children" "Ljava/util/List;" (.ref b) ∧ Fld Z h a "com/example/extlint/extlint/model/Element" "format" "Lcom/example/extlint/extlint/model/Format;" (.ref fm) ∧ Fld Z h a "com/example/extlint/extlint/model/Element" "parent" "Lcom/example/extlint/extlint/model/Element;" .null ∧ Fld Z h a "com/example/extlint/extlint/model/Element" "name" "Ljava/lang/String;" .null ∧ Fld Z h a "com/example/extlint/extlint/model/Element" "index" "I" (.int (-1 : Int32)) ∧ Fld Z h a "com/example/extlint/extlint/model/Element" "line" "I" (.int ln) ∧ Fld Z h a "com/example/extlint/extlint/model/Element" "column" "I" (.int cn) ∧ Fld Z h a "com/example/extlint/extlint/model/Element" "resourceType" "Ljava/lang/String;" .null ∧ Fld Z h a "com/example/extlint/extlint/model/Element" "value" "Lcom/example/extlint/extlint/model/Primitive;" .null ∧ Fld Z h a "com/example/extlint/extlint/model/Element" "primitive" "Z" (.int (0 : Int32)) ∧ Exa Z h b "java/util/ArrayList" ∧ Fld Z h b "java/util/ArrayList" "size" "I" (.int (0 : Int32))) := by
  refine own_body (plainFor_of_name pn_com_example_extlint_extlint_model_Element) ?_
  intro p e s m below meth c T0 X0 e0 hx hby hml hown hnm hret hlk hZ
  replace hown : s.vm.findClass "com/example/extlint/extlint/model/Element" = some m.cls := hown
  have N0 := Fr.nil n0
  refine own_of (fun tt_ kk_ => castTop (ef_prog_21_method_1_codeRRNNIII m a fm (-1 : Int32) ln cn) kk_) ?_
  have K := Keep.refl h0 [a]
  show own_Ends _ _ _ _ _ _ (T0.setTop (mkF m 0 #[.val (.ref a), .val (.ref fm), .val .null, .val .null, .val (.int (-1 : Int32)), .val (.int ln), .val (.int cn)] []))
  refine own_of (fun tt_ kk_ => XS.aloadN X0.here hx rfl (hb hby d_prog_21_method_1_code_0) rfl rfl kk_) ?_
  show own_Ends _ _ _ _ _ _ (T0.setTop (mkF m 1 #[.val (.ref a), .val (.ref fm), .val .null, .val .null, .val (.int (-1 : Int32)), .val (.int ln), .val (.int cn)] [(.ref a)]))
  obtain ⟨T17, X17, e17, st17⟩ := initO X0 hx hZ hown (hw _ (List.mem_of_getElem? (i := 12) rfl)) (hw _ (List.mem_of_getElem? (i := 13) rfl)) (hw _ (List.mem_of_getElem? (i := 14) rfl)) e0 (g := (mkF m 1 #[.val (.ref a), .val (.ref fm), .val .null, .val .null, .val (.int (-1 : Int32)), .val (.int ln), .val (.int cn)] [(.ref a)])) rfl (by rw [hml]; rfl) rfl (hb hby d_prog_21_method_1_code_1) (by decide) (W := 0) (by show 2 * 0 + _ ≤ _; exact Nat.le_of_eq rfl) (by decide)
  refine own_of st17 ?_
  show own_Ends _ _ _ _ _ _ (T17.setTop (mkF m 4 #[.val (.ref a), .val (.ref fm), .val .null, .val .null, .val (.int (-1 : Int32)), .val (.int ln), .val (.int cn)] []))
  refine own_of (fun tt_ kk_ => XS.aloadN X17.here hx rfl (hb hby d_prog_21_method_1_code_4) rfl rfl kk_) ?_
  show own_Ends _ _ _ _ _ _ (T17.setTop (mkF m 5 #[.val (.ref a), .val (.ref fm), .val .null, .val .null, .val (.int (-1 : Int32)), .val (.int ln), .val (.int cn)] [(.ref a)]))
  obtain ⟨T18, h18, X18, e18, E18, A18, D18, -, st18⟩ := newO X17 hx hZ hown (hw _ (List.mem_of_getElem? (i := 15) rfl)) (hw _ (List.mem_of_getElem? (i := 16) rfl)) (hw _ (List.mem_of_getElem? (i := 17) rfl)) e17 (g := (mkF m 5 #[.val (.ref a), .val (.ref fm), .val .null, .val .null, .val (.int (-1 : Int32)), .val (.int ln), .val (.int cn)] [(.ref a)])) rfl (hb hby d_prog_21_method_1_code_5) (by decide) (by decide)
  obtain ⟨b18, g18⟩ : ∃ z, z = h0.size := ⟨_, rfl⟩
  rw [← g18] at A18 D18 st18
  have ne_a_b18 : a ≠ b18 := Nat.ne_of_lt (Nat.lt_of_lt_of_le E.lt (Nat.le_of_eq g18.symm))
  have sz_b18 : h0.size ≤ b18 := Nat.le_trans K.1 (Nat.le_of_eq g18.symm)
  have g_b18 : n0 ≤ b18 := Nat.le_trans Z0 sz_b18
  replace E := E.ext E18
  replace OL := OL.ext E18
  replace F_children := F_children.ext E18
  replace F_format := F_format.ext E18
  replace F_parent := F_parent.ext E18
  replace F_name := F_name.ext E18
  replace F_index := F_index.ext E18
  replace F_line := F_line.ext E18
  replace F_column := F_column.ext E18
  replace F_resourceType := F_resourceType.ext E18
  replace F_value := F_value.ext E18
  replace F_primitive := F_primitive.ext E18
  have F_modCount_b18 : Fld Z h18 b18 "java/util/AbstractList" "modCount" "I" (.int (0 : Int32)) := D18 (Or.inl (hw _ (List.mem_of_getElem? (i := 35) rfl))) (ty := .int) (by decide)
  have F_elementData_b18 : Fld Z h18 b18 "java/util/ArrayList" "elementData" "[Ljava/lang/Object;" .null := D18 (Or.inl (hw _ (List.mem_of_getElem? (i := 38) rfl))) (ty := (.array (.object "java/lang/Object"))) (by decide)
  have F_size_b18 : Fld Z h18 b18 "java/util/ArrayList" "size" "I" (.int (0 : Int32)) := D18 (Or.inl (hw _ (List.mem_of_getElem? (i := 156) rfl))) (ty := .int) (by decide)
  replace K := K.ext E18
  refine own_of st18 ?_
  show own_Ends _ _ _ _ _ _ (T18.setTop (mkF m 8 #[.val (.ref a), .val (.ref fm), .val .null, .val .null, .val (.int (-1 : Int32)), .val (.int ln), .val (.int cn)] [(.ref b18), (.ref a)]))
  refine own_of (fun tt_ kk_ => XS.dup X18.here hx rfl (hb hby d_prog_21_method_1_code_8) rfl rfl kk_) ?_
  show own_Ends _ _ _ _ _ _ (T18.setTop (mkF m 9 #[.val (.ref a), .val (.ref fm), .val .null, .val .null, .val (.int (-1 : Int32)), .val (.int ln), .val (.int cn)] [(.ref b18), (.ref b18), (.ref a)]))
  obtain ⟨v19, T19, L19, h19, X19, e19, Q19, st19⟩ := own_special X18 hx hZ hown e18 (b := b18) rfl (hw _ (List.mem_of_getElem? (i := 18) rfl)) (hw _ (List.mem_of_getElem? (i := 19) rfl)) (hw _ (List.mem_of_getElem? (i := 17) rfl)) (hw _ (List.mem_of_getElem? (i := 20) rfl)) (by decide) (argsL := []) (rest := [(.ref b18), (.ref a)]) (rm_al l Z a0 hw b18 wD h18 n0 (Nat.le_trans Z0 K.1) A18 F_modCount_b18 F_elementData_b18 F_size_b18 g_b18 O3 OL) (g := (mkF m 9 #[.val (.ref a), .val (.ref fm), .val .null, .val .null, .val (.int (-1 : Int32)), .val (.int ln), .val (.int cn)] [(.ref b18), (.ref b18), (.ref a)])) rfl (by rw [hml]; rfl) (lenOf pd___r_V rfl) rfl (by decide) (Nat.le_of_ble_eq_true rfl) (by decide) (by decide) (hb hby d_prog_21_method_1_code_9)
  obtain ⟨rfl, Nq19, Kq19, A18', F_modCount_b18', F_elementData_b18', F_size_b18'⟩ := Q19
  replace E := E.keep Kq19
  replace OL := OL.keep Kq19 (allS g_b18 all0)
  replace F_children := F_children.keep Kq19 (ninS ne_a_b18 nin0)
  replace F_format := F_format.keep Kq19 (ninS ne_a_b18 nin0)
  replace F_parent := F_parent.keep Kq19 (ninS ne_a_b18 nin0)
  replace F_name := F_name.keep Kq19 (ninS ne_a_b18 nin0)
  replace F_index := F_index.keep Kq19 (ninS ne_a_b18 nin0)
  replace F_line := F_line.keep Kq19 (ninS ne_a_b18 nin0)
  replace F_column := F_column.keep Kq19 (ninS ne_a_b18 nin0)
  replace F_resourceType := F_resourceType.keep Kq19 (ninS ne_a_b18 nin0)
  replace F_value := F_value.keep Kq19 (ninS ne_a_b18 nin0)
  replace F_primitive := F_primitive.keep Kq19 (ninS ne_a_b18 nin0)
  replace A18 := A18.keep Kq19
  clear A18
  have A18 := A18'
  have F_modCount_b18 := F_modCount_b18'
  have F_elementData_b18 := F_elementData_b18'
  have F_size_b18 := F_size_b18'
  replace K := K.trans Kq19 (allS (Or.inr sz_b18) all0)
  have N19 := Fr.app N0 Nq19
  refine own_of st19 ?_
  show own_Ends _ _ _ _ _ _ (T19.setTop (mkF m 12 #[.val (.ref a), .val (.ref fm), .val .null, .val .null, .val (.int (-1 : Int32)), .val (.int ln), .val (.int cn)] [(.ref b18), (.ref a)]))
  obtain ⟨T20, h20, X20, e20, W20, st20⟩ := putF X19 hx hZ hown (host := "") (Or.inl (hw _ (List.mem_of_getElem? (i := 39) rfl))) Via.refl e19 F_children E (Or.inr ⟨(hw _ (List.mem_of_getElem? (i := 40) rfl)), rfl, hnm⟩) (hw _ (List.mem_of_getElem? (i := 8) rfl)) (ty := (.object "java/util/List")) (by decide) rfl rfl (g := (mkF m 12 #[.val (.ref a), .val (.ref fm), .val .null, .val .null, .val (.int (-1 : Int32)), .val (.int ln), .val (.int cn)] [(.ref b18), (.ref a)])) rfl rfl (hb hby d_prog_21_method_1_code_12)
  replace F_children := F_children.same W20
  replace E := E.wr W20
  replace OL := OL.wr W20 g_a
  replace F_format := F_format.other W20 (Or.inr (slot_ne (Or.inr (hw _ (List.mem_of_getElem? (i := 42) rfl))) (Or.inr (hw _ (List.mem_of_getElem? (i := 40) rfl))) (by decide) (t := (.object "com/example/extlint/extlint/model/Format")) (t' := (.object "java/util/List")) (by decide) (by decide)))
  replace F_parent := F_parent.other W20 (Or.inr (slot_ne (Or.inr (hw _ (List.mem_of_getElem? (i := 44) rfl))) (Or.inr (hw _ (List.mem_of_getElem? (i := 40) rfl))) (by decide) (t := (.object "com/example/extlint/extlint/model/Element")) (t' := (.object "java/util/List")) (by decide) (by decide)))
  replace F_name := F_name.other W20 (Or.inr (slot_ne (Or.inr (hw _ (List.mem_of_getElem? (i := 46) rfl))) (Or.inr (hw _ (List.mem_of_getElem? (i := 40) rfl))) (by decide) (t := (.object "java/lang/String")) (t' := (.object "java/util/List")) (by decide) (by decide)))
  replace F_index := F_index.other W20 (Or.inr (slot_ne (Or.inl (hw _ (List.mem_of_getElem? (i := 48) rfl))) (Or.inr (hw _ (List.mem_of_getElem? (i := 40) rfl))) (by decide) (t := .int) (t' := (.object "java/util/List")) (by decide) (by decide)))
  replace F_line := F_line.other W20 (Or.inr (slot_ne (Or.inr (hw _ (List.mem_of_getElem? (i := 50) rfl))) (Or.inr (hw _ (List.mem_of_getElem? (i := 40) rfl))) (by decide) (t := .int) (t' := (.object "java/util/List")) (by decide) (by decide)))
  replace F_column := F_column.other W20 (Or.inr (slot_ne (Or.inr (hw _ (List.mem_of_getElem? (i := 52) rfl))) (Or.inr (hw _ (List.mem_of_getElem? (i := 40) rfl))) (by decide) (t := .int) (t' := (.object "java/util/List")) (by decide) (by decide)))
  replace F_resourceType := F_resourceType.other W20 (Or.inr (slot_ne (Or.inl (hw _ (List.mem_of_getElem? (i := 79) rfl))) (Or.inr (hw _ (List.mem_of_getElem? (i := 40) rfl))) (by decide) (t := (.object "java/lang/String")) (t' := (.object "java/util/List")) (by decide) (by decide)))
  replace F_value := F_value.other W20 (Or.inr (slot_ne (Or.inl (hw _ (List.mem_of_getElem? (i := 86) rfl))) (Or.inr (hw _ (List.mem_of_getElem? (i := 40) rfl))) (by decide) (t := (.object "com/example/extlint/extlint/model/Primitive")) (t' := (.object "java/util/List")) (by decide) (by decide)))
  replace F_primitive := F_primitive.other W20 (Or.inr (slot_ne (Or.inl (hw _ (List.mem_of_getElem? (i := 88) rfl))) (Or.inr (hw _ (List.mem_of_getElem? (i := 40) rfl))) (by decide) (t := .boolean) (t' := (.object "java/util/List")) (by decide) (by decide)))
  replace A18 := A18.wr W20
  replace F_modCount_b18 := F_modCount_b18.other W20 (Or.inl (Ne.symm ne_a_b18))
  replace F_elementData_b18 := F_elementData_b18.other W20 (Or.inl (Ne.symm ne_a_b18))
  replace F_size_b18 := F_size_b18.other W20 (Or.inl (Ne.symm ne_a_b18))
  have N20 := Fr.snoc X20 N19 g_a
  replace K := K.wr W20 (Or.inl (List.mem_of_getElem? (i := 0) rfl))
  refine own_of st20 ?_
  show own_Ends _ _ _ _ _ _ (T20.setTop (mkF m 15 #[.val (.ref a), .val (.ref fm), .val .null, .val .null, .val (.int (-1 : Int32)), .val (.int ln), .val (.int cn)] []))
  refine own_of (fun tt_ kk_ => XS.aloadN X20.here hx rfl (hb hby d_prog_21_method_1_code_15) rfl rfl kk_) ?_
  show own_Ends _ _ _ _ _ _ (T20.setTop (mkF m 16 #[.val (.ref a), .val (.ref fm), .val .null, .val .null, .val (.int (-1 : Int32)), .val (.int ln), .val (.int cn)] [(.ref a)]))
  refine own_of (fun tt_ kk_ => XS.aloadN X20.here hx rfl (hb hby d_prog_21_method_1_code_16) rfl rfl kk_) ?_
  show own_Ends _ _ _ _ _ _ (T20.setTop (mkF m 17 #[.val (.ref a), .val (.ref fm), .val .null, .val .null, .val (.int (-1 : Int32)), .val (.int ln), .val (.int cn)] [(.ref fm), (.ref a)]))
  obtain ⟨T21, h21, X21, e21, W21, st21⟩ := putF X20 hx hZ hown (host := "") (Or.inl (hw _ (List.mem_of_getElem? (i := 41) rfl))) Via.refl e20 F_format E (Or.inr ⟨(hw _ (List.mem_of_getElem? (i := 42) rfl)), rfl, hnm⟩) (hw _ (List.mem_of_getElem? (i := 8) rfl)) (ty := (.object "com/example/extlint/extlint/model/Format")) (by decide) rfl rfl (g := (mkF m 17 #[.val (.ref a), .val (.ref fm), .val .null, .val .null, .val (.int (-1 : Int32)), .val (.int ln), .val (.int cn)] [(.ref fm), (.ref a)])) rfl rfl (hb hby d_prog_21_method_1_code_17)
  replace F_format := F_format.same W21
  replace E := E.wr W21
  replace OL := OL.wr W21 g_a
  replace F_children := F_children.other W21 (Or.inr (slot_ne (Or.inr (hw _ (List.mem_of_getElem? (i := 40) rfl))) (Or.inr (hw _ (List.mem_of_getElem? (i := 42) rfl))) (by decide) (t := (.object "java/util/List")) (t' := (.object "com/example/extlint/extlint/model/Format")) (by decide) (by decide)))
  replace F_parent := F_parent.other W21 (Or.inr (slot_ne (Or.inr (hw _ (List.mem_of_getElem? (i := 44) rfl))) (Or.inr (hw _ (List.mem_of_getElem? (i := 42) rfl))) (by decide) (t := (.object "com/example/extlint/extlint/model/Element")) (t' := (.object "com/example/extlint/extlint/model/Format")) (by decide) (by decide)))
  replace F_name := F_name.other W21 (Or.inr (slot_ne (Or.inr (hw _ (List.mem_of_getElem? (i := 46) rfl))) (Or.inr (hw _ (List.mem_of_getElem? (i := 42) rfl))) (by decide) (t := (.object "java/lang/String")) (t' := (.object "com/example/extlint/extlint/model/Format")) (by decide) (by decide)))
  replace F_index := F_index.other W21 (Or.inr (slot_ne (Or.inl (hw _ (List.mem_of_getElem? (i := 48) rfl))) (Or.inr (hw _ (List.mem_of_getElem? (i := 42) rfl))) (by decide) (t := .int) (t' := (.object "com/example/extlint/extlint/model/Format")) (by decide) (by decide)))
  replace F_line := F_line.other W21 (Or.inr (slot_ne (Or.inr (hw _ (List.mem_of_getElem? (i := 50) rfl))) (Or.inr (hw _ (List.mem_of_getElem? (i := 42) rfl))) (by decide) (t := .int) (t' := (.object "com/example/extlint/extlint/model/Format")) (by decide) (by decide)))
  replace F_column := F_column.other W21 (Or.inr (slot_ne (Or.inr (hw _ (List.mem_of_getElem? (i := 52) rfl))) (Or.inr (hw _ (List.mem_of_getElem? (i := 42) rfl))) (by decide) (t := .int) (t' := (.object "com/example/extlint/extlint/model/Format")) (by decide) (by decide)))
  replace F_resourceType := F_resourceType.other W21 (Or.inr (slot_ne (Or.inl (hw _ (List.mem_of_getElem? (i := 79) rfl))) (Or.inr (hw _ (List.mem_of_getElem? (i := 42) rfl))) (by decide) (t := (.object "java/lang/String")) (t' := (.object "com/example/extlint/extlint/model/Format")) (by decide) (by decide)))
  replace F_value := F_value.other W21 (Or.inr (slot_ne (Or.inl (hw _ (List.mem_of_getElem? (i := 86) rfl))) (Or.inr (hw _ (List.mem_of_getElem? (i := 42) rfl))) (by decide) (t := (.object "com/example/extlint/extlint/model/Primitive")) (t' := (.object "com/example/extlint/extlint/model/Format")) (by decide) (by decide)))
  replace F_primitive := F_primitive.other W21 (Or.inr (slot_ne (Or.inl (hw _ (List.mem_of_getElem? (i := 88) rfl))) (Or.inr (hw _ (List.mem_of_getElem? (i := 42) rfl))) (by decide) (t := .boolean) (t' := (.object "com/example/extlint/extlint/model/Format")) (by decide) (by decide)))
  replace A18 := A18.wr W21
  replace F_modCount_b18 := F_modCount_b18.other W21 (Or.inl (Ne.symm ne_a_b18))
  replace F_elementData_b18 := F_elementData_b18.other W21 (Or.inl (Ne.symm ne_a_b18))
  replace F_size_b18 := F_size_b18.other W21 (Or.inl (Ne.symm ne_a_b18))
  have N21 := Fr.snoc X21 N20 g_a
  replace K := K.wr W21 (Or.inl (List.mem_of_getElem? (i := 0) rfl))
  refine own_of st21 ?_
  show own_Ends _ _ _ _ _ _ (T21.setTop (mkF m 20 #[.val (.ref a), .val (.ref fm), .val .null, .val .null, .val (.int (-1 : Int32)), .val (.int ln), .val (.int cn)] []))
  refine own_of (fun tt_ kk_ => XS.aloadN X21.here hx rfl (hb hby d_prog_21_method_1_code_20) rfl rfl kk_) ?_
  show own_Ends _ _ _ _ _ _ (T21.setTop (mkF m 21 #[.val (.ref a), .val (.ref fm), .val .null, .val .null, .val (.int (-1 : Int32)), .val (.int ln), .val (.int cn)] [(.ref a)]))
  refine own_of (fun tt_ kk_ => XS.aloadN X21.here hx rfl (hb hby d_prog_21_method_1_code_21) rfl rfl kk_) ?_
  show own_Ends _ _ _ _ _ _ (T21.setTop (mkF m 22 #[.val (.ref a), .val (.ref fm), .val .null, .val .null, .val (.int (-1 : Int32)), .val (.int ln), .val (.int cn)] [.null, (.ref a)]))
  obtain ⟨T22, h22, X22, e22, W22, st22⟩ := putF X21 hx hZ hown (host := "") (Or.inl (hw _ (List.mem_of_getElem? (i := 43) rfl))) Via.refl e21 F_parent E (Or.inr ⟨(hw _ (List.mem_of_getElem? (i := 44) rfl)), rfl, hnm⟩) (hw _ (List.mem_of_getElem? (i := 8) rfl)) (ty := (.object "com/example/extlint/extlint/model/Element")) (by decide) rfl rfl (g := (mkF m 22 #[.val (.ref a), .val (.ref fm), .val .null, .val .null, .val (.int (-1 : Int32)), .val (.int ln), .val (.int cn)] [.null, (.ref a)])) rfl rfl (hb hby d_prog_21_method_1_code_22)
  replace F_parent := F_parent.same W22
  replace E := E.wr W22
  replace OL := OL.wr W22 g_a
  replace F_children := F_children.other W22 (Or.inr (slot_ne (Or.inr (hw _ (List.mem_of_getElem? (i := 40) rfl))) (Or.inr (hw _ (List.mem_of_getElem? (i := 44) rfl))) (by decide) (t := (.object "java/util/List")) (t' := (.object "com/example/extlint/extlint/model/Element")) (by decide) (by decide)))
  replace F_format := F_format.other W22 (Or.inr (slot_ne (Or.inr (hw _ (List.mem_of_getElem? (i := 42) rfl))) (Or.inr (hw _ (List.mem_of_getElem? (i := 44) rfl))) (by decide) (t := (.object "com/example/extlint/extlint/model/Format")) (t' := (.object "com/example/extlint/extlint/model/Element")) (by decide) (by decide)))
  replace F_name := F_name.other W22 (Or.inr (slot_ne (Or.inr (hw _ (List.mem_of_getElem? (i := 46) rfl))) (Or.inr (hw _ (List.mem_of_getElem? (i := 44) rfl))) (by decide) (t := (.object "java/lang/String")) (t' := (.object "com/example/extlint/extlint/model/Element")) (by decide) (by decide)))
  replace F_index := F_index.other W22 (Or.inr (slot_ne (Or.inl (hw _ (List.mem_of_getElem? (i := 48) rfl))) (Or.inr (hw _ (List.mem_of_getElem? (i := 44) rfl))) (by decide) (t := .int) (t' := (.object "com/example/extlint/extlint/model/Element")) (by decide) (by decide)))
  replace F_line := F_line.other W22 (Or.inr (slot_ne (Or.inr (hw _ (List.mem_of_getElem? (i := 50) rfl))) (Or.inr (hw _ (List.mem_of_getElem? (i := 44) rfl))) (by decide) (t := .int) (t' := (.object "com/example/extlint/extlint/model/Element")) (by decide) (by decide)))
  replace F_column := F_column.other W22 (Or.inr (slot_ne (Or.inr (hw _ (List.mem_of_getElem? (i := 52) rfl))) (Or.inr (hw _ (List.mem_of_getElem? (i := 44) rfl))) (by decide) (t := .int) (t' := (.object "com/example/extlint/extlint/model/Element")) (by decide) (by decide)))
  replace F_resourceType := F_resourceType.other W22 (Or.inr (slot_ne (Or.inl (hw _ (List.mem_of_getElem? (i := 79) rfl))) (Or.inr (hw _ (List.mem_of_getElem? (i := 44) rfl))) (by decide) (t := (.object "java/lang/String")) (t' := (.object "com/example/extlint/extlint/model/Element")) (by decide) (by decide)))
  replace F_value := F_value.other W22 (Or.inr (slot_ne (Or.inl (hw _ (List.mem_of_getElem? (i := 86) rfl))) (Or.inr (hw _ (List.mem_of_getElem? (i := 44) rfl))) (by decide) (t := (.object "com/example/extlint/extlint/model/Primitive")) (t' := (.object "com/example/extlint/extlint/model/Element")) (by decide) (by decide)))
  replace F_primitive := F_primitive.other W22 (Or.inr (slot_ne (Or.inl (hw _ (List.mem_of_getElem? (i := 88) rfl))) (Or.inr (hw _ (List.mem_of_getElem? (i := 44) rfl))) (by decide) (t := .boolean) (t' := (.object "com/example/extlint/extlint/model/Element")) (by decide) (by decide)))
  replace A18 := A18.wr W22
  replace F_modCount_b18 := F_modCount_b18.other W22 (Or.inl (Ne.symm ne_a_b18))
  replace F_elementData_b18 := F_elementData_b18.other W22 (Or.inl (Ne.symm ne_a_b18))
  replace F_size_b18 := F_size_b18.other W22 (Or.inl (Ne.symm ne_a_b18))
  have N22 := Fr.snoc X22 N21 g_a
  replace K := K.wr W22 (Or.inl (List.mem_of_getElem? (i := 0) rfl))
  refine own_of st22 ?_
  show own_Ends _ _ _ _ _ _ (T22.setTop (mkF m 25 #[.val (.ref a), .val (.ref fm), .val .null, .val .null, .val (.int (-1 : Int32)), .val (.int ln), .val (.int cn)] []))
  refine own_of (fun tt_ kk_ => XS.aloadN X22.here hx rfl (hb hby d_prog_21_method_1_code_25) rfl rfl kk_) ?_
  show own_Ends _ _ _ _ _ _ (T22.setTop (mkF m 26 #[.val (.ref a), .val (.ref fm), .val .null, .val .null, .val (.int (-1 : Int32)), .val (.int ln), .val (.int cn)] [(.ref a)]))
  refine own_of (fun tt_ kk_ => XS.aloadN X22.here hx rfl (hb hby d_prog_21_method_1_code_26) rfl rfl kk_) ?_
  show own_Ends _ _ _ _ _ _ (T22.setTop (mkF m 27 #[.val (.ref a), .val (.ref fm), .val .null, .val .null, .val (.int (-1 : Int32)), .val (.int ln), .val (.int cn)] [.null, (.ref a)]))
  obtain ⟨T23, h23, X23, e23, W23, st23⟩ := putF X22 hx hZ hown (host := "") (Or.inl (hw _ (List.mem_of_getElem? (i := 45) rfl))) Via.refl e22 F_name E (Or.inr ⟨(hw _ (List.mem_of_getElem? (i := 46) rfl)), rfl, hnm⟩) (hw _ (List.mem_of_getElem? (i := 8) rfl)) (ty := (.object "java/lang/String")) (by decide) rfl rfl (g := (mkF m 27 #[.val (.ref a), .val (.ref fm), .val .null, .val .null, .val (.int (-1 : Int32)), .val (.int ln), .val (.int cn)] [.null, (.ref a)])) rfl rfl (hb hby d_prog_21_method_1_code_27)
  replace F_name := F_name.same W23
  replace E := E.wr W23
  replace OL := OL.wr W23 g_a
  replace F_children := F_children.other W23 (Or.inr (slot_ne (Or.inr (hw _ (List.mem_of_getElem? (i := 40) rfl))) (Or.inr (hw _ (List.mem_of_getElem? (i := 46) rfl))) (by decide) (t := (.object "java/util/List")) (t' := (.object "java/lang/String")) (by decide) (by decide)))
  replace F_format := F_format.other W23 (Or.inr (slot_ne (Or.inr (hw _ (List.mem_of_getElem? (i := 42) rfl))) (Or.inr (hw _ (List.mem_of_getElem? (i := 46) rfl))) (by decide) (t := (.object "com/example/extlint/extlint/model/Format")) (t' := (.object "java/lang/String")) (by decide) (by decide)))
  replace F_parent := F_parent.other W23 (Or.inr (slot_ne (Or.inr (hw _ (List.mem_of_getElem? (i := 44) rfl))) (Or.inr (hw _ (List.mem_of_getElem? (i := 46) rfl))) (by decide) (t := (.object "com/example/extlint/extlint/model/Element")) (t' := (.object "java/lang/String")) (by decide) (by decide)))
  replace F_index := F_index.other W23 (Or.inr (slot_ne (Or.inl (hw _ (List.mem_of_getElem? (i := 48) rfl))) (Or.inr (hw _ (List.mem_of_getElem? (i := 46) rfl))) (by decide) (t := .int) (t' := (.object "java/lang/String")) (by decide) (by decide)))
  replace F_line := F_line.other W23 (Or.inr (slot_ne (Or.inr (hw _ (List.mem_of_getElem? (i := 50) rfl))) (Or.inr (hw _ (List.mem_of_getElem? (i := 46) rfl))) (by decide) (t := .int) (t' := (.object "java/lang/String")) (by decide) (by decide)))
  replace F_column := F_column.other W23 (Or.inr (slot_ne (Or.inr (hw _ (List.mem_of_getElem? (i := 52) rfl))) (Or.inr (hw _ (List.mem_of_getElem? (i := 46) rfl))) (by decide) (t := .int) (t' := (.object "java/lang/String")) (by decide) (by decide)))
  replace F_resourceType := F_resourceType.other W23 (Or.inr (slot_ne (Or.inl (hw _ (List.mem_of_getElem? (i := 79) rfl))) (Or.inr (hw _ (List.mem_of_getElem? (i := 46) rfl))) (by decide) (t := (.object "java/lang/String")) (t' := (.object "java/lang/String")) (by decide) (by decide)))
  replace F_value := F_value.other W23 (Or.inr (slot_ne (Or.inl (hw _ (List.mem_of_getElem? (i := 86) rfl))) (Or.inr (hw _ (List.mem_of_getElem? (i := 46) rfl))) (by decide) (t := (.object "com/example/extlint/extlint/model/Primitive")) (t' := (.object "java/lang/String")) (by decide) (by decide)))
  replace F_primitive := F_primitive.other W23 (Or.inr (slot_ne (Or.inl (hw _ (List.mem_of_getElem? (i := 88) rfl))) (Or.inr (hw _ (List.mem_of_getElem? (i := 46) rfl))) (by decide) (t := .boolean) (t' := (.object "java/lang/String")) (by decide) (by decide)))
  replace A18 := A18.wr W23
  replace F_modCount_b18 := F_modCount_b18.other W23 (Or.inl (Ne.symm ne_a_b18))
  replace F_elementData_b18 := F_elementData_b18.other W23 (Or.inl (Ne.symm ne_a_b18))
  replace F_size_b18 := F_size_b18.other W23 (Or.inl (Ne.symm ne_a_b18))
  have N23 := Fr.snoc X23 N22 g_a
  replace K := K.wr W23 (Or.inl (List.mem_of_getElem? (i := 0) rfl))
  refine own_of st23 ?_
  show own_Ends _ _ _ _ _ _ (T23.setTop (mkF m 30 #[.val (.ref a), .val (.ref fm), .val .null, .val .null, .val (.int (-1 : Int32)), .val (.int ln), .val (.int cn)] []))
  refine own_of (fun tt_ kk_ => XS.aloadN X23.here hx rfl (hb hby d_prog_21_method_1_code_30) rfl rfl kk_) ?_
  show own_Ends _ _ _ _ _ _ (T23.setTop (mkF m 31 #[.val (.ref a), .val (.ref fm), .val .null, .val .null, .val (.int (-1 : Int32)), .val (.int ln), .val (.int cn)] [(.ref a)]))
  refine own_of (fun tt_ kk_ => XS.iload X23.here hx rfl (hb hby d_prog_21_method_1_code_31) rfl  kk_) ?_
  show own_Ends _ _ _ _ _ _ (T23.setTop (mkF m 33 #[.val (.ref a), .val (.ref fm), .val .null, .val .null, .val (.int (-1 : Int32)), .val (.int ln), .val (.int cn)] [(.int (-1 : Int32)), (.ref a)]))
  obtain ⟨T24, h24, X24, e24, W24, st24⟩ := putF X23 hx hZ hown (host := "") (Or.inl (hw _ (List.mem_of_getElem? (i := 47) rfl))) Via.refl e23 F_index E (Or.inl (hw _ (List.mem_of_getElem? (i := 48) rfl))) (hw _ (List.mem_of_getElem? (i := 8) rfl)) (ty := .int) (by decide) rfl rfl (g := (mkF m 33 #[.val (.ref a), .val (.ref fm), .val .null, .val .null, .val (.int (-1 : Int32)), .val (.int ln), .val (.int cn)] [(.int (-1 : Int32)), (.ref a)])) rfl rfl (hb hby d_prog_21_method_1_code_33)
  replace F_index := F_index.same W24
  replace E := E.wr W24
  replace OL := OL.wr W24 g_a
  replace F_children := F_children.other W24 (Or.inr (slot_ne (Or.inr (hw _ (List.mem_of_getElem? (i := 40) rfl))) (Or.inl (hw _ (List.mem_of_getElem? (i := 48) rfl))) (by decide) (t := (.object "java/util/List")) (t' := .int) (by decide) (by decide)))
  replace F_format := F_format.other W24 (Or.inr (slot_ne (Or.inr (hw _ (List.mem_of_getElem? (i := 42) rfl))) (Or.inl (hw _ (List.mem_of_getElem? (i := 48) rfl))) (by decide) (t := (.object "com/example/extlint/extlint/model/Format")) (t' := .int) (by decide) (by decide)))
  replace F_parent := F_parent.other W24 (Or.inr (slot_ne (Or.inr (hw _ (List.mem_of_getElem? (i := 44) rfl))) (Or.inl (hw _ (List.mem_of_getElem? (i := 48) rfl))) (by decide) (t := (.object "com/example/extlint/extlint/model/Element")) (t' := .int) (by decide) (by decide)))
  replace F_name := F_name.other W24 (Or.inr (slot_ne (Or.inr (hw _ (List.mem_of_getElem? (i := 46) rfl))) (Or.inl (hw _ (List.mem_of_getElem? (i := 48) rfl))) (by decide) (t := (.object "java/lang/String")) (t' := .int) (by decide) (by decide)))
  replace F_line := F_line.other W24 (Or.inr (slot_ne (Or.inr (hw _ (List.mem_of_getElem? (i := 50) rfl))) (Or.inl (hw _ (List.mem_of_getElem? (i := 48) rfl))) (by decide) (t := .int) (t' := .int) (by decide) (by decide)))
  replace F_column := F_column.other W24 (Or.inr (slot_ne (Or.inr (hw _ (List.mem_of_getElem? (i := 52) rfl))) (Or.inl (hw _ (List.mem_of_getElem? (i := 48) rfl))) (by decide) (t := .int) (t' := .int) (by decide) (by decide)))
  replace F_resourceType := F_resourceType.other W24 (Or.inr (slot_ne (Or.inl (hw _ (List.mem_of_getElem? (i := 79) rfl))) (Or.inl (hw _ (List.mem_of_getElem? (i := 48) rfl))) (by decide) (t := (.object "java/lang/String")) (t' := .int) (by decide) (by decide)))
  replace F_value := F_value.other W24 (Or.inr (slot_ne (Or.inl (hw _ (List.mem_of_getElem? (i := 86) rfl))) (Or.inl (hw _ (List.mem_of_getElem? (i := 48) rfl))) (by decide) (t := (.object "com/example/extlint/extlint/model/Primitive")) (t' := .int) (by decide) (by decide)))
  replace F_primitive := F_primitive.other W24 (Or.inr (slot_ne (Or.inl (hw _ (List.mem_of_getElem? (i := 88) rfl))) (Or.inl (hw _ (List.mem_of_getElem? (i := 48) rfl))) (by decide) (t := .boolean) (t' := .int) (by decide) (by decide)))
  replace A18 := A18.wr W24
  replace F_modCount_b18 := F_modCount_b18.other W24 (Or.inl (Ne.symm ne_a_b18))
  replace F_elementData_b18 := F_elementData_b18.other W24 (Or.inl (Ne.symm ne_a_b18))
  replace F_size_b18 := F_size_b18.other W24 (Or.inl (Ne.symm ne_a_b18))
  have N24 := Fr.snoc X24 N23 g_a
  replace K := K.wr W24 (Or.inl (List.mem_of_getElem? (i := 0) rfl))
  refine own_of st24 ?_
  show own_Ends _ _ _ _ _ _ (T24.setTop (mkF m 36 #[.val (.ref a), .val (.ref fm), .val .null, .val .null, .val (.int (-1 : Int32)), .val (.int ln), .val (.int cn)] []))
  refine own_of (fun tt_ kk_ => XS.aloadN X24.here hx rfl (hb hby d_prog_21_method_1_code_36) rfl rfl kk_) ?_
  show own_Ends _ _ _ _ _ _ (T24.setTop (mkF m 37 #[.val (.ref a), .val (.ref fm), .val .null, .val .null, .val (.int (-1 : Int32)), .val (.int ln), .val (.int cn)] [(.ref a)]))
  refine own_of (fun tt_ kk_ => XS.iload X24.here hx rfl (hb hby d_prog_21_method_1_code_37) rfl  kk_) ?_
  show own_Ends _ _ _ _ _ _ (T24.setTop (mkF m 39 #[.val (.ref a), .val (.ref fm), .val .null, .val .null, .val (.int (-1 : Int32)), .val (.int ln), .val (.int cn)] [(.int ln), (.ref a)]))
  obtain ⟨T25, h25, X25, e25, W25, st25⟩ := putF X24 hx hZ hown (host := "") (Or.inl (hw _ (List.mem_of_getElem? (i := 49) rfl))) Via.refl e24 F_line E (Or.inr ⟨(hw _ (List.mem_of_getElem? (i := 50) rfl)), rfl, hnm⟩) (hw _ (List.mem_of_getElem? (i := 8) rfl)) (ty := .int) (by decide) rfl rfl (g := (mkF m 39 #[.val (.ref a), .val (.ref fm), .val .null, .val .null, .val (.int (-1 : Int32)), .val (.int ln), .val (.int cn)] [(.int ln), (.ref a)])) rfl rfl (hb hby d_prog_21_method_1_code_39)
  replace F_line := F_line.same W25
  replace E := E.wr W25
  replace OL := OL.wr W25 g_a
  replace F_children := F_children.other W25 (Or.inr (slot_ne (Or.inr (hw _ (List.mem_of_getElem? (i := 40) rfl))) (Or.inr (hw _ (List.mem_of_getElem? (i := 50) rfl))) (by decide) (t := (.object "java/util/List")) (t' := .int) (by decide) (by decide)))
  replace F_format := F_format.other W25 (Or.inr (slot_ne (Or.inr (hw _ (List.mem_of_getElem? (i := 42) rfl))) (Or.inr (hw _ (List.mem_of_getElem? (i := 50) rfl))) (by decide) (t := (.object "com/example/extlint/extlint/model/Format")) (t' := .int) (by decide) (by decide)))
  replace F_parent := F_parent.other W25 (Or.inr (slot_ne (Or.inr (hw _ (List.mem_of_getElem? (i := 44) rfl))) (Or.inr (hw _ (List.mem_of_getElem? (i := 50) rfl))) (by decide) (t := (.object "com/example/extlint/extlint/model/Element")) (t' := .int) (by decide) (by decide)))
  replace F_name := F_name.other W25 (Or.inr (slot_ne (Or.inr (hw _ (List.mem_of_getElem? (i := 46) rfl))) (Or.inr (hw _ (List.mem_of_getElem? (i := 50) rfl))) (by decide) (t := (.object "java/lang/String")) (t' := .int) (by decide) (by decide)))
  replace F_index := F_index.other W25 (Or.inr (slot_ne (Or.inl (hw _ (List.mem_of_getElem? (i := 48) rfl))) (Or.inr (hw _ (List.mem_of_getElem? (i := 50) rfl))) (by decide) (t := .int) (t' := .int) (by decide) (by decide)))
  replace F_column := F_column.other W25 (Or.inr (slot_ne (Or.inr (hw _ (List.mem_of_getElem? (i := 52) rfl))) (Or.inr (hw _ (List.mem_of_getElem? (i := 50) rfl))) (by decide) (t := .int) (t' := .int) (by decide) (by decide)))
  replace F_resourceType := F_resourceType.other W25 (Or.inr (slot_ne (Or.inl (hw _ (List.mem_of_getElem? (i := 79) rfl))) (Or.inr (hw _ (List.mem_of_getElem? (i := 50) rfl))) (by decide) (t := (.object "java/lang/String")) (t' := .int) (by decide) (by decide)))
  replace F_value := F_value.other W25 (Or.inr (slot_ne (Or.inl (hw _ (List.mem_of_getElem? (i := 86) rfl))) (Or.inr (hw _ (List.mem_of_getElem? (i := 50) rfl))) (by decide) (t := (.object "com/example/extlint/extlint/model/Primitive")) (t' := .int) (by decide) (by decide)))
  replace F_primitive := F_primitive.other W25 (Or.inr (slot_ne (Or.inl (hw _ (List.mem_of_getElem? (i := 88) rfl))) (Or.inr (hw _ (List.mem_of_getElem? (i := 50) rfl))) (by decide) (t := .boolean) (t' := .int) (by decide) (by decide)))
  replace A18 := A18.wr W25
  replace F_modCount_b18 := F_modCount_b18.other W25 (Or.inl (Ne.symm ne_a_b18))
  replace F_elementData_b18 := F_elementData_b18.other W25 (Or.inl (Ne.symm ne_a_b18))
  replace F_size_b18 := F_size_b18.other W25 (Or.inl (Ne.symm ne_a_b18))
  have N25 := Fr.snoc X25 N24 g_a
  replace K := K.wr W25 (Or.inl (List.mem_of_getElem? (i := 0) rfl))
  refine own_of st25 ?_
  show own_Ends _ _ _ _ _ _ (T25.setTop (mkF m 42 #[.val (.ref a), .val (.ref fm), .val .null, .val .null, .val (.int (-1 : Int32)), .val (.int ln), .val (.int cn)] []))
  refine own_of (fun tt_ kk_ => XS.aloadN X25.here hx rfl (hb hby d_prog_21_method_1_code_42) rfl rfl kk_) ?_
  show own_Ends _ _ _ _ _ _ (T25.setTop (mkF m 43 #[.val (.ref a), .val (.ref fm), .val .null, .val .null, .val (.int (-1 : Int32)), .val (.int ln), .val (.int cn)] [(.ref a)]))
  refine own_of (fun tt_ kk_ => XS.iload X25.here hx rfl (hb hby d_prog_21_method_1_code_43) rfl  kk_) ?_
  show own_Ends _ _ _ _ _ _ (T25.setTop (mkF m 45 #[.val (.ref a), .val (.ref fm), .val .null, .val .null, .val (.int (-1 : Int32)), .val (.int ln), .val (.int cn)] [(.int cn), (.ref a)]))
  obtain ⟨T26, h26, X26, e26, W26, st26⟩ := putF X25 hx hZ hown (host := "") (Or.inl (hw _ (List.mem_of_getElem? (i := 51) rfl))) Via.refl e25 F_column E (Or.inr ⟨(hw _ (List.mem_of_getElem? (i := 52) rfl)), rfl, hnm⟩) (hw _ (List.mem_of_getElem? (i := 8) rfl)) (ty := .int) (by decide) rfl rfl (g := (mkF m 45 #[.val (.ref a), .val (.ref fm), .val .null, .val .null, .val (.int (-1 : Int32)), .val (.int ln), .val (.int cn)] [(.int cn), (.ref a)])) rfl rfl (hb hby d_prog_21_method_1_code_45)
  replace F_column := F_column.same W26
  replace E := E.wr W26
  replace OL := OL.wr W26 g_a
  replace F_children := F_children.other W26 (Or.inr (slot_ne (Or.inr (hw _ (List.mem_of_getElem? (i := 40) rfl))) (Or.inr (hw _ (List.mem_of_getElem? (i := 52) rfl))) (by decide) (t := (.object "java/util/List")) (t' := .int) (by decide) (by decide)))
  replace F_format := F_format.other W26 (Or.inr (slot_ne (Or.inr (hw _ (List.mem_of_getElem? (i := 42) rfl))) (Or.inr (hw _ (List.mem_of_getElem? (i := 52) rfl))) (by decide) (t := (.object "com/example/extlint/extlint/model/Format")) (t' := .int) (by decide) (by decide)))
  replace F_parent := F_parent.other W26 (Or.inr (slot_ne (Or.inr (hw _ (List.mem_of_getElem? (i := 44) rfl))) (Or.inr (hw _ (List.mem_of_getElem? (i := 52) rfl))) (by decide) (t := (.object "com/example/extlint/extlint/model/Element")) (t' := .int) (by decide) (by decide)))
  replace F_name := F_name.other W26 (Or.inr (slot_ne (Or.inr (hw _ (List.mem_of_getElem? (i := 46) rfl))) (Or.inr (hw _ (List.mem_of_getElem? (i := 52) rfl))) (by decide) (t := (.object "java/lang/String")) (t' := .int) (by decide) (by decide)))
  replace F_index := F_index.other W26 (Or.inr (slot_ne (Or.inl (hw _ (List.mem_of_getElem? (i := 48) rfl))) (Or.inr (hw _ (List.mem_of_getElem? (i := 52) rfl))) (by decide) (t := .int) (t' := .int) (by decide) (by decide)))
  replace F_line := F_line.other W26 (Or.inr (slot_ne (Or.inr (hw _ (List.mem_of_getElem? (i := 50) rfl))) (Or.inr (hw _ (List.mem_of_getElem? (i := 52) rfl))) (by decide) (t := .int) (t' := .int) (by decide) (by decide)))
  replace F_resourceType := F_resourceType.other W26 (Or.inr (slot_ne (Or.inl (hw _ (List.mem_of_getElem? (i := 79) rfl))) (Or.inr (hw _ (List.mem_of_getElem? (i := 52) rfl))) (by decide) (t := (.object "java/lang/String")) (t' := .int) (by decide) (by decide)))
  replace F_value := F_value.other W26 (Or.inr (slot_ne (Or.inl (hw _ (List.mem_of_getElem? (i := 86) rfl))) (Or.inr (hw _ (List.mem_of_getElem? (i := 52) rfl))) (by decide) (t := (.object "com/example/extlint/extlint/model/Primitive")) (t' := .int) (by decide) (by decide)))
  replace F_primitive := F_primitive.other W26 (Or.inr (slot_ne (Or.inl (hw _ (List.mem_of_getElem? (i := 88) rfl))) (Or.inr (hw _ (List.mem_of_getElem? (i := 52) rfl))) (by decide) (t := .boolean) (t' := .int) (by decide) (by decide)))
  replace A18 := A18.wr W26
  replace F_modCount_b18 := F_modCount_b18.other W26 (Or.inl (Ne.symm ne_a_b18))
  replace F_elementData_b18 := F_elementData_b18.other W26 (Or.inl (Ne.symm ne_a_b18))
  replace F_size_b18 := F_size_b18.other W26 (Or.inl (Ne.symm ne_a_b18))
  have N26 := Fr.snoc X26 N25 g_a
  replace K := K.wr W26 (Or.inl (List.mem_of_getElem? (i := 0) rfl))
  refine own_of st26 ?_
  show own_Ends _ _ _ _ _ _ (T26.setTop (mkF m 48 #[.val (.ref a), .val (.ref fm), .val .null, .val .null, .val (.int (-1 : Int32)), .val (.int ln), .val (.int cn)] []))
  refine own_retV X26 hx hlk e26 hret (hb hby d_prog_21_method_1_code_48) (by decide) (by decide) ?_
  exact ⟨b18, rfl, N26, K, sz_b18, E, F_children, F_format, F_parent, F_name, F_index, F_line, F_column, F_resourceType, F_value, F_primitive, A18, F_size_b18⟩
theorem ef_prog_21_method_4_codeRII (m : MethodId) (z0 : Addr) (z1 : Int32) (z2 : Int32) : entryFrame m #[(.ref z0), (.int z1), (.int z2)] 3 = mkF m 0 #[.val (.ref z0), .val (.int z1), .val (.int z2)] [] := by first | (simp [entryFrame, mkF, argsToLocals, Value.category]; done) | rfl
theorem d_prog_21_method_4_code_0 : decode prog_21_method_4_code 0 = .ok (.new 11, 3) := by decide +kernel
theorem d_prog_21_method_4_code_3 : decode prog_21_method_4_code 3 = .ok (.dup, 1) := by decide +kernel
theorem d_prog_21_method_4_code_4 : decode prog_21_method_4_code 4 = .ok (.aload_n 0, 1) := by decide +kernel
theorem d_prog_21_method_4_code_5 : decode prog_21_method_4_code 5 = .ok (.aconst_null, 1) := by decide +kernel
theorem d_prog_21_method_4_code_6 : decode prog_21_method_4_code 6 = .ok (.aconst_null, 1) := by decide +kernel
theorem d_prog_21_method_4_code_7 : decode prog_21_method_4_code 7 = .ok (.iconst (-1), 1) := by decide +kernel
theorem d_prog_21_method_4_code_8 : decode prog_21_method_4_code 8 = .ok (.iload_n 1, 1) := by decide +kernel
theorem d_prog_21_method_4_code_9 : decode prog_21_method_4_code 9 = .ok (.iload_n 2, 1) := by decide +kernel
theorem pd__Lcom_example_extlint_extlint_model_Format_Lcom_example_extlint_extlint_model_Element_Ljava_lang_String_III_r_V : parseMethodDescriptor "(Lcom/example/extlint/extlint/model/Format;Lcom/example/extlint/extlint/model/Element;Ljava/lang/String;III)V" = some ⟨[(.object "com/example/extlint/extlint/model/Format"), (.object "com/example/extlint/extlint/model/Element"), (.object "java/lang/String"), .int, .int, .int], none⟩ := by decide +kernel
theorem d_prog_21_method_4_code_10 : decode prog_21_method_4_code 10 = .ok (.invokespecial 58, 3) := by decide +kernel
theorem d_prog_21_method_4_code_13 : decode prog_21_method_4_code 13 = .ok (.areturn, 1) := by decide +kernel
set_option maxRecDepth 65536 in
set_option maxHeartbeats 40000000 in
theorem rm_root (l : Launch) (Z : State) (a0 : Array Value) (hw : ∀ d ∈ tables_1, d.before a0 Z = true) (fm wD : Addr) (ln cn : Int32) (h0 : Heap) (n0 : Nat) (Z0 : n0 ≤ h0.size) (O3 : Sta Z Z.heap "java/util/ArrayList" "DEFAULTCAPACITY_EMPTY_ELEMENTDATA" "[Ljava/lang/Object;" (.ref wD)) (OL : Old Z n0 h0) :
    own_Met l Z (⟨"com/example/extlint/extlint/model/Element", "root", "(Lcom/example/extlint/extlint/model/Format;II)Lcom/example/extlint/extlint/model/Element;"⟩ : MethodName) prog_21_method_4_code 3 (some (.object "com/example/extlint/extlint/model/Element")) ({ frames := 5, cells := 2, slots := 13, locals := 84 } : Room) #[(.ref fm), (.int ln), (.int cn)] h0 (fun v h L => ∃ a b : Addr, v = some (.ref a) ∧ Fr n0 L ∧ Keep h0 h [] ∧ h0.size ≤ a ∧ h0.size ≤ b ∧ a ≠ b ∧ Exa Z h a "com/example/extlint/extlint/model/Element" ∧ Fld Z h a "com/example/extlint/extlint/model/Element" "children" "Ljava/util/List;" (.ref b) ∧ Fld Z h a "com/example/extlint/extlint/model/Element" "format" "Lcom/example/extlint/extlint/model/Format;" (.ref fm) ∧ Fld Z h a "com/example/extlint/extlint/model/Element" "parent" "Lcom/example/extlint/extlint/model/Element;" .null ∧ Fld Z h a "com/example/extlint/extlint/model/Element" "name" "Ljava/lang/String;" .null ∧ Fld Z h a "com/example/extlint/extlint/model/Element" "index" "I" (.int (-1 : Int32)) ∧ Fld Z h a "com/example/extlint/extlint/model/Element" "line" "I" (.int ln) ∧ Fld Z h a "com/example/extlint/extlint/model/Element" "column" "I" (.int cn) ∧ Fld Z h a "com/example/extlint/extlint/model/Element" "resourceType" "Ljava/lang/String;" .null ∧ Fld Z h a "com/example/extlint/extlint/model/Element" "value" "Lcom/example/extlint/extlint/model/Primitive;" .null ∧ Fld Z h a "com/example/extlint/extlint/model/Element" "primitive" "Z" (.int (0 : Int32)) ∧ Exa Z h b "java/util/ArrayList" ∧ Fld Z h b "java/util/ArrayList" "size" "I" (.int (0 : Int32))) := by
  refine own_body (plainFor_of_name pn_com_example_extlint_extlint_model_Element) ?_
  intro p e s m below meth c T0 X0 e0 hx hby hml hown hnm hret hlk hZ
  replace hown : s.vm.findClass "com/example/extlint/extlint/model/Element" = some m.cls := hown
  have N0 := Fr.nil n0
  refine own_of (fun tt_ kk_ => castTop (ef_prog_21_method_4_codeRII m fm ln cn) kk_) ?_
  have K := Keep.refl h0 []
  show own_Ends _ _ _ _ _ _ (T0.setTop (mkF m 0 #[.val (.ref fm), .val (.int ln), .val (.int cn)] []))
  obtain ⟨T27, h27, X27, e27, E27, A27, D27, -, st27⟩ := newO X0 hx hZ hown (hw _ (List.mem_of_getElem? (i := 7) rfl)) (hw _ (List.mem_of_getElem? (i := 8) rfl)) (hw _ (List.mem_of_getElem? (i := 5) rfl)) e0 (g := (mkF m 0 #[.val (.ref fm), .val (.int ln), .val (.int cn)] [])) rfl (hb hby d_prog_21_method_4_code_0) (by decide) (by decide)
  obtain ⟨b27, g27⟩ : ∃ z, z = h0.size := ⟨_, rfl⟩
  rw [← g27] at A27 D27 st27
  have sz_b27 : h0.size ≤ b27 := Nat.le_trans K.1 (Nat.le_of_eq g27.symm)
  have g_b27 : n0 ≤ b27 := Nat.le_trans Z0 sz_b27
  replace OL := OL.ext E27
  have F_children_b27 : Fld Z h27 b27 "com/example/extlint/extlint/model/Element" "children" "Ljava/util/List;" .null := D27 (Or.inr (hw _ (List.mem_of_getElem? (i := 40) rfl))) (ty := (.object "java/util/List")) (by decide)
  have F_format_b27 : Fld Z h27 b27 "com/example/extlint/extlint/model/Element" "format" "Lcom/example/extlint/extlint/model/Format;" .null := D27 (Or.inr (hw _ (List.mem_of_getElem? (i := 42) rfl))) (ty := (.object "com/example/extlint/extlint/model/Format")) (by decide)
  have F_parent_b27 : Fld Z h27 b27 "com/example/extlint/extlint/model/Element" "parent" "Lcom/example/extlint/extlint/model/Element;" .null := D27 (Or.inr (hw _ (List.mem_of_getElem? (i := 44) rfl))) (ty := (.object "com/example/extlint/extlint/model/Element")) (by decide)
  have F_name_b27 : Fld Z h27 b27 "com/example/extlint/extlint/model/Element" "name" "Ljava/lang/String;" .null := D27 (Or.inr (hw _ (List.mem_of_getElem? (i := 46) rfl))) (ty := (.object "java/lang/String")) (by decide)
  have F_index_b27 : Fld Z h27 b27 "com/example/extlint/extlint/model/Element" "index" "I" (.int (0 : Int32)) := D27 (Or.inl (hw _ (List.mem_of_getElem? (i := 48) rfl))) (ty := .int) (by decide)
  have F_line_b27 : Fld Z h27 b27 "com/example/extlint/extlint/model/Element" "line" "I" (.int (0 : Int32)) := D27 (Or.inr (hw _ (List.mem_of_getElem? (i := 50) rfl))) (ty := .int) (by decide)
  have F_column_b27 : Fld Z h27 b27 "com/example/extlint/extlint/model/Element" "column" "I" (.int (0 : Int32)) := D27 (Or.inr (hw _ (List.mem_of_getElem? (i := 52) rfl))) (ty := .int) (by decide)
  have F_resourceType_b27 : Fld Z h27 b27 "com/example/extlint/extlint/model/Element" "resourceType" "Ljava/lang/String;" .null := D27 (Or.inl (hw _ (List.mem_of_getElem? (i := 79) rfl))) (ty := (.object "java/lang/String")) (by decide)
  have F_value_b27 : Fld Z h27 b27 "com/example/extlint/extlint/model/Element" "value" "Lcom/example/extlint/extlint/model/Primitive;" .null := D27 (Or.inl (hw _ (List.mem_of_getElem? (i := 86) rfl))) (ty := (.object "com/example/extlint/extlint/model/Primitive")) (by decide)
  have F_primitive_b27 : Fld Z h27 b27 "com/example/extlint/extlint/model/Element" "primitive" "Z" (.int (0 : Int32)) := D27 (Or.inl (hw _ (List.mem_of_getElem? (i := 88) rfl))) (ty := .boolean) (by decide)
  replace K := K.ext E27
  refine own_of st27 ?_
  show own_Ends _ _ _ _ _ _ (T27.setTop (mkF m 3 #[.val (.ref fm), .val (.int ln), .val (.int cn)] [(.ref b27)]))
  refine own_of (fun tt_ kk_ => XS.dup X27.here hx rfl (hb hby d_prog_21_method_4_code_3) rfl rfl kk_) ?_
  show own_Ends _ _ _ _ _ _ (T27.setTop (mkF m 4 #[.val (.ref fm), .val (.int ln), .val (.int cn)] [(.ref b27), (.ref b27)]))
  refine own_of (fun tt_ kk_ => XS.aloadN X27.here hx rfl (hb hby d_prog_21_method_4_code_4) rfl rfl kk_) ?_
  show own_Ends _ _ _ _ _ _ (T27.setTop (mkF m 5 #[.val (.ref fm), .val (.int ln), .val (.int cn)] [(.ref fm), (.ref b27), (.ref b27)]))
  refine own_of (fun tt_ kk_ => XS.aconstNull X27.here hx rfl (hb hby d_prog_21_method_4_code_5) kk_) ?_
  show own_Ends _ _ _ _ _ _ (T27.setTop (mkF m 6 #[.val (.ref fm), .val (.int ln), .val (.int cn)] [.null, (.ref fm), (.ref b27), (.ref b27)]))
  refine own_of (fun tt_ kk_ => XS.aconstNull X27.here hx rfl (hb hby d_prog_21_method_4_code_6) kk_) ?_
  show own_Ends _ _ _ _ _ _ (T27.setTop (mkF m 7 #[.val (.ref fm), .val (.int ln), .val (.int cn)] [.null, .null, (.ref fm), (.ref b27), (.ref b27)]))
  refine own_of (fun tt_ kk_ => XS.iconst X27.here hx rfl (hb hby d_prog_21_method_4_code_7) kk_) ?_
  show own_Ends _ _ _ _ _ _ (T27.setTop (mkF m 8 #[.val (.ref fm), .val (.int ln), .val (.int cn)] [(.int (-1 : Int32)), .null, .null, (.ref fm), (.ref b27), (.ref b27)]))
  refine own_of (fun tt_ kk_ => XS.iloadN X27.here hx rfl (hb hby d_prog_21_method_4_code_8) rfl  kk_) ?_
  show own_Ends _ _ _ _ _ _ (T27.setTop (mkF m 9 #[.val (.ref fm), .val (.int ln), .val (.int cn)] [(.int ln), (.int (-1 : Int32)), .null, .null, (.ref fm), (.ref b27), (.ref b27)]))
  refine own_of (fun tt_ kk_ => XS.iloadN X27.here hx rfl (hb hby d_prog_21_method_4_code_9) rfl  kk_) ?_
  show own_Ends _ _ _ _ _ _ (T27.setTop (mkF m 10 #[.val (.ref fm), .val (.int ln), .val (.int cn)] [(.int cn), (.int ln), (.int (-1 : Int32)), .null, .null, (.ref fm), (.ref b27), (.ref b27)]))
  obtain ⟨v28, T28, L28, h28, X28, e28, Q28, st28⟩ := own_special X27 hx hZ hown e27 (b := b27) rfl (hw _ (List.mem_of_getElem? (i := 9) rfl)) (hw _ (List.mem_of_getElem? (i := 10) rfl)) (hw _ (List.mem_of_getElem? (i := 5) rfl)) (hw _ (List.mem_of_getElem? (i := 11) rfl)) (by decide) (argsL := [(.ref fm), .null, .null, (.int (-1 : Int32)), (.int ln), (.int cn)]) (rest := [(.ref b27)]) (rm_init l Z a0 hw b27 fm wD ln cn h27 n0 (Nat.le_trans Z0 K.1) A27 F_children_b27 F_format_b27 F_parent_b27 F_name_b27 F_index_b27 F_line_b27 F_column_b27 F_resourceType_b27 F_value_b27 F_primitive_b27 g_b27 O3 OL) (g := (mkF m 10 #[.val (.ref fm), .val (.int ln), .val (.int cn)] [(.int cn), (.int ln), (.int (-1 : Int32)), .null, .null, (.ref fm), (.ref b27), (.ref b27)])) rfl (by rw [hml]; rfl) (lenOf pd__Lcom_example_extlint_extlint_model_Format_Lcom_example_extlint_extlint_model_Element_Ljava_lang_String_III_r_V rfl) rfl (by decide) (Nat.le_of_ble_eq_true rfl) (by decide) (by decide) (hb hby d_prog_21_method_4_code_10)
  obtain ⟨b28, rfl, Nq28, Kq28, szq_b28, A27', F_children_b27', F_format_b27', F_parent_b27', F_name_b27', F_index_b27', F_line_b27', F_column_b27', F_resourceType_b27', F_value_b27', F_primitive_b27', Eb28, Fb28⟩ := Q28
  have ne_b27_b28 : b27 ≠ b28 := Nat.ne_of_lt (Nat.lt_of_lt_of_le A27.lt szq_b28)
  have sz_b28 : h0.size ≤ b28 := Nat.le_trans K.1 szq_b28
  have g_b28 : n0 ≤ b28 := Nat.le_trans Z0 sz_b28
  replace OL := OL.keep Kq28 (allS g_b27 all0)
  replace A27 := A27.keep Kq28
  replace K := K.trans Kq28 (allS (Or.inr sz_b27) all0)
  have A27 := A27'
  have F_children_b27 := F_children_b27'
  have F_format_b27 := F_format_b27'
  have F_parent_b27 := F_parent_b27'
  have F_name_b27 := F_name_b27'
  have F_index_b27 := F_index_b27'
  have F_line_b27 := F_line_b27'
  have F_column_b27 := F_column_b27'
  have F_resourceType_b27 := F_resourceType_b27'
  have F_value_b27 := F_value_b27'
  have F_primitive_b27 := F_primitive_b27'
  have N28 := Fr.app N0 Nq28
  refine own_of st28 ?_
  show own_Ends _ _ _ _ _ _ (T28.setTop (mkF m 13 #[.val (.ref fm), .val (.int ln), .val (.int cn)] [(.ref b27)]))
  refine own_retA X28 hx hlk e28 hret rfl rfl (hb hby d_prog_21_method_4_code_13) (by decide) (by decide) ?_
  exact ⟨b27, b28, rfl, N28, K, sz_b27, sz_b28, ne_b27_b28, A27, F_children_b27, F_format_b27, F_parent_b27, F_name_b27, F_index_b27, F_line_b27, F_column_b27, F_resourceType_b27, F_value_b27, F_primitive_b27, Eb28, Fb28⟩
theorem ef_prog_21_method_5_codeR (m : MethodId) (z0 : Addr) : entryFrame m #[(.ref z0)] 1 = mkF m 0 #[.val (.ref z0)] [] := by first | (simp [entryFrame, mkF, argsToLocals, Value.category]; done) | rfl
theorem d_prog_21_method_5_code_0 : decode prog_21_method_5_code 0 = .ok (.aload_n 0, 1) := by decide +kernel
theorem d_prog_21_method_5_code_1 : decode prog_21_method_5_code 1 = .ok (.getfield 16, 3) := by decide +kernel
theorem d_prog_21_method_5_code_4 : decode prog_21_method_5_code 4 = .ok (.areturn, 1) := by decide +kernel
set_option maxRecDepth 65536 in
set_option maxHeartbeats 40000000 in
theorem rm_g_format (l : Launch) (Z : State) (a0 : Array Value) (hw : ∀ d ∈ tables_1, d.before a0 Z = true) (a : Addr) (z : Addr) (h0 : Heap) (n0 : Nat) (Z0 : n0 ≤ h0.size) (F : Fld Z h0 a "com/example/extlint/extlint/model/Element" "format" "Lcom/example/extlint/extlint/model/Format;" (.ref z)) :
    own_Met l Z (⟨"com/example/extlint/extlint/model/Element", "format", "()Lcom/example/extlint/extlint/model/Format;"⟩ : MethodName) prog_21_method_5_code 1 (some (.object "com/example/extlint/extlint/model/Format")) ({ frames := 0, cells := 0, slots := 0, locals := 0 } : Room) #[(.ref a)] h0 (fun v h L => v = some (.ref z) ∧ Fr n0 L ∧ h = h0) := by
  refine own_body (plainFor_of_name pn_com_example_extlint_extlint_model_Element) ?_
  intro p e s m below meth c T0 X0 e0 hx hby hml hown hnm hret hlk hZ
  replace hown : s.vm.findClass "com/example/extlint/extlint/model/Element" = some m.cls := hown
  have N0 := Fr.nil n0
  refine own_of (fun tt_ kk_ => castTop (ef_prog_21_method_5_codeR m a) kk_) ?_
  show own_Ends _ _ _ _ _ _ (T0.setTop (mkF m 0 #[.val (.ref a)] []))
  refine own_of (fun tt_ kk_ => XS.aloadN X0.here hx rfl (hb hby d_prog_21_method_5_code_0) rfl rfl kk_) ?_
  show own_Ends _ _ _ _ _ _ (T0.setTop (mkF m 1 #[.val (.ref a)] [(.ref a)]))
  obtain ⟨T29, X29, e29, st29⟩ := getF X0 hx hZ hown (host := "") (Or.inl (hw _ (List.mem_of_getElem? (i := 41) rfl))) Via.refl e0 F (g := (mkF m 1 #[.val (.ref a)] [(.ref a)])) rfl rfl (hb hby d_prog_21_method_5_code_1)
  refine own_of st29 ?_
  show own_Ends _ _ _ _ _ _ (T29.setTop (mkF m 4 #[.val (.ref a)] [(.ref z)]))
  refine own_retA X29 hx hlk e29 hret rfl rfl (hb hby d_prog_21_method_5_code_4) (by decide) (by decide) ?_
  exact ⟨rfl, N0, rfl⟩
theorem ef_prog_21_method_7_codeR (m : MethodId) (z0 : Addr) : entryFrame m #[(.ref z0)] 1 = mkF m 0 #[.val (.ref z0)] [] := by first | (simp [entryFrame, mkF, argsToLocals, Value.category]; done) | rfl
theorem d_prog_21_method_7_code_0 : decode prog_21_method_7_code 0 = .ok (.aload_n 0, 1) := by decide +kernel
theorem d_prog_21_method_7_code_1 : decode prog_21_method_7_code 1 = .ok (.getfield 28, 3) := by decide +kernel
theorem d_prog_21_method_7_code_4 : decode prog_21_method_7_code 4 = .ok (.ireturn, 1) := by decide +kernel
set_option maxRecDepth 65536 in
set_option maxHeartbeats 40000000 in
theorem rm_g_index (l : Launch) (Z : State) (a0 : Array Value) (hw : ∀ d ∈ tables_1, d.before a0 Z = true) (a : Addr) (z : Int32) (h0 : Heap) (n0 : Nat) (Z0 : n0 ≤ h0.size) (F : Fld Z h0 a "com/example/extlint/extlint/model/Element" "index" "I" (.int z)) :
    own_Met l Z (⟨"com/example/extlint/extlint/model/Element", "index", "()I"⟩ : MethodName) prog_21_method_7_code 1 (some .int) ({ frames := 0, cells := 0, slots := 0, locals := 0 } : Room) #[(.ref a)] h0 (fun v h L => v = some (.int z) ∧ Fr n0 L ∧ h = h0) := by
  refine own_body (plainFor_of_name pn_com_example_extlint_extlint_model_Element) ?_
  intro p e s m below meth c T0 X0 e0 hx hby hml hown hnm hret hlk hZ
  replace hown : s.vm.findClass "com/example/extlint/extlint/model/Element" = some m.cls := hown
  have N0 := Fr.nil n0
  refine own_of (fun tt_ kk_ => castTop (ef_prog_21_method_7_codeR m a) kk_) ?_
  show own_Ends _ _ _ _ _ _ (T0.setTop (mkF m 0 #[.val (.ref a)] []))
  refine own_of (fun tt_ kk_ => XS.aloadN X0.here hx rfl (hb hby d_prog_21_method_7_code_0) rfl rfl kk_) ?_
  show own_Ends _ _ _ _ _ _ (T0.setTop (mkF m 1 #[.val (.ref a)] [(.ref a)]))
  obtain ⟨T30, X30, e30, st30⟩ := getF X0 hx hZ hown (host := "") (Or.inl (hw _ (List.mem_of_getElem? (i := 47) rfl))) Via.refl e0 F (g := (mkF m 1 #[.val (.ref a)] [(.ref a)])) rfl rfl (hb hby d_prog_21_method_7_code_1)
  refine own_of st30 ?_
  show own_Ends _ _ _ _ _ _ (T30.setTop (mkF m 4 #[.val (.ref a)] [(.int z)]))
  refine own_retI X30 hx hlk e30 hret (hb hby d_prog_21_method_7_code_4) (by decide) (by decide) ?_
  exact ⟨rfl, N0, rfl⟩
theorem ef_prog_21_method_8_codeR (m : MethodId) (z0 : Addr) : entryFrame m #[(.ref z0)] 1 = mkF m 0 #[.val (.ref z0)] [] := by first | (simp [entryFrame, mkF, argsToLocals, Value.category]; done) | rfl
theorem d_prog_21_method_8_code_0 : decode prog_21_method_8_code 0 = .ok (.aload_n 0, 1) := by decide +kernel
theorem d_prog_21_method_8_code_1 : decode prog_21_method_8_code 1 = .ok (.getfield 32, 3) := by decide +kernel
theorem d_prog_21_method_8_code_4 : decode prog_21_method_8_code 4 = .ok (.ireturn, 1) := by decide +kernel
set_option maxRecDepth 65536 in
set_option maxHeartbeats 40000000 in
theorem rm_g_line (l : Launch) (Z : State) (a0 : Array Value) (hw : ∀ d ∈ tables_1, d.before a0 Z = true) (a : Addr) (z : Int32) (h0 : Heap) (n0 : Nat) (Z0 : n0 ≤ h0.size) (F : Fld Z h0 a "com/example/extlint/extlint/model/Element" "line" "I" (.int z)) :
    own_Met l Z (⟨"com/example/extlint/extlint/model/Element", "line", "()I"⟩ : MethodName) prog_21_method_8_code 1 (some .int) ({ frames := 0, cells := 0, slots := 0, locals := 0 } : Room) #[(.ref a)] h0 (fun v h L => v = some (.int z) ∧ Fr n0 L ∧ h = h0) := by
  refine own_body (plainFor_of_name pn_com_example_extlint_extlint_model_Element) ?_
  intro p e s m below meth c T0 X0 e0 hx hby hml hown hnm hret hlk hZ
  replace hown : s.vm.findClass "com/example/extlint/extlint/model/Element" = some m.cls := hown
  have N0 := Fr.nil n0
  refine own_of (fun tt_ kk_ => castTop (ef_prog_21_method_8_codeR m a) kk_) ?_
  show own_Ends _ _ _ _ _ _ (T0.setTop (mkF m 0 #[.val (.ref a)] []))
  refine own_of (fun tt_ kk_ => XS.aloadN X0.here hx rfl (hb hby d_prog_21_method_8_code_0) rfl rfl kk_) ?_
  show own_Ends _ _ _ _ _ _ (T0.setTop (mkF m 1 #[.val (.ref a)] [(.ref a)]))
  obtain ⟨T31, X31, e31, st31⟩ := getF X0 hx hZ hown (host := "") (Or.inl (hw _ (List.mem_of_getElem? (i := 49) rfl))) Via.refl e0 F (g := (mkF m 1 #[.val (.ref a)] [(.ref a)])) rfl rfl (hb hby d_prog_21_method_8_code_1)
  refine own_of st31 ?_
  show own_Ends _ _ _ _ _ _ (T31.setTop (mkF m 4 #[.val (.ref a)] [(.int z)]))
  refine own_retI X31 hx hlk e31 hret (hb hby d_prog_21_method_8_code_4) (by decide) (by decide) ?_
  exact ⟨rfl, N0, rfl⟩
theorem ef_prog_21_method_9_codeR (m : MethodId) (z0 : Addr) : entryFrame m #[(.ref z0)] 1 = mkF m 0 #[.val (.ref z0)] [] := by first | (simp [entryFrame, mkF, argsToLocals, Value.category]; done) | rfl
theorem d_prog_21_method_9_code_0 : decode prog_21_method_9_code 0 = .ok (.aload_n 0, 1) := by decide +kernel
theorem d_prog_21_method_9_code_1 : decode prog_21_method_9_code 1 = .ok (.getfield 35, 3) := by decide +kernel
theorem d_prog_21_method_9_code_4 : decode prog_21_method_9_code 4 = .ok (.ireturn, 1) := by decide +kernel
set_option maxRecDepth 65536 in
set_option maxHeartbeats 40000000 in
theorem rm_g_column (l : Launch) (Z : State) (a0 : Array Value) (hw : ∀ d ∈ tables_1, d.before a0 Z = true) (a : Addr) (z : Int32) (h0 : Heap) (n0 : Nat) (Z0 : n0 ≤ h0.size) (F : Fld Z h0 a "com/example/extlint/extlint/model/Element" "column" "I" (.int z)) :
    own_Met l Z (⟨"com/example/extlint/extlint/model/Element", "column", "()I"⟩ : MethodName) prog_21_method_9_code 1 (some .int) ({ frames := 0, cells := 0, slots := 0, locals := 0 } : Room) #[(.ref a)] h0 (fun v h L => v = some (.int z) ∧ Fr n0 L ∧ h = h0) := by
  refine own_body (plainFor_of_name pn_com_example_extlint_extlint_model_Element) ?_
  intro p e s m below meth c T0 X0 e0 hx hby hml hown hnm hret hlk hZ
  replace hown : s.vm.findClass "com/example/extlint/extlint/model/Element" = some m.cls := hown
  have N0 := Fr.nil n0
  refine own_of (fun tt_ kk_ => castTop (ef_prog_21_method_9_codeR m a) kk_) ?_
  show own_Ends _ _ _ _ _ _ (T0.setTop (mkF m 0 #[.val (.ref a)] []))
  refine own_of (fun tt_ kk_ => XS.aloadN X0.here hx rfl (hb hby d_prog_21_method_9_code_0) rfl rfl kk_) ?_
  show own_Ends _ _ _ _ _ _ (T0.setTop (mkF m 1 #[.val (.ref a)] [(.ref a)]))
  obtain ⟨T32, X32, e32, st32⟩ := getF X0 hx hZ hown (host := "") (Or.inl (hw _ (List.mem_of_getElem? (i := 51) rfl))) Via.refl e0 F (g := (mkF m 1 #[.val (.ref a)] [(.ref a)])) rfl rfl (hb hby d_prog_21_method_9_code_1)
  refine own_of st32 ?_
  show own_Ends _ _ _ _ _ _ (T32.setTop (mkF m 4 #[.val (.ref a)] [(.int z)]))
  refine own_retI X32 hx hlk e32 hret (hb hby d_prog_21_method_9_code_4) (by decide) (by decide) ?_
  exact ⟨rfl, N0, rfl⟩
theorem ef_prog_21_method_6_codeR (m : MethodId) (z0 : Addr) : entryFrame m #[(.ref z0)] 1 = mkF m 0 #[.val (.ref z0)] [] := by first | (simp [entryFrame, mkF, argsToLocals, Value.category]; done) | rfl
theorem d_prog_21_method_6_code_0 : decode prog_21_method_6_code 0 = .ok (.aload_n 0, 1) := by decide +kernel
theorem d_prog_21_method_6_code_1 : decode prog_21_method_6_code 1 = .ok (.getfield 20, 3) := by decide +kernel
theorem d_prog_21_method_6_code_4 : decode prog_21_method_6_code 4 = .ok (.ifnonnull 10, 3) := by decide +kernel
theorem d_prog_21_method_6_code_7 : decode prog_21_method_6_code 7 = .ok (.aload_n 0, 1) := by decide +kernel
theorem d_prog_21_method_6_code_8 : decode prog_21_method_6_code 8 = .ok (.getfield 61, 3) := by decide +kernel
theorem d_prog_21_method_6_code_11 : decode prog_21_method_6_code 11 = .ok (.goto 7, 3) := by decide +kernel
theorem d_prog_21_method_6_code_18 : decode prog_21_method_6_code 18 = .ok (.areturn, 1) := by decide +kernel
set_option maxRecDepth 65536 in
set_option maxHeartbeats 40000000 in
theorem rm_name0 (l : Launch) (Z : State) (a0 : Array Value) (hw : ∀ d ∈ tables_1, d.before a0 Z = true) (a : Addr) (h0 : Heap) (n0 : Nat) (Z0 : n0 ≤ h0.size) (F : Fld Z h0 a "com/example/extlint/extlint/model/Element" "resourceType" "Ljava/lang/String;" .null) (FP : Fld Z h0 a "com/example/extlint/extlint/model/Element" "parent" "Lcom/example/extlint/extlint/model/Element;" .null) :
    own_Met l Z (⟨"com/example/extlint/extlint/model/Element", "name", "()Ljava/lang/String;"⟩ : MethodName) prog_21_method_6_code 1 (some (.object "java/lang/String")) ({ frames := 0, cells := 0, slots := 0, locals := 0 } : Room) #[(.ref a)] h0 (fun v h L => v = some .null ∧ Fr n0 L ∧ h = h0) := by
  refine own_body (plainFor_of_name pn_com_example_extlint_extlint_model_Element) ?_
  intro p e s m below meth c T0 X0 e0 hx hby hml hown hnm hret hlk hZ
  replace hown : s.vm.findClass "com/example/extlint/extlint/model/Element" = some m.cls := hown
  have N0 := Fr.nil n0
  refine own_of (fun tt_ kk_ => castTop (ef_prog_21_method_6_codeR m a) kk_) ?_
  show own_Ends _ _ _ _ _ _ (T0.setTop (mkF m 0 #[.val (.ref a)] []))
  refine own_of (fun tt_ kk_ => XS.aloadN X0.here hx rfl (hb hby d_prog_21_method_6_code_0) rfl rfl kk_) ?_
  show own_Ends _ _ _ _ _ _ (T0.setTop (mkF m 1 #[.val (.ref a)] [(.ref a)]))
  obtain ⟨T33, X33, e33, st33⟩ := getF X0 hx hZ hown (host := "") (Or.inl (hw _ (List.mem_of_getElem? (i := 43) rfl))) Via.refl e0 FP (g := (mkF m 1 #[.val (.ref a)] [(.ref a)])) rfl rfl (hb hby d_prog_21_method_6_code_1)
  refine own_of st33 ?_
  show own_Ends _ _ _ _ _ _ (T33.setTop (mkF m 4 #[.val (.ref a)] [.null]))
  refine own_of (fun tt_ kk_ => XS.ifnonnullNo X33.here hx rfl (hb hby d_prog_21_method_6_code_4) rfl kk_) ?_
  show own_Ends _ _ _ _ _ _ (T33.setTop (mkF m 7 #[.val (.ref a)] []))
  refine own_of (fun tt_ kk_ => XS.aloadN X33.here hx rfl (hb hby d_prog_21_method_6_code_7) rfl rfl kk_) ?_
  show own_Ends _ _ _ _ _ _ (T33.setTop (mkF m 8 #[.val (.ref a)] [(.ref a)]))
  obtain ⟨T34, X34, e34, st34⟩ := getF X33 hx hZ hown (host := "") (Or.inl (hw _ (List.mem_of_getElem? (i := 78) rfl))) Via.refl e33 F (g := (mkF m 8 #[.val (.ref a)] [(.ref a)])) rfl rfl (hb hby d_prog_21_method_6_code_8)
  refine own_of st34 ?_
  show own_Ends _ _ _ _ _ _ (T34.setTop (mkF m 11 #[.val (.ref a)] [.null]))
  refine own_of (fun tt_ kk_ => XS.goto X34.here hx rfl (pc0 := 11) (pc' := 18) rfl (hb hby d_prog_21_method_6_code_11) (by decide) (by decide) kk_) ?_
  show own_Ends _ _ _ _ _ _ (T34.setTop (mkF m 18 #[.val (.ref a)] [.null]))
  refine own_retA X34 hx hlk e34 hret rfl rfl (hb hby d_prog_21_method_6_code_18) (by decide) (by decide) ?_
  exact ⟨rfl, N0, rfl⟩
set_option maxRecDepth 65536 in
set_option maxHeartbeats 40000000 in
theorem rm_name1 (l : Launch) (Z : State) (a0 : Array Value) (hw : ∀ d ∈ tables_1, d.before a0 Z = true) (a : Addr) (z : Addr) (h0 : Heap) (n0 : Nat) (Z0 : n0 ≤ h0.size) (F : Fld Z h0 a "com/example/extlint/extlint/model/Element" "resourceType" "Ljava/lang/String;" (.ref z)) (FP : Fld Z h0 a "com/example/extlint/extlint/model/Element" "parent" "Lcom/example/extlint/extlint/model/Element;" .null) :
    own_Met l Z (⟨"com/example/extlint/extlint/model/Element", "name", "()Ljava/lang/String;"⟩ : MethodName) prog_21_method_6_code 1 (some (.object "java/lang/String")) ({ frames := 0, cells := 0, slots := 0, locals := 0 } : Room) #[(.ref a)] h0 (fun v h L => v = some (.ref z) ∧ Fr n0 L ∧ h = h0) := by
  refine own_body (plainFor_of_name pn_com_example_extlint_extlint_model_Element) ?_
  intro p e s m below meth c T0 X0 e0 hx hby hml hown hnm hret hlk hZ
  replace hown : s.vm.findClass "com/example/extlint/extlint/model/Element" = some m.cls := hown
  have N0 := Fr.nil n0
  refine own_of (fun tt_ kk_ => castTop (ef_prog_21_method_6_codeR m a) kk_) ?_
  show own_Ends _ _ _ _ _ _ (T0.setTop (mkF m 0 #[.val (.ref a)] []))
  refine own_of (fun tt_ kk_ => XS.aloadN X0.here hx rfl (hb hby d_prog_21_method_6_code_0) rfl rfl kk_) ?_
  show own_Ends _ _ _ _ _ _ (T0.setTop (mkF m 1 #[.val (.ref a)] [(.ref a)]))
  obtain ⟨T35, X35, e35, st35⟩ := getF X0 hx hZ hown (host := "") (Or.inl (hw _ (List.mem_of_getElem? (i := 43) rfl))) Via.refl e0 FP (g := (mkF m 1 #[.val (.ref a)] [(.ref a)])) rfl rfl (hb hby d_prog_21_method_6_code_1)
  refine own_of st35 ?_
  show own_Ends _ _ _ _ _ _ (T35.setTop (mkF m 4 #[.val (.ref a)] [.null]))
  refine own_of (fun tt_ kk_ => XS.ifnonnullNo X35.here hx rfl (hb hby d_prog_21_method_6_code_4) rfl kk_) ?_
  show own_Ends _ _ _ _ _ _ (T35.setTop (mkF m 7 #[.val (.ref a)] []))
  refine own_of (fun tt_ kk_ => XS.aloadN X35.here hx rfl (hb hby d_prog_21_method_6_code_7) rfl rfl kk_) ?_
  show own_Ends _ _ _ _ _ _ (T35.setTop (mkF m 8 #[.val (.ref a)] [(.ref a)]))
  obtain ⟨T36, X36, e36, st36⟩ := getF X35 hx hZ hown (host := "") (Or.inl (hw _ (List.mem_of_getElem? (i := 78) rfl))) Via.refl e35 F (g := (mkF m 8 #[.val (.ref a)] [(.ref a)])) rfl rfl (hb hby d_prog_21_method_6_code_8)
  refine own_of st36 ?_
  show own_Ends _ _ _ _ _ _ (T36.setTop (mkF m 11 #[.val (.ref a)] [(.ref z)]))
  refine own_of (fun tt_ kk_ => XS.goto X36.here hx rfl (pc0 := 11) (pc' := 18) rfl (hb hby d_prog_21_method_6_code_11) (by decide) (by decide) kk_) ?_
  show own_Ends _ _ _ _ _ _ (T36.setTop (mkF m 18 #[.val (.ref a)] [(.ref z)]))
  refine own_retA X36 hx hlk e36 hret rfl rfl (hb hby d_prog_21_method_6_code_18) (by decide) (by decide) ?_
  exact ⟨rfl, N0, rfl⟩
theorem ef_prog_21_method_17_codeR (m : MethodId) (z0 : Addr) : entryFrame m #[(.ref z0)] 1 = mkF m 0 #[.val (.ref z0)] [] := by first | (simp [entryFrame, mkF, argsToLocals, Value.category]; done) | rfl
theorem d_prog_21_method_17_code_0 : decode prog_21_method_17_code 0 = .ok (.aload_n 0, 1) := by decide +kernel
theorem d_prog_21_method_17_code_1 : decode prog_21_method_17_code 1 = .ok (.getfield 173, 3) := by decide +kernel
theorem d_prog_21_method_17_code_4 : decode prog_21_method_17_code 4 = .ok (.ifnonnull 10, 3) := by decide +kernel
theorem d_prog_21_method_17_code_7 : decode prog_21_method_17_code 7 = .ok (.aload_n 0, 1) := by decide +kernel
theorem d_prog_21_method_17_code_8 : decode prog_21_method_17_code 8 = .ok (.getfield 184, 3) := by decide +kernel
theorem d_prog_21_method_17_code_11 : decode prog_21_method_17_code 11 = .ok (.ifCond .eq 7, 3) := by decide +kernel
theorem d_prog_21_method_17_code_18 : decode prog_21_method_17_code 18 = .ok (.iconst 0, 1) := by decide +kernel
theorem d_prog_21_method_17_code_19 : decode prog_21_method_17_code 19 = .ok (.ireturn, 1) := by decide +kernel
set_option maxRecDepth 65536 in
set_option maxHeartbeats 40000000 in
theorem rm_prim (l : Launch) (Z : State) (a0 : Array Value) (hw : ∀ d ∈ tables_1, d.before a0 Z = true) (a : Addr) (h0 : Heap) (n0 : Nat) (Z0 : n0 ≤ h0.size) (F : Fld Z h0 a "com/example/extlint/extlint/model/Element" "value" "Lcom/example/extlint/extlint/model/Primitive;" .null) (FP : Fld Z h0 a "com/example/extlint/extlint/model/Element" "primitive" "Z" (.int (0 : Int32))) :
    own_Met l Z (⟨"com/example/extlint/extlint/model/Element", "isPrimitive", "()Z"⟩ : MethodName) prog_21_method_17_code 1 (some .boolean) ({ frames := 0, cells := 0, slots := 0, locals := 0 } : Room) #[(.ref a)] h0 (fun v h L => v = some (.int (0 : Int32)) ∧ Fr n0 L ∧ h = h0) := by
  refine own_body (plainFor_of_name pn_com_example_extlint_extlint_model_Element) ?_
  intro p e s m below meth c T0 X0 e0 hx hby hml hown hnm hret hlk hZ
  replace hown : s.vm.findClass "com/example/extlint/extlint/model/Element" = some m.cls := hown
  have N0 := Fr.nil n0
  refine own_of (fun tt_ kk_ => castTop (ef_prog_21_method_17_codeR m a) kk_) ?_
  show own_Ends _ _ _ _ _ _ (T0.setTop (mkF m 0 #[.val (.ref a)] []))
  refine own_of (fun tt_ kk_ => XS.aloadN X0.here hx rfl (hb hby d_prog_21_method_17_code_0) rfl rfl kk_) ?_
  show own_Ends _ _ _ _ _ _ (T0.setTop (mkF m 1 #[.val (.ref a)] [(.ref a)]))
  obtain ⟨T37, X37, e37, st37⟩ := getF X0 hx hZ hown (host := "") (Or.inl (hw _ (List.mem_of_getElem? (i := 85) rfl))) Via.refl e0 F (g := (mkF m 1 #[.val (.ref a)] [(.ref a)])) rfl rfl (hb hby d_prog_21_method_17_code_1)
  refine own_of st37 ?_
  show own_Ends _ _ _ _ _ _ (T37.setTop (mkF m 4 #[.val (.ref a)] [.null]))
  refine own_of (fun tt_ kk_ => XS.ifnonnullNo X37.here hx rfl (hb hby d_prog_21_method_17_code_4) rfl kk_) ?_
  show own_Ends _ _ _ _ _ _ (T37.setTop (mkF m 7 #[.val (.ref a)] []))
  refine own_of (fun tt_ kk_ => XS.aloadN X37.here hx rfl (hb hby d_prog_21_method_17_code_7) rfl rfl kk_) ?_
  show own_Ends _ _ _ _ _ _ (T37.setTop (mkF m 8 #[.val (.ref a)] [(.ref a)]))
  obtain ⟨T38, X38, e38, st38⟩ := getF X37 hx hZ hown (host := "") (Or.inl (hw _ (List.mem_of_getElem? (i := 87) rfl))) Via.refl e37 FP (g := (mkF m 8 #[.val (.ref a)] [(.ref a)])) rfl rfl (hb hby d_prog_21_method_17_code_8)
  refine own_of st38 ?_
  show own_Ends _ _ _ _ _ _ (T38.setTop (mkF m 11 #[.val (.ref a)] [(.int (0 : Int32))]))
  refine own_of (fun tt_ kk_ => XS.ifYes X38.here hx rfl (pc0 := 11) (pc' := 18) rfl (hb hby d_prog_21_method_17_code_11) rfl ((if0 _ _).trans (teq (by decide : ((0 : Int32) = (0 : Int32)))).1) (by decide) (by decide) kk_) ?_
  show own_Ends _ _ _ _ _ _ (T38.setTop (mkF m 18 #[.val (.ref a)] []))
  refine own_of (fun tt_ kk_ => XS.iconst X38.here hx rfl (hb hby d_prog_21_method_17_code_18) kk_) ?_
  show own_Ends _ _ _ _ _ _ (T38.setTop (mkF m 19 #[.val (.ref a)] [(.int (0 : Int32))]))
  refine own_retN X38 hx hlk e38 (t := .boolean) hret (by simp) (z' := (0 : Int32)) rfl (hb hby d_prog_21_method_17_code_19) (by decide) (by decide) ?_
  exact ⟨rfl, N0, rfl⟩
theorem ef_prog_21_method_25_codeRR (m : MethodId) (z0 : Addr) (z1 : Addr) : entryFrame m #[(.ref z0), (.ref z1)] 2 = mkF m 0 #[.val (.ref z0), .val (.ref z1)] [] := by first | (simp [entryFrame, mkF, argsToLocals, Value.category]; done) | rfl
theorem d_prog_21_method_25_code_0 : decode prog_21_method_25_code 0 = .ok (.aload_n 0, 1) := by decide +kernel
theorem d_prog_21_method_25_code_1 : decode prog_21_method_25_code 1 = .ok (.aload_n 1, 1) := by decide +kernel
theorem d_prog_21_method_25_code_2 : decode prog_21_method_25_code 2 = .ok (.putfield 61, 3) := by decide +kernel
theorem d_prog_21_method_25_code_5 : decode prog_21_method_25_code 5 = .ok (.return_, 1) := by decide +kernel
set_option maxRecDepth 65536 in
set_option maxHeartbeats 40000000 in
theorem rm_setrt (l : Launch) (Z : State) (a0 : Array Value) (hw : ∀ d ∈ tables_1, d.before a0 Z = true) (a u : Addr) (h0 : Heap) (n0 : Nat) (Z0 : n0 ≤ h0.size) (E : Exa Z h0 a "com/example/extlint/extlint/model/Element") (F : Fld Z h0 a "com/example/extlint/extlint/model/Element" "resourceType" "Ljava/lang/String;" .null) (FP : Fld Z h0 a "com/example/extlint/extlint/model/Element" "parent" "Lcom/example/extlint/extlint/model/Element;" .null) (g_a : n0 ≤ a) :
    own_Met l Z (⟨"com/example/extlint/extlint/model/Element", "setResourceType", "(Ljava/lang/String;)V"⟩ : MethodName) prog_21_method_25_code 2 none ({ frames := 0, cells := 0, slots := 0, locals := 0 } : Room) #[(.ref a), (.ref u)] h0 (fun v h L => v = none ∧ Fr n0 L ∧ Keep h0 h [a] ∧ Exa Z h a "com/example/extlint/extlint/model/Element" ∧ Fld Z h a "com/example/extlint/extlint/model/Element" "parent" "Lcom/example/extlint/extlint/model/Element;" .null ∧ Fld Z h a "com/example/extlint/extlint/model/Element" "resourceType" "Ljava/lang/String;" (.ref u)) := by
  refine own_body (plainFor_of_name pn_com_example_extlint_extlint_model_Element) ?_
  intro p e s m below meth c T0 X0 e0 hx hby hml hown hnm hret hlk hZ
  replace hown : s.vm.findClass "com/example/extlint/extlint/model/Element" = some m.cls := hown
  have N0 := Fr.nil n0
  refine own_of (fun tt_ kk_ => castTop (ef_prog_21_method_25_codeRR m a u) kk_) ?_
  have K := Keep.refl h0 [a]
  show own_Ends _ _ _ _ _ _ (T0.setTop (mkF m 0 #[.val (.ref a), .val (.ref u)] []))
  refine own_of (fun tt_ kk_ => XS.aloadN X0.here hx rfl (hb hby d_prog_21_method_25_code_0) rfl rfl kk_) ?_
  show own_Ends _ _ _ _ _ _ (T0.setTop (mkF m 1 #[.val (.ref a), .val (.ref u)] [(.ref a)]))
  refine own_of (fun tt_ kk_ => XS.aloadN X0.here hx rfl (hb hby d_prog_21_method_25_code_1) rfl rfl kk_) ?_
  show own_Ends _ _ _ _ _ _ (T0.setTop (mkF m 2 #[.val (.ref a), .val (.ref u)] [(.ref u), (.ref a)]))
  obtain ⟨T39, h39, X39, e39, W39, st39⟩ := putF X0 hx hZ hown (host := "") (Or.inl (hw _ (List.mem_of_getElem? (i := 78) rfl))) Via.refl e0 F E (Or.inl (hw _ (List.mem_of_getElem? (i := 79) rfl))) (hw _ (List.mem_of_getElem? (i := 8) rfl)) (ty := (.object "java/lang/String")) (by decide) rfl rfl (g := (mkF m 2 #[.val (.ref a), .val (.ref u)] [(.ref u), (.ref a)])) rfl rfl (hb hby d_prog_21_method_25_code_2)
  replace F := F.same W39
  replace E := E.wr W39
  replace FP := FP.other W39 (Or.inr (slot_ne (Or.inr (hw _ (List.mem_of_getElem? (i := 44) rfl))) (Or.inl (hw _ (List.mem_of_getElem? (i := 79) rfl))) (by decide) (t := (.object "com/example/extlint/extlint/model/Element")) (t' := (.object "java/lang/String")) (by decide) (by decide)))
  have N39 := Fr.snoc X39 N0 g_a
  replace K := K.wr W39 (Or.inl (List.mem_of_getElem? (i := 0) rfl))
  refine own_of st39 ?_
  show own_Ends _ _ _ _ _ _ (T39.setTop (mkF m 5 #[.val (.ref a), .val (.ref u)] []))
  refine own_retV X39 hx hlk e39 hret (hb hby d_prog_21_method_25_code_5) (by decide) (by decide) ?_
  exact ⟨rfl, N39, K, E, FP, F⟩
theorem ef_jdk_42_method_66_codeRR (m : MethodId) (z0 : Addr) (z1 : Addr) : entryFrame m #[(.ref z0), (.ref z1)] 3 = mkF m 0 #[.val (.ref z0), .val (.ref z1), .unset] [] := by first | (simp [entryFrame, mkF, argsToLocals, Value.category]; done) | rfl
theorem d_jdk_42_method_66_code_0 : decode jdk_42_method_66_code 0 = .ok (.aload_n 0, 1) := by decide +kernel
theorem d_jdk_42_method_66_code_1 : decode jdk_42_method_66_code 1 = .ok (.aload_n 1, 1) := by decide +kernel
theorem d_jdk_42_method_66_code_2 : decode jdk_42_method_66_code 2 = .ok (.if_acmp .ne 5, 3) := by decide +kernel
theorem d_jdk_42_method_66_code_5 : decode jdk_42_method_66_code 5 = .ok (.iconst 1, 1) := by decide +kernel
theorem d_jdk_42_method_66_code_6 : decode jdk_42_method_66_code 6 = .ok (.ireturn, 1) := by decide +kernel
set_option maxRecDepth 65536 in
set_option maxHeartbeats 40000000 in
theorem rm_eqself (l : Launch) (Z : State) (a0 : Array Value) (hw : ∀ d ∈ tables_1, d.before a0 Z = true) (a : Addr) (h0 : Heap) (n0 : Nat) (Z0 : n0 ≤ h0.size) :
    own_Met l Z (⟨"java/lang/String", "equals", "(Ljava/lang/Object;)Z"⟩ : MethodName) jdk_42_method_66_code 3 (some .boolean) ({ frames := 0, cells := 0, slots := 0, locals := 0 } : Room) #[(.ref a), (.ref a)] h0 (fun v h L => v = some (.int (1 : Int32)) ∧ Fr n0 L ∧ h = h0) := by
  refine own_body (plainFor_of_name pn_java_lang_String) ?_
  intro p e s m below meth c T0 X0 e0 hx hby hml hown hnm hret hlk hZ
  replace hown : s.vm.findClass "java/lang/String" = some m.cls := hown
  have N0 := Fr.nil n0
  refine own_of (fun tt_ kk_ => castTop (ef_jdk_42_method_66_codeRR m a a) kk_) ?_
  show own_Ends _ _ _ _ _ _ (T0.setTop (mkF m 0 #[.val (.ref a), .val (.ref a), .unset] []))
  refine own_of (fun tt_ kk_ => XS.aloadN X0.here hx rfl (hb hby d_jdk_42_method_66_code_0) rfl rfl kk_) ?_
  show own_Ends _ _ _ _ _ _ (T0.setTop (mkF m 1 #[.val (.ref a), .val (.ref a), .unset] [(.ref a)]))
  refine own_of (fun tt_ kk_ => XS.aloadN X0.here hx rfl (hb hby d_jdk_42_method_66_code_1) rfl rfl kk_) ?_
  show own_Ends _ _ _ _ _ _ (T0.setTop (mkF m 2 #[.val (.ref a), .val (.ref a), .unset] [(.ref a), (.ref a)]))
  refine own_of (fun tt_ kk_ => Jvm.RoadKit.acmp (g := (mkF m 2 #[.val (.ref a), .val (.ref a), .unset] [(.ref a), (.ref a)])) X0 hx rfl rfl rfl (pc0 := 2) (pc' := 5) (same := true) rfl (hb hby d_jdk_42_method_66_code_2) rfl (decide_eq_true rfl) (by decide) (by decide) kk_) ?_
  show own_Ends _ _ _ _ _ _ (T0.setTop (mkF m 5 #[.val (.ref a), .val (.ref a), .unset] []))
  refine own_of (fun tt_ kk_ => XS.iconst X0.here hx rfl (hb hby d_jdk_42_method_66_code_5) kk_) ?_
  show own_Ends _ _ _ _ _ _ (T0.setTop (mkF m 6 #[.val (.ref a), .val (.ref a), .unset] [(.int (1 : Int32))]))
  refine own_retN X0 hx hlk e0 (t := .boolean) hret (by simp) (z' := (1 : Int32)) rfl (hb hby d_jdk_42_method_66_code_6) (by decide) (by decide) ?_
  exact ⟨rfl, N0, rfl⟩
theorem pn_java_util_Collections_UnmodifiableCollection : plainName "java/util/Collections$UnmodifiableCollection" = true := by first | (simp [plainName, overriddenIn]; done) | decide +kernel
theorem ef_jdk_119_method_1_codeRR (m : MethodId) (z0 : Addr) (z1 : Addr) : entryFrame m #[(.ref z0), (.ref z1)] 2 = mkF m 0 #[.val (.ref z0), .val (.ref z1)] [] := by first | (simp [entryFrame, mkF, argsToLocals, Value.category]; done) | rfl
theorem d_jdk_119_method_1_code_0 : decode jdk_119_method_1_code 0 = .ok (.aload_n 0, 1) := by decide +kernel
theorem d_jdk_119_method_1_code_1 : decode jdk_119_method_1_code 1 = .ok (.invokespecial 1, 3) := by decide +kernel
theorem d_jdk_119_method_1_code_4 : decode jdk_119_method_1_code 4 = .ok (.aload_n 1, 1) := by decide +kernel
theorem d_jdk_119_method_1_code_5 : decode jdk_119_method_1_code 5 = .ok (.ifnonnull 11, 3) := by decide +kernel
theorem d_jdk_119_method_1_code_16 : decode jdk_119_method_1_code 16 = .ok (.aload_n 0, 1) := by decide +kernel
theorem d_jdk_119_method_1_code_17 : decode jdk_119_method_1_code 17 = .ok (.aload_n 1, 1) := by decide +kernel
theorem d_jdk_119_method_1_code_18 : decode jdk_119_method_1_code 18 = .ok (.putfield 10, 3) := by decide +kernel
theorem d_jdk_119_method_1_code_21 : decode jdk_119_method_1_code 21 = .ok (.return_, 1) := by decide +kernel
set_option maxRecDepth 65536 in
set_option maxHeartbeats 40000000 in
theorem rm_uc (l : Launch) (Z : State) (a0 : Array Value) (hw : ∀ d ∈ tables_1, d.before a0 Z = true) (a u : Addr) (h0 : Heap) (n0 : Nat) (Z0 : n0 ≤ h0.size) (E : Exa Z h0 a "java/util/Collections$UnmodifiableRandomAccessList") (F_c : Fld Z h0 a "java/util/Collections$UnmodifiableCollection" "c" "Ljava/util/Collection;" .null) (F_list : Fld Z h0 a "java/util/Collections$UnmodifiableList" "list" "Ljava/util/List;" .null) (g_a : n0 ≤ a) :
    own_Met l Z (⟨"java/util/Collections$UnmodifiableCollection", "<init>", "(Ljava/util/Collection;)V"⟩ : MethodName) jdk_119_method_1_code 2 none ({ frames := 1, cells := 0, slots := 0, locals := 12 } : Room) #[(.ref a), (.ref u)] h0 (fun v h L => v = none ∧ Fr n0 L ∧ Keep h0 h [a] ∧ Exa Z h a "java/util/Collections$UnmodifiableRandomAccessList" ∧ Fld Z h a "java/util/Collections$UnmodifiableCollection" "c" "Ljava/util/Collection;" (.ref u) ∧ Fld Z h a "java/util/Collections$UnmodifiableList" "list" "Ljava/util/List;" .null) := by
  refine own_body (plainFor_of_name pn_java_util_Collections_UnmodifiableCollection) ?_
  intro p e s m below meth c T0 X0 e0 hx hby hml hown hnm hret hlk hZ
  replace hown : s.vm.findClass "java/util/Collections$UnmodifiableCollection" = some m.cls := hown
  have N0 := Fr.nil n0
  refine own_of (fun tt_ kk_ => castTop (ef_jdk_119_method_1_codeRR m a u) kk_) ?_
  have K := Keep.refl h0 [a]
  show own_Ends _ _ _ _ _ _ (T0.setTop (mkF m 0 #[.val (.ref a), .val (.ref u)] []))
  refine own_of (fun tt_ kk_ => XS.aloadN X0.here hx rfl (hb hby d_jdk_119_method_1_code_0) rfl rfl kk_) ?_
  show own_Ends _ _ _ _ _ _ (T0.setTop (mkF m 1 #[.val (.ref a), .val (.ref u)] [(.ref a)]))
  obtain ⟨T40, X40, e40, st40⟩ := initO X0 hx hZ hown (hw _ (List.mem_of_getElem? (i := 132) rfl)) (hw _ (List.mem_of_getElem? (i := 13) rfl)) (hw _ (List.mem_of_getElem? (i := 14) rfl)) e0 (g := (mkF m 1 #[.val (.ref a), .val (.ref u)] [(.ref a)])) rfl (by rw [hml]; rfl) rfl (hb hby d_jdk_119_method_1_code_1) (by decide) (W := 0) (by show 2 * 0 + _ ≤ _; exact Nat.le_of_eq rfl) (by decide)
  refine own_of st40 ?_
  show own_Ends _ _ _ _ _ _ (T40.setTop (mkF m 4 #[.val (.ref a), .val (.ref u)] []))
  refine own_of (fun tt_ kk_ => XS.aloadN X40.here hx rfl (hb hby d_jdk_119_method_1_code_4) rfl rfl kk_) ?_
  show own_Ends _ _ _ _ _ _ (T40.setTop (mkF m 5 #[.val (.ref a), .val (.ref u)] [(.ref u)]))
  refine own_of (fun tt_ kk_ => XS.ifnonnullYes X40.here hx rfl (pc0 := 5) (pc' := 16) rfl (hb hby d_jdk_119_method_1_code_5) rfl (by decide) (by decide) kk_) ?_
  show own_Ends _ _ _ _ _ _ (T40.setTop (mkF m 16 #[.val (.ref a), .val (.ref u)] []))
  refine own_of (fun tt_ kk_ => XS.aloadN X40.here hx rfl (hb hby d_jdk_119_method_1_code_16) rfl rfl kk_) ?_
  show own_Ends _ _ _ _ _ _ (T40.setTop (mkF m 17 #[.val (.ref a), .val (.ref u)] [(.ref a)]))
  refine own_of (fun tt_ kk_ => XS.aloadN X40.here hx rfl (hb hby d_jdk_119_method_1_code_17) rfl rfl kk_) ?_
  show own_Ends _ _ _ _ _ _ (T40.setTop (mkF m 18 #[.val (.ref a), .val (.ref u)] [(.ref u), (.ref a)]))
  obtain ⟨T41, h41, X41, e41, W41, st41⟩ := putF X40 hx hZ hown (host := "") (Or.inl (hw _ (List.mem_of_getElem? (i := 133) rfl))) Via.refl e40 F_c E (Or.inr ⟨(hw _ (List.mem_of_getElem? (i := 134) rfl)), rfl, hnm⟩) (hw _ (List.mem_of_getElem? (i := 115) rfl)) (ty := (.object "java/util/Collection")) (by decide) rfl rfl (g := (mkF m 18 #[.val (.ref a), .val (.ref u)] [(.ref u), (.ref a)])) rfl rfl (hb hby d_jdk_119_method_1_code_18)
  replace F_c := F_c.same W41
  replace E := E.wr W41
  replace F_list := F_list.other W41 (Or.inr (slot_ne (Or.inr (hw _ (List.mem_of_getElem? (i := 136) rfl))) (Or.inr (hw _ (List.mem_of_getElem? (i := 134) rfl))) (by decide) (t := (.object "java/util/List")) (t' := (.object "java/util/Collection")) (by decide) (by decide)))
  have N41 := Fr.snoc X41 N0 g_a
  replace K := K.wr W41 (Or.inl (List.mem_of_getElem? (i := 0) rfl))
  refine own_of st41 ?_
  show own_Ends _ _ _ _ _ _ (T41.setTop (mkF m 21 #[.val (.ref a), .val (.ref u)] []))
  refine own_retV X41 hx hlk e41 hret (hb hby d_jdk_119_method_1_code_21) (by decide) (by decide) ?_
  exact ⟨rfl, N41, K, E, F_c, F_list⟩
theorem pn_java_util_Collections_UnmodifiableList : plainName "java/util/Collections$UnmodifiableList" = true := by first | (simp [plainName, overriddenIn]; done) | decide +kernel
theorem ef_jdk_120_method_1_codeRR (m : MethodId) (z0 : Addr) (z1 : Addr) : entryFrame m #[(.ref z0), (.ref z1)] 2 = mkF m 0 #[.val (.ref z0), .val (.ref z1)] [] := by first | (simp [entryFrame, mkF, argsToLocals, Value.category]; done) | rfl
theorem d_jdk_120_method_1_code_0 : decode jdk_120_method_1_code 0 = .ok (.aload_n 0, 1) := by decide +kernel
theorem d_jdk_120_method_1_code_1 : decode jdk_120_method_1_code 1 = .ok (.aload_n 1, 1) := by decide +kernel
theorem pd__Ljava_util_Collection__r_V : parseMethodDescriptor "(Ljava/util/Collection;)V" = some ⟨[(.object "java/util/Collection")], none⟩ := by decide +kernel
theorem d_jdk_120_method_1_code_2 : decode jdk_120_method_1_code 2 = .ok (.invokespecial 1, 3) := by decide +kernel
theorem d_jdk_120_method_1_code_5 : decode jdk_120_method_1_code 5 = .ok (.aload_n 0, 1) := by decide +kernel
theorem d_jdk_120_method_1_code_6 : decode jdk_120_method_1_code 6 = .ok (.aload_n 1, 1) := by decide +kernel
theorem d_jdk_120_method_1_code_7 : decode jdk_120_method_1_code 7 = .ok (.putfield 7, 3) := by decide +kernel
theorem d_jdk_120_method_1_code_10 : decode jdk_120_method_1_code 10 = .ok (.return_, 1) := by decide +kernel
set_option maxRecDepth 65536 in
set_option maxHeartbeats 40000000 in
theorem rm_ul (l : Launch) (Z : State) (a0 : Array Value) (hw : ∀ d ∈ tables_1, d.before a0 Z = true) (a u : Addr) (h0 : Heap) (n0 : Nat) (Z0 : n0 ≤ h0.size) (E : Exa Z h0 a "java/util/Collections$UnmodifiableRandomAccessList") (F_c : Fld Z h0 a "java/util/Collections$UnmodifiableCollection" "c" "Ljava/util/Collection;" .null) (F_list : Fld Z h0 a "java/util/Collections$UnmodifiableList" "list" "Ljava/util/List;" .null) (g_a : n0 ≤ a) :
    own_Met l Z (⟨"java/util/Collections$UnmodifiableList", "<init>", "(Ljava/util/List;)V"⟩ : MethodName) jdk_120_method_1_code 2 none ({ frames := 2, cells := 0, slots := 0, locals := 25 } : Room) #[(.ref a), (.ref u)] h0 (fun v h L => v = none ∧ Fr n0 L ∧ Keep h0 h [a] ∧ Exa Z h a "java/util/Collections$UnmodifiableRandomAccessList" ∧ Fld Z h a "java/util/Collections$UnmodifiableCollection" "c" "Ljava/util/Collection;" (.ref u) ∧ Fld Z h a "java/util/Collections$UnmodifiableList" "list" "Ljava/util/List;" (.ref u)) := by
  refine own_body (plainFor_of_name pn_java_util_Collections_UnmodifiableList) ?_
  intro p e s m below meth c T0 X0 e0 hx hby hml hown hnm hret hlk hZ
  replace hown : s.vm.findClass "java/util/Collections$UnmodifiableList" = some m.cls := hown
  have N0 := Fr.nil n0
  refine own_of (fun tt_ kk_ => castTop (ef_jdk_120_method_1_codeRR m a u) kk_) ?_
  have K := Keep.refl h0 [a]
  show own_Ends _ _ _ _ _ _ (T0.setTop (mkF m 0 #[.val (.ref a), .val (.ref u)] []))
  refine own_of (fun tt_ kk_ => XS.aloadN X0.here hx rfl (hb hby d_jdk_120_method_1_code_0) rfl rfl kk_) ?_
  show own_Ends _ _ _ _ _ _ (T0.setTop (mkF m 1 #[.val (.ref a), .val (.ref u)] [(.ref a)]))
  refine own_of (fun tt_ kk_ => XS.aloadN X0.here hx rfl (hb hby d_jdk_120_method_1_code_1) rfl rfl kk_) ?_
  show own_Ends _ _ _ _ _ _ (T0.setTop (mkF m 2 #[.val (.ref a), .val (.ref u)] [(.ref u), (.ref a)]))
  obtain ⟨v42, T42, L42, h42, X42, e42, Q42, st42⟩ := own_special X0 hx hZ hown e0 (b := a) rfl (hw _ (List.mem_of_getElem? (i := 126) rfl)) (hw _ (List.mem_of_getElem? (i := 127) rfl)) (hw _ (List.mem_of_getElem? (i := 130) rfl)) (hw _ (List.mem_of_getElem? (i := 131) rfl)) (by decide) (argsL := [(.ref u)]) (rest := []) (rm_uc l Z a0 hw a u h0 n0 (Nat.le_trans Z0 K.1) E F_c F_list g_a) (g := (mkF m 2 #[.val (.ref a), .val (.ref u)] [(.ref u), (.ref a)])) rfl (by rw [hml]; rfl) (lenOf pd__Ljava_util_Collection__r_V rfl) rfl (by decide) (Nat.le_of_ble_eq_true rfl) (by decide) (by decide) (hb hby d_jdk_120_method_1_code_2)
  obtain ⟨rfl, Nq42, Kq42, E', F_c', F_list'⟩ := Q42
  replace E := E.keep Kq42
  clear E
  have E := E'
  have F_c := F_c'
  have F_list := F_list'
  replace K := K.trans Kq42 (allS (Or.inl (List.mem_of_getElem? (i := 0) rfl)) all0)
  have N42 := Fr.app N0 Nq42
  refine own_of st42 ?_
  show own_Ends _ _ _ _ _ _ (T42.setTop (mkF m 5 #[.val (.ref a), .val (.ref u)] []))
  refine own_of (fun tt_ kk_ => XS.aloadN X42.here hx rfl (hb hby d_jdk_120_method_1_code_5) rfl rfl kk_) ?_
  show own_Ends _ _ _ _ _ _ (T42.setTop (mkF m 6 #[.val (.ref a), .val (.ref u)] [(.ref a)]))
  refine own_of (fun tt_ kk_ => XS.aloadN X42.here hx rfl (hb hby d_jdk_120_method_1_code_6) rfl rfl kk_) ?_
  show own_Ends _ _ _ _ _ _ (T42.setTop (mkF m 7 #[.val (.ref a), .val (.ref u)] [(.ref u), (.ref a)]))
  obtain ⟨T43, h43, X43, e43, W43, st43⟩ := putF X42 hx hZ hown (host := "") (Or.inl (hw _ (List.mem_of_getElem? (i := 135) rfl))) Via.refl e42 F_list E (Or.inr ⟨(hw _ (List.mem_of_getElem? (i := 136) rfl)), rfl, hnm⟩) (hw _ (List.mem_of_getElem? (i := 115) rfl)) (ty := (.object "java/util/List")) (by decide) rfl rfl (g := (mkF m 7 #[.val (.ref a), .val (.ref u)] [(.ref u), (.ref a)])) rfl rfl (hb hby d_jdk_120_method_1_code_7)
  replace F_list := F_list.same W43
  replace E := E.wr W43
  replace F_c := F_c.other W43 (Or.inr (slot_ne (Or.inr (hw _ (List.mem_of_getElem? (i := 134) rfl))) (Or.inr (hw _ (List.mem_of_getElem? (i := 136) rfl))) (by decide) (t := (.object "java/util/Collection")) (t' := (.object "java/util/List")) (by decide) (by decide)))
  have N43 := Fr.snoc X43 N42 g_a
  replace K := K.wr W43 (Or.inl (List.mem_of_getElem? (i := 0) rfl))
  refine own_of st43 ?_
  show own_Ends _ _ _ _ _ _ (T43.setTop (mkF m 10 #[.val (.ref a), .val (.ref u)] []))
  refine own_retV X43 hx hlk e43 hret (hb hby d_jdk_120_method_1_code_10) (by decide) (by decide) ?_
  exact ⟨rfl, N43, K, E, F_c, F_list⟩
theorem pn_java_util_Collections_UnmodifiableRandomAccessList : plainName "java/util/Collections$UnmodifiableRandomAccessList" = true := by first | (simp [plainName, overriddenIn]; done) | decide +kernel
theorem ef_jdk_121_method_1_codeRR (m : MethodId) (z0 : Addr) (z1 : Addr) : entryFrame m #[(.ref z0), (.ref z1)] 2 = mkF m 0 #[.val (.ref z0), .val (.ref z1)] [] := by first | (simp [entryFrame, mkF, argsToLocals, Value.category]; done) | rfl
theorem d_jdk_121_method_1_code_0 : decode jdk_121_method_1_code 0 = .ok (.aload_n 0, 1) := by decide +kernel
theorem d_jdk_121_method_1_code_1 : decode jdk_121_method_1_code 1 = .ok (.aload_n 1, 1) := by decide +kernel
theorem pd__Ljava_util_List__r_V : parseMethodDescriptor "(Ljava/util/List;)V" = some ⟨[(.object "java/util/List")], none⟩ := by decide +kernel
theorem d_jdk_121_method_1_code_2 : decode jdk_121_method_1_code 2 = .ok (.invokespecial 1, 3) := by decide +kernel
theorem d_jdk_121_method_1_code_5 : decode jdk_121_method_1_code 5 = .ok (.return_, 1) := by decide +kernel
set_option maxRecDepth 65536 in
set_option maxHeartbeats 40000000 in
theorem rm_ur (l : Launch) (Z : State) (a0 : Array Value) (hw : ∀ d ∈ tables_1, d.before a0 Z = true) (a u : Addr) (h0 : Heap) (n0 : Nat) (Z0 : n0 ≤ h0.size) (E : Exa Z h0 a "java/util/Collections$UnmodifiableRandomAccessList") (F_c : Fld Z h0 a "java/util/Collections$UnmodifiableCollection" "c" "Ljava/util/Collection;" .null) (F_list : Fld Z h0 a "java/util/Collections$UnmodifiableList" "list" "Ljava/util/List;" .null) (g_a : n0 ≤ a) :
    own_Met l Z (⟨"java/util/Collections$UnmodifiableRandomAccessList", "<init>", "(Ljava/util/List;)V"⟩ : MethodName) jdk_121_method_1_code 2 none ({ frames := 3, cells := 0, slots := 0, locals := 38 } : Room) #[(.ref a), (.ref u)] h0 (fun v h L => v = none ∧ Fr n0 L ∧ Keep h0 h [a] ∧ Exa Z h a "java/util/Collections$UnmodifiableRandomAccessList" ∧ Fld Z h a "java/util/Collections$UnmodifiableCollection" "c" "Ljava/util/Collection;" (.ref u) ∧ Fld Z h a "java/util/Collections$UnmodifiableList" "list" "Ljava/util/List;" (.ref u)) := by
  refine own_body (plainFor_of_name pn_java_util_Collections_UnmodifiableRandomAccessList) ?_
  intro p e s m below meth c T0 X0 e0 hx hby hml hown hnm hret hlk hZ
  replace hown : s.vm.findClass "java/util/Collections$UnmodifiableRandomAccessList" = some m.cls := hown
  have N0 := Fr.nil n0
  refine own_of (fun tt_ kk_ => castTop (ef_jdk_121_method_1_codeRR m a u) kk_) ?_
  have K := Keep.refl h0 [a]
  show own_Ends _ _ _ _ _ _ (T0.setTop (mkF m 0 #[.val (.ref a), .val (.ref u)] []))
  refine own_of (fun tt_ kk_ => XS.aloadN X0.here hx rfl (hb hby d_jdk_121_method_1_code_0) rfl rfl kk_) ?_
  show own_Ends _ _ _ _ _ _ (T0.setTop (mkF m 1 #[.val (.ref a), .val (.ref u)] [(.ref a)]))
  refine own_of (fun tt_ kk_ => XS.aloadN X0.here hx rfl (hb hby d_jdk_121_method_1_code_1) rfl rfl kk_) ?_
  show own_Ends _ _ _ _ _ _ (T0.setTop (mkF m 2 #[.val (.ref a), .val (.ref u)] [(.ref u), (.ref a)]))
  obtain ⟨v44, T44, L44, h44, X44, e44, Q44, st44⟩ := own_special X0 hx hZ hown e0 (b := a) rfl (hw _ (List.mem_of_getElem? (i := 120) rfl)) (hw _ (List.mem_of_getElem? (i := 121) rfl)) (hw _ (List.mem_of_getElem? (i := 124) rfl)) (hw _ (List.mem_of_getElem? (i := 125) rfl)) (by decide) (argsL := [(.ref u)]) (rest := []) (rm_ul l Z a0 hw a u h0 n0 (Nat.le_trans Z0 K.1) E F_c F_list g_a) (g := (mkF m 2 #[.val (.ref a), .val (.ref u)] [(.ref u), (.ref a)])) rfl (by rw [hml]; rfl) (lenOf pd__Ljava_util_List__r_V rfl) rfl (by decide) (Nat.le_of_ble_eq_true rfl) (by decide) (by decide) (hb hby d_jdk_121_method_1_code_2)
  obtain ⟨rfl, Nq44, Kq44, E', F_c', F_list'⟩ := Q44
  replace E := E.keep Kq44
  clear E
  have E := E'
  have F_c := F_c'
  have F_list := F_list'
  replace K := K.trans Kq44 (allS (Or.inl (List.mem_of_getElem? (i := 0) rfl)) all0)
  have N44 := Fr.app N0 Nq44
  refine own_of st44 ?_
  show own_Ends _ _ _ _ _ _ (T44.setTop (mkF m 5 #[.val (.ref a), .val (.ref u)] []))
  refine own_retV X44 hx hlk e44 hret (hb hby d_jdk_121_method_1_code_5) (by decide) (by decide) ?_
  exact ⟨rfl, N44, K, E, F_c, F_list⟩
theorem pn_java_util_Collections : plainName "java/util/Collections" = true := by first | (simp [plainName, overriddenIn]; done) | decide +kernel
theorem ef_jdk_79_method_35_codeR (m : MethodId) (z0 : Addr) : entryFrame m #[(.ref z0)] 1 = mkF m 0 #[.val (.ref z0)] [] := by first | (simp [entryFrame, mkF, argsToLocals, Value.category]; done) | rfl
theorem d_jdk_79_method_35_code_0 : decode jdk_79_method_35_code 0 = .ok (.aload_n 0, 1) := by decide +kernel
theorem d_jdk_79_method_35_code_1 : decode jdk_79_method_35_code 1 = .ok (.invokeinterface 211 1, 5) := by decide +kernel
theorem d_jdk_79_method_35_code_6 : decode jdk_79_method_35_code 6 = .ok (.ldc 212, 2) := by decide +kernel
theorem d_jdk_79_method_35_code_8 : decode jdk_79_method_35_code 8 = .ok (.if_acmp .eq 14, 3) := by decide +kernel
theorem d_jdk_79_method_35_code_11 : decode jdk_79_method_35_code 11 = .ok (.aload_n 0, 1) := by decide +kernel
theorem d_jdk_79_method_35_code_12 : decode jdk_79_method_35_code 12 = .ok (.invokeinterface 214 1, 5) := by decide +kernel
theorem d_jdk_79_method_35_code_17 : decode jdk_79_method_35_code 17 = .ok (.ldc 215, 2) := by decide +kernel
theorem d_jdk_79_method_35_code_19 : decode jdk_79_method_35_code 19 = .ok (.if_acmp .ne 5, 3) := by decide +kernel
theorem d_jdk_79_method_35_code_24 : decode jdk_79_method_35_code 24 = .ok (.aload_n 0, 1) := by decide +kernel
theorem d_jdk_79_method_35_code_25 : decode jdk_79_method_35_code 25 = .ok (.instanceof 13, 3) := by decide +kernel
theorem d_jdk_79_method_35_code_28 : decode jdk_79_method_35_code 28 = .ok (.ifCond .eq 14, 3) := by decide +kernel
theorem d_jdk_79_method_35_code_31 : decode jdk_79_method_35_code 31 = .ok (.new 215, 3) := by decide +kernel
theorem d_jdk_79_method_35_code_34 : decode jdk_79_method_35_code 34 = .ok (.dup, 1) := by decide +kernel
theorem d_jdk_79_method_35_code_35 : decode jdk_79_method_35_code 35 = .ok (.aload_n 0, 1) := by decide +kernel
theorem d_jdk_79_method_35_code_36 : decode jdk_79_method_35_code 36 = .ok (.invokespecial 217, 3) := by decide +kernel
theorem d_jdk_79_method_35_code_39 : decode jdk_79_method_35_code 39 = .ok (.goto 11, 3) := by decide +kernel
theorem d_jdk_79_method_35_code_50 : decode jdk_79_method_35_code 50 = .ok (.areturn, 1) := by decide +kernel
set_option maxRecDepth 65536 in
set_option maxHeartbeats 40000000 in
theorem rm_unm (l : Launch) (Z : State) (a0 : Array Value) (hw : ∀ d ∈ tables_1, d.before a0 Z = true) (b mA mL mR : Addr) (h0 : Heap) (n0 : Nat) (Z0 : n0 ≤ h0.size) (E : Exa Z h0 b "java/util/ArrayList") (M_mA : Mir Z "java/util/ArrayList" mA) (M_mL : Mir Z "java/util/Collections$UnmodifiableList" mL) (M_mR : Mir Z "java/util/Collections$UnmodifiableRandomAccessList" mR) :
    own_Met l Z (⟨"java/util/Collections", "unmodifiableList", "(Ljava/util/List;)Ljava/util/List;"⟩ : MethodName) jdk_79_method_35_code 1 (some (.object "java/util/List")) ({ frames := 4, cells := 1, slots := 2, locals := 52 } : Room) #[(.ref b)] h0 (fun v h L => ∃ u : Addr, v = some (.ref u) ∧ Fr n0 L ∧ Keep h0 h [] ∧ h0.size ≤ u ∧ Exa Z h u "java/util/Collections$UnmodifiableRandomAccessList" ∧ Fld Z h u "java/util/Collections$UnmodifiableCollection" "c" "Ljava/util/Collection;" (.ref b)) := by
  refine own_body (plainFor_of_name pn_java_util_Collections) ?_
  intro p e s m below meth c T0 X0 e0 hx hby hml hown hnm hret hlk hZ
  replace hown : s.vm.findClass "java/util/Collections" = some m.cls := hown
  have N0 := Fr.nil n0
  refine own_of (fun tt_ kk_ => castTop (ef_jdk_79_method_35_codeR m b) kk_) ?_
  have K := Keep.refl h0 []
  have neL : mA ≠ mL := M_mA.ne M_mL (by decide)
  have neR : mA ≠ mR := M_mA.ne M_mR (by decide)
  show own_Ends _ _ _ _ _ _ (T0.setTop (mkF m 0 #[.val (.ref b)] []))
  refine own_of (fun tt_ kk_ => XS.aloadN X0.here hx rfl (hb hby d_jdk_79_method_35_code_0) rfl rfl kk_) ?_
  show own_Ends _ _ _ _ _ _ (T0.setTop (mkF m 1 #[.val (.ref b)] [(.ref b)]))
  obtain ⟨T45, X45, e45, st45⟩ := own_getClassI X0 hx hZ hown e0 E M_mA (hw _ (List.mem_of_getElem? (i := 98) rfl)) (hw _ (List.mem_of_getElem? (i := 99) rfl)) (Jvm.Free.ULB.iface_rides hZ.alike (hw _ (List.mem_of_getElem? (i := 100) rfl))) (hw _ (List.mem_of_getElem? (i := 101) rfl)) (hw _ (List.mem_of_getElem? (i := 102) rfl)) (hw _ (List.mem_of_getElem? (i := 103) rfl)) (hw _ (List.mem_of_getElem? (i := 104) rfl)) (hw _ (List.mem_of_getElem? (i := 105) rfl)) (hw _ (List.mem_of_getElem? (i := 106) rfl)) (by decide) (by decide) rfl rfl (g := (mkF m 1 #[.val (.ref b)] [(.ref b)])) rfl (by rw [hml]; rfl) rfl (hb hby d_jdk_79_method_35_code_1) (by decide) (Nat.le_of_ble_eq_true rfl)
  refine own_of st45 ?_
  show own_Ends _ _ _ _ _ _ (T45.setTop (mkF m 6 #[.val (.ref b)] [(.ref mA)]))
  obtain ⟨T46, X46, e46, st46⟩ := own_ldcMir X45 hx hZ hown e45 (hw _ (List.mem_of_getElem? (i := 108) rfl)) M_mL (g := (mkF m 6 #[.val (.ref b)] [(.ref mA)])) rfl (hb hby d_jdk_79_method_35_code_6)
  refine own_of st46 ?_
  show own_Ends _ _ _ _ _ _ (T46.setTop (mkF m 8 #[.val (.ref b)] [(.ref mL), (.ref mA)]))
  refine own_of (fun tt_ kk_ => Jvm.RoadKit.acmp (g := (mkF m 8 #[.val (.ref b)] [(.ref mL), (.ref mA)])) X46 hx rfl rfl rfl (pc0 := 8) (pc' := 11) (same := false) rfl (hb hby d_jdk_79_method_35_code_8) rfl (decide_eq_false fun q => neL (Value.ref.inj q)) (by decide) (by decide) kk_) ?_
  show own_Ends _ _ _ _ _ _ (T46.setTop (mkF m 11 #[.val (.ref b)] []))
  refine own_of (fun tt_ kk_ => XS.aloadN X46.here hx rfl (hb hby d_jdk_79_method_35_code_11) rfl rfl kk_) ?_
  show own_Ends _ _ _ _ _ _ (T46.setTop (mkF m 12 #[.val (.ref b)] [(.ref b)]))
  obtain ⟨T47, X47, e47, st47⟩ := own_getClassI X46 hx hZ hown e46 E M_mA (hw _ (List.mem_of_getElem? (i := 110) rfl)) (hw _ (List.mem_of_getElem? (i := 99) rfl)) (Jvm.Free.ULB.iface_rides hZ.alike (hw _ (List.mem_of_getElem? (i := 100) rfl))) (hw _ (List.mem_of_getElem? (i := 101) rfl)) (hw _ (List.mem_of_getElem? (i := 102) rfl)) (hw _ (List.mem_of_getElem? (i := 103) rfl)) (hw _ (List.mem_of_getElem? (i := 104) rfl)) (hw _ (List.mem_of_getElem? (i := 105) rfl)) (hw _ (List.mem_of_getElem? (i := 106) rfl)) (by decide) (by decide) rfl rfl (g := (mkF m 12 #[.val (.ref b)] [(.ref b)])) rfl (by rw [hml]; rfl) rfl (hb hby d_jdk_79_method_35_code_12) (by decide) (Nat.le_of_ble_eq_true rfl)
  refine own_of st47 ?_
  show own_Ends _ _ _ _ _ _ (T47.setTop (mkF m 17 #[.val (.ref b)] [(.ref mA)]))
  obtain ⟨T48, X48, e48, st48⟩ := own_ldcMir X47 hx hZ hown e47 (hw _ (List.mem_of_getElem? (i := 111) rfl)) M_mR (g := (mkF m 17 #[.val (.ref b)] [(.ref mA)])) rfl (hb hby d_jdk_79_method_35_code_17)
  refine own_of st48 ?_
  show own_Ends _ _ _ _ _ _ (T48.setTop (mkF m 19 #[.val (.ref b)] [(.ref mR), (.ref mA)]))
  refine own_of (fun tt_ kk_ => Jvm.RoadKit.acmp (g := (mkF m 19 #[.val (.ref b)] [(.ref mR), (.ref mA)])) X48 hx rfl rfl rfl (pc0 := 19) (pc' := 24) (same := false) rfl (hb hby d_jdk_79_method_35_code_19) rfl (decide_eq_false fun q => neR (Value.ref.inj q)) (by decide) (by decide) kk_) ?_
  show own_Ends _ _ _ _ _ _ (T48.setTop (mkF m 24 #[.val (.ref b)] []))
  refine own_of (fun tt_ kk_ => XS.aloadN X48.here hx rfl (hb hby d_jdk_79_method_35_code_24) rfl rfl kk_) ?_
  show own_Ends _ _ _ _ _ _ (T48.setTop (mkF m 25 #[.val (.ref b)] [(.ref b)]))
  obtain ⟨T49, X49, e49, st49⟩ := instY X48 hx hZ hown (hw _ (List.mem_of_getElem? (i := 113) rfl)) e48 (Ins.of_exa E (hw _ (List.mem_of_getElem? (i := 114) rfl))) (g := (mkF m 25 #[.val (.ref b)] [(.ref b)])) rfl rfl (hb hby d_jdk_79_method_35_code_25)
  refine own_of st49 ?_
  show own_Ends _ _ _ _ _ _ (T49.setTop (mkF m 28 #[.val (.ref b)] [(.int (1 : Int32))]))
  refine own_of (fun tt_ kk_ => XS.ifNo X49.here hx rfl (hb hby d_jdk_79_method_35_code_28) rfl ((if0 _ _).trans (feq (by decide : ¬ ((1 : Int32) = (0 : Int32)))).1) kk_) ?_
  show own_Ends _ _ _ _ _ _ (T49.setTop (mkF m 31 #[.val (.ref b)] []))
  obtain ⟨T50, h50, X50, e50, E50, A50, D50, -, st50⟩ := newO X49 hx hZ hown (hw _ (List.mem_of_getElem? (i := 111) rfl)) (hw _ (List.mem_of_getElem? (i := 115) rfl)) (hw _ (List.mem_of_getElem? (i := 116) rfl)) e49 (g := (mkF m 31 #[.val (.ref b)] [])) rfl (hb hby d_jdk_79_method_35_code_31) (by decide) (by decide)
  obtain ⟨b50, g50⟩ : ∃ z, z = h0.size := ⟨_, rfl⟩
  rw [← g50] at A50 D50 st50
  have ne_b_b50 : b ≠ b50 := Nat.ne_of_lt (Nat.lt_of_lt_of_le E.lt (Nat.le_of_eq g50.symm))
  have sz_b50 : h0.size ≤ b50 := Nat.le_trans K.1 (Nat.le_of_eq g50.symm)
  have g_b50 : n0 ≤ b50 := Nat.le_trans Z0 sz_b50
  replace E := E.ext E50
  have F_c_b50 : Fld Z h50 b50 "java/util/Collections$UnmodifiableCollection" "c" "Ljava/util/Collection;" .null := D50 (Or.inr (hw _ (List.mem_of_getElem? (i := 134) rfl))) (ty := (.object "java/util/Collection")) (by decide)
  have F_list_b50 : Fld Z h50 b50 "java/util/Collections$UnmodifiableList" "list" "Ljava/util/List;" .null := D50 (Or.inr (hw _ (List.mem_of_getElem? (i := 136) rfl))) (ty := (.object "java/util/List")) (by decide)
  replace K := K.ext E50
  refine own_of st50 ?_
  show own_Ends _ _ _ _ _ _ (T50.setTop (mkF m 34 #[.val (.ref b)] [(.ref b50)]))
  refine own_of (fun tt_ kk_ => XS.dup X50.here hx rfl (hb hby d_jdk_79_method_35_code_34) rfl rfl kk_) ?_
  show own_Ends _ _ _ _ _ _ (T50.setTop (mkF m 35 #[.val (.ref b)] [(.ref b50), (.ref b50)]))
  refine own_of (fun tt_ kk_ => XS.aloadN X50.here hx rfl (hb hby d_jdk_79_method_35_code_35) rfl rfl kk_) ?_
  show own_Ends _ _ _ _ _ _ (T50.setTop (mkF m 36 #[.val (.ref b)] [(.ref b), (.ref b50), (.ref b50)]))
  obtain ⟨v51, T51, L51, h51, X51, e51, Q51, st51⟩ := own_special X50 hx hZ hown e50 (b := b50) rfl (hw _ (List.mem_of_getElem? (i := 117) rfl)) (hw _ (List.mem_of_getElem? (i := 118) rfl)) (hw _ (List.mem_of_getElem? (i := 116) rfl)) (hw _ (List.mem_of_getElem? (i := 119) rfl)) (by decide) (argsL := [(.ref b)]) (rest := [(.ref b50)]) (rm_ur l Z a0 hw b50 b h50 n0 (Nat.le_trans Z0 K.1) A50 F_c_b50 F_list_b50 g_b50) (g := (mkF m 36 #[.val (.ref b)] [(.ref b), (.ref b50), (.ref b50)])) rfl (by rw [hml]; rfl) (lenOf pd__Ljava_util_List__r_V rfl) rfl (by decide) (Nat.le_of_ble_eq_true rfl) (by decide) (by decide) (hb hby d_jdk_79_method_35_code_36)
  obtain ⟨rfl, Nq51, Kq51, A50', F_c_b50', F_list_b50'⟩ := Q51
  replace E := E.keep Kq51
  replace A50 := A50.keep Kq51
  clear A50
  have A50 := A50'
  have F_c_b50 := F_c_b50'
  have F_list_b50 := F_list_b50'
  replace K := K.trans Kq51 (allS (Or.inr sz_b50) all0)
  have N51 := Fr.app N0 Nq51
  refine own_of st51 ?_
  show own_Ends _ _ _ _ _ _ (T51.setTop (mkF m 39 #[.val (.ref b)] [(.ref b50)]))
  refine own_of (fun tt_ kk_ => XS.goto X51.here hx rfl (pc0 := 39) (pc' := 50) rfl (hb hby d_jdk_79_method_35_code_39) (by decide) (by decide) kk_) ?_
  show own_Ends _ _ _ _ _ _ (T51.setTop (mkF m 50 #[.val (.ref b)] [(.ref b50)]))
  refine own_retA X51 hx hlk e51 hret rfl rfl (hb hby d_jdk_79_method_35_code_50) (by decide) (by decide) ?_
  exact ⟨b50, rfl, N51, K, sz_b50, A50, F_c_b50⟩
theorem ef_prog_21_method_11_codeR (m : MethodId) (z0 : Addr) : entryFrame m #[(.ref z0)] 1 = mkF m 0 #[.val (.ref z0)] [] := by first | (simp [entryFrame, mkF, argsToLocals, Value.category]; done) | rfl
theorem d_prog_21_method_11_code_0 : decode prog_21_method_11_code 0 = .ok (.aload_n 0, 1) := by decide +kernel
theorem d_prog_21_method_11_code_1 : decode prog_21_method_11_code 1 = .ok (.getfield 10, 3) := by decide +kernel
theorem pd__Ljava_util_List__r_Ljava_util_List_ : parseMethodDescriptor "(Ljava/util/List;)Ljava/util/List;" = some ⟨[(.object "java/util/List")], some (.object "java/util/List")⟩ := by decide +kernel
theorem d_prog_21_method_11_code_4 : decode prog_21_method_11_code 4 = .ok (.invokestatic 70, 3) := by decide +kernel
theorem d_prog_21_method_11_code_7 : decode prog_21_method_11_code 7 = .ok (.areturn, 1) := by decide +kernel
set_option maxRecDepth 65536 in
set_option maxHeartbeats 40000000 in
theorem rm_children (l : Launch) (Z : State) (a0 : Array Value) (hw : ∀ d ∈ tables_1, d.before a0 Z = true) (a b mA mL mR : Addr) (h0 : Heap) (n0 : Nat) (Z0 : n0 ≤ h0.size) (E : Exa Z h0 b "java/util/ArrayList") (F : Fld Z h0 a "com/example/extlint/extlint/model/Element" "children" "Ljava/util/List;" (.ref b)) (M_mA : Mir Z "java/util/ArrayList" mA) (M_mL : Mir Z "java/util/Collections$UnmodifiableList" mL) (M_mR : Mir Z "java/util/Collections$UnmodifiableRandomAccessList" mR) :
    own_Met l Z (⟨"com/example/extlint/extlint/model/Element", "children", "()Ljava/util/List;"⟩ : MethodName) prog_21_method_11_code 1 (some (.object "java/util/List")) ({ frames := 5, cells := 1, slots := 2, locals := 64 } : Room) #[(.ref a)] h0 (fun v h L => ∃ u : Addr, v = some (.ref u) ∧ Fr n0 L ∧ Keep h0 h [] ∧ h0.size ≤ u ∧ Exa Z h u "java/util/Collections$UnmodifiableRandomAccessList" ∧ Fld Z h u "java/util/Collections$UnmodifiableCollection" "c" "Ljava/util/Collection;" (.ref b)) := by
  refine own_body (plainFor_of_name pn_com_example_extlint_extlint_model_Element) ?_
  intro p e s m below meth c T0 X0 e0 hx hby hml hown hnm hret hlk hZ
  replace hown : s.vm.findClass "com/example/extlint/extlint/model/Element" = some m.cls := hown
  have N0 := Fr.nil n0
  refine own_of (fun tt_ kk_ => castTop (ef_prog_21_method_11_codeR m a) kk_) ?_
  have K := Keep.refl h0 []
  show own_Ends _ _ _ _ _ _ (T0.setTop (mkF m 0 #[.val (.ref a)] []))
  refine own_of (fun tt_ kk_ => XS.aloadN X0.here hx rfl (hb hby d_prog_21_method_11_code_0) rfl rfl kk_) ?_
  show own_Ends _ _ _ _ _ _ (T0.setTop (mkF m 1 #[.val (.ref a)] [(.ref a)]))
  obtain ⟨T52, X52, e52, st52⟩ := getF X0 hx hZ hown (host := "") (Or.inl (hw _ (List.mem_of_getElem? (i := 39) rfl))) Via.refl e0 F (g := (mkF m 1 #[.val (.ref a)] [(.ref a)])) rfl rfl (hb hby d_prog_21_method_11_code_1)
  refine own_of st52 ?_
  show own_Ends _ _ _ _ _ _ (T52.setTop (mkF m 4 #[.val (.ref a)] [(.ref b)]))
  obtain ⟨v53, T53, L53, h53, X53, e53, Q53, st53⟩ := own_static X52 hx hZ hown e52 (hw _ (List.mem_of_getElem? (i := 94) rfl)) (hw _ (List.mem_of_getElem? (i := 95) rfl)) (hw _ (List.mem_of_getElem? (i := 96) rfl)) (hw _ (List.mem_of_getElem? (i := 97) rfl)) (by decide) (argsL := [(.ref b)]) (rest := []) (rm_unm l Z a0 hw b mA mL mR h0 n0 (Nat.le_trans Z0 K.1) E M_mA M_mL M_mR) (g := (mkF m 4 #[.val (.ref a)] [(.ref b)])) rfl (by rw [hml]; rfl) (lenOf pd__Ljava_util_List__r_Ljava_util_List_ rfl) rfl (by decide) (Nat.le_of_ble_eq_true rfl) (by decide) (by decide) (hb hby d_prog_21_method_11_code_4)
  obtain ⟨u53, rfl, Nq53, Kq53, szq_u53, Eu53, Fu53⟩ := Q53
  have ne_b_u53 : b ≠ u53 := Nat.ne_of_lt (Nat.lt_of_lt_of_le E.lt szq_u53)
  have ne_a_u53 : a ≠ u53 := Nat.ne_of_lt (Nat.lt_of_lt_of_le F.lt szq_u53)
  have sz_u53 : h0.size ≤ u53 := Nat.le_trans K.1 szq_u53
  have g_u53 : n0 ≤ u53 := Nat.le_trans Z0 sz_u53
  replace E := E.keep Kq53
  replace F := F.keep Kq53 nin0
  replace K := K.trans Kq53 all0
  have N53 := Fr.app N0 Nq53
  refine own_of st53 ?_
  show own_Ends _ _ _ _ _ _ (T53.setTop (mkF m 7 #[.val (.ref a)] [(.ref u53)]))
  refine own_retA X53 hx hlk e53 hret rfl rfl (hb hby d_prog_21_method_11_code_7) (by decide) (by decide) ?_
  exact ⟨u53, rfl, N53, K, sz_u53, Eu53, Fu53⟩
theorem ef_jdk_38_method_8_codeR (m : MethodId) (z0 : Addr) : entryFrame m #[(.ref z0)] 1 = mkF m 0 #[.val (.ref z0)] [] := by first | (simp [entryFrame, mkF, argsToLocals, Value.category]; done) | rfl
theorem d_jdk_38_method_8_code_0 : decode jdk_38_method_8_code 0 = .ok (.aload_n 0, 1) := by decide +kernel
theorem d_jdk_38_method_8_code_1 : decode jdk_38_method_8_code 1 = .ok (.getfield 48, 3) := by decide +kernel
theorem d_jdk_38_method_8_code_4 : decode jdk_38_method_8_code 4 = .ok (.ireturn, 1) := by decide +kernel
set_option maxRecDepth 65536 in
set_option maxHeartbeats 40000000 in
theorem rm_alsize (l : Launch) (Z : State) (a0 : Array Value) (hw : ∀ d ∈ tables_1, d.before a0 Z = true) (b : Addr) (h0 : Heap) (n0 : Nat) (Z0 : n0 ≤ h0.size) (F : Fld Z h0 b "java/util/ArrayList" "size" "I" (.int (0 : Int32))) :
    own_Met l Z (⟨"java/util/ArrayList", "size", "()I"⟩ : MethodName) jdk_38_method_8_code 1 (some .int) ({ frames := 0, cells := 0, slots := 0, locals := 0 } : Room) #[(.ref b)] h0 (fun v h L => v = some (.int (0 : Int32)) ∧ Fr n0 L ∧ h = h0) := by
  refine own_body (plainFor_of_name pn_java_util_ArrayList) ?_
  intro p e s m below meth c T0 X0 e0 hx hby hml hown hnm hret hlk hZ
  replace hown : s.vm.findClass "java/util/ArrayList" = some m.cls := hown
  have N0 := Fr.nil n0
  refine own_of (fun tt_ kk_ => castTop (ef_jdk_38_method_8_codeR m b) kk_) ?_
  show own_Ends _ _ _ _ _ _ (T0.setTop (mkF m 0 #[.val (.ref b)] []))
  refine own_of (fun tt_ kk_ => XS.aloadN X0.here hx rfl (hb hby d_jdk_38_method_8_code_0) rfl rfl kk_) ?_
  show own_Ends _ _ _ _ _ _ (T0.setTop (mkF m 1 #[.val (.ref b)] [(.ref b)]))
  obtain ⟨T54, X54, e54, st54⟩ := getF X0 hx hZ hown (host := "") (Or.inl (hw _ (List.mem_of_getElem? (i := 155) rfl))) Via.refl e0 F (g := (mkF m 1 #[.val (.ref b)] [(.ref b)])) rfl rfl (hb hby d_jdk_38_method_8_code_1)
  refine own_of st54 ?_
  show own_Ends _ _ _ _ _ _ (T54.setTop (mkF m 4 #[.val (.ref b)] [(.int (0 : Int32))]))
  refine own_retI X54 hx hlk e54 hret (hb hby d_jdk_38_method_8_code_4) (by decide) (by decide) ?_
  exact ⟨rfl, N0, rfl⟩
theorem ef_jdk_119_method_2_codeR (m : MethodId) (z0 : Addr) : entryFrame m #[(.ref z0)] 1 = mkF m 0 #[.val (.ref z0)] [] := by first | (simp [entryFrame, mkF, argsToLocals, Value.category]; done) | rfl
theorem d_jdk_119_method_2_code_0 : decode jdk_119_method_2_code 0 = .ok (.aload_n 0, 1) := by decide +kernel
theorem d_jdk_119_method_2_code_1 : decode jdk_119_method_2_code 1 = .ok (.getfield 10, 3) := by decide +kernel
theorem pd___r_I : parseMethodDescriptor "()I" = some ⟨[], some .int⟩ := by decide +kernel
theorem d_jdk_119_method_2_code_4 : decode jdk_119_method_2_code 4 = .ok (.invokeinterface 16 1, 5) := by decide +kernel
theorem d_jdk_119_method_2_code_9 : decode jdk_119_method_2_code 9 = .ok (.ireturn, 1) := by decide +kernel
set_option maxRecDepth 65536 in
set_option maxHeartbeats 40000000 in
theorem rm_usize (l : Launch) (Z : State) (a0 : Array Value) (hw : ∀ d ∈ tables_1, d.before a0 Z = true) (u b : Addr) (h0 : Heap) (n0 : Nat) (Z0 : n0 ≤ h0.size) (F : Fld Z h0 b "java/util/ArrayList" "size" "I" (.int (0 : Int32))) (E : Exa Z h0 b "java/util/ArrayList") (FU : Fld Z h0 u "java/util/Collections$UnmodifiableCollection" "c" "Ljava/util/Collection;" (.ref b)) :
    own_Met l Z (⟨"java/util/Collections$UnmodifiableCollection", "size", "()I"⟩ : MethodName) jdk_119_method_2_code 1 (some .int) ({ frames := 1, cells := 0, slots := 0, locals := 12 } : Room) #[(.ref u)] h0 (fun v h L => v = some (.int (0 : Int32)) ∧ Fr n0 L ∧ h = h0) := by
  refine own_body (plainFor_of_name pn_java_util_Collections_UnmodifiableCollection) ?_
  intro p e s m below meth c T0 X0 e0 hx hby hml hown hnm hret hlk hZ
  replace hown : s.vm.findClass "java/util/Collections$UnmodifiableCollection" = some m.cls := hown
  have N0 := Fr.nil n0
  refine own_of (fun tt_ kk_ => castTop (ef_jdk_119_method_2_codeR m u) kk_) ?_
  show own_Ends _ _ _ _ _ _ (T0.setTop (mkF m 0 #[.val (.ref u)] []))
  refine own_of (fun tt_ kk_ => XS.aloadN X0.here hx rfl (hb hby d_jdk_119_method_2_code_0) rfl rfl kk_) ?_
  show own_Ends _ _ _ _ _ _ (T0.setTop (mkF m 1 #[.val (.ref u)] [(.ref u)]))
  obtain ⟨T55, X55, e55, st55⟩ := getF X0 hx hZ hown (host := "") (Or.inl (hw _ (List.mem_of_getElem? (i := 133) rfl))) Via.refl e0 FU (g := (mkF m 1 #[.val (.ref u)] [(.ref u)])) rfl rfl (hb hby d_jdk_119_method_2_code_1)
  refine own_of st55 ?_
  show own_Ends _ _ _ _ _ _ (T55.setTop (mkF m 4 #[.val (.ref u)] [(.ref b)]))
  obtain ⟨v56, T56, L56, h56, X56, e56, Q56, st56⟩ := own_interface X55 hx hZ hown e55 E (hw _ (List.mem_of_getElem? (i := 146) rfl)) (hw _ (List.mem_of_getElem? (i := 147) rfl)) (Jvm.Free.ULB.iface_rides hZ.alike (hw _ (List.mem_of_getElem? (i := 148) rfl))) (hw _ (List.mem_of_getElem? (i := 149) rfl)) (hw _ (List.mem_of_getElem? (i := 150) rfl)) (hw _ (List.mem_of_getElem? (i := 151) rfl)) (hw _ (List.mem_of_getElem? (i := 152) rfl)) (hw _ (List.mem_of_getElem? (i := 153) rfl)) (hw _ (List.mem_of_getElem? (i := 17) rfl)) (hw _ (List.mem_of_getElem? (i := 154) rfl)) (by decide) (argsL := []) (rest := []) (rm_alsize l Z a0 hw b h0 n0 Z0 F) (g := (mkF m 4 #[.val (.ref u)] [(.ref b)])) rfl (by rw [hml]; rfl) (lenOf pd___r_I rfl) rfl (by decide) (Nat.le_of_ble_eq_true rfl) (by decide) (by decide) (hb hby d_jdk_119_method_2_code_4)
  obtain ⟨rfl, Nq56, q56⟩ := Q56
  replace e56 := e56.trans q56
  have N56 := Fr.app N0 Nq56
  refine own_of st56 ?_
  show own_Ends _ _ _ _ _ _ (T56.setTop (mkF m 9 #[.val (.ref u)] [(.int (0 : Int32))]))
  refine own_retI X56 hx hlk e56 hret (hb hby d_jdk_119_method_2_code_9) (by decide) (by decide) ?_
  exact ⟨rfl, N56, rfl⟩
theorem pn_com_example_extlint_extlint_model_ElementRootPinLaw : plainName "com/example/extlint/extlint/model/ElementRootPinLaw" = true := by first | (simp [plainName, overriddenIn]; done) | decide +kernel
theorem ef_codeIIII (m : MethodId) (z0 : Int32) (z1 : Int32) (z2 : Int32) (z3 : Int32) : entryFrame m #[(.int z0), (.int z1), (.int z2), (.int z3)] maxLocals = mkF m 0 #[.val (.int z0), .val (.int z1), .val (.int z2), .val (.int z3), .unset, .unset, .unset, .unset] [] := by first | (simp [entryFrame, mkF, argsToLocals, Value.category, maxLocals]; done) | rfl
theorem pd__Lcom_example_extlint_extlint_model_Format_II_r_Lcom_example_extlint_extlint_model_Element_ : parseMethodDescriptor "(Lcom/example/extlint/extlint/model/Format;II)Lcom/example/extlint/extlint/model/Element;" = some ⟨[(.object "com/example/extlint/extlint/model/Format"), .int, .int], some (.object "com/example/extlint/extlint/model/Element")⟩ := by decide +kernel
theorem pd___r_Lcom_example_extlint_extlint_model_Format_ : parseMethodDescriptor "()Lcom/example/extlint/extlint/model/Format;" = some ⟨[], some (.object "com/example/extlint/extlint/model/Format")⟩ := by decide +kernel
theorem pd___r_Ljava_lang_String_ : parseMethodDescriptor "()Ljava/lang/String;" = some ⟨[], some (.object "java/lang/String")⟩ := by decide +kernel
theorem pd___r_Z : parseMethodDescriptor "()Z" = some ⟨[], some .boolean⟩ := by decide +kernel
theorem pd___r_Ljava_util_List_ : parseMethodDescriptor "()Ljava/util/List;" = some ⟨[], some (.object "java/util/List")⟩ := by decide +kernel
theorem pd__C_r_Ljava_lang_String_ : parseMethodDescriptor "(C)Ljava/lang/String;" = some ⟨[.char], some (.object "java/lang/String")⟩ := by decide +kernel
theorem pd__Ljava_lang_String__r_V : parseMethodDescriptor "(Ljava/lang/String;)V" = some ⟨[(.object "java/lang/String")], none⟩ := by decide +kernel
theorem pd__Ljava_lang_Object__r_Z : parseMethodDescriptor "(Ljava/lang/Object;)Z" = some ⟨[(.object "java/lang/Object")], some .boolean⟩ := by decide +kernel
set_option maxRecDepth 65536 in
set_option maxHeartbeats 40000000 in
theorem rm0 (l : Launch) (Z : State) (a0 : Array Value) (hw : ∀ d ∈ tables_1, d.before a0 Z = true) (p1 p2 p3 p4 G1 : Int32) (wD wJ wX mA mL mR : Addr) (h0 : Heap) (n0 : Nat) (Z0 : n0 ≤ h0.size) (O2 : Sta Z Z.heap "java/lang/String" "COMPACT_STRINGS" "Z" (.int G1)) (P3 : ¬ (G1 = (0 : Int32))) (O3 : Sta Z Z.heap "java/util/ArrayList" "DEFAULTCAPACITY_EMPTY_ELEMENTDATA" "[Ljava/lang/Object;" (.ref wD)) (SJ : Sta Z Z.heap "com/example/extlint/extlint/model/Format" "JSON" "Lcom/example/extlint/extlint/model/Format;" (.ref wJ)) (SX : Sta Z Z.heap "com/example/extlint/extlint/model/Format" "XML" "Lcom/example/extlint/extlint/model/Format;" (.ref wX)) (OL : Old Z n0 h0) (M_mA : Mir Z "java/util/ArrayList" mA) (M_mL : Mir Z "java/util/Collections$UnmodifiableList" mL) (M_mR : Mir Z "java/util/Collections$UnmodifiableRandomAccessList" mR) :
    own_Met l Z x code maxLocals ret room_1 #[(.int p1), (.int p2), (.int p3), (.int p4)] h0 (fun v h L => v = some (.int 1) ∧ Fr n0 L) := by
  refine own_body (plainFor_of_name pn_com_example_extlint_extlint_model_ElementRootPinLaw) ?_
  intro p e s m below meth c T0 X0 e0 hx hby hml hown hnm hret hlk hZ
  replace hown : s.vm.findClass "com/example/extlint/extlint/model/ElementRootPinLaw" = some m.cls := hown
  have N0 := Fr.nil n0
  refine own_of (fun tt_ kk_ => castTop (ef_codeIIII m p1 p2 p3 p4) kk_) ?_
  have K := Keep.refl h0 []
  show own_Ends _ _ _ _ _ _ (T0.setTop (mkF m 0 #[.val (.int p1), .val (.int p2), .val (.int p3), .val (.int p4), .unset, .unset, .unset, .unset] []))
  refine own_of (fun tt_ kk_ => XS.iloadN X0.here hx rfl (hb hby at_0) rfl  kk_) ?_
  show own_Ends _ _ _ _ _ _ (T0.setTop (mkF m 1 #[.val (.int p1), .val (.int p2), .val (.int p3), .val (.int p4), .unset, .unset, .unset, .unset] [(.int p1)]))
  refine own_of (fun tt_ kk_ => XS.iconst X0.here hx rfl (hb hby at_1) kk_) ?_
  show own_Ends _ _ _ _ _ _ (T0.setTop (mkF m 2 #[.val (.int p1), .val (.int p2), .val (.int p3), .val (.int p4), .unset, .unset, .unset, .unset] [(.int (1 : Int32)), (.int p1)]))
  refine own_of (fun tt_ kk_ => XS.iand X0.here hx rfl (hb hby at_2) rfl kk_) ?_
  show own_Ends _ _ _ _ _ _ (T0.setTop (mkF m 3 #[.val (.int p1), .val (.int p2), .val (.int p3), .val (.int p4), .unset, .unset, .unset, .unset] [(.int (p1 &&& (1 : Int32)))]))
  by_cases hc57 : (p1 &&& (1 : Int32)) = (0 : Int32)
  · refine own_of (fun tt_ kk_ => XS.ifNo X0.here hx rfl (hb hby at_3) rfl ((if0 _ _).trans (teq hc57).2) kk_) ?_
    show own_Ends _ _ _ _ _ _ (T0.setTop (mkF m 6 #[.val (.int p1), .val (.int p2), .val (.int p3), .val (.int p4), .unset, .unset, .unset, .unset] []))
    obtain ⟨T58, X58, e58, st58⟩ := getS2 X0 hx hZ hown (host := "") (Or.inl (hw _ (List.mem_of_getElem? (i := 0) rfl))) Via.refl e0 (SJ.ext OL.2) (g := (mkF m 6 #[.val (.int p1), .val (.int p2), .val (.int p3), .val (.int p4), .unset, .unset, .unset, .unset] [])) rfl (hb hby at_6)
    refine own_of st58 ?_
    show own_Ends _ _ _ _ _ _ (T58.setTop (mkF m 9 #[.val (.int p1), .val (.int p2), .val (.int p3), .val (.int p4), .unset, .unset, .unset, .unset] [(.ref wJ)]))
    refine own_of (fun tt_ kk_ => XS.goto X58.here hx rfl (pc0 := 9) (pc' := 15) rfl (hb hby at_9) (by decide) (by decide) kk_) ?_
    show own_Ends _ _ _ _ _ _ (T58.setTop (mkF m 15 #[.val (.int p1), .val (.int p2), .val (.int p3), .val (.int p4), .unset, .unset, .unset, .unset] [(.ref wJ)]))
    refine own_of (fun tt_ kk_ => XS.astore X58.here hx rfl (hb hby at_15) rfl rfl (l' := #[.val (.int p1), .val (.int p2), .val (.int p3), .val (.int p4), .val (.ref wJ), .unset, .unset, .unset]) rfl kk_) ?_
    show own_Ends _ _ _ _ _ _ (T58.setTop (mkF m 17 #[.val (.int p1), .val (.int p2), .val (.int p3), .val (.int p4), .val (.ref wJ), .unset, .unset, .unset] []))
    refine own_of (fun tt_ kk_ => XS.aload X58.here hx rfl (hb hby at_17) rfl rfl kk_) ?_
    show own_Ends _ _ _ _ _ _ (T58.setTop (mkF m 19 #[.val (.int p1), .val (.int p2), .val (.int p3), .val (.int p4), .val (.ref wJ), .unset, .unset, .unset] [(.ref wJ)]))
    refine own_of (fun tt_ kk_ => XS.iloadN X58.here hx rfl (hb hby at_19) rfl  kk_) ?_
    show own_Ends _ _ _ _ _ _ (T58.setTop (mkF m 20 #[.val (.int p1), .val (.int p2), .val (.int p3), .val (.int p4), .val (.ref wJ), .unset, .unset, .unset] [(.int p2), (.ref wJ)]))
    refine own_of (fun tt_ kk_ => XS.iloadN X58.here hx rfl (hb hby at_20) rfl  kk_) ?_
    show own_Ends _ _ _ _ _ _ (T58.setTop (mkF m 21 #[.val (.int p1), .val (.int p2), .val (.int p3), .val (.int p4), .val (.ref wJ), .unset, .unset, .unset] [(.int p3), (.int p2), (.ref wJ)]))
    obtain ⟨v59, T59, L59, h59, X59, e59, Q59, st59⟩ := own_static X58 hx hZ hown e58 (hw _ (List.mem_of_getElem? (i := 3) rfl)) (hw _ (List.mem_of_getElem? (i := 4) rfl)) (hw _ (List.mem_of_getElem? (i := 5) rfl)) (hw _ (List.mem_of_getElem? (i := 6) rfl)) (by decide) (argsL := [(.ref wJ), (.int p2), (.int p3)]) (rest := []) (rm_root l Z a0 hw wJ wD p2 p3 h0 n0 (Nat.le_trans Z0 K.1) O3 OL) (g := (mkF m 21 #[.val (.int p1), .val (.int p2), .val (.int p3), .val (.int p4), .val (.ref wJ), .unset, .unset, .unset] [(.int p3), (.int p2), (.ref wJ)])) rfl (by rw [hml]; rfl) (lenOf pd__Lcom_example_extlint_extlint_model_Format_II_r_Lcom_example_extlint_extlint_model_Element_ rfl) rfl (by decide) (Nat.le_of_ble_eq_true rfl) (by decide) (by decide) (hb hby at_21)
    obtain ⟨a59, b59, rfl, Nq59, Kq59, szq_a59, szq_b59, ne_a59_b59, Ea59, F_children, F_format, F_parent, F_name, F_index, F_line, F_column, F_resourceType, F_value, F_primitive, Eb59, Fb59⟩ := Q59
    have sz_a59 : h0.size ≤ a59 := Nat.le_trans K.1 szq_a59
    have g_a59 : n0 ≤ a59 := Nat.le_trans Z0 sz_a59
    have sz_b59 : h0.size ≤ b59 := Nat.le_trans K.1 szq_b59
    have g_b59 : n0 ≤ b59 := Nat.le_trans Z0 sz_b59
    replace OL := OL.keep Kq59 all0
    replace K := K.trans Kq59 all0
    have N59 := Fr.app N0 Nq59
    refine own_of st59 ?_
    show own_Ends _ _ _ _ _ _ (T59.setTop (mkF m 24 #[.val (.int p1), .val (.int p2), .val (.int p3), .val (.int p4), .val (.ref wJ), .unset, .unset, .unset] [(.ref a59)]))
    refine own_of (fun tt_ kk_ => XS.astore X59.here hx rfl (hb hby at_24) rfl rfl (l' := #[.val (.int p1), .val (.int p2), .val (.int p3), .val (.int p4), .val (.ref wJ), .val (.ref a59), .unset, .unset]) rfl kk_) ?_
    show own_Ends _ _ _ _ _ _ (T59.setTop (mkF m 26 #[.val (.int p1), .val (.int p2), .val (.int p3), .val (.int p4), .val (.ref wJ), .val (.ref a59), .unset, .unset] []))
    refine own_of (fun tt_ kk_ => XS.aload X59.here hx rfl (hb hby at_26) rfl rfl kk_) ?_
    show own_Ends _ _ _ _ _ _ (T59.setTop (mkF m 28 #[.val (.int p1), .val (.int p2), .val (.int p3), .val (.int p4), .val (.ref wJ), .val (.ref a59), .unset, .unset] [(.ref a59)]))
    obtain ⟨v60, T60, L60, h60, X60, e60, Q60, st60⟩ := own_virtual X59 hx hZ hown e59 Ea59 (hw _ (List.mem_of_getElem? (i := 53) rfl)) (hw _ (List.mem_of_getElem? (i := 54) rfl)) (notFace_of_selects (args := #[]) (mvT hZ (hw _ (List.mem_of_getElem? (i := 56) rfl)))) (hw _ (List.mem_of_getElem? (i := 56) rfl)) (hw _ (List.mem_of_getElem? (i := 55) rfl)) (hw _ (List.mem_of_getElem? (i := 5) rfl)) (hw _ (List.mem_of_getElem? (i := 57) rfl)) (by decide) (argsL := []) (rest := []) (rm_g_format l Z a0 hw a59 wJ h59 n0 (Nat.le_trans Z0 K.1) F_format) (g := (mkF m 28 #[.val (.int p1), .val (.int p2), .val (.int p3), .val (.int p4), .val (.ref wJ), .val (.ref a59), .unset, .unset] [(.ref a59)])) rfl (by rw [hml]; rfl) (lenOf pd___r_Lcom_example_extlint_extlint_model_Format_ rfl) rfl (by decide) (Nat.le_of_ble_eq_true rfl) (by decide) (by decide) (hb hby at_28)
    obtain ⟨rfl, Nq60, q60⟩ := Q60
    replace e60 := e60.trans q60
    have N60 := Fr.app N59 Nq60
    refine own_of st60 ?_
    show own_Ends _ _ _ _ _ _ (T60.setTop (mkF m 31 #[.val (.int p1), .val (.int p2), .val (.int p3), .val (.int p4), .val (.ref wJ), .val (.ref a59), .unset, .unset] [(.ref wJ)]))
    refine own_of (fun tt_ kk_ => XS.aload X60.here hx rfl (hb hby at_31) rfl rfl kk_) ?_
    show own_Ends _ _ _ _ _ _ (T60.setTop (mkF m 33 #[.val (.int p1), .val (.int p2), .val (.int p3), .val (.int p4), .val (.ref wJ), .val (.ref a59), .unset, .unset] [(.ref wJ), (.ref wJ)]))
    refine own_of (fun tt_ kk_ => Jvm.RoadKit.acmp (g := (mkF m 33 #[.val (.int p1), .val (.int p2), .val (.int p3), .val (.int p4), .val (.ref wJ), .val (.ref a59), .unset, .unset] [(.ref wJ), (.ref wJ)])) X60 hx rfl rfl rfl (pc0 := 33) (pc' := 36) (same := true) rfl (hb hby at_33) rfl (decide_eq_true rfl) (by decide) (by decide) kk_) ?_
    show own_Ends _ _ _ _ _ _ (T60.setTop (mkF m 36 #[.val (.int p1), .val (.int p2), .val (.int p3), .val (.int p4), .val (.ref wJ), .val (.ref a59), .unset, .unset] []))
    refine own_of (fun tt_ kk_ => XS.aload X60.here hx rfl (hb hby at_36) rfl rfl kk_) ?_
    show own_Ends _ _ _ _ _ _ (T60.setTop (mkF m 38 #[.val (.int p1), .val (.int p2), .val (.int p3), .val (.int p4), .val (.ref wJ), .val (.ref a59), .unset, .unset] [(.ref a59)]))
    obtain ⟨v61, T61, L61, h61, X61, e61, Q61, st61⟩ := own_virtual X60 hx hZ hown e60 Ea59 (hw _ (List.mem_of_getElem? (i := 58) rfl)) (hw _ (List.mem_of_getElem? (i := 59) rfl)) (notFace_of_selects (args := #[]) (mvT hZ (hw _ (List.mem_of_getElem? (i := 61) rfl)))) (hw _ (List.mem_of_getElem? (i := 61) rfl)) (hw _ (List.mem_of_getElem? (i := 60) rfl)) (hw _ (List.mem_of_getElem? (i := 5) rfl)) (hw _ (List.mem_of_getElem? (i := 62) rfl)) (by decide) (argsL := []) (rest := []) (rm_g_index l Z a0 hw a59 (-1 : Int32) h59 n0 (Nat.le_trans Z0 K.1) F_index) (g := (mkF m 38 #[.val (.int p1), .val (.int p2), .val (.int p3), .val (.int p4), .val (.ref wJ), .val (.ref a59), .unset, .unset] [(.ref a59)])) rfl (by rw [hml]; rfl) (lenOf pd___r_I rfl) rfl (by decide) (Nat.le_of_ble_eq_true rfl) (by decide) (by decide) (hb hby at_38)
    obtain ⟨rfl, Nq61, q61⟩ := Q61
    replace e61 := e61.trans q61
    have N61 := Fr.app N60 Nq61
    refine own_of st61 ?_
    show own_Ends _ _ _ _ _ _ (T61.setTop (mkF m 41 #[.val (.int p1), .val (.int p2), .val (.int p3), .val (.int p4), .val (.ref wJ), .val (.ref a59), .unset, .unset] [(.int (-1 : Int32))]))
    refine own_of (fun tt_ kk_ => XS.iconst X61.here hx rfl (hb hby at_41) kk_) ?_
    show own_Ends _ _ _ _ _ _ (T61.setTop (mkF m 42 #[.val (.int p1), .val (.int p2), .val (.int p3), .val (.int p4), .val (.ref wJ), .val (.ref a59), .unset, .unset] [(.int (-1 : Int32)), (.int (-1 : Int32))]))
    refine own_of (fun tt_ kk_ => XS.icmpNo X61.here hx rfl (hb hby at_42) rfl (teq (by decide : ((-1 : Int32) = (-1 : Int32)))).2 kk_) ?_
    show own_Ends _ _ _ _ _ _ (T61.setTop (mkF m 45 #[.val (.int p1), .val (.int p2), .val (.int p3), .val (.int p4), .val (.ref wJ), .val (.ref a59), .unset, .unset] []))
    refine own_of (fun tt_ kk_ => XS.aload X61.here hx rfl (hb hby at_45) rfl rfl kk_) ?_
    show own_Ends _ _ _ _ _ _ (T61.setTop (mkF m 47 #[.val (.int p1), .val (.int p2), .val (.int p3), .val (.int p4), .val (.ref wJ), .val (.ref a59), .unset, .unset] [(.ref a59)]))
    obtain ⟨v62, T62, L62, h62, X62, e62, Q62, st62⟩ := own_virtual X61 hx hZ hown e61 Ea59 (hw _ (List.mem_of_getElem? (i := 63) rfl)) (hw _ (List.mem_of_getElem? (i := 64) rfl)) (notFace_of_selects (args := #[]) (mvT hZ (hw _ (List.mem_of_getElem? (i := 66) rfl)))) (hw _ (List.mem_of_getElem? (i := 66) rfl)) (hw _ (List.mem_of_getElem? (i := 65) rfl)) (hw _ (List.mem_of_getElem? (i := 5) rfl)) (hw _ (List.mem_of_getElem? (i := 67) rfl)) (by decide) (argsL := []) (rest := []) (rm_g_line l Z a0 hw a59 p2 h59 n0 (Nat.le_trans Z0 K.1) F_line) (g := (mkF m 47 #[.val (.int p1), .val (.int p2), .val (.int p3), .val (.int p4), .val (.ref wJ), .val (.ref a59), .unset, .unset] [(.ref a59)])) rfl (by rw [hml]; rfl) (lenOf pd___r_I rfl) rfl (by decide) (Nat.le_of_ble_eq_true rfl) (by decide) (by decide) (hb hby at_47)
    obtain ⟨rfl, Nq62, q62⟩ := Q62
    replace e62 := e62.trans q62
    have N62 := Fr.app N61 Nq62
    refine own_of st62 ?_
    show own_Ends _ _ _ _ _ _ (T62.setTop (mkF m 50 #[.val (.int p1), .val (.int p2), .val (.int p3), .val (.int p4), .val (.ref wJ), .val (.ref a59), .unset, .unset] [(.int p2)]))
    refine own_of (fun tt_ kk_ => XS.iloadN X62.here hx rfl (hb hby at_50) rfl  kk_) ?_
    show own_Ends _ _ _ _ _ _ (T62.setTop (mkF m 51 #[.val (.int p1), .val (.int p2), .val (.int p3), .val (.int p4), .val (.ref wJ), .val (.ref a59), .unset, .unset] [(.int p2), (.int p2)]))
    refine own_of (fun tt_ kk_ => XS.icmpNo X62.here hx rfl (hb hby at_51) rfl (teq (rfl : p2 = p2)).2 kk_) ?_
    show own_Ends _ _ _ _ _ _ (T62.setTop (mkF m 54 #[.val (.int p1), .val (.int p2), .val (.int p3), .val (.int p4), .val (.ref wJ), .val (.ref a59), .unset, .unset] []))
    refine own_of (fun tt_ kk_ => XS.aload X62.here hx rfl (hb hby at_54) rfl rfl kk_) ?_
    show own_Ends _ _ _ _ _ _ (T62.setTop (mkF m 56 #[.val (.int p1), .val (.int p2), .val (.int p3), .val (.int p4), .val (.ref wJ), .val (.ref a59), .unset, .unset] [(.ref a59)]))
    obtain ⟨v63, T63, L63, h63, X63, e63, Q63, st63⟩ := own_virtual X62 hx hZ hown e62 Ea59 (hw _ (List.mem_of_getElem? (i := 68) rfl)) (hw _ (List.mem_of_getElem? (i := 69) rfl)) (notFace_of_selects (args := #[]) (mvT hZ (hw _ (List.mem_of_getElem? (i := 71) rfl)))) (hw _ (List.mem_of_getElem? (i := 71) rfl)) (hw _ (List.mem_of_getElem? (i := 70) rfl)) (hw _ (List.mem_of_getElem? (i := 5) rfl)) (hw _ (List.mem_of_getElem? (i := 72) rfl)) (by decide) (argsL := []) (rest := []) (rm_g_column l Z a0 hw a59 p3 h59 n0 (Nat.le_trans Z0 K.1) F_column) (g := (mkF m 56 #[.val (.int p1), .val (.int p2), .val (.int p3), .val (.int p4), .val (.ref wJ), .val (.ref a59), .unset, .unset] [(.ref a59)])) rfl (by rw [hml]; rfl) (lenOf pd___r_I rfl) rfl (by decide) (Nat.le_of_ble_eq_true rfl) (by decide) (by decide) (hb hby at_56)
    obtain ⟨rfl, Nq63, q63⟩ := Q63
    replace e63 := e63.trans q63
    have N63 := Fr.app N62 Nq63
    refine own_of st63 ?_
    show own_Ends _ _ _ _ _ _ (T63.setTop (mkF m 59 #[.val (.int p1), .val (.int p2), .val (.int p3), .val (.int p4), .val (.ref wJ), .val (.ref a59), .unset, .unset] [(.int p3)]))
    refine own_of (fun tt_ kk_ => XS.iloadN X63.here hx rfl (hb hby at_59) rfl  kk_) ?_
    show own_Ends _ _ _ _ _ _ (T63.setTop (mkF m 60 #[.val (.int p1), .val (.int p2), .val (.int p3), .val (.int p4), .val (.ref wJ), .val (.ref a59), .unset, .unset] [(.int p3), (.int p3)]))
    refine own_of (fun tt_ kk_ => XS.icmpNo X63.here hx rfl (hb hby at_60) rfl (teq (rfl : p3 = p3)).2 kk_) ?_
    show own_Ends _ _ _ _ _ _ (T63.setTop (mkF m 63 #[.val (.int p1), .val (.int p2), .val (.int p3), .val (.int p4), .val (.ref wJ), .val (.ref a59), .unset, .unset] []))
    refine own_of (fun tt_ kk_ => XS.aload X63.here hx rfl (hb hby at_63) rfl rfl kk_) ?_
    show own_Ends _ _ _ _ _ _ (T63.setTop (mkF m 65 #[.val (.int p1), .val (.int p2), .val (.int p3), .val (.int p4), .val (.ref wJ), .val (.ref a59), .unset, .unset] [(.ref a59)]))
    obtain ⟨v64, T64, L64, h64, X64, e64, Q64, st64⟩ := own_virtual X63 hx hZ hown e63 Ea59 (hw _ (List.mem_of_getElem? (i := 73) rfl)) (hw _ (List.mem_of_getElem? (i := 74) rfl)) (notFace_of_selects (args := #[]) (mvT hZ (hw _ (List.mem_of_getElem? (i := 76) rfl)))) (hw _ (List.mem_of_getElem? (i := 76) rfl)) (hw _ (List.mem_of_getElem? (i := 75) rfl)) (hw _ (List.mem_of_getElem? (i := 5) rfl)) (hw _ (List.mem_of_getElem? (i := 77) rfl)) (by decide) (argsL := []) (rest := []) (rm_name0 l Z a0 hw a59  h59 n0 (Nat.le_trans Z0 K.1) F_resourceType F_parent) (g := (mkF m 65 #[.val (.int p1), .val (.int p2), .val (.int p3), .val (.int p4), .val (.ref wJ), .val (.ref a59), .unset, .unset] [(.ref a59)])) rfl (by rw [hml]; rfl) (lenOf pd___r_Ljava_lang_String_ rfl) rfl (by decide) (Nat.le_of_ble_eq_true rfl) (by decide) (by decide) (hb hby at_65)
    obtain ⟨rfl, Nq64, q64⟩ := Q64
    replace e64 := e64.trans q64
    have N64 := Fr.app N63 Nq64
    refine own_of st64 ?_
    show own_Ends _ _ _ _ _ _ (T64.setTop (mkF m 68 #[.val (.int p1), .val (.int p2), .val (.int p3), .val (.int p4), .val (.ref wJ), .val (.ref a59), .unset, .unset] [.null]))
    refine own_of (fun tt_ kk_ => XS.ifnonnullNo X64.here hx rfl (hb hby at_68) rfl kk_) ?_
    show own_Ends _ _ _ _ _ _ (T64.setTop (mkF m 71 #[.val (.int p1), .val (.int p2), .val (.int p3), .val (.int p4), .val (.ref wJ), .val (.ref a59), .unset, .unset] []))
    refine own_of (fun tt_ kk_ => XS.aload X64.here hx rfl (hb hby at_71) rfl rfl kk_) ?_
    show own_Ends _ _ _ _ _ _ (T64.setTop (mkF m 73 #[.val (.int p1), .val (.int p2), .val (.int p3), .val (.int p4), .val (.ref wJ), .val (.ref a59), .unset, .unset] [(.ref a59)]))
    obtain ⟨v65, T65, L65, h65, X65, e65, Q65, st65⟩ := own_virtual X64 hx hZ hown e64 Ea59 (hw _ (List.mem_of_getElem? (i := 80) rfl)) (hw _ (List.mem_of_getElem? (i := 81) rfl)) (notFace_of_selects (args := #[]) (mvT hZ (hw _ (List.mem_of_getElem? (i := 83) rfl)))) (hw _ (List.mem_of_getElem? (i := 83) rfl)) (hw _ (List.mem_of_getElem? (i := 82) rfl)) (hw _ (List.mem_of_getElem? (i := 5) rfl)) (hw _ (List.mem_of_getElem? (i := 84) rfl)) (by decide) (argsL := []) (rest := []) (rm_prim l Z a0 hw a59 h59 n0 (Nat.le_trans Z0 K.1) F_value F_primitive) (g := (mkF m 73 #[.val (.int p1), .val (.int p2), .val (.int p3), .val (.int p4), .val (.ref wJ), .val (.ref a59), .unset, .unset] [(.ref a59)])) rfl (by rw [hml]; rfl) (lenOf pd___r_Z rfl) rfl (by decide) (Nat.le_of_ble_eq_true rfl) (by decide) (by decide) (hb hby at_73)
    obtain ⟨rfl, Nq65, q65⟩ := Q65
    replace e65 := e65.trans q65
    have N65 := Fr.app N64 Nq65
    refine own_of st65 ?_
    show own_Ends _ _ _ _ _ _ (T65.setTop (mkF m 76 #[.val (.int p1), .val (.int p2), .val (.int p3), .val (.int p4), .val (.ref wJ), .val (.ref a59), .unset, .unset] [(.int (0 : Int32))]))
    refine own_of (fun tt_ kk_ => XS.ifNo X65.here hx rfl (hb hby at_76) rfl ((if0 _ _).trans (teq (by decide : ((0 : Int32) = (0 : Int32)))).2) kk_) ?_
    show own_Ends _ _ _ _ _ _ (T65.setTop (mkF m 79 #[.val (.int p1), .val (.int p2), .val (.int p3), .val (.int p4), .val (.ref wJ), .val (.ref a59), .unset, .unset] []))
    refine own_of (fun tt_ kk_ => XS.aload X65.here hx rfl (hb hby at_79) rfl rfl kk_) ?_
    show own_Ends _ _ _ _ _ _ (T65.setTop (mkF m 81 #[.val (.int p1), .val (.int p2), .val (.int p3), .val (.int p4), .val (.ref wJ), .val (.ref a59), .unset, .unset] [(.ref a59)]))
    obtain ⟨v66, T66, L66, h66, X66, e66, Q66, st66⟩ := own_virtual X65 hx hZ hown e65 Ea59 (hw _ (List.mem_of_getElem? (i := 89) rfl)) (hw _ (List.mem_of_getElem? (i := 90) rfl)) (notFace_of_selects (args := #[]) (mvT hZ (hw _ (List.mem_of_getElem? (i := 92) rfl)))) (hw _ (List.mem_of_getElem? (i := 92) rfl)) (hw _ (List.mem_of_getElem? (i := 91) rfl)) (hw _ (List.mem_of_getElem? (i := 5) rfl)) (hw _ (List.mem_of_getElem? (i := 93) rfl)) (by decide) (argsL := []) (rest := []) (rm_children l Z a0 hw a59 b59 mA mL mR h59 n0 (Nat.le_trans Z0 K.1) Eb59 F_children M_mA M_mL M_mR) (g := (mkF m 81 #[.val (.int p1), .val (.int p2), .val (.int p3), .val (.int p4), .val (.ref wJ), .val (.ref a59), .unset, .unset] [(.ref a59)])) rfl (by rw [hml]; rfl) (lenOf pd___r_Ljava_util_List_ rfl) rfl (by decide) (Nat.le_of_ble_eq_true rfl) (by decide) (by decide) (hb hby at_81)
    obtain ⟨u66, rfl, Nq66, Kq66, szq_u66, Eu66, Fu66⟩ := Q66
    have ne_a59_u66 : a59 ≠ u66 := Nat.ne_of_lt (Nat.lt_of_lt_of_le Ea59.lt szq_u66)
    have ne_b59_u66 : b59 ≠ u66 := Nat.ne_of_lt (Nat.lt_of_lt_of_le Eb59.lt szq_u66)
    have sz_u66 : h0.size ≤ u66 := Nat.le_trans K.1 szq_u66
    have g_u66 : n0 ≤ u66 := Nat.le_trans Z0 sz_u66
    replace OL := OL.keep Kq66 all0
    replace Ea59 := Ea59.keep Kq66
    replace F_children := F_children.keep Kq66 nin0
    replace F_format := F_format.keep Kq66 nin0
    replace F_parent := F_parent.keep Kq66 nin0
    replace F_name := F_name.keep Kq66 nin0
    replace F_index := F_index.keep Kq66 nin0
    replace F_line := F_line.keep Kq66 nin0
    replace F_column := F_column.keep Kq66 nin0
    replace F_resourceType := F_resourceType.keep Kq66 nin0
    replace F_value := F_value.keep Kq66 nin0
    replace F_primitive := F_primitive.keep Kq66 nin0
    replace Eb59 := Eb59.keep Kq66
    replace Fb59 := Fb59.keep Kq66 nin0
    replace K := K.trans Kq66 all0
    have N66 := Fr.app N65 Nq66
    refine own_of st66 ?_
    show own_Ends _ _ _ _ _ _ (T66.setTop (mkF m 84 #[.val (.int p1), .val (.int p2), .val (.int p3), .val (.int p4), .val (.ref wJ), .val (.ref a59), .unset, .unset] [(.ref u66)]))
    obtain ⟨v67, T67, L67, h67, X67, e67, Q67, st67⟩ := own_interface X66 hx hZ hown e66 Eu66 (hw _ (List.mem_of_getElem? (i := 137) rfl)) (hw _ (List.mem_of_getElem? (i := 138) rfl)) (Jvm.Free.ULB.iface_rides hZ.alike (hw _ (List.mem_of_getElem? (i := 139) rfl))) (hw _ (List.mem_of_getElem? (i := 140) rfl)) (hw _ (List.mem_of_getElem? (i := 141) rfl)) (hw _ (List.mem_of_getElem? (i := 142) rfl)) (hw _ (List.mem_of_getElem? (i := 143) rfl)) (hw _ (List.mem_of_getElem? (i := 144) rfl)) (hw _ (List.mem_of_getElem? (i := 130) rfl)) (hw _ (List.mem_of_getElem? (i := 145) rfl)) (by decide) (argsL := []) (rest := []) (rm_usize l Z a0 hw u66 b59 h66 n0 (Nat.le_trans Z0 K.1) Fb59 Eb59 Fu66) (g := (mkF m 84 #[.val (.int p1), .val (.int p2), .val (.int p3), .val (.int p4), .val (.ref wJ), .val (.ref a59), .unset, .unset] [(.ref u66)])) rfl (by rw [hml]; rfl) (lenOf pd___r_I rfl) rfl (by decide) (Nat.le_of_ble_eq_true rfl) (by decide) (by decide) (hb hby at_84)
    obtain ⟨rfl, Nq67, q67⟩ := Q67
    replace e67 := e67.trans q67
    have N67 := Fr.app N66 Nq67
    refine own_of st67 ?_
    show own_Ends _ _ _ _ _ _ (T67.setTop (mkF m 89 #[.val (.int p1), .val (.int p2), .val (.int p3), .val (.int p4), .val (.ref wJ), .val (.ref a59), .unset, .unset] [(.int (0 : Int32))]))
    refine own_of (fun tt_ kk_ => XS.ifNo X67.here hx rfl (hb hby at_89) rfl ((if0 _ _).trans (teq (by decide : ((0 : Int32) = (0 : Int32)))).2) kk_) ?_
    show own_Ends _ _ _ _ _ _ (T67.setTop (mkF m 92 #[.val (.int p1), .val (.int p2), .val (.int p3), .val (.int p4), .val (.ref wJ), .val (.ref a59), .unset, .unset] []))
    refine own_of (fun tt_ kk_ => XS.iconst X67.here hx rfl (hb hby at_92) kk_) ?_
    show own_Ends _ _ _ _ _ _ (T67.setTop (mkF m 93 #[.val (.int p1), .val (.int p2), .val (.int p3), .val (.int p4), .val (.ref wJ), .val (.ref a59), .unset, .unset] [(.int (1 : Int32))]))
    refine own_of (fun tt_ kk_ => XS.goto X67.here hx rfl (pc0 := 93) (pc' := 97) rfl (hb hby at_93) (by decide) (by decide) kk_) ?_
    show own_Ends _ _ _ _ _ _ (T67.setTop (mkF m 97 #[.val (.int p1), .val (.int p2), .val (.int p3), .val (.int p4), .val (.ref wJ), .val (.ref a59), .unset, .unset] [(.int (1 : Int32))]))
    refine own_of (fun tt_ kk_ => XS.istore X67.here hx rfl (hb hby at_97) rfl (l' := #[.val (.int p1), .val (.int p2), .val (.int p3), .val (.int p4), .val (.ref wJ), .val (.ref a59), .val (.int (1 : Int32)), .unset]) rfl kk_) ?_
    show own_Ends _ _ _ _ _ _ (T67.setTop (mkF m 99 #[.val (.int p1), .val (.int p2), .val (.int p3), .val (.int p4), .val (.ref wJ), .val (.ref a59), .val (.int (1 : Int32)), .unset] []))
    refine own_of (fun tt_ kk_ => XS.iloadN X67.here hx rfl (hb hby at_99) rfl  kk_) ?_
    show own_Ends _ _ _ _ _ _ (T67.setTop (mkF m 100 #[.val (.int p1), .val (.int p2), .val (.int p3), .val (.int p4), .val (.ref wJ), .val (.ref a59), .val (.int (1 : Int32)), .unset] [(.int p4)]))
    refine own_of (fun tt_ kk_ => XS.sipush X67.here hx rfl (hb hby at_100) kk_) ?_
    show own_Ends _ _ _ _ _ _ (T67.setTop (mkF m 103 #[.val (.int p1), .val (.int p2), .val (.int p3), .val (.int p4), .val (.ref wJ), .val (.ref a59), .val (.int (1 : Int32)), .unset] [(.int (255 : Int32)), (.int p4)]))
    refine own_of (fun tt_ kk_ => XS.iand X67.here hx rfl (hb hby at_103) rfl kk_) ?_
    show own_Ends _ _ _ _ _ _ (T67.setTop (mkF m 104 #[.val (.int p1), .val (.int p2), .val (.int p3), .val (.int p4), .val (.ref wJ), .val (.ref a59), .val (.int (1 : Int32)), .unset] [(.int (p4 &&& (255 : Int32)))]))
    refine own_of (fun tt_ kk_ => XS.i2c X67.here hx rfl (hb hby at_104) rfl kk_) ?_
    show own_Ends _ _ _ _ _ _ (T67.setTop (mkF m 105 #[.val (.int p1), .val (.int p2), .val (.int p3), .val (.int p4), .val (.ref wJ), .val (.ref a59), .val (.int (1 : Int32)), .unset] [(.int ((p4 &&& (255 : Int32)).toUInt32.toUInt16.toUInt32.toInt32))]))
    obtain ⟨c1, hc1⟩ : ∃ z : Int32, z = ((p4 &&& (255 : Int32)).toUInt32.toUInt16.toUInt32.toInt32) := ⟨_, rfl⟩
    rw [← hc1]
    have lat_c1 : ¬ c1 < 0 ∧ ¬ (255 : Int32) < c1 := by rw [hc1, i2c_mask]; exact own_lat p4
    show own_Ends _ _ _ _ _ _ (T67.setTop (mkF m 105 #[.val (.int p1), .val (.int p2), .val (.int p3), .val (.int p4), .val (.ref wJ), .val (.ref a59), .val (.int (1 : Int32)), .unset] [(.int c1)]))
    obtain ⟨v68, T68, L68, h68, X68, e68, Q68, st68⟩ := own_static X67 hx hZ hown e67 (hw _ (List.mem_of_getElem? (i := 157) rfl)) (hw _ (List.mem_of_getElem? (i := 158) rfl)) (hw _ (List.mem_of_getElem? (i := 159) rfl)) (hw _ (List.mem_of_getElem? (i := 160) rfl)) (by decide) (argsL := [(.int c1)]) (rest := []) (rm_valueOf l Z a0 hw c1 G1 h66 n0 (Nat.le_trans Z0 K.1) O2 P3 OL lat_c1.2) (g := (mkF m 105 #[.val (.int p1), .val (.int p2), .val (.int p3), .val (.int p4), .val (.ref wJ), .val (.ref a59), .val (.int (1 : Int32)), .unset] [(.int c1)])) rfl (by rw [hml]; rfl) (lenOf pd__C_r_Ljava_lang_String_ rfl) rfl (by decide) (Nat.le_of_ble_eq_true rfl) (by decide) (by decide) (hb hby at_105)
    obtain ⟨a68, t68, k68, rfl, Nq68, Kq68, szq_a68, szq_t68, ne_a68_t68, Es68, Fs68, Cs68, Vs68⟩ := Q68
    have ne_a59_a68 : a59 ≠ a68 := Nat.ne_of_lt (Nat.lt_of_lt_of_le Ea59.lt szq_a68)
    have ne_b59_a68 : b59 ≠ a68 := Nat.ne_of_lt (Nat.lt_of_lt_of_le Eb59.lt szq_a68)
    have ne_u66_a68 : u66 ≠ a68 := Nat.ne_of_lt (Nat.lt_of_lt_of_le Eu66.lt szq_a68)
    have sz_a68 : h0.size ≤ a68 := Nat.le_trans K.1 szq_a68
    have g_a68 : n0 ≤ a68 := Nat.le_trans Z0 sz_a68
    have ne_a59_t68 : a59 ≠ t68 := Nat.ne_of_lt (Nat.lt_of_lt_of_le Ea59.lt szq_t68)
    have ne_b59_t68 : b59 ≠ t68 := Nat.ne_of_lt (Nat.lt_of_lt_of_le Eb59.lt szq_t68)
    have ne_u66_t68 : u66 ≠ t68 := Nat.ne_of_lt (Nat.lt_of_lt_of_le Eu66.lt szq_t68)
    have sz_t68 : h0.size ≤ t68 := Nat.le_trans K.1 szq_t68
    have g_t68 : n0 ≤ t68 := Nat.le_trans Z0 sz_t68
    replace OL := OL.keep Kq68 all0
    replace Ea59 := Ea59.keep Kq68
    replace F_children := F_children.keep Kq68 nin0
    replace F_format := F_format.keep Kq68 nin0
    replace F_parent := F_parent.keep Kq68 nin0
    replace F_name := F_name.keep Kq68 nin0
    replace F_index := F_index.keep Kq68 nin0
    replace F_line := F_line.keep Kq68 nin0
    replace F_column := F_column.keep Kq68 nin0
    replace F_resourceType := F_resourceType.keep Kq68 nin0
    replace F_value := F_value.keep Kq68 nin0
    replace F_primitive := F_primitive.keep Kq68 nin0
    replace Eb59 := Eb59.keep Kq68
    replace Fb59 := Fb59.keep Kq68 nin0
    replace Eu66 := Eu66.keep Kq68
    replace Fu66 := Fu66.keep Kq68 nin0
    replace K := K.trans Kq68 all0
    have N68 := Fr.app N67 Nq68
    refine own_of st68 ?_
    show own_Ends _ _ _ _ _ _ (T68.setTop (mkF m 108 #[.val (.int p1), .val (.int p2), .val (.int p3), .val (.int p4), .val (.ref wJ), .val (.ref a59), .val (.int (1 : Int32)), .unset] [(.ref a68)]))
    refine own_of (fun tt_ kk_ => XS.astore X68.here hx rfl (hb hby at_108) rfl rfl (l' := #[.val (.int p1), .val (.int p2), .val (.int p3), .val (.int p4), .val (.ref wJ), .val (.ref a59), .val (.int (1 : Int32)), .val (.ref a68)]) rfl kk_) ?_
    show own_Ends _ _ _ _ _ _ (T68.setTop (mkF m 110 #[.val (.int p1), .val (.int p2), .val (.int p3), .val (.int p4), .val (.ref wJ), .val (.ref a59), .val (.int (1 : Int32)), .val (.ref a68)] []))
    refine own_of (fun tt_ kk_ => XS.aload X68.here hx rfl (hb hby at_110) rfl rfl kk_) ?_
    show own_Ends _ _ _ _ _ _ (T68.setTop (mkF m 112 #[.val (.int p1), .val (.int p2), .val (.int p3), .val (.int p4), .val (.ref wJ), .val (.ref a59), .val (.int (1 : Int32)), .val (.ref a68)] [(.ref a59)]))
    refine own_of (fun tt_ kk_ => XS.aload X68.here hx rfl (hb hby at_112) rfl rfl kk_) ?_
    show own_Ends _ _ _ _ _ _ (T68.setTop (mkF m 114 #[.val (.int p1), .val (.int p2), .val (.int p3), .val (.int p4), .val (.ref wJ), .val (.ref a59), .val (.int (1 : Int32)), .val (.ref a68)] [(.ref a68), (.ref a59)]))
    obtain ⟨v69, T69, L69, h69, X69, e69, Q69, st69⟩ := own_virtual X68 hx hZ hown e68 Ea59 (hw _ (List.mem_of_getElem? (i := 181) rfl)) (hw _ (List.mem_of_getElem? (i := 182) rfl)) (notFace_of_selects (args := #[]) (mvT hZ (hw _ (List.mem_of_getElem? (i := 184) rfl)))) (hw _ (List.mem_of_getElem? (i := 184) rfl)) (hw _ (List.mem_of_getElem? (i := 183) rfl)) (hw _ (List.mem_of_getElem? (i := 5) rfl)) (hw _ (List.mem_of_getElem? (i := 185) rfl)) (by decide) (argsL := [(.ref a68)]) (rest := []) (rm_setrt l Z a0 hw a59 a68 h68 n0 (Nat.le_trans Z0 K.1) Ea59 F_resourceType F_parent g_a59) (g := (mkF m 114 #[.val (.int p1), .val (.int p2), .val (.int p3), .val (.int p4), .val (.ref wJ), .val (.ref a59), .val (.int (1 : Int32)), .val (.ref a68)] [(.ref a68), (.ref a59)])) rfl (by rw [hml]; rfl) (lenOf pd__Ljava_lang_String__r_V rfl) rfl (by decide) (Nat.le_of_ble_eq_true rfl) (by decide) (by decide) (hb hby at_114)
    obtain ⟨rfl, Nq69, Kq69, Ea59', F_parent', F_resourceType'⟩ := Q69
    replace OL := OL.keep Kq69 (allS g_a59 all0)
    replace Ea59 := Ea59.keep Kq69
    replace Eb59 := Eb59.keep Kq69
    replace Fb59 := Fb59.keep Kq69 (ninS (Ne.symm ne_a59_b59) nin0)
    replace Eu66 := Eu66.keep Kq69
    replace Fu66 := Fu66.keep Kq69 (ninS (Ne.symm ne_a59_u66) nin0)
    replace Es68 := Es68.keep Kq69
    replace Fs68 := Fs68.keep Kq69 (ninS (Ne.symm ne_a59_a68) nin0)
    replace Cs68 := Cs68.keep Kq69 (ninS (Ne.symm ne_a59_a68) nin0)
    replace Vs68 := Vs68.keep Kq69 (ninS (Ne.symm ne_a59_t68) nin0)
    clear Ea59
    have Ea59 := Ea59'
    have F_parent := F_parent'
    have F_resourceType := F_resourceType'
    replace K := K.trans Kq69 (allS (Or.inr sz_a59) all0)
    have N69 := Fr.app N68 Nq69
    refine own_of st69 ?_
    show own_Ends _ _ _ _ _ _ (T69.setTop (mkF m 117 #[.val (.int p1), .val (.int p2), .val (.int p3), .val (.int p4), .val (.ref wJ), .val (.ref a59), .val (.int (1 : Int32)), .val (.ref a68)] []))
    refine own_of (fun tt_ kk_ => XS.iload X69.here hx rfl (hb hby at_117) rfl  kk_) ?_
    show own_Ends _ _ _ _ _ _ (T69.setTop (mkF m 119 #[.val (.int p1), .val (.int p2), .val (.int p3), .val (.int p4), .val (.ref wJ), .val (.ref a59), .val (.int (1 : Int32)), .val (.ref a68)] [(.int (1 : Int32))]))
    refine own_of (fun tt_ kk_ => XS.ifNo X69.here hx rfl (hb hby at_119) rfl ((if0 _ _).trans (feq (by decide : ¬ ((1 : Int32) = (0 : Int32)))).1) kk_) ?_
    show own_Ends _ _ _ _ _ _ (T69.setTop (mkF m 122 #[.val (.int p1), .val (.int p2), .val (.int p3), .val (.int p4), .val (.ref wJ), .val (.ref a59), .val (.int (1 : Int32)), .val (.ref a68)] []))
    refine own_of (fun tt_ kk_ => XS.aload X69.here hx rfl (hb hby at_122) rfl rfl kk_) ?_
    show own_Ends _ _ _ _ _ _ (T69.setTop (mkF m 124 #[.val (.int p1), .val (.int p2), .val (.int p3), .val (.int p4), .val (.ref wJ), .val (.ref a59), .val (.int (1 : Int32)), .val (.ref a68)] [(.ref a68)]))
    refine own_of (fun tt_ kk_ => XS.aload X69.here hx rfl (hb hby at_124) rfl rfl kk_) ?_
    show own_Ends _ _ _ _ _ _ (T69.setTop (mkF m 126 #[.val (.int p1), .val (.int p2), .val (.int p3), .val (.int p4), .val (.ref wJ), .val (.ref a59), .val (.int (1 : Int32)), .val (.ref a68)] [(.ref a59), (.ref a68)]))
    obtain ⟨v70, T70, L70, h70, X70, e70, Q70, st70⟩ := own_virtual X69 hx hZ hown e69 Ea59 (hw _ (List.mem_of_getElem? (i := 73) rfl)) (hw _ (List.mem_of_getElem? (i := 74) rfl)) (notFace_of_selects (args := #[]) (mvT hZ (hw _ (List.mem_of_getElem? (i := 76) rfl)))) (hw _ (List.mem_of_getElem? (i := 76) rfl)) (hw _ (List.mem_of_getElem? (i := 75) rfl)) (hw _ (List.mem_of_getElem? (i := 5) rfl)) (hw _ (List.mem_of_getElem? (i := 77) rfl)) (by decide) (argsL := []) (rest := [(.ref a68)]) (rm_name1 l Z a0 hw a59 a68 h69 n0 (Nat.le_trans Z0 K.1) F_resourceType F_parent) (g := (mkF m 126 #[.val (.int p1), .val (.int p2), .val (.int p3), .val (.int p4), .val (.ref wJ), .val (.ref a59), .val (.int (1 : Int32)), .val (.ref a68)] [(.ref a59), (.ref a68)])) rfl (by rw [hml]; rfl) (lenOf pd___r_Ljava_lang_String_ rfl) rfl (by decide) (Nat.le_of_ble_eq_true rfl) (by decide) (by decide) (hb hby at_126)
    obtain ⟨rfl, Nq70, q70⟩ := Q70
    replace e70 := e70.trans q70
    have N70 := Fr.app N69 Nq70
    refine own_of st70 ?_
    show own_Ends _ _ _ _ _ _ (T70.setTop (mkF m 129 #[.val (.int p1), .val (.int p2), .val (.int p3), .val (.int p4), .val (.ref wJ), .val (.ref a59), .val (.int (1 : Int32)), .val (.ref a68)] [(.ref a68), (.ref a68)]))
    obtain ⟨v71, T71, L71, h71, X71, e71, Q71, st71⟩ := own_virtual X70 hx hZ hown e70 Es68 (hw _ (List.mem_of_getElem? (i := 186) rfl)) (hw _ (List.mem_of_getElem? (i := 187) rfl)) (notFace_of_selects (args := #[]) (mvT hZ (hw _ (List.mem_of_getElem? (i := 189) rfl)))) (hw _ (List.mem_of_getElem? (i := 189) rfl)) (hw _ (List.mem_of_getElem? (i := 188) rfl)) (hw _ (List.mem_of_getElem? (i := 159) rfl)) (hw _ (List.mem_of_getElem? (i := 190) rfl)) (by decide) (argsL := [(.ref a68)]) (rest := []) (rm_eqself l Z a0 hw a68 h69 n0 (Nat.le_trans Z0 K.1)) (g := (mkF m 129 #[.val (.int p1), .val (.int p2), .val (.int p3), .val (.int p4), .val (.ref wJ), .val (.ref a59), .val (.int (1 : Int32)), .val (.ref a68)] [(.ref a68), (.ref a68)])) rfl (by rw [hml]; rfl) (lenOf pd__Ljava_lang_Object__r_Z rfl) rfl (by decide) (Nat.le_of_ble_eq_true rfl) (by decide) (by decide) (hb hby at_129)
    obtain ⟨rfl, Nq71, q71⟩ := Q71
    replace e71 := e71.trans q71
    have N71 := Fr.app N70 Nq71
    refine own_of st71 ?_
    show own_Ends _ _ _ _ _ _ (T71.setTop (mkF m 132 #[.val (.int p1), .val (.int p2), .val (.int p3), .val (.int p4), .val (.ref wJ), .val (.ref a59), .val (.int (1 : Int32)), .val (.ref a68)] [(.int (1 : Int32))]))
    refine own_of (fun tt_ kk_ => XS.ifNo X71.here hx rfl (hb hby at_132) rfl ((if0 _ _).trans (feq (by decide : ¬ ((1 : Int32) = (0 : Int32)))).1) kk_) ?_
    show own_Ends _ _ _ _ _ _ (T71.setTop (mkF m 135 #[.val (.int p1), .val (.int p2), .val (.int p3), .val (.int p4), .val (.ref wJ), .val (.ref a59), .val (.int (1 : Int32)), .val (.ref a68)] []))
    refine own_of (fun tt_ kk_ => XS.iconst X71.here hx rfl (hb hby at_135) kk_) ?_
    show own_Ends _ _ _ _ _ _ (T71.setTop (mkF m 136 #[.val (.int p1), .val (.int p2), .val (.int p3), .val (.int p4), .val (.ref wJ), .val (.ref a59), .val (.int (1 : Int32)), .val (.ref a68)] [(.int (1 : Int32))]))
    refine own_of (fun tt_ kk_ => XS.goto X71.here hx rfl (pc0 := 136) (pc' := 140) rfl (hb hby at_136) (by decide) (by decide) kk_) ?_
    show own_Ends _ _ _ _ _ _ (T71.setTop (mkF m 140 #[.val (.int p1), .val (.int p2), .val (.int p3), .val (.int p4), .val (.ref wJ), .val (.ref a59), .val (.int (1 : Int32)), .val (.ref a68)] [(.int (1 : Int32))]))
    refine own_retN X71 hx hlk e71 (t := .boolean) hret (by simp) (z' := (1 : Int32)) rfl (hb hby at_140) (by decide) (by decide) ?_
    exact ⟨rfl, N71⟩
  · refine own_of (fun tt_ kk_ => XS.ifYes X0.here hx rfl (pc0 := 3) (pc' := 12) rfl (hb hby at_3) rfl ((if0 _ _).trans (feq hc57).2) (by decide) (by decide) kk_) ?_
    show own_Ends _ _ _ _ _ _ (T0.setTop (mkF m 12 #[.val (.int p1), .val (.int p2), .val (.int p3), .val (.int p4), .unset, .unset, .unset, .unset] []))
    obtain ⟨T72, X72, e72, st72⟩ := getS2 X0 hx hZ hown (host := "") (Or.inl (hw _ (List.mem_of_getElem? (i := 191) rfl))) Via.refl e0 (SX.ext OL.2) (g := (mkF m 12 #[.val (.int p1), .val (.int p2), .val (.int p3), .val (.int p4), .unset, .unset, .unset, .unset] [])) rfl (hb hby at_12)
    refine own_of st72 ?_
    show own_Ends _ _ _ _ _ _ (T72.setTop (mkF m 15 #[.val (.int p1), .val (.int p2), .val (.int p3), .val (.int p4), .unset, .unset, .unset, .unset] [(.ref wX)]))
    refine own_of (fun tt_ kk_ => XS.astore X72.here hx rfl (hb hby at_15) rfl rfl (l' := #[.val (.int p1), .val (.int p2), .val (.int p3), .val (.int p4), .val (.ref wX), .unset, .unset, .unset]) rfl kk_) ?_
    show own_Ends _ _ _ _ _ _ (T72.setTop (mkF m 17 #[.val (.int p1), .val (.int p2), .val (.int p3), .val (.int p4), .val (.ref wX), .unset, .unset, .unset] []))
    refine own_of (fun tt_ kk_ => XS.aload X72.here hx rfl (hb hby at_17) rfl rfl kk_) ?_
    show own_Ends _ _ _ _ _ _ (T72.setTop (mkF m 19 #[.val (.int p1), .val (.int p2), .val (.int p3), .val (.int p4), .val (.ref wX), .unset, .unset, .unset] [(.ref wX)]))
    refine own_of (fun tt_ kk_ => XS.iloadN X72.here hx rfl (hb hby at_19) rfl  kk_) ?_
    show own_Ends _ _ _ _ _ _ (T72.setTop (mkF m 20 #[.val (.int p1), .val (.int p2), .val (.int p3), .val (.int p4), .val (.ref wX), .unset, .unset, .unset] [(.int p2), (.ref wX)]))
    refine own_of (fun tt_ kk_ => XS.iloadN X72.here hx rfl (hb hby at_20) rfl  kk_) ?_
    show own_Ends _ _ _ _ _ _ (T72.setTop (mkF m 21 #[.val (.int p1), .val (.int p2), .val (.int p3), .val (.int p4), .val (.ref wX), .unset, .unset, .unset] [(.int p3), (.int p2), (.ref wX)]))
    obtain ⟨v73, T73, L73, h73, X73, e73, Q73, st73⟩ := own_static X72 hx hZ hown e72 (hw _ (List.mem_of_getElem? (i := 3) rfl)) (hw _ (List.mem_of_getElem? (i := 4) rfl)) (hw _ (List.mem_of_getElem? (i := 5) rfl)) (hw _ (List.mem_of_getElem? (i := 6) rfl)) (by decide) (argsL := [(.ref wX), (.int p2), (.int p3)]) (rest := []) (rm_root l Z a0 hw wX wD p2 p3 h0 n0 (Nat.le_trans Z0 K.1) O3 OL) (g := (mkF m 21 #[.val (.int p1), .val (.int p2), .val (.int p3), .val (.int p4), .val (.ref wX), .unset, .unset, .unset] [(.int p3), (.int p2), (.ref wX)])) rfl (by rw [hml]; rfl) (lenOf pd__Lcom_example_extlint_extlint_model_Format_II_r_Lcom_example_extlint_extlint_model_Element_ rfl) rfl (by decide) (Nat.le_of_ble_eq_true rfl) (by decide) (by decide) (hb hby at_21)
    obtain ⟨a73, b73, rfl, Nq73, Kq73, szq_a73, szq_b73, ne_a73_b73, Ea73, F_children, F_format, F_parent, F_name, F_index, F_line, F_column, F_resourceType, F_value, F_primitive, Eb73, Fb73⟩ := Q73
    have sz_a73 : h0.size ≤ a73 := Nat.le_trans K.1 szq_a73
    have g_a73 : n0 ≤ a73 := Nat.le_trans Z0 sz_a73
    have sz_b73 : h0.size ≤ b73 := Nat.le_trans K.1 szq_b73
    have g_b73 : n0 ≤ b73 := Nat.le_trans Z0 sz_b73
    replace OL := OL.keep Kq73 all0
    replace K := K.trans Kq73 all0
    have N73 := Fr.app N0 Nq73
    refine own_of st73 ?_
    show own_Ends _ _ _ _ _ _ (T73.setTop (mkF m 24 #[.val (.int p1), .val (.int p2), .val (.int p3), .val (.int p4), .val (.ref wX), .unset, .unset, .unset] [(.ref a73)]))
    refine own_of (fun tt_ kk_ => XS.astore X73.here hx rfl (hb hby at_24) rfl rfl (l' := #[.val (.int p1), .val (.int p2), .val (.int p3), .val (.int p4), .val (.ref wX), .val (.ref a73), .unset, .unset]) rfl kk_) ?_
    show own_Ends _ _ _ _ _ _ (T73.setTop (mkF m 26 #[.val (.int p1), .val (.int p2), .val (.int p3), .val (.int p4), .val (.ref wX), .val (.ref a73), .unset, .unset] []))
    refine own_of (fun tt_ kk_ => XS.aload X73.here hx rfl (hb hby at_26) rfl rfl kk_) ?_
    show own_Ends _ _ _ _ _ _ (T73.setTop (mkF m 28 #[.val (.int p1), .val (.int p2), .val (.int p3), .val (.int p4), .val (.ref wX), .val (.ref a73), .unset, .unset] [(.ref a73)]))
    obtain ⟨v74, T74, L74, h74, X74, e74, Q74, st74⟩ := own_virtual X73 hx hZ hown e73 Ea73 (hw _ (List.mem_of_getElem? (i := 53) rfl)) (hw _ (List.mem_of_getElem? (i := 54) rfl)) (notFace_of_selects (args := #[]) (mvT hZ (hw _ (List.mem_of_getElem? (i := 56) rfl)))) (hw _ (List.mem_of_getElem? (i := 56) rfl)) (hw _ (List.mem_of_getElem? (i := 55) rfl)) (hw _ (List.mem_of_getElem? (i := 5) rfl)) (hw _ (List.mem_of_getElem? (i := 57) rfl)) (by decide) (argsL := []) (rest := []) (rm_g_format l Z a0 hw a73 wX h73 n0 (Nat.le_trans Z0 K.1) F_format) (g := (mkF m 28 #[.val (.int p1), .val (.int p2), .val (.int p3), .val (.int p4), .val (.ref wX), .val (.ref a73), .unset, .unset] [(.ref a73)])) rfl (by rw [hml]; rfl) (lenOf pd___r_Lcom_example_extlint_extlint_model_Format_ rfl) rfl (by decide) (Nat.le_of_ble_eq_true rfl) (by decide) (by decide) (hb hby at_28)
    obtain ⟨rfl, Nq74, q74⟩ := Q74
    replace e74 := e74.trans q74
    have N74 := Fr.app N73 Nq74
    refine own_of st74 ?_
    show own_Ends _ _ _ _ _ _ (T74.setTop (mkF m 31 #[.val (.int p1), .val (.int p2), .val (.int p3), .val (.int p4), .val (.ref wX), .val (.ref a73), .unset, .unset] [(.ref wX)]))
    refine own_of (fun tt_ kk_ => XS.aload X74.here hx rfl (hb hby at_31) rfl rfl kk_) ?_
    show own_Ends _ _ _ _ _ _ (T74.setTop (mkF m 33 #[.val (.int p1), .val (.int p2), .val (.int p3), .val (.int p4), .val (.ref wX), .val (.ref a73), .unset, .unset] [(.ref wX), (.ref wX)]))
    refine own_of (fun tt_ kk_ => Jvm.RoadKit.acmp (g := (mkF m 33 #[.val (.int p1), .val (.int p2), .val (.int p3), .val (.int p4), .val (.ref wX), .val (.ref a73), .unset, .unset] [(.ref wX), (.ref wX)])) X74 hx rfl rfl rfl (pc0 := 33) (pc' := 36) (same := true) rfl (hb hby at_33) rfl (decide_eq_true rfl) (by decide) (by decide) kk_) ?_
    show own_Ends _ _ _ _ _ _ (T74.setTop (mkF m 36 #[.val (.int p1), .val (.int p2), .val (.int p3), .val (.int p4), .val (.ref wX), .val (.ref a73), .unset, .unset] []))
    refine own_of (fun tt_ kk_ => XS.aload X74.here hx rfl (hb hby at_36) rfl rfl kk_) ?_
    show own_Ends _ _ _ _ _ _ (T74.setTop (mkF m 38 #[.val (.int p1), .val (.int p2), .val (.int p3), .val (.int p4), .val (.ref wX), .val (.ref a73), .unset, .unset] [(.ref a73)]))
    obtain ⟨v75, T75, L75, h75, X75, e75, Q75, st75⟩ := own_virtual X74 hx hZ hown e74 Ea73 (hw _ (List.mem_of_getElem? (i := 58) rfl)) (hw _ (List.mem_of_getElem? (i := 59) rfl)) (notFace_of_selects (args := #[]) (mvT hZ (hw _ (List.mem_of_getElem? (i := 61) rfl)))) (hw _ (List.mem_of_getElem? (i := 61) rfl)) (hw _ (List.mem_of_getElem? (i := 60) rfl)) (hw _ (List.mem_of_getElem? (i := 5) rfl)) (hw _ (List.mem_of_getElem? (i := 62) rfl)) (by decide) (argsL := []) (rest := []) (rm_g_index l Z a0 hw a73 (-1 : Int32) h73 n0 (Nat.le_trans Z0 K.1) F_index) (g := (mkF m 38 #[.val (.int p1), .val (.int p2), .val (.int p3), .val (.int p4), .val (.ref wX), .val (.ref a73), .unset, .unset] [(.ref a73)])) rfl (by rw [hml]; rfl) (lenOf pd___r_I rfl) rfl (by decide) (Nat.le_of_ble_eq_true rfl) (by decide) (by decide) (hb hby at_38)
    obtain ⟨rfl, Nq75, q75⟩ := Q75
    replace e75 := e75.trans q75
    have N75 := Fr.app N74 Nq75
    refine own_of st75 ?_
    show own_Ends _ _ _ _ _ _ (T75.setTop (mkF m 41 #[.val (.int p1), .val (.int p2), .val (.int p3), .val (.int p4), .val (.ref wX), .val (.ref a73), .unset, .unset] [(.int (-1 : Int32))]))
    refine own_of (fun tt_ kk_ => XS.iconst X75.here hx rfl (hb hby at_41) kk_) ?_
    show own_Ends _ _ _ _ _ _ (T75.setTop (mkF m 42 #[.val (.int p1), .val (.int p2), .val (.int p3), .val (.int p4), .val (.ref wX), .val (.ref a73), .unset, .unset] [(.int (-1 : Int32)), (.int (-1 : Int32))]))
    refine own_of (fun tt_ kk_ => XS.icmpNo X75.here hx rfl (hb hby at_42) rfl (teq (by decide : ((-1 : Int32) = (-1 : Int32)))).2 kk_) ?_
    show own_Ends _ _ _ _ _ _ (T75.setTop (mkF m 45 #[.val (.int p1), .val (.int p2), .val (.int p3), .val (.int p4), .val (.ref wX), .val (.ref a73), .unset, .unset] []))
    refine own_of (fun tt_ kk_ => XS.aload X75.here hx rfl (hb hby at_45) rfl rfl kk_) ?_
    show own_Ends _ _ _ _ _ _ (T75.setTop (mkF m 47 #[.val (.int p1), .val (.int p2), .val (.int p3), .val (.int p4), .val (.ref wX), .val (.ref a73), .unset, .unset] [(.ref a73)]))
    obtain ⟨v76, T76, L76, h76, X76, e76, Q76, st76⟩ := own_virtual X75 hx hZ hown e75 Ea73 (hw _ (List.mem_of_getElem? (i := 63) rfl)) (hw _ (List.mem_of_getElem? (i := 64) rfl)) (notFace_of_selects (args := #[]) (mvT hZ (hw _ (List.mem_of_getElem? (i := 66) rfl)))) (hw _ (List.mem_of_getElem? (i := 66) rfl)) (hw _ (List.mem_of_getElem? (i := 65) rfl)) (hw _ (List.mem_of_getElem? (i := 5) rfl)) (hw _ (List.mem_of_getElem? (i := 67) rfl)) (by decide) (argsL := []) (rest := []) (rm_g_line l Z a0 hw a73 p2 h73 n0 (Nat.le_trans Z0 K.1) F_line) (g := (mkF m 47 #[.val (.int p1), .val (.int p2), .val (.int p3), .val (.int p4), .val (.ref wX), .val (.ref a73), .unset, .unset] [(.ref a73)])) rfl (by rw [hml]; rfl) (lenOf pd___r_I rfl) rfl (by decide) (Nat.le_of_ble_eq_true rfl) (by decide) (by decide) (hb hby at_47)
    obtain ⟨rfl, Nq76, q76⟩ := Q76
    replace e76 := e76.trans q76
    have N76 := Fr.app N75 Nq76
    refine own_of st76 ?_
    show own_Ends _ _ _ _ _ _ (T76.setTop (mkF m 50 #[.val (.int p1), .val (.int p2), .val (.int p3), .val (.int p4), .val (.ref wX), .val (.ref a73), .unset, .unset] [(.int p2)]))
    refine own_of (fun tt_ kk_ => XS.iloadN X76.here hx rfl (hb hby at_50) rfl  kk_) ?_
    show own_Ends _ _ _ _ _ _ (T76.setTop (mkF m 51 #[.val (.int p1), .val (.int p2), .val (.int p3), .val (.int p4), .val (.ref wX), .val (.ref a73), .unset, .unset] [(.int p2), (.int p2)]))
    refine own_of (fun tt_ kk_ => XS.icmpNo X76.here hx rfl (hb hby at_51) rfl (teq (rfl : p2 = p2)).2 kk_) ?_
    show own_Ends _ _ _ _ _ _ (T76.setTop (mkF m 54 #[.val (.int p1), .val (.int p2), .val (.int p3), .val (.int p4), .val (.ref wX), .val (.ref a73), .unset, .unset] []))
    refine own_of (fun tt_ kk_ => XS.aload X76.here hx rfl (hb hby at_54) rfl rfl kk_) ?_
    show own_Ends _ _ _ _ _ _ (T76.setTop (mkF m 56 #[.val (.int p1), .val (.int p2), .val (.int p3), .val (.int p4), .val (.ref wX), .val (.ref a73), .unset, .unset] [(.ref a73)]))
    obtain ⟨v77, T77, L77, h77, X77, e77, Q77, st77⟩ := own_virtual X76 hx hZ hown e76 Ea73 (hw _ (List.mem_of_getElem? (i := 68) rfl)) (hw _ (List.mem_of_getElem? (i := 69) rfl)) (notFace_of_selects (args := #[]) (mvT hZ (hw _ (List.mem_of_getElem? (i := 71) rfl)))) (hw _ (List.mem_of_getElem? (i := 71) rfl)) (hw _ (List.mem_of_getElem? (i := 70) rfl)) (hw _ (List.mem_of_getElem? (i := 5) rfl)) (hw _ (List.mem_of_getElem? (i := 72) rfl)) (by decide) (argsL := []) (rest := []) (rm_g_column l Z a0 hw a73 p3 h73 n0 (Nat.le_trans Z0 K.1) F_column) (g := (mkF m 56 #[.val (.int p1), .val (.int p2), .val (.int p3), .val (.int p4), .val (.ref wX), .val (.ref a73), .unset, .unset] [(.ref a73)])) rfl (by rw [hml]; rfl) (lenOf pd___r_I rfl) rfl (by decide) (Nat.le_of_ble_eq_true rfl) (by decide) (by decide) (hb hby at_56)
    obtain ⟨rfl, Nq77, q77⟩ := Q77
    replace e77 := e77.trans q77
    have N77 := Fr.app N76 Nq77
    refine own_of st77 ?_
    show own_Ends _ _ _ _ _ _ (T77.setTop (mkF m 59 #[.val (.int p1), .val (.int p2), .val (.int p3), .val (.int p4), .val (.ref wX), .val (.ref a73), .unset, .unset] [(.int p3)]))
    refine own_of (fun tt_ kk_ => XS.iloadN X77.here hx rfl (hb hby at_59) rfl  kk_) ?_
    show own_Ends _ _ _ _ _ _ (T77.setTop (mkF m 60 #[.val (.int p1), .val (.int p2), .val (.int p3), .val (.int p4), .val (.ref wX), .val (.ref a73), .unset, .unset] [(.int p3), (.int p3)]))
    refine own_of (fun tt_ kk_ => XS.icmpNo X77.here hx rfl (hb hby at_60) rfl (teq (rfl : p3 = p3)).2 kk_) ?_
    show own_Ends _ _ _ _ _ _ (T77.setTop (mkF m 63 #[.val (.int p1), .val (.int p2), .val (.int p3), .val (.int p4), .val (.ref wX), .val (.ref a73), .unset, .unset] []))
    refine own_of (fun tt_ kk_ => XS.aload X77.here hx rfl (hb hby at_63) rfl rfl kk_) ?_
    show own_Ends _ _ _ _ _ _ (T77.setTop (mkF m 65 #[.val (.int p1), .val (.int p2), .val (.int p3), .val (.int p4), .val (.ref wX), .val (.ref a73), .unset, .unset] [(.ref a73)]))
    obtain ⟨v78, T78, L78, h78, X78, e78, Q78, st78⟩ := own_virtual X77 hx hZ hown e77 Ea73 (hw _ (List.mem_of_getElem? (i := 73) rfl)) (hw _ (List.mem_of_getElem? (i := 74) rfl)) (notFace_of_selects (args := #[]) (mvT hZ (hw _ (List.mem_of_getElem? (i := 76) rfl)))) (hw _ (List.mem_of_getElem? (i := 76) rfl)) (hw _ (List.mem_of_getElem? (i := 75) rfl)) (hw _ (List.mem_of_getElem? (i := 5) rfl)) (hw _ (List.mem_of_getElem? (i := 77) rfl)) (by decide) (argsL := []) (rest := []) (rm_name0 l Z a0 hw a73  h73 n0 (Nat.le_trans Z0 K.1) F_resourceType F_parent) (g := (mkF m 65 #[.val (.int p1), .val (.int p2), .val (.int p3), .val (.int p4), .val (.ref wX), .val (.ref a73), .unset, .unset] [(.ref a73)])) rfl (by rw [hml]; rfl) (lenOf pd___r_Ljava_lang_String_ rfl) rfl (by decide) (Nat.le_of_ble_eq_true rfl) (by decide) (by decide) (hb hby at_65)
    obtain ⟨rfl, Nq78, q78⟩ := Q78
    replace e78 := e78.trans q78
    have N78 := Fr.app N77 Nq78
    refine own_of st78 ?_
    show own_Ends _ _ _ _ _ _ (T78.setTop (mkF m 68 #[.val (.int p1), .val (.int p2), .val (.int p3), .val (.int p4), .val (.ref wX), .val (.ref a73), .unset, .unset] [.null]))
    refine own_of (fun tt_ kk_ => XS.ifnonnullNo X78.here hx rfl (hb hby at_68) rfl kk_) ?_
    show own_Ends _ _ _ _ _ _ (T78.setTop (mkF m 71 #[.val (.int p1), .val (.int p2), .val (.int p3), .val (.int p4), .val (.ref wX), .val (.ref a73), .unset, .unset] []))
    refine own_of (fun tt_ kk_ => XS.aload X78.here hx rfl (hb hby at_71) rfl rfl kk_) ?_
    show own_Ends _ _ _ _ _ _ (T78.setTop (mkF m 73 #[.val (.int p1), .val (.int p2), .val (.int p3), .val (.int p4), .val (.ref wX), .val (.ref a73), .unset, .unset] [(.ref a73)]))
    obtain ⟨v79, T79, L79, h79, X79, e79, Q79, st79⟩ := own_virtual X78 hx hZ hown e78 Ea73 (hw _ (List.mem_of_getElem? (i := 80) rfl)) (hw _ (List.mem_of_getElem? (i := 81) rfl)) (notFace_of_selects (args := #[]) (mvT hZ (hw _ (List.mem_of_getElem? (i := 83) rfl)))) (hw _ (List.mem_of_getElem? (i := 83) rfl)) (hw _ (List.mem_of_getElem? (i := 82) rfl)) (hw _ (List.mem_of_getElem? (i := 5) rfl)) (hw _ (List.mem_of_getElem? (i := 84) rfl)) (by decide) (argsL := []) (rest := []) (rm_prim l Z a0 hw a73 h73 n0 (Nat.le_trans Z0 K.1) F_value F_primitive) (g := (mkF m 73 #[.val (.int p1), .val (.int p2), .val (.int p3), .val (.int p4), .val (.ref wX), .val (.ref a73), .unset, .unset] [(.ref a73)])) rfl (by rw [hml]; rfl) (lenOf pd___r_Z rfl) rfl (by decide) (Nat.le_of_ble_eq_true rfl) (by decide) (by decide) (hb hby at_73)
    obtain ⟨rfl, Nq79, q79⟩ := Q79
    replace e79 := e79.trans q79
    have N79 := Fr.app N78 Nq79
    refine own_of st79 ?_
    show own_Ends _ _ _ _ _ _ (T79.setTop (mkF m 76 #[.val (.int p1), .val (.int p2), .val (.int p3), .val (.int p4), .val (.ref wX), .val (.ref a73), .unset, .unset] [(.int (0 : Int32))]))
    refine own_of (fun tt_ kk_ => XS.ifNo X79.here hx rfl (hb hby at_76) rfl ((if0 _ _).trans (teq (by decide : ((0 : Int32) = (0 : Int32)))).2) kk_) ?_
    show own_Ends _ _ _ _ _ _ (T79.setTop (mkF m 79 #[.val (.int p1), .val (.int p2), .val (.int p3), .val (.int p4), .val (.ref wX), .val (.ref a73), .unset, .unset] []))
    refine own_of (fun tt_ kk_ => XS.aload X79.here hx rfl (hb hby at_79) rfl rfl kk_) ?_
    show own_Ends _ _ _ _ _ _ (T79.setTop (mkF m 81 #[.val (.int p1), .val (.int p2), .val (.int p3), .val (.int p4), .val (.ref wX), .val (.ref a73), .unset, .unset] [(.ref a73)]))
    obtain ⟨v80, T80, L80, h80, X80, e80, Q80, st80⟩ := own_virtual X79 hx hZ hown e79 Ea73 (hw _ (List.mem_of_getElem? (i := 89) rfl)) (hw _ (List.mem_of_getElem? (i := 90) rfl)) (notFace_of_selects (args := #[]) (mvT hZ (hw _ (List.mem_of_getElem? (i := 92) rfl)))) (hw _ (List.mem_of_getElem? (i := 92) rfl)) (hw _ (List.mem_of_getElem? (i := 91) rfl)) (hw _ (List.mem_of_getElem? (i := 5) rfl)) (hw _ (List.mem_of_getElem? (i := 93) rfl)) (by decide) (argsL := []) (rest := []) (rm_children l Z a0 hw a73 b73 mA mL mR h73 n0 (Nat.le_trans Z0 K.1) Eb73 F_children M_mA M_mL M_mR) (g := (mkF m 81 #[.val (.int p1), .val (.int p2), .val (.int p3), .val (.int p4), .val (.ref wX), .val (.ref a73), .unset, .unset] [(.ref a73)])) rfl (by rw [hml]; rfl) (lenOf pd___r_Ljava_util_List_ rfl) rfl (by decide) (Nat.le_of_ble_eq_true rfl) (by decide) (by decide) (hb hby at_81)
    obtain ⟨u80, rfl, Nq80, Kq80, szq_u80, Eu80, Fu80⟩ := Q80
    have ne_a73_u80 : a73 ≠ u80 := Nat.ne_of_lt (Nat.lt_of_lt_of_le Ea73.lt szq_u80)
    have ne_b73_u80 : b73 ≠ u80 := Nat.ne_of_lt (Nat.lt_of_lt_of_le Eb73.lt szq_u80)
    have sz_u80 : h0.size ≤ u80 := Nat.le_trans K.1 szq_u80
    have g_u80 : n0 ≤ u80 := Nat.le_trans Z0 sz_u80
    replace OL := OL.keep Kq80 all0
    replace Ea73 := Ea73.keep Kq80
    replace F_children := F_children.keep Kq80 nin0
    replace F_format := F_format.keep Kq80 nin0
    replace F_parent := F_parent.keep Kq80 nin0
    replace F_name := F_name.keep Kq80 nin0
    replace F_index := F_index.keep Kq80 nin0
    replace F_line := F_line.keep Kq80 nin0
    replace F_column := F_column.keep Kq80 nin0
    replace F_resourceType := F_resourceType.keep Kq80 nin0
    replace F_value := F_value.keep Kq80 nin0
    replace F_primitive := F_primitive.keep Kq80 nin0
    replace Eb73 := Eb73.keep Kq80
    replace Fb73 := Fb73.keep Kq80 nin0
    replace K := K.trans Kq80 all0
    have N80 := Fr.app N79 Nq80
    refine own_of st80 ?_
    show own_Ends _ _ _ _ _ _ (T80.setTop (mkF m 84 #[.val (.int p1), .val (.int p2), .val (.int p3), .val (.int p4), .val (.ref wX), .val (.ref a73), .unset, .unset] [(.ref u80)]))
    obtain ⟨v81, T81, L81, h81, X81, e81, Q81, st81⟩ := own_interface X80 hx hZ hown e80 Eu80 (hw _ (List.mem_of_getElem? (i := 137) rfl)) (hw _ (List.mem_of_getElem? (i := 138) rfl)) (Jvm.Free.ULB.iface_rides hZ.alike (hw _ (List.mem_of_getElem? (i := 139) rfl))) (hw _ (List.mem_of_getElem? (i := 140) rfl)) (hw _ (List.mem_of_getElem? (i := 141) rfl)) (hw _ (List.mem_of_getElem? (i := 142) rfl)) (hw _ (List.mem_of_getElem? (i := 143) rfl)) (hw _ (List.mem_of_getElem? (i := 144) rfl)) (hw _ (List.mem_of_getElem? (i := 130) rfl)) (hw _ (List.mem_of_getElem? (i := 145) rfl)) (by decide) (argsL := []) (rest := []) (rm_usize l Z a0 hw u80 b73 h80 n0 (Nat.le_trans Z0 K.1) Fb73 Eb73 Fu80) (g := (mkF m 84 #[.val (.int p1), .val (.int p2), .val (.int p3), .val (.int p4), .val (.ref wX), .val (.ref a73), .unset, .unset] [(.ref u80)])) rfl (by rw [hml]; rfl) (lenOf pd___r_I rfl) rfl (by decide) (Nat.le_of_ble_eq_true rfl) (by decide) (by decide) (hb hby at_84)
    obtain ⟨rfl, Nq81, q81⟩ := Q81
    replace e81 := e81.trans q81
    have N81 := Fr.app N80 Nq81
    refine own_of st81 ?_
    show own_Ends _ _ _ _ _ _ (T81.setTop (mkF m 89 #[.val (.int p1), .val (.int p2), .val (.int p3), .val (.int p4), .val (.ref wX), .val (.ref a73), .unset, .unset] [(.int (0 : Int32))]))
    refine own_of (fun tt_ kk_ => XS.ifNo X81.here hx rfl (hb hby at_89) rfl ((if0 _ _).trans (teq (by decide : ((0 : Int32) = (0 : Int32)))).2) kk_) ?_
    show own_Ends _ _ _ _ _ _ (T81.setTop (mkF m 92 #[.val (.int p1), .val (.int p2), .val (.int p3), .val (.int p4), .val (.ref wX), .val (.ref a73), .unset, .unset] []))
    refine own_of (fun tt_ kk_ => XS.iconst X81.here hx rfl (hb hby at_92) kk_) ?_
    show own_Ends _ _ _ _ _ _ (T81.setTop (mkF m 93 #[.val (.int p1), .val (.int p2), .val (.int p3), .val (.int p4), .val (.ref wX), .val (.ref a73), .unset, .unset] [(.int (1 : Int32))]))
    refine own_of (fun tt_ kk_ => XS.goto X81.here hx rfl (pc0 := 93) (pc' := 97) rfl (hb hby at_93) (by decide) (by decide) kk_) ?_
    show own_Ends _ _ _ _ _ _ (T81.setTop (mkF m 97 #[.val (.int p1), .val (.int p2), .val (.int p3), .val (.int p4), .val (.ref wX), .val (.ref a73), .unset, .unset] [(.int (1 : Int32))]))
    refine own_of (fun tt_ kk_ => XS.istore X81.here hx rfl (hb hby at_97) rfl (l' := #[.val (.int p1), .val (.int p2), .val (.int p3), .val (.int p4), .val (.ref wX), .val (.ref a73), .val (.int (1 : Int32)), .unset]) rfl kk_) ?_
    show own_Ends _ _ _ _ _ _ (T81.setTop (mkF m 99 #[.val (.int p1), .val (.int p2), .val (.int p3), .val (.int p4), .val (.ref wX), .val (.ref a73), .val (.int (1 : Int32)), .unset] []))
    refine own_of (fun tt_ kk_ => XS.iloadN X81.here hx rfl (hb hby at_99) rfl  kk_) ?_
    show own_Ends _ _ _ _ _ _ (T81.setTop (mkF m 100 #[.val (.int p1), .val (.int p2), .val (.int p3), .val (.int p4), .val (.ref wX), .val (.ref a73), .val (.int (1 : Int32)), .unset] [(.int p4)]))
    refine own_of (fun tt_ kk_ => XS.sipush X81.here hx rfl (hb hby at_100) kk_) ?_
    show own_Ends _ _ _ _ _ _ (T81.setTop (mkF m 103 #[.val (.int p1), .val (.int p2), .val (.int p3), .val (.int p4), .val (.ref wX), .val (.ref a73), .val (.int (1 : Int32)), .unset] [(.int (255 : Int32)), (.int p4)]))
    refine own_of (fun tt_ kk_ => XS.iand X81.here hx rfl (hb hby at_103) rfl kk_) ?_
    show own_Ends _ _ _ _ _ _ (T81.setTop (mkF m 104 #[.val (.int p1), .val (.int p2), .val (.int p3), .val (.int p4), .val (.ref wX), .val (.ref a73), .val (.int (1 : Int32)), .unset] [(.int (p4 &&& (255 : Int32)))]))
    refine own_of (fun tt_ kk_ => XS.i2c X81.here hx rfl (hb hby at_104) rfl kk_) ?_
    show own_Ends _ _ _ _ _ _ (T81.setTop (mkF m 105 #[.val (.int p1), .val (.int p2), .val (.int p3), .val (.int p4), .val (.ref wX), .val (.ref a73), .val (.int (1 : Int32)), .unset] [(.int ((p4 &&& (255 : Int32)).toUInt32.toUInt16.toUInt32.toInt32))]))
    obtain ⟨c1, hc1⟩ : ∃ z : Int32, z = ((p4 &&& (255 : Int32)).toUInt32.toUInt16.toUInt32.toInt32) := ⟨_, rfl⟩
    rw [← hc1]
    have lat_c1 : ¬ c1 < 0 ∧ ¬ (255 : Int32) < c1 := by rw [hc1, i2c_mask]; exact own_lat p4
    show own_Ends _ _ _ _ _ _ (T81.setTop (mkF m 105 #[.val (.int p1), .val (.int p2), .val (.int p3), .val (.int p4), .val (.ref wX), .val (.ref a73), .val (.int (1 : Int32)), .unset] [(.int c1)]))
    obtain ⟨v82, T82, L82, h82, X82, e82, Q82, st82⟩ := own_static X81 hx hZ hown e81 (hw _ (List.mem_of_getElem? (i := 157) rfl)) (hw _ (List.mem_of_getElem? (i := 158) rfl)) (hw _ (List.mem_of_getElem? (i := 159) rfl)) (hw _ (List.mem_of_getElem? (i := 160) rfl)) (by decide) (argsL := [(.int c1)]) (rest := []) (rm_valueOf l Z a0 hw c1 G1 h80 n0 (Nat.le_trans Z0 K.1) O2 P3 OL lat_c1.2) (g := (mkF m 105 #[.val (.int p1), .val (.int p2), .val (.int p3), .val (.int p4), .val (.ref wX), .val (.ref a73), .val (.int (1 : Int32)), .unset] [(.int c1)])) rfl (by rw [hml]; rfl) (lenOf pd__C_r_Ljava_lang_String_ rfl) rfl (by decide) (Nat.le_of_ble_eq_true rfl) (by decide) (by decide) (hb hby at_105)
    obtain ⟨a82, t82, k82, rfl, Nq82, Kq82, szq_a82, szq_t82, ne_a82_t82, Es82, Fs82, Cs82, Vs82⟩ := Q82
    have ne_a73_a82 : a73 ≠ a82 := Nat.ne_of_lt (Nat.lt_of_lt_of_le Ea73.lt szq_a82)
    have ne_b73_a82 : b73 ≠ a82 := Nat.ne_of_lt (Nat.lt_of_lt_of_le Eb73.lt szq_a82)
    have ne_u80_a82 : u80 ≠ a82 := Nat.ne_of_lt (Nat.lt_of_lt_of_le Eu80.lt szq_a82)
    have sz_a82 : h0.size ≤ a82 := Nat.le_trans K.1 szq_a82
    have g_a82 : n0 ≤ a82 := Nat.le_trans Z0 sz_a82
    have ne_a73_t82 : a73 ≠ t82 := Nat.ne_of_lt (Nat.lt_of_lt_of_le Ea73.lt szq_t82)
    have ne_b73_t82 : b73 ≠ t82 := Nat.ne_of_lt (Nat.lt_of_lt_of_le Eb73.lt szq_t82)
    have ne_u80_t82 : u80 ≠ t82 := Nat.ne_of_lt (Nat.lt_of_lt_of_le Eu80.lt szq_t82)
    have sz_t82 : h0.size ≤ t82 := Nat.le_trans K.1 szq_t82
    have g_t82 : n0 ≤ t82 := Nat.le_trans Z0 sz_t82
    replace OL := OL.keep Kq82 all0
    replace Ea73 := Ea73.keep Kq82
    replace F_children := F_children.keep Kq82 nin0
    replace F_format := F_format.keep Kq82 nin0
    replace F_parent := F_parent.keep Kq82 nin0
    replace F_name := F_name.keep Kq82 nin0
    replace F_index := F_index.keep Kq82 nin0
    replace F_line := F_line.keep Kq82 nin0
    replace F_column := F_column.keep Kq82 nin0
    replace F_resourceType := F_resourceType.keep Kq82 nin0
    replace F_value := F_value.keep Kq82 nin0
    replace F_primitive := F_primitive.keep Kq82 nin0
    replace Eb73 := Eb73.keep Kq82
    replace Fb73 := Fb73.keep Kq82 nin0
    replace Eu80 := Eu80.keep Kq82
    replace Fu80 := Fu80.keep Kq82 nin0
    replace K := K.trans Kq82 all0
    have N82 := Fr.app N81 Nq82
    refine own_of st82 ?_
    show own_Ends _ _ _ _ _ _ (T82.setTop (mkF m 108 #[.val (.int p1), .val (.int p2), .val (.int p3), .val (.int p4), .val (.ref wX), .val (.ref a73), .val (.int (1 : Int32)), .unset] [(.ref a82)]))
    refine own_of (fun tt_ kk_ => XS.astore X82.here hx rfl (hb hby at_108) rfl rfl (l' := #[.val (.int p1), .val (.int p2), .val (.int p3), .val (.int p4), .val (.ref wX), .val (.ref a73), .val (.int (1 : Int32)), .val (.ref a82)]) rfl kk_) ?_
    show own_Ends _ _ _ _ _ _ (T82.setTop (mkF m 110 #[.val (.int p1), .val (.int p2), .val (.int p3), .val (.int p4), .val (.ref wX), .val (.ref a73), .val (.int (1 : Int32)), .val (.ref a82)] []))
    refine own_of (fun tt_ kk_ => XS.aload X82.here hx rfl (hb hby at_110) rfl rfl kk_) ?_
    show own_Ends _ _ _ _ _ _ (T82.setTop (mkF m 112 #[.val (.int p1), .val (.int p2), .val (.int p3), .val (.int p4), .val (.ref wX), .val (.ref a73), .val (.int (1 : Int32)), .val (.ref a82)] [(.ref a73)]))
    refine own_of (fun tt_ kk_ => XS.aload X82.here hx rfl (hb hby at_112) rfl rfl kk_) ?_
    show own_Ends _ _ _ _ _ _ (T82.setTop (mkF m 114 #[.val (.int p1), .val (.int p2), .val (.int p3), .val (.int p4), .val (.ref wX), .val (.ref a73), .val (.int (1 : Int32)), .val (.ref a82)] [(.ref a82), (.ref a73)]))
    obtain ⟨v83, T83, L83, h83, X83, e83, Q83, st83⟩ := own_virtual X82 hx hZ hown e82 Ea73 (hw _ (List.mem_of_getElem? (i := 181) rfl)) (hw _ (List.mem_of_getElem? (i := 182) rfl)) (notFace_of_selects (args := #[]) (mvT hZ (hw _ (List.mem_of_getElem? (i := 184) rfl)))) (hw _ (List.mem_of_getElem? (i := 184) rfl)) (hw _ (List.mem_of_getElem? (i := 183) rfl)) (hw _ (List.mem_of_getElem? (i := 5) rfl)) (hw _ (List.mem_of_getElem? (i := 185) rfl)) (by decide) (argsL := [(.ref a82)]) (rest := []) (rm_setrt l Z a0 hw a73 a82 h82 n0 (Nat.le_trans Z0 K.1) Ea73 F_resourceType F_parent g_a73) (g := (mkF m 114 #[.val (.int p1), .val (.int p2), .val (.int p3), .val (.int p4), .val (.ref wX), .val (.ref a73), .val (.int (1 : Int32)), .val (.ref a82)] [(.ref a82), (.ref a73)])) rfl (by rw [hml]; rfl) (lenOf pd__Ljava_lang_String__r_V rfl) rfl (by decide) (Nat.le_of_ble_eq_true rfl) (by decide) (by decide) (hb hby at_114)
    obtain ⟨rfl, Nq83, Kq83, Ea73', F_parent', F_resourceType'⟩ := Q83
    replace OL := OL.keep Kq83 (allS g_a73 all0)
    replace Ea73 := Ea73.keep Kq83
    replace Eb73 := Eb73.keep Kq83
    replace Fb73 := Fb73.keep Kq83 (ninS (Ne.symm ne_a73_b73) nin0)
    replace Eu80 := Eu80.keep Kq83
    replace Fu80 := Fu80.keep Kq83 (ninS (Ne.symm ne_a73_u80) nin0)
    replace Es82 := Es82.keep Kq83
    replace Fs82 := Fs82.keep Kq83 (ninS (Ne.symm ne_a73_a82) nin0)
    replace Cs82 := Cs82.keep Kq83 (ninS (Ne.symm ne_a73_a82) nin0)
    replace Vs82 := Vs82.keep Kq83 (ninS (Ne.symm ne_a73_t82) nin0)
    clear Ea73
    have Ea73 := Ea73'
    have F_parent := F_parent'
    have F_resourceType := F_resourceType'
    replace K := K.trans Kq83 (allS (Or.inr sz_a73) all0)
    have N83 := Fr.app N82 Nq83
    refine own_of st83 ?_
    show own_Ends _ _ _ _ _ _ (T83.setTop (mkF m 117 #[.val (.int p1), .val (.int p2), .val (.int p3), .val (.int p4), .val (.ref wX), .val (.ref a73), .val (.int (1 : Int32)), .val (.ref a82)] []))
    refine own_of (fun tt_ kk_ => XS.iload X83.here hx rfl (hb hby at_117) rfl  kk_) ?_
    show own_Ends _ _ _ _ _ _ (T83.setTop (mkF m 119 #[.val (.int p1), .val (.int p2), .val (.int p3), .val (.int p4), .val (.ref wX), .val (.ref a73), .val (.int (1 : Int32)), .val (.ref a82)] [(.int (1 : Int32))]))
    refine own_of (fun tt_ kk_ => XS.ifNo X83.here hx rfl (hb hby at_119) rfl ((if0 _ _).trans (feq (by decide : ¬ ((1 : Int32) = (0 : Int32)))).1) kk_) ?_
    show own_Ends _ _ _ _ _ _ (T83.setTop (mkF m 122 #[.val (.int p1), .val (.int p2), .val (.int p3), .val (.int p4), .val (.ref wX), .val (.ref a73), .val (.int (1 : Int32)), .val (.ref a82)] []))
    refine own_of (fun tt_ kk_ => XS.aload X83.here hx rfl (hb hby at_122) rfl rfl kk_) ?_
    show own_Ends _ _ _ _ _ _ (T83.setTop (mkF m 124 #[.val (.int p1), .val (.int p2), .val (.int p3), .val (.int p4), .val (.ref wX), .val (.ref a73), .val (.int (1 : Int32)), .val (.ref a82)] [(.ref a82)]))
    refine own_of (fun tt_ kk_ => XS.aload X83.here hx rfl (hb hby at_124) rfl rfl kk_) ?_
    show own_Ends _ _ _ _ _ _ (T83.setTop (mkF m 126 #[.val (.int p1), .val (.int p2), .val (.int p3), .val (.int p4), .val (.ref wX), .val (.ref a73), .val (.int (1 : Int32)), .val (.ref a82)] [(.ref a73), (.ref a82)]))
    obtain ⟨v84, T84, L84, h84, X84, e84, Q84, st84⟩ := own_virtual X83 hx hZ hown e83 Ea73 (hw _ (List.mem_of_getElem? (i := 73) rfl)) (hw _ (List.mem_of_getElem? (i := 74) rfl)) (notFace_of_selects (args := #[]) (mvT hZ (hw _ (List.mem_of_getElem? (i := 76) rfl)))) (hw _ (List.mem_of_getElem? (i := 76) rfl)) (hw _ (List.mem_of_getElem? (i := 75) rfl)) (hw _ (List.mem_of_getElem? (i := 5) rfl)) (hw _ (List.mem_of_getElem? (i := 77) rfl)) (by decide) (argsL := []) (rest := [(.ref a82)]) (rm_name1 l Z a0 hw a73 a82 h83 n0 (Nat.le_trans Z0 K.1) F_resourceType F_parent) (g := (mkF m 126 #[.val (.int p1), .val (.int p2), .val (.int p3), .val (.int p4), .val (.ref wX), .val (.ref a73), .val (.int (1 : Int32)), .val (.ref a82)] [(.ref a73), (.ref a82)])) rfl (by rw [hml]; rfl) (lenOf pd___r_Ljava_lang_String_ rfl) rfl (by decide) (Nat.le_of_ble_eq_true rfl) (by decide) (by decide) (hb hby at_126)
    obtain ⟨rfl, Nq84, q84⟩ := Q84
    replace e84 := e84.trans q84
    have N84 := Fr.app N83 Nq84
    refine own_of st84 ?_
    show own_Ends _ _ _ _ _ _ (T84.setTop (mkF m 129 #[.val (.int p1), .val (.int p2), .val (.int p3), .val (.int p4), .val (.ref wX), .val (.ref a73), .val (.int (1 : Int32)), .val (.ref a82)] [(.ref a82), (.ref a82)]))
    obtain ⟨v85, T85, L85, h85, X85, e85, Q85, st85⟩ := own_virtual X84 hx hZ hown e84 Es82 (hw _ (List.mem_of_getElem? (i := 186) rfl)) (hw _ (List.mem_of_getElem? (i := 187) rfl)) (notFace_of_selects (args := #[]) (mvT hZ (hw _ (List.mem_of_getElem? (i := 189) rfl)))) (hw _ (List.mem_of_getElem? (i := 189) rfl)) (hw _ (List.mem_of_getElem? (i := 188) rfl)) (hw _ (List.mem_of_getElem? (i := 159) rfl)) (hw _ (List.mem_of_getElem? (i := 190) rfl)) (by decide) (argsL := [(.ref a82)]) (rest := []) (rm_eqself l Z a0 hw a82 h83 n0 (Nat.le_trans Z0 K.1)) (g := (mkF m 129 #[.val (.int p1), .val (.int p2), .val (.int p3), .val (.int p4), .val (.ref wX), .val (.ref a73), .val (.int (1 : Int32)), .val (.ref a82)] [(.ref a82), (.ref a82)])) rfl (by rw [hml]; rfl) (lenOf pd__Ljava_lang_Object__r_Z rfl) rfl (by decide) (Nat.le_of_ble_eq_true rfl) (by decide) (by decide) (hb hby at_129)
    obtain ⟨rfl, Nq85, q85⟩ := Q85
    replace e85 := e85.trans q85
    have N85 := Fr.app N84 Nq85
    refine own_of st85 ?_
    show own_Ends _ _ _ _ _ _ (T85.setTop (mkF m 132 #[.val (.int p1), .val (.int p2), .val (.int p3), .val (.int p4), .val (.ref wX), .val (.ref a73), .val (.int (1 : Int32)), .val (.ref a82)] [(.int (1 : Int32))]))
    refine own_of (fun tt_ kk_ => XS.ifNo X85.here hx rfl (hb hby at_132) rfl ((if0 _ _).trans (feq (by decide : ¬ ((1 : Int32) = (0 : Int32)))).1) kk_) ?_
    show own_Ends _ _ _ _ _ _ (T85.setTop (mkF m 135 #[.val (.int p1), .val (.int p2), .val (.int p3), .val (.int p4), .val (.ref wX), .val (.ref a73), .val (.int (1 : Int32)), .val (.ref a82)] []))
    refine own_of (fun tt_ kk_ => XS.iconst X85.here hx rfl (hb hby at_135) kk_) ?_
    show own_Ends _ _ _ _ _ _ (T85.setTop (mkF m 136 #[.val (.int p1), .val (.int p2), .val (.int p3), .val (.int p4), .val (.ref wX), .val (.ref a73), .val (.int (1 : Int32)), .val (.ref a82)] [(.int (1 : Int32))]))
    refine own_of (fun tt_ kk_ => XS.goto X85.here hx rfl (pc0 := 136) (pc' := 140) rfl (hb hby at_136) (by decide) (by decide) kk_) ?_
    show own_Ends _ _ _ _ _ _ (T85.setTop (mkF m 140 #[.val (.int p1), .val (.int p2), .val (.int p3), .val (.int p4), .val (.ref wX), .val (.ref a73), .val (.int (1 : Int32)), .val (.ref a82)] [(.int (1 : Int32))]))
    refine own_retN X85 hx hlk e85 (t := .boolean) hret (by simp) (z' := (1 : Int32)) rfl (hb hby at_140) (by decide) (by decide) ?_
    exact ⟨rfl, N85⟩
set_option maxRecDepth 65536 in
set_option maxHeartbeats 40000000 in
theorem comes_1 {Post : Tables → Env → Array Value → State → Outcome → State → Prop} (hpost : ∀ tb e args s v u, (limb_1_1.after args s (.returned v) u = true ∧ limb_1_2.after args s (.returned v) u = true ∧ True) → FrameEnd s (.returned v) u (Jvm.fieldLocs frame_1_writes args s ++ Jvm.arrayLocs frame_1_arrays args s ++ Jvm.staticLocs frame_1_statics s) 24 128 → Post tb e args s (.returned v) u) :
    ArmFor flags0 classFile x code maxLocals ret World_1 tables_1 room_1 Calls_1 rest_1 Pre_1 Post := by
  intro l hfl _ _ p e ha hc hk s m args below hf hA hF happ hP
  obtain ⟨hcalls, hrest, hpre⟩ := hP
  obtain ⟨-, -, -, hnamed, -, -, -, hat⟩ := (Spec.applies_iff hf).mp happ
  obtain ⟨hg, hn⟩ := and_e (Cond.before_iff.mp (show (Jvm.Cond.and given_1 narrow_1).before args s = true from hpre))
  obtain ⟨hcount, hg⟩ := and_e hg
  obtain ⟨hgi0, hg⟩ := and_e hg
  obtain ⟨hgi1, hg⟩ := and_e hg
  obtain ⟨hgi2, hg⟩ := and_e hg
  have hgi3 := hg
  obtain ⟨w0, w1, w2, w3, rfl⟩ : ∃ w0 w1 w2 w3 : Value, args = #[w0, w1, w2, w3] := by
    have hs : args.size = 4 := by simpa [Cond.value, given_1] using hcount
    obtain ⟨L⟩ := args
    match L, hs with
    | [w0, w1, w2, w3], _ => exact ⟨w0, w1, w2, w3, rfl⟩
  have hw := fun d (hd : d ∈ tables_1) => atoms_spec (ws := Jvm.Cond.code x code maxLocals ret :: tables_1) hat d (List.mem_cons_of_mem _ hd)
  have hfit : Fit s := fun {y c} hc i hi => by
    obtain ⟨ha, rfl⟩ := Array.getElem?_eq_some_iff.mp hc
    have q := List.all_eq_true.mp ((Array.all_eq_true_iff_forall_mem.mp hF) _ (Array.getElem_mem ha)) i (List.mem_range.mpr hi)
    simpa [Array.getElem?_eq_getElem hi] using q
  obtain ⟨hsets, hown0⟩ := atoms_of _ (rest_1_c_eq ▸ (show rest_1_c.before _ s = true from hrest))
  have hr0 := Cond.before_iff.mp hown0
  obtain ⟨i0, ei0⟩ := is_v hgi0
  obtain rfl : w0 = (.int i0) := Option.some.inj ei0
  obtain ⟨i1, ei1⟩ := is_v hgi1
  obtain rfl : w1 = (.int i1) := Option.some.inj ei1
  obtain ⟨i2, ei2⟩ := is_v hgi2
  obtain rfl : w2 = (.int i2) := Option.some.inj ei2
  obtain ⟨i3, ei3⟩ := is_v hgi3
  obtain rfl : w3 = (.int i3) := Option.some.inj ei3
  obtain ⟨n1, n2⟩ := and_e hn
  obtain ⟨wJ, evJ⟩ := exa_v n1
  obtain ⟨wX, evX⟩ := exa_v n2
  have SJ := Sta.start evJ (Or.inr ⟨(hw _ (List.mem_of_getElem? (i := 1) rfl)), (hw _ (List.mem_of_getElem? (i := 2) rfl))⟩)
  have SX := Sta.start evX (Or.inr ⟨(hw _ (List.mem_of_getElem? (i := 1) rfl)), (hw _ (List.mem_of_getElem? (i := 192) rfl))⟩)
  have n3 := not_v (Cond.before_iff.mp (hsets _ (List.mem_of_getElem? (i := 11) rfl)))
  obtain ⟨iG, eG⟩ := is_v (Cond.before_iff.mp (hsets _ (List.mem_of_getElem? (i := 10) rfl)))
  have SG : Sta s s.heap "java/lang/String" "COMPACT_STRINGS" "Z" (.int iG) := Sta.start eG (Or.inl (hsets _ (List.mem_of_getElem? (i := 9) rfl)))
  have cG : ¬ (iG = (0 : Int32)) := gotF (Cond.eq_ints eG (Term.int_eval (0))) n3
  obtain ⟨wD, evD⟩ := exa_v (Cond.before_iff.mp (hsets _ (List.mem_of_getElem? (i := 7) rfl)))
  have SD := Sta.start evD (Or.inr ⟨(hw _ (List.mem_of_getElem? (i := 17) rfl)), (hsets _ (List.mem_of_getElem? (i := 2) rfl))⟩)
  obtain ⟨⟨cA, kA, mA, hA1⟩, ⟨cL, kL, mL, hL1⟩, ⟨cR, kR, mR, hR1⟩, -⟩ := hcalls
  obtain ⟨n, o, h1, h2, h3, _, L, rfl, ⟨rfl, N⟩, hq⟩ := rm0 l s _ hw i0 i1 i2 i3 iG wD wJ wX mA mL mR s.heap s.heap.size (Nat.le_refl _) SG cG SD SJ SX (Old.start s) ⟨cA, kA, hA1⟩ ⟨cL, kL, hL1⟩ ⟨cR, kR, hR1⟩ tables_1 p e ha hc hk s m _ below hf ((Spec.applies_iff_loose hf).mp happ).1 ⟨rfl, State.Warmed39.refl s, rfl⟩ trivial
  refine ⟨n, _, h1, h2, h3, hpost _ _ _ _ _ _ ⟨Cond.after_iff.mpr rfl, Cond.after_iff.mpr (eq_i res_at (Term.int_eval (1)) rfl), trivial⟩ ⟨hq.1, hq.2.1, (hq.2.2.sift fun y hy => Or.inr (N y hy)).mono (by decide) (by decide)⟩⟩
theorem main_1_1 : Claimed_1_1 := comes_1 fun _ _ _ _ _ _ h hF => ⟨h.1, hF⟩
theorem main_1_2 : Claimed_1_2 := comes_1 fun _ _ _ _ _ _ h hF => ⟨h.2.1, hF⟩
end Jvm.Pilot.@@N@@
namespace Jvm.Pilot.@@N@@
open Jvm Jvm.ClassFile Sem Op Lib Jvm.Free Jvm.Stand Jvm.Pilot.@@N@@.Jvm.D
/-! MADE BY PROGRAM (witnessworld.py) out of the Statement's table words and the real class files: 33 classes; the members and pool entries that the words name. The judged class is class 1, her method 1. -/
namespace start1
open Jvm.ClassFile
def u (s : String) : CpInfo := .utf8 (stringToUtf16 s)
/-- a pool by its gaps: so many unusable entries, then the entry; so many at the end -/
def gap : Nat → List CpInfo → List CpInfo
  | 0, r => r
  | n + 1, r => .unusable :: gap n r
def poolList (es : List (Nat × CpInfo)) (last : Nat) : List CpInfo := es.foldr (fun e r => gap e.1 (e.2 :: r)) (gap last [])
def pool (es : List (Nat × CpInfo)) (last : Nat) : Array CpInfo := ⟨poolList es last⟩
def fileOf (pool : Array CpInfo) (this : Nat) (attrs : Array Attribute := #[]) (ms : Array MethodInfo := #[]) (fl : Nat := 33) (sup : Nat := 0) (ifs : Array Nat := #[]) (fds : Array FieldInfo := #[]) : ClassFile where
  minorVersion := 0
  majorVersion := 65
  constantPool := pool
  accessFlags := fl
  thisClass := this
  superClass := sup
  interfaces := ifs
  fields := fds
  methods := ms
  attributes := attrs
def plain (name : String) (sup : Option ClassId) : Class where
  name := name
  kind := .ordinary
  loader := none
  accessFlags := 33
  super := sup
  interfaces := #[]
  cf := none
  fields := #[]
  methods := #[]
  instanceTypes := #[]
  staticTypes := #[]
  resolved := #[]
  callSites := []
  init := .initialized
  statics := none
  mirror := none

def pool0 : Array CpInfo := pool [(5, u "<init>"), (0, u "()V"), (1, .class_ 10), (1, u "java/lang/Object"), (0, u "getClass"), (0, u "()Ljava/lang/Class;")] 111

def k0c0 : Code := { maxStack := 0, maxLocals := 1, code := object_method_1_code, exceptionTable := #[], attributes := #[] }
def k0m0 : Method := { name := "<init>", desc := "()V", sig := { parameters := [], returnType := none }, accessFlags := 1, code := some k0c0 }
def k0m1 : Method := { name := "getClass", desc := "()Ljava/lang/Class;", sig := { parameters := [], returnType := some (.object "java/lang/Class") }, accessFlags := 273, code := none }
/-- java/lang/Object -/
def k0 : Class := { plain "java/lang/Object" none with
  accessFlags := 33
  interfaces := #[]
  cf := some (fileOf pool0 8 #[] #[{ accessFlags := 1, nameIndex := 5, descriptorIndex := 6, attributes := #[] }, { accessFlags := 273, nameIndex := 11, descriptorIndex := 12, attributes := #[] }] 33 0 #[] #[])
  fields := #[]
  methods := #[k0m0, k0m1]
  instanceTypes := #[]
  staticTypes := #[]
  resolved := Array.replicate 124 none
  statics := none }

def pool1 : Array CpInfo := pool [(2, .class_ 4), (1, u "java/lang/Object"), (0, u "<init>"), (0, u "()V"), (0, .fieldref 8 9), (0, .class_ 10), (0, .nameAndType 11 12), (0, u "com/example/extlint/extlint/model/Format"), (0, u "JSON"), (0, u "Lcom/example/extlint/extlint/model/Format;"), (0, .fieldref 8 14), (0, .nameAndType 15 12), (0, u "XML"), (0, .methodref 17 18), (0, .class_ 19), (0, .nameAndType 20 21), (0, u "com/example/extlint/extlint/model/Element"), (0, u "root"), (0, u "(Lcom/example/extlint/extlint/model/Format;II)Lcom/example/extlint/extlint/model/Element;"), (0, .methodref 17 23), (0, .nameAndType 24 25), (0, u "format"), (0, u "()Lcom/example/extlint/extlint/model/Format;"), (0, .methodref 17 27), (0, .nameAndType 28 29), (0, u "index"), (0, u "()I"), (0, .methodref 17 31), (0, .nameAndType 32 29), (0, u "line"), (0, .methodref 17 34), (0, .nameAndType 35 29), (0, u "column"), (0, .methodref 17 37), (0, .nameAndType 38 39), (0, u "name"), (0, u "()Ljava/lang/String;"), (0, .methodref 17 41), (0, .nameAndType 42 43), (0, u "isPrimitive"), (0, u "()Z"), (0, .methodref 17 45), (0, .nameAndType 46 47), (0, u "children"), (0, u "()Ljava/util/List;"), (0, .interfaceMethodref 49 50), (0, .class_ 51), (0, .nameAndType 52 29), (0, u "java/util/List"), (0, u "size"), (0, .methodref 54 55), (0, .class_ 56), (0, .nameAndType 57 58), (0, u "java/lang/String"), (0, u "valueOf"), (0, u "(C)Ljava/lang/String;"), (0, .methodref 17 60), (0, .nameAndType 61 62), (0, u "setResourceType"), (0, u "(Ljava/lang/String;)V"), (0, .methodref 54 64), (0, .nameAndType 65 66), (0, u "equals"), (0, u "(Ljava/lang/Object;)Z"), (0, .class_ 68), (0, u "com/example/extlint/extlint/model/ElementRootPinLaw"), (2, u "law"), (0, u "(IIII)Z")] 3

def k1m0 : Method := { name := "<init>", desc := "()V", sig := { parameters := [], returnType := none }, accessFlags := 1, code := none }
def k1c1 : Code := { maxStack := 3, maxLocals := 8, code := code, exceptionTable := #[], attributes := #[] }
def k1m1 : Method := { name := "law", desc := "(IIII)Z", sig := { parameters := [.int, .int, .int, .int], returnType := some .boolean }, accessFlags := 9, code := some k1c1 }
/-- com/example/extlint/extlint/model/ElementRootPinLaw -/
def k1 : Class := { plain "com/example/extlint/extlint/model/ElementRootPinLaw" (some 0) with
  accessFlags := 49
  interfaces := #[]
  cf := some (fileOf pool1 67 #[] #[{ accessFlags := 1, nameIndex := 5, descriptorIndex := 6, attributes := #[] }, { accessFlags := 9, nameIndex := 71, descriptorIndex := 72, attributes := #[] }] 49 2 #[] #[])
  fields := #[]
  methods := #[k1m0, k1m1]
  instanceTypes := #[]
  staticTypes := #[]
  resolved := Array.replicate 76 none
  statics := none }

def pool2 : Array CpInfo := pool [(1, .class_ 2), (0, u "java/lang/constant/Constable"), (0, .class_ 4), (0, u "java/lang/Object")] 6

/-- java/lang/constant/Constable -/
def k2 : Class := { plain "java/lang/constant/Constable" (some 0) with
  accessFlags := 1537
  interfaces := #[]
  cf := some (fileOf pool2 1 #[] #[] 1537 3 #[] #[])
  fields := #[]
  methods := #[]
  instanceTypes := #[]
  staticTypes := #[]
  resolved := Array.replicate 11 none
  statics := none }

def pool3 : Array CpInfo := pool [(1, .class_ 2), (0, u "java/lang/Comparable"), (0, .class_ 4), (0, u "java/lang/Object")] 7

/-- java/lang/Comparable -/
def k3 : Class := { plain "java/lang/Comparable" (some 0) with
  accessFlags := 1537
  interfaces := #[]
  cf := some (fileOf pool3 1 #[] #[] 1537 3 #[] #[])
  fields := #[]
  methods := #[]
  instanceTypes := #[]
  staticTypes := #[]
  resolved := Array.replicate 12 none
  statics := none }

def pool4 : Array CpInfo := pool [(1, .class_ 2), (0, u "java/io/Serializable"), (0, .class_ 4), (0, u "java/lang/Object")] 2

/-- java/io/Serializable -/
def k4 : Class := { plain "java/io/Serializable" (some 0) with
  accessFlags := 1537
  interfaces := #[]
  cf := some (fileOf pool4 1 #[] #[] 1537 3 #[] #[])
  fields := #[]
  methods := #[]
  instanceTypes := #[]
  staticTypes := #[]
  resolved := Array.replicate 7 none
  statics := none }

def pool5 : Array CpInfo := pool [(2, .class_ 4), (1, u "java/lang/Enum"), (0, u "name"), (0, u "Ljava/lang/String;"), (2, u "ordinal"), (0, u "I"), (1, .class_ 14), (1, u "java/lang/Object"), (4, u "hash"), (86, .class_ 108), (1, u "java/lang/Enum$EnumDesc"), (2, .class_ 112), (0, u "java/lang/constant/Constable"), (0, .class_ 114), (0, u "java/lang/Comparable"), (0, .class_ 116), (0, u "java/io/Serializable")] 87

/-- java/lang/Enum -/
def k5 : Class := { plain "java/lang/Enum" (some 0) with
  accessFlags := 1057
  interfaces := #[2, 3, 4]
  cf := some (fileOf pool5 2 #[.nestMembers #[106]] #[] 1057 12 #[111, 113, 115] #[{ accessFlags := 18, nameIndex := 5, descriptorIndex := 6, attributes := #[] }, { accessFlags := 18, nameIndex := 9, descriptorIndex := 10, attributes := #[] }, { accessFlags := 2, nameIndex := 19, descriptorIndex := 10, attributes := #[] }])
  fields := #[{ name := "name", type := (.object "java/lang/String"), accessFlags := 18, slot := 0, constantValue := 0 }, { name := "ordinal", type := .int, accessFlags := 18, slot := 1, constantValue := 0 }, { name := "hash", type := .int, accessFlags := 2, slot := 2, constantValue := 0 }]
  methods := #[]
  instanceTypes := #[(.object "java/lang/String"), .int, .int]
  staticTypes := #[]
  resolved := Array.replicate 204 none
  statics := none }

def pool6 : Array CpInfo := pool [(1, .class_ 2), (0, u "com/example/extlint/extlint/model/Format"), (2, u "JSON"), (0, u "Lcom/example/extlint/extlint/model/Format;"), (2, u "XML"), (2, u "$VALUES"), (0, u "[Lcom/example/extlint/extlint/model/Format;"), (6, .class_ 22), (1, u "java/lang/Enum")] 24

/-- com/example/extlint/extlint/model/Format -/
def k6 : Class := { plain "com/example/extlint/extlint/model/Format" (some 5) with
  accessFlags := 16433
  interfaces := #[]
  cf := some (fileOf pool6 1 #[] #[] 16433 20 #[] #[{ accessFlags := 16409, nameIndex := 5, descriptorIndex := 6, attributes := #[] }, { accessFlags := 16409, nameIndex := 9, descriptorIndex := 6, attributes := #[] }, { accessFlags := 4122, nameIndex := 12, descriptorIndex := 13, attributes := #[] }])
  fields := #[{ name := "JSON", type := (.object "com/example/extlint/extlint/model/Format"), accessFlags := 16409, slot := 0, constantValue := 0 }, { name := "XML", type := (.object "com/example/extlint/extlint/model/Format"), accessFlags := 16409, slot := 1, constantValue := 0 }, { name := "$VALUES", type := (.array (.object "com/example/extlint/extlint/model/Format")), accessFlags := 4122, slot := 2, constantValue := 0 }]
  methods := #[]
  instanceTypes := #[(.object "java/lang/String"), .int, .int]
  staticTypes := #[(.object "com/example/extlint/extlint/model/Format"), (.object "com/example/extlint/extlint/model/Format"), (.array (.object "com/example/extlint/extlint/model/Format"))]
  resolved := Array.replicate 47 none
  statics := some 0 }

def pool7 : Array CpInfo := pool [(1, .methodref 2 3), (0, .class_ 4), (0, .nameAndType 5 6), (0, u "java/lang/Object"), (0, u "<init>"), (0, u "()V"), (0, .class_ 8), (0, u "java/util/ArrayList"), (0, .methodref 7 3), (0, .fieldref 11 12), (0, .class_ 13), (0, .nameAndType 14 15), (0, u "com/example/extlint/extlint/model/Element"), (0, u "children"), (0, u "Ljava/util/List;"), (0, .fieldref 11 17), (0, .nameAndType 18 19), (0, u "format"), (0, u "Lcom/example/extlint/extlint/model/Format;"), (0, .fieldref 11 21), (0, .nameAndType 22 23), (0, u "parent"), (0, u "Lcom/example/extlint/extlint/model/Element;"), (0, .fieldref 11 25), (0, .nameAndType 26 27), (0, u "name"), (0, u "Ljava/lang/String;"), (0, .fieldref 11 29), (0, .nameAndType 30 31), (0, u "index"), (0, u "I"), (0, .fieldref 11 33), (0, .nameAndType 34 31), (0, u "line"), (0, .fieldref 11 36), (0, .nameAndType 37 31), (0, u "column"), (2, u "RESOURCE_TYPE"), (0, u "Ljava/util/regex/Pattern;"), (11, u "()Z"), (4, .methodref 11 59), (0, .nameAndType 5 60), (0, u "(Lcom/example/extlint/extlint/model/Format;Lcom/example/extlint/extlint/model/Element;Ljava/lang/String;III)V"), (0, .fieldref 11 62), (0, .nameAndType 63 27), (0, u "resourceType"), (6, .methodref 71 72), (0, .class_ 73), (0, .nameAndType 74 75), (0, u "java/util/Collections"), (0, u "unmodifiableList"), (0, u "(Ljava/util/List;)Ljava/util/List;"), (19, u "()Ljava/util/List;"), (77, .fieldref 11 174), (0, .nameAndType 175 176), (0, u "value"), (0, u "Lcom/example/extlint/extlint/model/Primitive;"), (7, .fieldref 11 185), (0, .nameAndType 186 187), (0, u "primitive"), (0, u "Z"), (4, u "()Ljava/lang/String;"), (2, u "(Ljava/lang/String;)V"), (3, u "()I"), (43, u "root"), (0, u "(Lcom/example/extlint/extlint/model/Format;II)Lcom/example/extlint/extlint/model/Element;"), (0, u "()Lcom/example/extlint/extlint/model/Format;"), (11, u "isPrimitive"), (9, u "setResourceType")] 72

def k7c0 : Code := { maxStack := 3, maxLocals := 7, code := prog_21_method_1_code, exceptionTable := #[], attributes := #[] }
def k7m0 : Method := { name := "<init>", desc := "(Lcom/example/extlint/extlint/model/Format;Lcom/example/extlint/extlint/model/Element;Ljava/lang/String;III)V", sig := { parameters := [(.object "com/example/extlint/extlint/model/Format"), (.object "com/example/extlint/extlint/model/Element"), (.object "java/lang/String"), .int, .int, .int], returnType := none }, accessFlags := 2, code := some k7c0 }
def k7c1 : Code := { maxStack := 8, maxLocals := 3, code := prog_21_method_4_code, exceptionTable := #[], attributes := #[] }
def k7m1 : Method := { name := "root", desc := "(Lcom/example/extlint/extlint/model/Format;II)Lcom/example/extlint/extlint/model/Element;", sig := { parameters := [(.object "com/example/extlint/extlint/model/Format"), .int, .int], returnType := some (.object "com/example/extlint/extlint/model/Element") }, accessFlags := 8, code := some k7c1 }
def k7c2 : Code := { maxStack := 1, maxLocals := 1, code := prog_21_method_5_code, exceptionTable := #[], attributes := #[] }
def k7m2 : Method := { name := "format", desc := "()Lcom/example/extlint/extlint/model/Format;", sig := { parameters := [], returnType := some (.object "com/example/extlint/extlint/model/Format") }, accessFlags := 1, code := some k7c2 }
def k7c3 : Code := { maxStack := 1, maxLocals := 1, code := prog_21_method_6_code, exceptionTable := #[], attributes := #[] }
def k7m3 : Method := { name := "name", desc := "()Ljava/lang/String;", sig := { parameters := [], returnType := some (.object "java/lang/String") }, accessFlags := 1, code := some k7c3 }
def k7c4 : Code := { maxStack := 1, maxLocals := 1, code := prog_21_method_7_code, exceptionTable := #[], attributes := #[] }
def k7m4 : Method := { name := "index", desc := "()I", sig := { parameters := [], returnType := some .int }, accessFlags := 1, code := some k7c4 }
def k7c5 : Code := { maxStack := 1, maxLocals := 1, code := prog_21_method_8_code, exceptionTable := #[], attributes := #[] }
def k7m5 : Method := { name := "line", desc := "()I", sig := { parameters := [], returnType := some .int }, accessFlags := 1, code := some k7c5 }
def k7c6 : Code := { maxStack := 1, maxLocals := 1, code := prog_21_method_9_code, exceptionTable := #[], attributes := #[] }
def k7m6 : Method := { name := "column", desc := "()I", sig := { parameters := [], returnType := some .int }, accessFlags := 1, code := some k7c6 }
def k7c7 : Code := { maxStack := 1, maxLocals := 1, code := prog_21_method_11_code, exceptionTable := #[], attributes := #[] }
def k7m7 : Method := { name := "children", desc := "()Ljava/util/List;", sig := { parameters := [], returnType := some (.object "java/util/List") }, accessFlags := 1, code := some k7c7 }
def k7c8 : Code := { maxStack := 1, maxLocals := 1, code := prog_21_method_17_code, exceptionTable := #[], attributes := #[] }
def k7m8 : Method := { name := "isPrimitive", desc := "()Z", sig := { parameters := [], returnType := some .boolean }, accessFlags := 1, code := some k7c8 }
def k7c9 : Code := { maxStack := 2, maxLocals := 2, code := prog_21_method_25_code, exceptionTable := #[], attributes := #[] }
def k7m9 : Method := { name := "setResourceType", desc := "(Ljava/lang/String;)V", sig := { parameters := [(.object "java/lang/String")], returnType := none }, accessFlags := 0, code := some k7c9 }
/-- com/example/extlint/extlint/model/Element -/
def k7 : Class := { plain "com/example/extlint/extlint/model/Element" (some 0) with
  accessFlags := 49
  interfaces := #[]
  cf := some (fileOf pool7 11 #[] #[{ accessFlags := 2, nameIndex := 5, descriptorIndex := 60, attributes := #[] }, { accessFlags := 8, nameIndex := 243, descriptorIndex := 244, attributes := #[] }, { accessFlags := 1, nameIndex := 18, descriptorIndex := 245, attributes := #[] }, { accessFlags := 1, nameIndex := 26, descriptorIndex := 192, attributes := #[] }, { accessFlags := 1, nameIndex := 30, descriptorIndex := 199, attributes := #[] }, { accessFlags := 1, nameIndex := 34, descriptorIndex := 199, attributes := #[] }, { accessFlags := 1, nameIndex := 37, descriptorIndex := 199, attributes := #[] }, { accessFlags := 1, nameIndex := 14, descriptorIndex := 95, attributes := #[] }, { accessFlags := 1, nameIndex := 257, descriptorIndex := 53, attributes := #[] }, { accessFlags := 0, nameIndex := 267, descriptorIndex := 195, attributes := #[] }] 49 2 #[] #[{ accessFlags := 26, nameIndex := 40, descriptorIndex := 41, attributes := #[] }, { accessFlags := 18, nameIndex := 18, descriptorIndex := 19, attributes := #[] }, { accessFlags := 18, nameIndex := 22, descriptorIndex := 23, attributes := #[] }, { accessFlags := 18, nameIndex := 26, descriptorIndex := 27, attributes := #[] }, { accessFlags := 2, nameIndex := 30, descriptorIndex := 31, attributes := #[] }, { accessFlags := 18, nameIndex := 34, descriptorIndex := 31, attributes := #[] }, { accessFlags := 18, nameIndex := 37, descriptorIndex := 31, attributes := #[] }, { accessFlags := 18, nameIndex := 14, descriptorIndex := 15, attributes := #[] }, { accessFlags := 2, nameIndex := 175, descriptorIndex := 176, attributes := #[] }, { accessFlags := 2, nameIndex := 186, descriptorIndex := 187, attributes := #[] }, { accessFlags := 2, nameIndex := 63, descriptorIndex := 27, attributes := #[] }])
  fields := #[{ name := "RESOURCE_TYPE", type := (.object "java/util/regex/Pattern"), accessFlags := 26, slot := 0, constantValue := 0 }, { name := "format", type := (.object "com/example/extlint/extlint/model/Format"), accessFlags := 18, slot := 0, constantValue := 0 }, { name := "parent", type := (.object "com/example/extlint/extlint/model/Element"), accessFlags := 18, slot := 1, constantValue := 0 }, { name := "name", type := (.object "java/lang/String"), accessFlags := 18, slot := 2, constantValue := 0 }, { name := "index", type := .int, accessFlags := 2, slot := 3, constantValue := 0 }, { name := "line", type := .int, accessFlags := 18, slot := 4, constantValue := 0 }, { name := "column", type := .int, accessFlags := 18, slot := 5, constantValue := 0 }, { name := "children", type := (.object "java/util/List"), accessFlags := 18, slot := 6, constantValue := 0 }, { name := "value", type := (.object "com/example/extlint/extlint/model/Primitive"), accessFlags := 2, slot := 7, constantValue := 0 }, { name := "primitive", type := .boolean, accessFlags := 2, slot := 8, constantValue := 0 }, { name := "resourceType", type := (.object "java/lang/String"), accessFlags := 2, slot := 9, constantValue := 0 }]
  methods := #[k7m0, k7m1, k7m2, k7m3, k7m4, k7m5, k7m6, k7m7, k7m8, k7m9]
  instanceTypes := #[(.object "com/example/extlint/extlint/model/Format"), (.object "com/example/extlint/extlint/model/Element"), (.object "java/lang/String"), .int, .int, .int, (.object "java/util/List"), (.object "com/example/extlint/extlint/model/Primitive"), .boolean, (.object "java/lang/String")]
  staticTypes := #[(.object "java/util/regex/Pattern")]
  resolved := Array.replicate 340 none
  statics := none }

def pool8 : Array CpInfo := pool [(8, .class_ 10), (1, u "java/lang/Iterable"), (24, .class_ 36), (0, u "java/lang/Object")] 25

/-- java/lang/Iterable -/
def k8 : Class := { plain "java/lang/Iterable" (some 0) with
  accessFlags := 1537
  interfaces := #[]
  cf := some (fileOf pool8 8 #[] #[] 1537 35 #[] #[])
  fields := #[]
  methods := #[]
  instanceTypes := #[]
  staticTypes := #[]
  resolved := Array.replicate 62 none
  statics := none }

def pool9 : Array CpInfo := pool [(10, .class_ 12), (1, u "java/util/Collection"), (47, .class_ 61), (0, u "java/lang/Object"), (0, .class_ 63), (0, u "java/lang/Iterable"), (0, u "size"), (0, u "()I")] 49

def k9m0 : Method := { name := "size", desc := "()I", sig := { parameters := [], returnType := some .int }, accessFlags := 1025, code := none }
/-- java/util/Collection -/
def k9 : Class := { plain "java/util/Collection" (some 0) with
  accessFlags := 1537
  interfaces := #[8]
  cf := some (fileOf pool9 10 #[] #[{ accessFlags := 1025, nameIndex := 64, descriptorIndex := 65, attributes := #[] }] 1537 60 #[62] #[])
  fields := #[]
  methods := #[k9m0]
  instanceTypes := #[]
  staticTypes := #[]
  resolved := Array.replicate 115 none
  statics := none }

def pool10 : Array CpInfo := pool [(1, .methodref 2 3), (0, .class_ 4), (0, .nameAndType 5 6), (0, u "java/lang/Object"), (0, u "<init>"), (0, u "()V"), (1, .class_ 10), (1, u "java/util/AbstractCollection"), (66, .class_ 78), (0, u "java/util/Collection")] 81

def k10c0 : Code := { maxStack := 1, maxLocals := 1, code := jdk_22_method_1_code, exceptionTable := #[], attributes := #[] }
def k10m0 : Method := { name := "<init>", desc := "()V", sig := { parameters := [], returnType := none }, accessFlags := 4, code := some k10c0 }
/-- java/util/AbstractCollection -/
def k10 : Class := { plain "java/util/AbstractCollection" (some 0) with
  accessFlags := 1057
  interfaces := #[9]
  cf := some (fileOf pool10 8 #[] #[{ accessFlags := 4, nameIndex := 5, descriptorIndex := 6, attributes := #[] }] 1057 2 #[77] #[])
  fields := #[]
  methods := #[k10m0]
  instanceTypes := #[]
  staticTypes := #[]
  resolved := Array.replicate 160 none
  statics := none }

def pool11 : Array CpInfo := pool [(8, .class_ 10), (1, u "java/util/SequencedCollection"), (15, .class_ 27), (0, u "java/lang/Object"), (0, .class_ 29), (0, u "java/util/Collection")] 27

/-- java/util/SequencedCollection -/
def k11 : Class := { plain "java/util/SequencedCollection" (some 0) with
  accessFlags := 1537
  interfaces := #[9]
  cf := some (fileOf pool11 8 #[] #[] 1537 26 #[28] #[])
  fields := #[]
  methods := #[]
  instanceTypes := #[]
  staticTypes := #[]
  resolved := Array.replicate 57 none
  statics := none }

def pool12 : Array CpInfo := pool [(8, .class_ 10), (1, u "java/util/List"), (68, u "size"), (0, u "()I"), (22, .class_ 104), (0, u "java/lang/Object"), (15, .class_ 121), (0, u "java/util/SequencedCollection")] 129

def k12m0 : Method := { name := "size", desc := "()I", sig := { parameters := [], returnType := some .int }, accessFlags := 1025, code := none }
/-- java/util/List -/
def k12 : Class := { plain "java/util/List" (some 0) with
  accessFlags := 1537
  interfaces := #[11]
  cf := some (fileOf pool12 8 #[] #[{ accessFlags := 1025, nameIndex := 79, descriptorIndex := 80, attributes := #[] }] 1537 103 #[120] #[])
  fields := #[]
  methods := #[k12m0]
  instanceTypes := #[]
  staticTypes := #[]
  resolved := Array.replicate 251 none
  statics := none }

def pool13 : Array CpInfo := pool [(1, .methodref 2 3), (0, .class_ 4), (0, .nameAndType 5 6), (0, u "java/util/AbstractCollection"), (0, u "<init>"), (0, u "()V"), (0, .fieldref 8 9), (0, .class_ 10), (0, .nameAndType 11 12), (0, u "java/util/AbstractList"), (0, u "modCount"), (0, u "I"), (64, .class_ 78), (0, u "java/util/AbstractList$Itr"), (3, .class_ 83), (0, u "java/util/AbstractList$ListItr"), (9, .class_ 94), (0, u "java/util/AbstractList$RandomAccessSubList"), (3, .class_ 99), (0, u "java/util/AbstractList$SubList"), (33, .class_ 134), (0, u "java/util/List"), (73, .class_ 209), (0, u "java/util/AbstractList$SubList$1"), (0, .class_ 211), (0, u "java/util/AbstractList$RandomAccessSpliterator")] 6

def k13c0 : Code := { maxStack := 2, maxLocals := 1, code := jdk_39_method_1_code, exceptionTable := #[], attributes := #[] }
def k13m0 : Method := { name := "<init>", desc := "()V", sig := { parameters := [], returnType := none }, accessFlags := 4, code := some k13c0 }
/-- java/util/AbstractList -/
def k13 : Class := { plain "java/util/AbstractList" (some 10) with
  accessFlags := 1057
  interfaces := #[12]
  cf := some (fileOf pool13 8 #[.nestMembers #[93, 98, 208, 210, 82, 77]] #[{ accessFlags := 4, nameIndex := 5, descriptorIndex := 6, attributes := #[] }] 1057 2 #[133] #[{ accessFlags := 132, nameIndex := 11, descriptorIndex := 12, attributes := #[] }])
  fields := #[{ name := "modCount", type := .int, accessFlags := 132, slot := 0, constantValue := 0 }]
  methods := #[k13m0]
  instanceTypes := #[.int]
  staticTypes := #[]
  resolved := Array.replicate 218 none
  statics := none }

def pool14 : Array CpInfo := pool [(1, .class_ 2), (0, u "java/util/RandomAccess"), (0, .class_ 4), (0, u "java/lang/Object")] 2

/-- java/util/RandomAccess -/
def k14 : Class := { plain "java/util/RandomAccess" (some 0) with
  accessFlags := 1537
  interfaces := #[]
  cf := some (fileOf pool14 1 #[] #[] 1537 3 #[] #[])
  fields := #[]
  methods := #[]
  instanceTypes := #[]
  staticTypes := #[]
  resolved := Array.replicate 7 none
  statics := none }

def pool15 : Array CpInfo := pool [(1, .class_ 2), (0, u "java/lang/Cloneable"), (0, .class_ 4), (0, u "java/lang/Object")] 2

/-- java/lang/Cloneable -/
def k15 : Class := { plain "java/lang/Cloneable" (some 0) with
  accessFlags := 1537
  interfaces := #[]
  cf := some (fileOf pool15 1 #[] #[] 1537 3 #[] #[])
  fields := #[]
  methods := #[]
  instanceTypes := #[]
  staticTypes := #[]
  resolved := Array.replicate 7 none
  statics := none }

def pool16 : Array CpInfo := pool [(1, .methodref 2 3), (0, .class_ 4), (0, .nameAndType 5 6), (0, u "java/util/AbstractList"), (0, u "<init>"), (0, u "()V"), (2, .fieldref 10 11), (0, .class_ 12), (0, .nameAndType 13 14), (0, u "java/util/ArrayList"), (0, u "elementData"), (0, u "[Ljava/lang/Object;"), (2, u "EMPTY_ELEMENTDATA"), (21, .fieldref 10 40), (0, .nameAndType 41 14), (0, u "DEFAULTCAPACITY_EMPTY_ELEMENTDATA"), (6, .fieldref 10 49), (0, .nameAndType 50 51), (0, u "size"), (0, u "I"), (96, .class_ 149), (0, u "java/util/List"), (36, u "()I"), (75, .class_ 263), (0, u "java/util/ArrayList$ListItr"), (3, .class_ 268), (0, u "java/util/ArrayList$Itr"), (7, .class_ 277), (0, u "java/util/ArrayList$SubList"), (12, .class_ 291), (0, u "java/util/ArrayList$ArrayListSpliterator"), (37, .class_ 330), (0, u "java/util/RandomAccess"), (0, .class_ 332), (0, u "java/lang/Cloneable"), (0, .class_ 334), (0, u "java/io/Serializable"), (0, u "serialVersionUID"), (0, u "J"), (3, u "DEFAULT_CAPACITY"), (159, .class_ 501), (0, u "java/util/ArrayList$SubList$2"), (0, .class_ 503), (0, u "java/util/ArrayList$SubList$1")] 5

def k16c0 : Code := { maxStack := 2, maxLocals := 1, code := jdk_38_method_2_code, exceptionTable := #[], attributes := #[] }
def k16m0 : Method := { name := "<init>", desc := "()V", sig := { parameters := [], returnType := none }, accessFlags := 1, code := some k16c0 }
def k16c1 : Code := { maxStack := 1, maxLocals := 1, code := jdk_38_method_8_code, exceptionTable := #[], attributes := #[] }
def k16m1 : Method := { name := "size", desc := "()I", sig := { parameters := [], returnType := some .int }, accessFlags := 1, code := some k16c1 }
/-- java/util/ArrayList -/
def k16 : Class := { plain "java/util/ArrayList" (some 13) with
  accessFlags := 33
  interfaces := #[12, 14, 15, 4]
  cf := some (fileOf pool16 10 #[.nestMembers #[290, 276, 500, 502, 262, 267]] #[{ accessFlags := 1, nameIndex := 5, descriptorIndex := 6, attributes := #[] }, { accessFlags := 1, nameIndex := 50, descriptorIndex := 186, attributes := #[] }] 33 2 #[148, 329, 331, 333] #[{ accessFlags := 26, nameIndex := 335, descriptorIndex := 336, attributes := #[] }, { accessFlags := 26, nameIndex := 340, descriptorIndex := 51, attributes := #[] }, { accessFlags := 26, nameIndex := 17, descriptorIndex := 14, attributes := #[] }, { accessFlags := 26, nameIndex := 41, descriptorIndex := 14, attributes := #[] }, { accessFlags := 128, nameIndex := 13, descriptorIndex := 14, attributes := #[] }, { accessFlags := 2, nameIndex := 50, descriptorIndex := 51, attributes := #[] }])
  fields := #[{ name := "serialVersionUID", type := .long, accessFlags := 26, slot := 0, constantValue := 0 }, { name := "DEFAULT_CAPACITY", type := .int, accessFlags := 26, slot := 1, constantValue := 0 }, { name := "EMPTY_ELEMENTDATA", type := (.array (.object "java/lang/Object")), accessFlags := 26, slot := 2, constantValue := 0 }, { name := "DEFAULTCAPACITY_EMPTY_ELEMENTDATA", type := (.array (.object "java/lang/Object")), accessFlags := 26, slot := 3, constantValue := 0 }, { name := "elementData", type := (.array (.object "java/lang/Object")), accessFlags := 128, slot := 1, constantValue := 0 }, { name := "size", type := .int, accessFlags := 2, slot := 2, constantValue := 0 }]
  methods := #[k16m0, k16m1]
  instanceTypes := #[.int, (.array (.object "java/lang/Object")), .int]
  staticTypes := #[.long, .int, (.array (.object "java/lang/Object")), (.array (.object "java/lang/Object"))]
  resolved := Array.replicate 509 none
  mirror := some 4
  statics := some 1 }

def pool17 : Array CpInfo := pool [(2, .class_ 4), (1, u "java/lang/Object"), (0, u "<init>"), (0, u "()V"), (1, .class_ 10), (1, u "java/util/List"), (2, .class_ 14), (0, u "java/util/RandomAccess"), (4, .class_ 20), (0, u "java/util/Collections"), (63, u "r"), (0, u "Ljava/util/Random;"), (67, u "(Ljava/util/List;)V"), (9, .nameAndType 164 165), (0, u "getClass"), (0, u "()Ljava/lang/Class;"), (0, .class_ 167), (0, u "java/util/Collections$UnmodifiableCollection"), (6, .class_ 175), (0, u "java/util/Collections$UnmodifiableSequencedCollection"), (6, .class_ 183), (0, u "java/util/Collections$UnmodifiableSet"), (6, .class_ 191), (0, u "java/util/Collections$UnmodifiableSequencedSet"), (6, .class_ 199), (0, u "java/util/Collections$UnmodifiableSortedSet"), (6, .class_ 207), (0, u "java/util/Collections$UnmodifiableNavigableSet"), (3, .interfaceMethodref 8 163), (0, .class_ 213), (0, u "java/util/Collections$UnmodifiableList"), (0, .interfaceMethodref 8 163), (0, .class_ 216), (0, u "java/util/Collections$UnmodifiableRandomAccessList"), (0, .methodref 215 218), (0, .nameAndType 5 153), (4, .class_ 224), (0, u "java/util/Collections$UnmodifiableMap"), (6, .class_ 232), (0, u "java/util/Collections$UnmodifiableSequencedMap"), (4, .class_ 238), (0, u "java/util/Collections$UnmodifiableSortedMap"), (6, .class_ 246), (0, u "java/util/Collections$UnmodifiableNavigableMap"), (3, .class_ 251), (0, u "java/util/Collections$SynchronizedCollection"), (4, .class_ 257), (0, u "java/util/Collections$SynchronizedSet"), (4, .class_ 263), (0, u "java/util/Collections$SynchronizedSortedSet"), (1, .class_ 266), (0, u "java/util/Collections$SynchronizedNavigableSet"), (1, .class_ 269), (0, u "java/util/Collections$SynchronizedRandomAccessList"), (1, .class_ 272), (0, u "java/util/Collections$SynchronizedList"), (5, .class_ 279), (0, u "java/util/Collections$SynchronizedMap"), (1, .class_ 282), (0, u "java/util/Collections$SynchronizedSortedMap"), (1, .class_ 285), (0, u "java/util/Collections$SynchronizedNavigableMap"), (1, .class_ 288), (0, u "java/util/Collections$CheckedCollection"), (11, .class_ 301), (0, u "java/util/Collections$CheckedQueue"), (3, .class_ 306), (0, u "java/util/Collections$CheckedSet"), (3, .class_ 311), (0, u "java/util/Collections$CheckedSortedSet"), (3, .class_ 316), (0, u "java/util/Collections$CheckedNavigableSet"), (3, .class_ 321), (0, u "java/util/Collections$CheckedRandomAccessList"), (3, .class_ 326), (0, u "java/util/Collections$CheckedList"), (1, .class_ 329), (0, u "java/util/Collections$CheckedMap"), (3, .class_ 334), (0, u "java/util/Collections$CheckedSortedMap"), (3, .class_ 339), (0, u "java/util/Collections$CheckedNavigableMap"), (4, .class_ 346), (1, u "java/util/Collections$EmptyIterator"), (3, .class_ 352), (1, u "java/util/Collections$EmptyListIterator"), (2, .class_ 357), (1, u "java/util/Collections$EmptyEnumeration"), (4, u "EMPTY_SET"), (0, u "Ljava/util/Set;"), (6, u "EMPTY_LIST"), (0, u "Ljava/util/List;"), (2, u "EMPTY_MAP"), (0, u "Ljava/util/Map;"), (4, .class_ 381), (0, u "java/util/Collections$SingletonSet"), (2, .class_ 385), (0, u "java/util/Collections$1"), (1, .class_ 388), (0, u "java/util/Collections$2"), (1, .class_ 391), (0, u "java/util/Collections$SingletonList"), (1, .class_ 394), (0, u "java/util/Collections$SingletonMap"), (22, .class_ 418), (0, u "java/util/Collections$CopiesList"), (4, .class_ 425), (1, u "java/util/Collections$ReverseComparator"), (8, .class_ 435), (0, u "java/util/Collections$ReverseComparator2"), (6, .class_ 443), (0, u "java/util/Collections$3"), (25, .class_ 470), (0, u "java/util/Collections$SetFromMap"), (2, .class_ 474), (0, u "java/util/Collections$SequencedSetFromMap"), (3, .class_ 479), (0, u "java/util/Collections$AsLIFOQueue"), (11, .class_ 492), (0, u "java/util/Collections$EmptySet"), (1, .class_ 495), (0, u "java/util/Collections$EmptyList"), (1, .class_ 498), (0, u "java/util/Collections$EmptyMap"), (1, u "BINARYSEARCH_THRESHOLD"), (0, u "I"), (2, u "REVERSE_THRESHOLD"), (1, u "SHUFFLE_THRESHOLD"), (1, u "FILL_THRESHOLD"), (1, u "ROTATE_THRESHOLD"), (1, u "COPY_THRESHOLD"), (1, u "REPLACEALL_THRESHOLD"), (1, u "INDEXOFSUBLIST_THRESHOLD"), (129, u "unmodifiableList"), (0, u "(Ljava/util/List;)Ljava/util/List;"), (202, .class_ 851), (0, u "java/util/Collections$CheckedMap$CheckedEntrySet"), (0, .class_ 853), (0, u "java/util/Collections$CheckedMap$CheckedEntrySet$CheckedEntry"), (0, .class_ 855), (0, u "java/util/Collections$CheckedMap$CheckedEntrySet$1"), (0, .class_ 857), (0, u "java/util/Collections$CheckedList$1"), (0, .class_ 859), (0, u "java/util/Collections$CheckedCollection$1"), (0, .class_ 861), (0, u "java/util/Collections$UnmodifiableNavigableMap$EmptyNavigableMap"), (0, .class_ 863), (0, u "java/util/Collections$UnmodifiableMap$UnmodifiableEntrySet"), (0, .class_ 865), (0, u "java/util/Collections$UnmodifiableMap$UnmodifiableEntrySet$UnmodifiableEntry"), (0, .class_ 867), (0, u "java/util/Collections$UnmodifiableMap$UnmodifiableEntrySet$UnmodifiableEntrySetSpliterator"), (0, .class_ 869), (0, u "java/util/Collections$UnmodifiableMap$UnmodifiableEntrySet$1"), (0, .class_ 871), (0, u "java/util/Collections$UnmodifiableList$1"), (0, .class_ 873), (0, u "java/util/Collections$UnmodifiableNavigableSet$EmptyNavigableSet"), (0, .class_ 875), (0, u "java/util/Collections$UnmodifiableCollection$1")] 57

def k17m0 : Method := { name := "<init>", desc := "()V", sig := { parameters := [], returnType := none }, accessFlags := 2, code := none }
def k17c1 : Code := { maxStack := 3, maxLocals := 1, code := jdk_79_method_35_code, exceptionTable := #[], attributes := #[] }
def k17m1 : Method := { name := "unmodifiableList", desc := "(Ljava/util/List;)Ljava/util/List;", sig := { parameters := [(.object "java/util/List")], returnType := some (.object "java/util/List") }, accessFlags := 9, code := some k17c1 }
/-- java/util/Collections -/
def k17 : Class := { plain "java/util/Collections" (some 0) with
  accessFlags := 33
  interfaces := #[]
  cf := some (fileOf pool17 19 #[.nestMembers #[478, 473, 469, 434, 423, 417, 393, 390, 380, 497, 494, 491, 355, 350, 344, 338, 333, 328, 850, 852, 854, 320, 325, 856, 315, 310, 305, 300, 287, 858, 284, 281, 278, 268, 271, 265, 262, 256, 250, 245, 860, 237, 231, 223, 862, 864, 866, 868, 215, 212, 870, 206, 872, 198, 190, 182, 174, 166, 874, 442, 387, 384]] #[{ accessFlags := 2, nameIndex := 5, descriptorIndex := 6, attributes := #[] }, { accessFlags := 9, nameIndex := 646, descriptorIndex := 647, attributes := #[] }] 33 2 #[] #[{ accessFlags := 26, nameIndex := 500, descriptorIndex := 501, attributes := #[] }, { accessFlags := 26, nameIndex := 504, descriptorIndex := 501, attributes := #[] }, { accessFlags := 26, nameIndex := 506, descriptorIndex := 501, attributes := #[] }, { accessFlags := 26, nameIndex := 508, descriptorIndex := 501, attributes := #[] }, { accessFlags := 26, nameIndex := 510, descriptorIndex := 501, attributes := #[] }, { accessFlags := 26, nameIndex := 512, descriptorIndex := 501, attributes := #[] }, { accessFlags := 26, nameIndex := 514, descriptorIndex := 501, attributes := #[] }, { accessFlags := 26, nameIndex := 516, descriptorIndex := 501, attributes := #[] }, { accessFlags := 10, nameIndex := 84, descriptorIndex := 85, attributes := #[] }, { accessFlags := 25, nameIndex := 362, descriptorIndex := 363, attributes := #[] }, { accessFlags := 25, nameIndex := 370, descriptorIndex := 371, attributes := #[] }, { accessFlags := 25, nameIndex := 374, descriptorIndex := 375, attributes := #[] }])
  fields := #[{ name := "BINARYSEARCH_THRESHOLD", type := .int, accessFlags := 26, slot := 0, constantValue := 0 }, { name := "REVERSE_THRESHOLD", type := .int, accessFlags := 26, slot := 1, constantValue := 0 }, { name := "SHUFFLE_THRESHOLD", type := .int, accessFlags := 26, slot := 2, constantValue := 0 }, { name := "FILL_THRESHOLD", type := .int, accessFlags := 26, slot := 3, constantValue := 0 }, { name := "ROTATE_THRESHOLD", type := .int, accessFlags := 26, slot := 4, constantValue := 0 }, { name := "COPY_THRESHOLD", type := .int, accessFlags := 26, slot := 5, constantValue := 0 }, { name := "REPLACEALL_THRESHOLD", type := .int, accessFlags := 26, slot := 6, constantValue := 0 }, { name := "INDEXOFSUBLIST_THRESHOLD", type := .int, accessFlags := 26, slot := 7, constantValue := 0 }, { name := "r", type := (.object "java/util/Random"), accessFlags := 10, slot := 8, constantValue := 0 }, { name := "EMPTY_SET", type := (.object "java/util/Set"), accessFlags := 25, slot := 9, constantValue := 0 }, { name := "EMPTY_LIST", type := (.object "java/util/List"), accessFlags := 25, slot := 10, constantValue := 0 }, { name := "EMPTY_MAP", type := (.object "java/util/Map"), accessFlags := 25, slot := 11, constantValue := 0 }]
  methods := #[k17m0, k17m1]
  instanceTypes := #[]
  staticTypes := #[.int, .int, .int, .int, .int, .int, .int, .int, (.object "java/util/Random"), (.object "java/util/Set"), (.object "java/util/List"), (.object "java/util/Map")]
  resolved := Array.replicate 933 none
  statics := none }

def pool18 : Array CpInfo := pool [(1, .methodref 2 3), (0, .class_ 4), (0, .nameAndType 5 6), (0, u "java/lang/Object"), (0, u "<init>"), (0, u "()V"), (3, .fieldref 11 12), (0, .class_ 13), (0, .nameAndType 14 15), (0, u "java/util/Collections$UnmodifiableCollection"), (0, u "c"), (0, u "Ljava/util/Collection;"), (0, .interfaceMethodref 17 18), (0, .class_ 19), (0, .nameAndType 20 21), (0, u "java/util/Collection"), (0, u "size"), (0, u "()I"), (49, .class_ 72), (0, u "java/io/Serializable"), (0, u "serialVersionUID"), (0, u "J"), (5, u "(Ljava/util/Collection;)V"), (51, .class_ 133), (0, u "java/util/Collections")] 2

def k18c0 : Code := { maxStack := 2, maxLocals := 2, code := jdk_119_method_1_code, exceptionTable := #[], attributes := #[] }
def k18m0 : Method := { name := "<init>", desc := "(Ljava/util/Collection;)V", sig := { parameters := [(.object "java/util/Collection")], returnType := none }, accessFlags := 0, code := some k18c0 }
def k18c1 : Code := { maxStack := 1, maxLocals := 1, code := jdk_119_method_2_code, exceptionTable := #[], attributes := #[] }
def k18m1 : Method := { name := "size", desc := "()I", sig := { parameters := [], returnType := some .int }, accessFlags := 1, code := some k18c1 }
/-- java/util/Collections$UnmodifiableCollection -/
def k18 : Class := { plain "java/util/Collections$UnmodifiableCollection" (some 0) with
  accessFlags := 32
  interfaces := #[9, 4]
  cf := some (fileOf pool18 11 #[.nestHost 132] #[{ accessFlags := 0, nameIndex := 5, descriptorIndex := 80, attributes := #[] }, { accessFlags := 1, nameIndex := 20, descriptorIndex := 21, attributes := #[] }] 32 2 #[17, 71] #[{ accessFlags := 26, nameIndex := 73, descriptorIndex := 74, attributes := #[] }, { accessFlags := 16, nameIndex := 14, descriptorIndex := 15, attributes := #[] }])
  fields := #[{ name := "serialVersionUID", type := .long, accessFlags := 26, slot := 0, constantValue := 0 }, { name := "c", type := (.object "java/util/Collection"), accessFlags := 16, slot := 0, constantValue := 0 }]
  methods := #[k18m0, k18m1]
  instanceTypes := #[(.object "java/util/Collection")]
  staticTypes := #[.long]
  resolved := Array.replicate 136 none
  statics := none }

def pool19 : Array CpInfo := pool [(1, .methodref 2 3), (0, .class_ 4), (0, .nameAndType 5 6), (0, u "java/util/Collections$UnmodifiableCollection"), (0, u "<init>"), (0, u "(Ljava/util/Collection;)V"), (0, .fieldref 8 9), (0, .class_ 10), (0, .nameAndType 11 12), (0, u "java/util/Collections$UnmodifiableList"), (0, u "list"), (0, u "Ljava/util/List;"), (1, .class_ 16), (1, u "java/util/List"), (37, u "(Ljava/util/List;)V"), (5, u "serialVersionUID"), (0, u "J"), (59, .class_ 122), (0, u "java/util/Collections")] 4

def k19c0 : Code := { maxStack := 2, maxLocals := 2, code := jdk_120_method_1_code, exceptionTable := #[], attributes := #[] }
def k19m0 : Method := { name := "<init>", desc := "(Ljava/util/List;)V", sig := { parameters := [(.object "java/util/List")], returnType := none }, accessFlags := 0, code := some k19c0 }
/-- java/util/Collections$UnmodifiableList -/
def k19 : Class := { plain "java/util/Collections$UnmodifiableList" (some 18) with
  accessFlags := 32
  interfaces := #[12]
  cf := some (fileOf pool19 8 #[.nestHost 121] #[{ accessFlags := 0, nameIndex := 5, descriptorIndex := 54, attributes := #[] }] 32 2 #[14] #[{ accessFlags := 26, nameIndex := 60, descriptorIndex := 61, attributes := #[] }, { accessFlags := 16, nameIndex := 11, descriptorIndex := 12, attributes := #[] }])
  fields := #[{ name := "serialVersionUID", type := .long, accessFlags := 26, slot := 0, constantValue := 0 }, { name := "list", type := (.object "java/util/List"), accessFlags := 16, slot := 1, constantValue := 0 }]
  methods := #[k19m0]
  instanceTypes := #[(.object "java/util/Collection"), (.object "java/util/List")]
  staticTypes := #[.long]
  resolved := Array.replicate 127 none
  mirror := some 5
  statics := none }

def pool20 : Array CpInfo := pool [(1, .methodref 2 3), (0, .class_ 4), (0, .nameAndType 5 6), (0, u "java/util/Collections$UnmodifiableList"), (0, u "<init>"), (0, u "(Ljava/util/List;)V"), (0, .class_ 8), (0, u "java/util/Collections$UnmodifiableRandomAccessList"), (11, .class_ 21), (0, u "java/util/RandomAccess"), (0, u "serialVersionUID"), (0, u "J"), (23, .class_ 48), (0, u "java/util/Collections")] 3

def k20c0 : Code := { maxStack := 2, maxLocals := 2, code := jdk_121_method_1_code, exceptionTable := #[], attributes := #[] }
def k20m0 : Method := { name := "<init>", desc := "(Ljava/util/List;)V", sig := { parameters := [(.object "java/util/List")], returnType := none }, accessFlags := 0, code := some k20c0 }
/-- java/util/Collections$UnmodifiableRandomAccessList -/
def k20 : Class := { plain "java/util/Collections$UnmodifiableRandomAccessList" (some 19) with
  accessFlags := 32
  interfaces := #[14]
  cf := some (fileOf pool20 7 #[.nestHost 47] #[{ accessFlags := 0, nameIndex := 5, descriptorIndex := 6, attributes := #[] }] 32 2 #[20] #[{ accessFlags := 26, nameIndex := 22, descriptorIndex := 23, attributes := #[] }])
  fields := #[{ name := "serialVersionUID", type := .long, accessFlags := 26, slot := 0, constantValue := 0 }]
  methods := #[k20m0]
  instanceTypes := #[(.object "java/util/Collection"), (.object "java/util/List")]
  staticTypes := #[.long]
  resolved := Array.replicate 52 none
  mirror := some 6
  statics := none }

def pool21 : Array CpInfo := pool [(2, .class_ 4), (1, u "java/lang/CharSequence"), (42, .class_ 48), (0, u "java/lang/CharSequence$1CodePointIterator"), (10, .class_ 60), (0, u "java/lang/CharSequence$1CharIterator"), (5, .class_ 67), (0, u "java/lang/Object")] 63

/-- java/lang/CharSequence -/
def k21 : Class := { plain "java/lang/CharSequence" (some 0) with
  accessFlags := 1537
  interfaces := #[]
  cf := some (fileOf pool21 2 #[.nestMembers #[47, 59]] #[] 1537 66 #[] #[])
  fields := #[]
  methods := #[]
  instanceTypes := #[]
  staticTypes := #[]
  resolved := Array.replicate 131 none
  statics := none }

def pool22 : Array CpInfo := pool [(1, .class_ 2), (0, u "java/lang/constant/ConstantDesc"), (0, .class_ 4), (0, u "java/lang/Object")] 32

/-- java/lang/constant/ConstantDesc -/
def k22 : Class := { plain "java/lang/constant/ConstantDesc" (some 0) with
  accessFlags := 1537
  interfaces := #[]
  cf := some (fileOf pool22 1 #[] #[] 1537 3 #[] #[])
  fields := #[]
  methods := #[]
  instanceTypes := #[]
  staticTypes := #[]
  resolved := Array.replicate 37 none
  statics := none }

def pool23 : Array CpInfo := pool [(1, .methodref 2 3), (0, .class_ 4), (0, .nameAndType 5 6), (0, u "java/lang/Object"), (0, u "<init>"), (0, u "()V"), (2, .fieldref 10 11), (0, .class_ 12), (0, .nameAndType 13 14), (0, u "java/lang/String"), (0, u "value"), (0, u "[B"), (0, .fieldref 10 16), (0, .nameAndType 17 18), (0, u "coder"), (0, u "B"), (2, u "hash"), (0, u "I"), (2, u "hashIsZero"), (0, u "Z"), (11, .fieldref 10 39), (0, .nameAndType 40 26), (0, u "COMPACT_STRINGS"), (12, u "toBytes"), (53, .class_ 109), (1, u "java/lang/StringLatin1"), (99, .methodref 10 210), (0, .nameAndType 5 211), (0, u "([BB)V"), (157, u "(C)Z"), (173, u "equals"), (29, u "(Ljava/lang/Object;)Z"), (1, .class_ 576), (0, u "java/lang/CharSequence"), (22, u "CASE_INSENSITIVE_ORDER"), (0, u "Ljava/util/Comparator;"), (181, u "valueOf"), (0, u "(C)Ljava/lang/String;"), (231, .methodref 107 1016), (0, .nameAndType 1017 369), (0, u "canEncode"), (0, .methodref 107 1019), (0, .nameAndType 53 1020), (0, u "(C)[B"), (80, u "serialPersistentFields"), (0, u "[Ljava/io/ObjectStreamField;"), (0, .class_ 1104), (0, u "java/lang/String$CaseInsensitiveComparator"), (1, .class_ 1107), (0, u "java/io/Serializable"), (0, .class_ 1109), (0, u "java/lang/Comparable"), (0, .class_ 1111), (0, u "java/lang/constant/Constable"), (0, .class_ 1113), (0, u "java/lang/constant/ConstantDesc"), (2, u "serialVersionUID"), (0, u "J"), (3, u "REPL"), (0, u "C"), (2, u "LATIN1"), (1, u "UTF16")] 323

def k23m0 : Method := { name := "<init>", desc := "()V", sig := { parameters := [], returnType := none }, accessFlags := 1, code := none }
def k23c1 : Code := { maxStack := 2, maxLocals := 3, code := jdk_42_method_66_code, exceptionTable := #[], attributes := #[] }
def k23m1 : Method := { name := "equals", desc := "(Ljava/lang/Object;)Z", sig := { parameters := [(.object "java/lang/Object")], returnType := some .boolean }, accessFlags := 1, code := some k23c1 }
def k23c2 : Code := { maxStack := 4, maxLocals := 1, code := jdk_42_method_139_code, exceptionTable := #[], attributes := #[] }
def k23m2 : Method := { name := "valueOf", desc := "(C)Ljava/lang/String;", sig := { parameters := [.char], returnType := some (.object "java/lang/String") }, accessFlags := 9, code := some k23c2 }
def k23c3 : Code := { maxStack := 2, maxLocals := 3, code := jdk_42_method_151_code, exceptionTable := #[], attributes := #[] }
def k23m3 : Method := { name := "<init>", desc := "([BB)V", sig := { parameters := [(.array .byte), .byte], returnType := none }, accessFlags := 0, code := some k23c3 }
/-- java/lang/String -/
def k23 : Class := { plain "java/lang/String" (some 0) with
  accessFlags := 49
  interfaces := #[4, 3, 21, 2, 22]
  cf := some (fileOf pool23 10 #[.nestMembers #[1103]] #[{ accessFlags := 1, nameIndex := 5, descriptorIndex := 6, attributes := #[] }, { accessFlags := 1, nameIndex := 543, descriptorIndex := 573, attributes := #[] }, { accessFlags := 9, nameIndex := 782, descriptorIndex := 783, attributes := #[] }, { accessFlags := 0, nameIndex := 5, descriptorIndex := 211, attributes := #[] }] 49 2 #[1106, 1108, 575, 1110, 1112] #[{ accessFlags := 18, nameIndex := 13, descriptorIndex := 14, attributes := #[] }, { accessFlags := 18, nameIndex := 17, descriptorIndex := 18, attributes := #[] }, { accessFlags := 2, nameIndex := 21, descriptorIndex := 22, attributes := #[] }, { accessFlags := 2, nameIndex := 25, descriptorIndex := 26, attributes := #[] }, { accessFlags := 26, nameIndex := 1116, descriptorIndex := 1117, attributes := #[] }, { accessFlags := 24, nameIndex := 40, descriptorIndex := 26, attributes := #[] }, { accessFlags := 26, nameIndex := 1101, descriptorIndex := 1102, attributes := #[] }, { accessFlags := 26, nameIndex := 1121, descriptorIndex := 1122, attributes := #[] }, { accessFlags := 25, nameIndex := 599, descriptorIndex := 600, attributes := #[] }, { accessFlags := 24, nameIndex := 1125, descriptorIndex := 18, attributes := #[] }, { accessFlags := 24, nameIndex := 1127, descriptorIndex := 18, attributes := #[] }])
  fields := #[{ name := "value", type := (.array .byte), accessFlags := 18, slot := 0, constantValue := 0 }, { name := "coder", type := .byte, accessFlags := 18, slot := 1, constantValue := 0 }, { name := "hash", type := .int, accessFlags := 2, slot := 2, constantValue := 0 }, { name := "hashIsZero", type := .boolean, accessFlags := 2, slot := 3, constantValue := 0 }, { name := "serialVersionUID", type := .long, accessFlags := 26, slot := 0, constantValue := 0 }, { name := "COMPACT_STRINGS", type := .boolean, accessFlags := 24, slot := 1, constantValue := 0 }, { name := "serialPersistentFields", type := (.array (.object "java/io/ObjectStreamField")), accessFlags := 26, slot := 2, constantValue := 0 }, { name := "REPL", type := .char, accessFlags := 26, slot := 3, constantValue := 0 }, { name := "CASE_INSENSITIVE_ORDER", type := (.object "java/util/Comparator"), accessFlags := 25, slot := 4, constantValue := 0 }, { name := "LATIN1", type := .byte, accessFlags := 24, slot := 5, constantValue := 0 }, { name := "UTF16", type := .byte, accessFlags := 24, slot := 6, constantValue := 0 }]
  methods := #[k23m0, k23m1, k23m2, k23m3]
  instanceTypes := #[(.array .byte), .byte, .int, .boolean]
  staticTypes := #[.long, .boolean, (.array (.object "java/io/ObjectStreamField")), .char, (.object "java/util/Comparator"), .byte, .byte]
  resolved := Array.replicate 1451 none
  statics := some 2 }

def pool24 : Array CpInfo := pool [(4, .class_ 6), (1, u "java/lang/Object"), (0, u "<init>"), (0, u "()V"), (5, .class_ 16), (1, u "java/lang/StringLatin1"), (73, u "canEncode"), (14, u "(C)Z"), (15, u "$assertionsDisabled"), (0, u "Z"), (98, .class_ 223), (1, u "java/lang/StringLatin1$LinesSpliterator"), (156, u "toBytes"), (1, u "(C)[B"), (7, .class_ 391), (0, u "java/lang/StringLatin1$CharsSpliterator")] 3

def k24m0 : Method := { name := "<init>", desc := "()V", sig := { parameters := [], returnType := none }, accessFlags := 0, code := none }
def k24c1 : Code := { maxStack := 2, maxLocals := 1, code := jdk_43_method_3_code, exceptionTable := #[], attributes := #[] }
def k24m1 : Method := { name := "canEncode", desc := "(C)Z", sig := { parameters := [.char], returnType := some .boolean }, accessFlags := 9, code := some k24c1 }
def k24c2 : Code := { maxStack := 4, maxLocals := 1, code := jdk_43_method_46_code, exceptionTable := #[], attributes := #[] }
def k24m2 : Method := { name := "toBytes", desc := "(C)[B", sig := { parameters := [.char], returnType := some (.array .byte) }, accessFlags := 9, code := some k24c2 }
/-- java/lang/StringLatin1 -/
def k24 : Class := { plain "java/lang/StringLatin1" (some 0) with
  accessFlags := 48
  interfaces := #[]
  cf := some (fileOf pool24 14 #[.nestMembers #[390, 221]] #[{ accessFlags := 0, nameIndex := 7, descriptorIndex := 8, attributes := #[] }, { accessFlags := 9, nameIndex := 90, descriptorIndex := 105, attributes := #[] }, { accessFlags := 9, nameIndex := 380, descriptorIndex := 382, attributes := #[] }] 48 4 #[] #[{ accessFlags := 4120, nameIndex := 121, descriptorIndex := 122, attributes := #[] }])
  fields := #[{ name := "$assertionsDisabled", type := .boolean, accessFlags := 4120, slot := 0, constantValue := 0 }]
  methods := #[k24m0, k24m1, k24m2]
  instanceTypes := #[]
  staticTypes := #[.boolean]
  resolved := Array.replicate 395 none
  statics := none }

def pool25 : Array CpInfo := pool [(2, .class_ 4), (1, u "java/lang/Object"), (0, u "<init>"), (0, u "()V"), (17, .class_ 26), (1, u "jdk/internal/util/Preconditions"), (28, .class_ 56), (0, u "jdk/internal/util/Preconditions$4"), (57, .class_ 115), (0, u "jdk/internal/util/Preconditions$1"), (7, u "SIOOBE_FORMATTER"), (0, u "Ljava/util/function/BiFunction;"), (0, .class_ 126), (0, u "jdk/internal/util/Preconditions$2"), (3, u "AIOOBE_FORMATTER"), (0, .class_ 132), (0, u "jdk/internal/util/Preconditions$3"), (3, u "IOOBE_FORMATTER")] 57

def k25m0 : Method := { name := "<init>", desc := "()V", sig := { parameters := [], returnType := none }, accessFlags := 1, code := none }
/-- jdk/internal/util/Preconditions -/
def k25 : Class := { plain "jdk/internal/util/Preconditions" (some 0) with
  accessFlags := 33
  interfaces := #[]
  cf := some (fileOf pool25 24 #[.nestMembers #[55, 131, 125, 114]] #[{ accessFlags := 1, nameIndex := 5, descriptorIndex := 6, attributes := #[] }] 33 2 #[] #[{ accessFlags := 25, nameIndex := 123, descriptorIndex := 124, attributes := #[] }, { accessFlags := 25, nameIndex := 130, descriptorIndex := 124, attributes := #[] }, { accessFlags := 25, nameIndex := 136, descriptorIndex := 124, attributes := #[] }])
  fields := #[{ name := "SIOOBE_FORMATTER", type := (.object "java/util/function/BiFunction"), accessFlags := 25, slot := 0, constantValue := 0 }, { name := "AIOOBE_FORMATTER", type := (.object "java/util/function/BiFunction"), accessFlags := 25, slot := 1, constantValue := 0 }, { name := "IOOBE_FORMATTER", type := (.object "java/util/function/BiFunction"), accessFlags := 25, slot := 2, constantValue := 0 }]
  methods := #[k25m0]
  instanceTypes := #[]
  staticTypes := #[(.object "java/util/function/BiFunction"), (.object "java/util/function/BiFunction"), (.object "java/util/function/BiFunction")]
  resolved := Array.replicate 194 none
  statics := some 3 }

def pool26 : Array CpInfo := pool [(9, u "<init>"), (6, .class_ 18), (1, u "java/lang/Object"), (0, u "()V"), (1, .class_ 23), (1, u "jdk/internal/util/ArraysSupport"), (0, u "LOG2_ARRAY_LONG_INDEX_SCALE"), (0, u "I"), (2, u "U"), (0, u "Ljdk/internal/misc/Unsafe;"), (8, u "BIG_ENDIAN"), (0, u "Z"), (8, u "LOG2_BYTE_BIT_SIZE"), (4, u "LOG2_ARRAY_INT_INDEX_SCALE"), (54, u "JLA"), (0, u "Ljdk/internal/access/JavaLangAccess;"), (11, u "LOG2_ARRAY_BOOLEAN_INDEX_SCALE"), (9, u "LOG2_ARRAY_BYTE_INDEX_SCALE"), (5, u "LOG2_ARRAY_CHAR_INDEX_SCALE"), (5, u "LOG2_ARRAY_SHORT_INDEX_SCALE"), (18, u "LOG2_ARRAY_FLOAT_INDEX_SCALE"), (24, u "LOG2_ARRAY_DOUBLE_INDEX_SCALE"), (89, u "T_BOOLEAN"), (2, u "T_CHAR"), (1, u "T_FLOAT"), (1, u "T_DOUBLE"), (1, u "T_BYTE"), (1, u "T_SHORT"), (1, u "T_INT"), (1, u "T_LONG"), (1, u "SOFT_MAX_ARRAY_LENGTH")] 83

def k26m0 : Method := { name := "<init>", desc := "()V", sig := { parameters := [], returnType := none }, accessFlags := 2, code := none }
/-- jdk/internal/util/ArraysSupport -/
def k26 : Class := { plain "jdk/internal/util/ArraysSupport" (some 0) with
  accessFlags := 33
  interfaces := #[]
  cf := some (fileOf pool26 21 #[] #[{ accessFlags := 2, nameIndex := 9, descriptorIndex := 19, attributes := #[] }] 33 16 #[] #[{ accessFlags := 24, nameIndex := 28, descriptorIndex := 29, attributes := #[] }, { accessFlags := 26, nameIndex := 38, descriptorIndex := 39, attributes := #[] }, { accessFlags := 25, nameIndex := 121, descriptorIndex := 25, attributes := #[] }, { accessFlags := 25, nameIndex := 131, descriptorIndex := 25, attributes := #[] }, { accessFlags := 25, nameIndex := 137, descriptorIndex := 25, attributes := #[] }, { accessFlags := 25, nameIndex := 143, descriptorIndex := 25, attributes := #[] }, { accessFlags := 25, nameIndex := 53, descriptorIndex := 25, attributes := #[] }, { accessFlags := 25, nameIndex := 24, descriptorIndex := 25, attributes := #[] }, { accessFlags := 25, nameIndex := 162, descriptorIndex := 25, attributes := #[] }, { accessFlags := 25, nameIndex := 187, descriptorIndex := 25, attributes := #[] }, { accessFlags := 26, nameIndex := 48, descriptorIndex := 25, attributes := #[] }, { accessFlags := 25, nameIndex := 277, descriptorIndex := 25, attributes := #[] }, { accessFlags := 25, nameIndex := 280, descriptorIndex := 25, attributes := #[] }, { accessFlags := 25, nameIndex := 282, descriptorIndex := 25, attributes := #[] }, { accessFlags := 25, nameIndex := 284, descriptorIndex := 25, attributes := #[] }, { accessFlags := 25, nameIndex := 286, descriptorIndex := 25, attributes := #[] }, { accessFlags := 25, nameIndex := 288, descriptorIndex := 25, attributes := #[] }, { accessFlags := 25, nameIndex := 290, descriptorIndex := 25, attributes := #[] }, { accessFlags := 25, nameIndex := 292, descriptorIndex := 25, attributes := #[] }, { accessFlags := 26, nameIndex := 108, descriptorIndex := 109, attributes := #[] }, { accessFlags := 25, nameIndex := 294, descriptorIndex := 25, attributes := #[] }])
  fields := #[{ name := "U", type := (.object "jdk/internal/misc/Unsafe"), accessFlags := 24, slot := 0, constantValue := 0 }, { name := "BIG_ENDIAN", type := .boolean, accessFlags := 26, slot := 1, constantValue := 0 }, { name := "LOG2_ARRAY_BOOLEAN_INDEX_SCALE", type := .int, accessFlags := 25, slot := 2, constantValue := 0 }, { name := "LOG2_ARRAY_BYTE_INDEX_SCALE", type := .int, accessFlags := 25, slot := 3, constantValue := 0 }, { name := "LOG2_ARRAY_CHAR_INDEX_SCALE", type := .int, accessFlags := 25, slot := 4, constantValue := 0 }, { name := "LOG2_ARRAY_SHORT_INDEX_SCALE", type := .int, accessFlags := 25, slot := 5, constantValue := 0 }, { name := "LOG2_ARRAY_INT_INDEX_SCALE", type := .int, accessFlags := 25, slot := 6, constantValue := 0 }, { name := "LOG2_ARRAY_LONG_INDEX_SCALE", type := .int, accessFlags := 25, slot := 7, constantValue := 0 }, { name := "LOG2_ARRAY_FLOAT_INDEX_SCALE", type := .int, accessFlags := 25, slot := 8, constantValue := 0 }, { name := "LOG2_ARRAY_DOUBLE_INDEX_SCALE", type := .int, accessFlags := 25, slot := 9, constantValue := 0 }, { name := "LOG2_BYTE_BIT_SIZE", type := .int, accessFlags := 26, slot := 10, constantValue := 0 }, { name := "T_BOOLEAN", type := .int, accessFlags := 25, slot := 11, constantValue := 0 }, { name := "T_CHAR", type := .int, accessFlags := 25, slot := 12, constantValue := 0 }, { name := "T_FLOAT", type := .int, accessFlags := 25, slot := 13, constantValue := 0 }, { name := "T_DOUBLE", type := .int, accessFlags := 25, slot := 14, constantValue := 0 }, { name := "T_BYTE", type := .int, accessFlags := 25, slot := 15, constantValue := 0 }, { name := "T_SHORT", type := .int, accessFlags := 25, slot := 16, constantValue := 0 }, { name := "T_INT", type := .int, accessFlags := 25, slot := 17, constantValue := 0 }, { name := "T_LONG", type := .int, accessFlags := 25, slot := 18, constantValue := 0 }, { name := "JLA", type := (.object "jdk/internal/access/JavaLangAccess"), accessFlags := 26, slot := 19, constantValue := 0 }, { name := "SOFT_MAX_ARRAY_LENGTH", type := .int, accessFlags := 25, slot := 20, constantValue := 0 }]
  methods := #[k26m0]
  instanceTypes := #[]
  staticTypes := #[(.object "jdk/internal/misc/Unsafe"), .boolean, .int, .int, .int, .int, .int, .int, .int, .int, .int, .int, .int, .int, .int, .int, .int, .int, .int, (.object "jdk/internal/access/JavaLangAccess"), .int]
  resolved := Array.replicate 378 none
  statics := none }

def pool27 : Array CpInfo := pool [(1, u "java/lang/Class"), (0, .class_ 1), (0, u "java/lang/Object"), (0, .class_ 3)] 0

/-- java/lang/Class -/
def k27 : Class := { plain "java/lang/Class" (some 0) with
  accessFlags := 49
  interfaces := #[]
  cf := some (fileOf pool27 2 #[] #[] 49 4 #[] #[])
  fields := #[]
  methods := #[]
  instanceTypes := #[]
  staticTypes := #[]
  resolved := Array.replicate 5 none
  statics := none }

/-- the primitive byte -/
def k28 : Class := { plain "byte" none with kind := .primitive 'B', accessFlags := 0x411 }
/-- [B -/
def k29 : Class := { plain "[B" (some 0) with kind := .array 28 .byte, interfaces := #[15, 4], accessFlags := 1041 }

/-- the primitive int -/
def k30 : Class := { plain "int" none with kind := .primitive 'I', accessFlags := 0x411 }
/-- [I -/
def k31 : Class := { plain "[I" (some 0) with kind := .array 30 .int, interfaces := #[15, 4], accessFlags := 1041 }

/-- [Ljava/lang/Object; -/
def k32 : Class := { plain "[Ljava/lang/Object;" (some 0) with kind := .array 0 (.object "java/lang/Object"), interfaces := #[15, 4], accessFlags := 1041 }

def heap : Heap := #[{ cls := 6, slots := #[.ref 7, .ref 8, .null], vm := .statics 6 },
  { cls := 16, slots := #[.long 0, .int 0, .ref 9, .ref 10], vm := .statics 16 },
  { cls := 23, slots := #[.long 0, .int 1, .null, .int 0, .null, .int 0, .int 0], vm := .statics 23 },
  { cls := 25, slots := #[.null, .null, .null], vm := .statics 25 },
  { cls := 27, slots := #[], vm := .mirror 16 },
  { cls := 27, slots := #[], vm := .mirror 19 },
  { cls := 27, slots := #[], vm := .mirror 20 },
  { cls := 6, slots := #[.null, .int 0, .int 0], vm := .none },
  { cls := 6, slots := #[.null, .int 1, .int 0], vm := .none },
  { cls := 32, slots := #[], vm := .none },
  { cls := 32, slots := #[], vm := .none }]
def classes : Array Class := #[k0, k1, k2, k3, k4, k5, k6, k7, k8, k9, k10, k11, k12, k13, k14, k15, k16, k17, k18, k19, k20, k21, k22, k23, k24, k25, k26, k27, k28, k29, k30, k31, k32]
def interned : List (Array UInt16 × Addr) := []
def slotsUsed : Nat := 23
def theMethod : MethodId := ⟨1, 1⟩
def args0 : Array Value := #[.int 1, .int 3, .int 4, .int 65]
def aboutOver (below : List Frame) : State where
  vm := { classes := classes, interned := interned.toArray }
  heap := heap
  slotsUsed := slotsUsed
  threads := #[{ frames := .invoking theMethod args0 :: below }]
def below0 : List Frame := [.native { method := ⟨0, 0⟩, args := #[] }]
def about1 : State := aboutOver below0
def p0 : Program := .bare "" "" ""
def e0 : Env := launch0.env 0 0 0
theorem w_frames : about1.frames = Frame.invoking theMethod args0 :: below0 := rfl
set_option maxRecDepth 65536 in
theorem w_args : argsFit about1.vm theMethod args0 = true := by decide +kernel
set_option maxRecDepth 65536 in
theorem w_heap : heapFits about1 = true := by decide +kernel
set_option maxRecDepth 65536 in
theorem w_runnable : about1.curStatus? = some .runnable := by decide +kernel
set_option maxRecDepth 65536 in
theorem w_alone : about1.alone = true := by decide +kernel
set_option maxRecDepth 65536 in
theorem w_named : about1.methodNamed? x = some theMethod := by decide +kernel
set_option maxRecDepth 65536 in
theorem w_hears : about1.hears theMethod below0 = true := by decide +kernel
set_option maxRecDepth 65536 in
theorem w_ripe : about1.ripe theMethod args0 below0 = true := by decide +kernel
theorem w_running : about1.status = .running := rfl
set_option maxRecDepth 65536 in
theorem w_room : about1.hasRoom e0.platform room_1 = true :=
  launch0.hasRoom_least _ room_1 (by decide +kernel) (by decide +kernel) (by decide +kernel) (by decide +kernel) (by decide +kernel) (by decide +kernel)
theorem allAtoms_all (ts : List Jvm.Cond) (a : Array Jvm.Value) (st : Jvm.State) : (allAtoms ts).before a st = ts.all (fun c => c.before a st) := by
  induction ts with
  | nil => rfl
  | cons c t ih =>
    show (Jvm.Cond.and c (allAtoms t)).before a st = _
    rw [Jvm.Cond.before_and, ih, List.all_cons]
def words1 : List Jvm.Cond := Jvm.Cond.code x code maxLocals ret :: tables_1
/-- a 'code' word, met by the world's own term for the bytes: nothing is compared byte by byte -/
theorem code_word {y : MethodName} {bytes : ByteArray} {mx : Nat} {rt : Option FieldType} {a : Array Value} {s : State} {m : MethodId} {meth : Method} {c : Code} (h1 : s.methodNamed? y = some m) (h2 : s.vm.method? m = some meth) (h3 : meth.code = some c) (h4 : c.code = bytes)
    (h5 : (c.maxLocals == mx && c.exceptionTable.isEmpty && decide (c.maxStack ≤ mostOperands) && decide (meth.sig.returnType = rt) && !meth.locks && decide (parseMethodDescriptor y.desc = some meth.sig)) = true) : (Jvm.Cond.code y bytes mx rt).before a s = true := by
  simp only [Bool.and_eq_true, beq_iff_eq, Bool.not_eq_true', decide_eq_true_eq] at h5
  obtain ⟨⟨⟨⟨⟨g1, g2⟩, g3⟩, g4⟩, g5⟩, g6⟩ := h5
  simp [Cond.before, Cond.holds, Cond.value, h1, h2, h3, h4, g1, g2, g3, g4, g5, g6]
def isCode : Jvm.Cond → Bool
  | .code _ _ _ _ => true
  | _ => false
theorem all_split {L : List Jvm.Cond} {P : Jvm.Cond → Bool} (h1 : L.all (fun c => isCode c || P c) = true) (h2 : ∀ c ∈ L.filter isCode, P c = true) : L.all P = true := by
  refine List.all_eq_true.mpr fun c hc => ?_
  have h := List.all_eq_true.mp h1 c hc
  rcases Bool.eq_false_or_eq_true (isCode c) with hi | hi
  · exact h2 c (List.mem_filter.mpr ⟨hc, hi⟩)
  · simpa [hi] using h
set_option maxRecDepth 65536 in
theorem w_c0 : (Jvm.Cond.code x code maxLocals ret).before args0 about1 = true := code_word (m := ⟨1, 1⟩) (meth := k1m1) (c := k1c1) (by decide +kernel) rfl rfl rfl (by decide +kernel)
set_option maxRecDepth 65536 in
theorem w_c1 : (Jvm.Cond.code ({ cls := "com/example/extlint/extlint/model/Element", name := "root", desc := "(Lcom/example/extlint/extlint/model/Format;II)Lcom/example/extlint/extlint/model/Element;" } : Jvm.MethodName) prog_21_method_4_code (3 : Nat) (Option.some (Jvm.ClassFile.FieldType.object "com/example/extlint/extlint/model/Element"))).before args0 about1 = true := code_word (m := ⟨7, 1⟩) (meth := k7m1) (c := k7c1) (by decide +kernel) rfl rfl rfl (by decide +kernel)
set_option maxRecDepth 65536 in
theorem w_c2 : (Jvm.Cond.code ({ cls := "com/example/extlint/extlint/model/Element", name := "<init>", desc := "(Lcom/example/extlint/extlint/model/Format;Lcom/example/extlint/extlint/model/Element;Ljava/lang/String;III)V" } : Jvm.MethodName) prog_21_method_1_code (7 : Nat) (Option.none : Option Jvm.ClassFile.FieldType)).before args0 about1 = true := code_word (m := ⟨7, 0⟩) (meth := k7m0) (c := k7c0) (by decide +kernel) rfl rfl rfl (by decide +kernel)
set_option maxRecDepth 65536 in
theorem w_c3 : (Jvm.Cond.code ({ cls := "java/lang/Object", name := "<init>", desc := "()V" } : Jvm.MethodName) object_method_1_code (1 : Nat) (Option.none : Option Jvm.ClassFile.FieldType)).before args0 about1 = true := code_word (m := ⟨0, 0⟩) (meth := k0m0) (c := k0c0) (by decide +kernel) rfl rfl rfl (by decide +kernel)
set_option maxRecDepth 65536 in
theorem w_c4 : (Jvm.Cond.code ({ cls := "java/util/ArrayList", name := "<init>", desc := "()V" } : Jvm.MethodName) jdk_38_method_2_code (1 : Nat) (Option.none : Option Jvm.ClassFile.FieldType)).before args0 about1 = true := code_word (m := ⟨16, 0⟩) (meth := k16m0) (c := k16c0) (by decide +kernel) rfl rfl rfl (by decide +kernel)
set_option maxRecDepth 65536 in
theorem w_c5 : (Jvm.Cond.code ({ cls := "java/util/AbstractList", name := "<init>", desc := "()V" } : Jvm.MethodName) jdk_39_method_1_code (1 : Nat) (Option.none : Option Jvm.ClassFile.FieldType)).before args0 about1 = true := code_word (m := ⟨13, 0⟩) (meth := k13m0) (c := k13c0) (by decide +kernel) rfl rfl rfl (by decide +kernel)
set_option maxRecDepth 65536 in
theorem w_c6 : (Jvm.Cond.code ({ cls := "java/util/AbstractCollection", name := "<init>", desc := "()V" } : Jvm.MethodName) jdk_22_method_1_code (1 : Nat) (Option.none : Option Jvm.ClassFile.FieldType)).before args0 about1 = true := code_word (m := ⟨10, 0⟩) (meth := k10m0) (c := k10c0) (by decide +kernel) rfl rfl rfl (by decide +kernel)
set_option maxRecDepth 65536 in
theorem w_c7 : (Jvm.Cond.code ({ cls := "com/example/extlint/extlint/model/Element", name := "format", desc := "()Lcom/example/extlint/extlint/model/Format;" } : Jvm.MethodName) prog_21_method_5_code (1 : Nat) (Option.some (Jvm.ClassFile.FieldType.object "com/example/extlint/extlint/model/Format"))).before args0 about1 = true := code_word (m := ⟨7, 2⟩) (meth := k7m2) (c := k7c2) (by decide +kernel) rfl rfl rfl (by decide +kernel)
set_option maxRecDepth 65536 in
theorem w_c8 : (Jvm.Cond.code ({ cls := "com/example/extlint/extlint/model/Element", name := "index", desc := "()I" } : Jvm.MethodName) prog_21_method_7_code (1 : Nat) (Option.some Jvm.ClassFile.FieldType.int)).before args0 about1 = true := code_word (m := ⟨7, 4⟩) (meth := k7m4) (c := k7c4) (by decide +kernel) rfl rfl rfl (by decide +kernel)
set_option maxRecDepth 65536 in
theorem w_c9 : (Jvm.Cond.code ({ cls := "com/example/extlint/extlint/model/Element", name := "line", desc := "()I" } : Jvm.MethodName) prog_21_method_8_code (1 : Nat) (Option.some Jvm.ClassFile.FieldType.int)).before args0 about1 = true := code_word (m := ⟨7, 5⟩) (meth := k7m5) (c := k7c5) (by decide +kernel) rfl rfl rfl (by decide +kernel)
set_option maxRecDepth 65536 in
theorem w_c10 : (Jvm.Cond.code ({ cls := "com/example/extlint/extlint/model/Element", name := "column", desc := "()I" } : Jvm.MethodName) prog_21_method_9_code (1 : Nat) (Option.some Jvm.ClassFile.FieldType.int)).before args0 about1 = true := code_word (m := ⟨7, 6⟩) (meth := k7m6) (c := k7c6) (by decide +kernel) rfl rfl rfl (by decide +kernel)
set_option maxRecDepth 65536 in
theorem w_c11 : (Jvm.Cond.code ({ cls := "com/example/extlint/extlint/model/Element", name := "name", desc := "()Ljava/lang/String;" } : Jvm.MethodName) prog_21_method_6_code (1 : Nat) (Option.some (Jvm.ClassFile.FieldType.object "java/lang/String"))).before args0 about1 = true := code_word (m := ⟨7, 3⟩) (meth := k7m3) (c := k7c3) (by decide +kernel) rfl rfl rfl (by decide +kernel)
set_option maxRecDepth 65536 in
theorem w_c12 : (Jvm.Cond.code ({ cls := "com/example/extlint/extlint/model/Element", name := "isPrimitive", desc := "()Z" } : Jvm.MethodName) prog_21_method_17_code (1 : Nat) (Option.some Jvm.ClassFile.FieldType.boolean)).before args0 about1 = true := code_word (m := ⟨7, 8⟩) (meth := k7m8) (c := k7c8) (by decide +kernel) rfl rfl rfl (by decide +kernel)
set_option maxRecDepth 65536 in
theorem w_c13 : (Jvm.Cond.code ({ cls := "com/example/extlint/extlint/model/Element", name := "children", desc := "()Ljava/util/List;" } : Jvm.MethodName) prog_21_method_11_code (1 : Nat) (Option.some (Jvm.ClassFile.FieldType.object "java/util/List"))).before args0 about1 = true := code_word (m := ⟨7, 7⟩) (meth := k7m7) (c := k7c7) (by decide +kernel) rfl rfl rfl (by decide +kernel)
set_option maxRecDepth 65536 in
theorem w_c14 : (Jvm.Cond.code ({ cls := "java/util/Collections", name := "unmodifiableList", desc := "(Ljava/util/List;)Ljava/util/List;" } : Jvm.MethodName) jdk_79_method_35_code (1 : Nat) (Option.some (Jvm.ClassFile.FieldType.object "java/util/List"))).before args0 about1 = true := code_word (m := ⟨17, 1⟩) (meth := k17m1) (c := k17c1) (by decide +kernel) rfl rfl rfl (by decide +kernel)
set_option maxRecDepth 65536 in
theorem w_c15 : (Jvm.Cond.code ({ cls := "java/util/Collections$UnmodifiableRandomAccessList", name := "<init>", desc := "(Ljava/util/List;)V" } : Jvm.MethodName) jdk_121_method_1_code (2 : Nat) (Option.none : Option Jvm.ClassFile.FieldType)).before args0 about1 = true := code_word (m := ⟨20, 0⟩) (meth := k20m0) (c := k20c0) (by decide +kernel) rfl rfl rfl (by decide +kernel)
set_option maxRecDepth 65536 in
theorem w_c16 : (Jvm.Cond.code ({ cls := "java/util/Collections$UnmodifiableList", name := "<init>", desc := "(Ljava/util/List;)V" } : Jvm.MethodName) jdk_120_method_1_code (2 : Nat) (Option.none : Option Jvm.ClassFile.FieldType)).before args0 about1 = true := code_word (m := ⟨19, 0⟩) (meth := k19m0) (c := k19c0) (by decide +kernel) rfl rfl rfl (by decide +kernel)
set_option maxRecDepth 65536 in
theorem w_c17 : (Jvm.Cond.code ({ cls := "java/util/Collections$UnmodifiableCollection", name := "<init>", desc := "(Ljava/util/Collection;)V" } : Jvm.MethodName) jdk_119_method_1_code (2 : Nat) (Option.none : Option Jvm.ClassFile.FieldType)).before args0 about1 = true := code_word (m := ⟨18, 0⟩) (meth := k18m0) (c := k18c0) (by decide +kernel) rfl rfl rfl (by decide +kernel)
set_option maxRecDepth 65536 in
theorem w_c18 : (Jvm.Cond.code ({ cls := "java/util/Collections$UnmodifiableCollection", name := "size", desc := "()I" } : Jvm.MethodName) jdk_119_method_2_code (1 : Nat) (Option.some Jvm.ClassFile.FieldType.int)).before args0 about1 = true := code_word (m := ⟨18, 1⟩) (meth := k18m1) (c := k18c1) (by decide +kernel) rfl rfl rfl (by decide +kernel)
set_option maxRecDepth 65536 in
theorem w_c19 : (Jvm.Cond.code ({ cls := "java/util/ArrayList", name := "size", desc := "()I" } : Jvm.MethodName) jdk_38_method_8_code (1 : Nat) (Option.some Jvm.ClassFile.FieldType.int)).before args0 about1 = true := code_word (m := ⟨16, 1⟩) (meth := k16m1) (c := k16c1) (by decide +kernel) rfl rfl rfl (by decide +kernel)
set_option maxRecDepth 65536 in
theorem w_c20 : (Jvm.Cond.code ({ cls := "java/lang/String", name := "valueOf", desc := "(C)Ljava/lang/String;" } : Jvm.MethodName) jdk_42_method_139_code (1 : Nat) (Option.some (Jvm.ClassFile.FieldType.object "java/lang/String"))).before args0 about1 = true := code_word (m := ⟨23, 2⟩) (meth := k23m2) (c := k23c2) (by decide +kernel) rfl rfl rfl (by decide +kernel)
set_option maxRecDepth 65536 in
theorem w_c21 : (Jvm.Cond.code ({ cls := "java/lang/StringLatin1", name := "canEncode", desc := "(C)Z" } : Jvm.MethodName) jdk_43_method_3_code (1 : Nat) (Option.some Jvm.ClassFile.FieldType.boolean)).before args0 about1 = true := code_word (m := ⟨24, 1⟩) (meth := k24m1) (c := k24c1) (by decide +kernel) rfl rfl rfl (by decide +kernel)
set_option maxRecDepth 65536 in
theorem w_c22 : (Jvm.Cond.code ({ cls := "java/lang/StringLatin1", name := "toBytes", desc := "(C)[B" } : Jvm.MethodName) jdk_43_method_46_code (1 : Nat) (Option.some (Jvm.ClassFile.FieldType.array Jvm.ClassFile.FieldType.byte))).before args0 about1 = true := code_word (m := ⟨24, 2⟩) (meth := k24m2) (c := k24c2) (by decide +kernel) rfl rfl rfl (by decide +kernel)
set_option maxRecDepth 65536 in
theorem w_c23 : (Jvm.Cond.code ({ cls := "java/lang/String", name := "<init>", desc := "([BB)V" } : Jvm.MethodName) jdk_42_method_151_code (3 : Nat) (Option.none : Option Jvm.ClassFile.FieldType)).before args0 about1 = true := code_word (m := ⟨23, 3⟩) (meth := k23m3) (c := k23c3) (by decide +kernel) rfl rfl rfl (by decide +kernel)
set_option maxRecDepth 65536 in
theorem w_c24 : (Jvm.Cond.code ({ cls := "com/example/extlint/extlint/model/Element", name := "setResourceType", desc := "(Ljava/lang/String;)V" } : Jvm.MethodName) prog_21_method_25_code (2 : Nat) (Option.none : Option Jvm.ClassFile.FieldType)).before args0 about1 = true := code_word (m := ⟨7, 9⟩) (meth := k7m9) (c := k7c9) (by decide +kernel) rfl rfl rfl (by decide +kernel)
set_option maxRecDepth 65536 in
theorem w_c25 : (Jvm.Cond.code ({ cls := "java/lang/String", name := "equals", desc := "(Ljava/lang/Object;)Z" } : Jvm.MethodName) jdk_42_method_66_code (3 : Nat) (Option.some Jvm.ClassFile.FieldType.boolean)).before args0 about1 = true := code_word (m := ⟨23, 1⟩) (meth := k23m1) (c := k23c1) (by decide +kernel) rfl rfl rfl (by decide +kernel)
def codes1 : List Jvm.Cond := [Jvm.Cond.code x code maxLocals ret, Jvm.Cond.code ({ cls := "com/example/extlint/extlint/model/Element", name := "root", desc := "(Lcom/example/extlint/extlint/model/Format;II)Lcom/example/extlint/extlint/model/Element;" } : Jvm.MethodName) prog_21_method_4_code (3 : Nat) (Option.some (Jvm.ClassFile.FieldType.object "com/example/extlint/extlint/model/Element")), Jvm.Cond.code ({ cls := "com/example/extlint/extlint/model/Element", name := "<init>", desc := "(Lcom/example/extlint/extlint/model/Format;Lcom/example/extlint/extlint/model/Element;Ljava/lang/String;III)V" } : Jvm.MethodName) prog_21_method_1_code (7 : Nat) (Option.none : Option Jvm.ClassFile.FieldType), Jvm.Cond.code ({ cls := "java/lang/Object", name := "<init>", desc := "()V" } : Jvm.MethodName) object_method_1_code (1 : Nat) (Option.none : Option Jvm.ClassFile.FieldType), Jvm.Cond.code ({ cls := "java/util/ArrayList", name := "<init>", desc := "()V" } : Jvm.MethodName) jdk_38_method_2_code (1 : Nat) (Option.none : Option Jvm.ClassFile.FieldType), Jvm.Cond.code ({ cls := "java/util/AbstractList", name := "<init>", desc := "()V" } : Jvm.MethodName) jdk_39_method_1_code (1 : Nat) (Option.none : Option Jvm.ClassFile.FieldType), Jvm.Cond.code ({ cls := "java/util/AbstractCollection", name := "<init>", desc := "()V" } : Jvm.MethodName) jdk_22_method_1_code (1 : Nat) (Option.none : Option Jvm.ClassFile.FieldType), Jvm.Cond.code ({ cls := "com/example/extlint/extlint/model/Element", name := "format", desc := "()Lcom/example/extlint/extlint/model/Format;" } : Jvm.MethodName) prog_21_method_5_code (1 : Nat) (Option.some (Jvm.ClassFile.FieldType.object "com/example/extlint/extlint/model/Format")), Jvm.Cond.code ({ cls := "com/example/extlint/extlint/model/Element", name := "index", desc := "()I" } : Jvm.MethodName) prog_21_method_7_code (1 : Nat) (Option.some Jvm.ClassFile.FieldType.int), Jvm.Cond.code ({ cls := "com/example/extlint/extlint/model/Element", name := "line", desc := "()I" } : Jvm.MethodName) prog_21_method_8_code (1 : Nat) (Option.some Jvm.ClassFile.FieldType.int), Jvm.Cond.code ({ cls := "com/example/extlint/extlint/model/Element", name := "column", desc := "()I" } : Jvm.MethodName) prog_21_method_9_code (1 : Nat) (Option.some Jvm.ClassFile.FieldType.int), Jvm.Cond.code ({ cls := "com/example/extlint/extlint/model/Element", name := "name", desc := "()Ljava/lang/String;" } : Jvm.MethodName) prog_21_method_6_code (1 : Nat) (Option.some (Jvm.ClassFile.FieldType.object "java/lang/String")), Jvm.Cond.code ({ cls := "com/example/extlint/extlint/model/Element", name := "isPrimitive", desc := "()Z" } : Jvm.MethodName) prog_21_method_17_code (1 : Nat) (Option.some Jvm.ClassFile.FieldType.boolean), Jvm.Cond.code ({ cls := "com/example/extlint/extlint/model/Element", name := "children", desc := "()Ljava/util/List;" } : Jvm.MethodName) prog_21_method_11_code (1 : Nat) (Option.some (Jvm.ClassFile.FieldType.object "java/util/List")), Jvm.Cond.code ({ cls := "java/util/Collections", name := "unmodifiableList", desc := "(Ljava/util/List;)Ljava/util/List;" } : Jvm.MethodName) jdk_79_method_35_code (1 : Nat) (Option.some (Jvm.ClassFile.FieldType.object "java/util/List")), Jvm.Cond.code ({ cls := "java/util/Collections$UnmodifiableRandomAccessList", name := "<init>", desc := "(Ljava/util/List;)V" } : Jvm.MethodName) jdk_121_method_1_code (2 : Nat) (Option.none : Option Jvm.ClassFile.FieldType), Jvm.Cond.code ({ cls := "java/util/Collections$UnmodifiableList", name := "<init>", desc := "(Ljava/util/List;)V" } : Jvm.MethodName) jdk_120_method_1_code (2 : Nat) (Option.none : Option Jvm.ClassFile.FieldType), Jvm.Cond.code ({ cls := "java/util/Collections$UnmodifiableCollection", name := "<init>", desc := "(Ljava/util/Collection;)V" } : Jvm.MethodName) jdk_119_method_1_code (2 : Nat) (Option.none : Option Jvm.ClassFile.FieldType), Jvm.Cond.code ({ cls := "java/util/Collections$UnmodifiableCollection", name := "size", desc := "()I" } : Jvm.MethodName) jdk_119_method_2_code (1 : Nat) (Option.some Jvm.ClassFile.FieldType.int), Jvm.Cond.code ({ cls := "java/util/ArrayList", name := "size", desc := "()I" } : Jvm.MethodName) jdk_38_method_8_code (1 : Nat) (Option.some Jvm.ClassFile.FieldType.int), Jvm.Cond.code ({ cls := "java/lang/String", name := "valueOf", desc := "(C)Ljava/lang/String;" } : Jvm.MethodName) jdk_42_method_139_code (1 : Nat) (Option.some (Jvm.ClassFile.FieldType.object "java/lang/String")), Jvm.Cond.code ({ cls := "java/lang/StringLatin1", name := "canEncode", desc := "(C)Z" } : Jvm.MethodName) jdk_43_method_3_code (1 : Nat) (Option.some Jvm.ClassFile.FieldType.boolean), Jvm.Cond.code ({ cls := "java/lang/StringLatin1", name := "toBytes", desc := "(C)[B" } : Jvm.MethodName) jdk_43_method_46_code (1 : Nat) (Option.some (Jvm.ClassFile.FieldType.array Jvm.ClassFile.FieldType.byte)), Jvm.Cond.code ({ cls := "java/lang/String", name := "<init>", desc := "([BB)V" } : Jvm.MethodName) jdk_42_method_151_code (3 : Nat) (Option.none : Option Jvm.ClassFile.FieldType), Jvm.Cond.code ({ cls := "com/example/extlint/extlint/model/Element", name := "setResourceType", desc := "(Ljava/lang/String;)V" } : Jvm.MethodName) prog_21_method_25_code (2 : Nat) (Option.none : Option Jvm.ClassFile.FieldType), Jvm.Cond.code ({ cls := "java/lang/String", name := "equals", desc := "(Ljava/lang/Object;)Z" } : Jvm.MethodName) jdk_42_method_66_code (3 : Nat) (Option.some Jvm.ClassFile.FieldType.boolean)]
set_option maxRecDepth 65536 in
theorem codes_eq : words1.filter isCode = codes1 := rfl
theorem w_codes : ∀ c ∈ words1.filter isCode, c.before args0 about1 = true := by
  rw [codes_eq]
  intro c hc
  simp only [codes1, List.mem_cons, List.not_mem_nil, or_false] at hc
  rcases hc with rfl | rfl | rfl | rfl | rfl | rfl | rfl | rfl | rfl | rfl | rfl | rfl | rfl | rfl | rfl | rfl | rfl | rfl | rfl | rfl | rfl | rfl | rfl | rfl | rfl | rfl
  · exact w_c0
  · exact w_c1
  · exact w_c2
  · exact w_c3
  · exact w_c4
  · exact w_c5
  · exact w_c6
  · exact w_c7
  · exact w_c8
  · exact w_c9
  · exact w_c10
  · exact w_c11
  · exact w_c12
  · exact w_c13
  · exact w_c14
  · exact w_c15
  · exact w_c16
  · exact w_c17
  · exact w_c18
  · exact w_c19
  · exact w_c20
  · exact w_c21
  · exact w_c22
  · exact w_c23
  · exact w_c24
  · exact w_c25
set_option maxRecDepth 65536 in
theorem w_t1 : (words1.take 24).all (fun c => isCode c || c.before args0 about1) = true := by decide +kernel
set_option maxRecDepth 65536 in
theorem w_t2 : ((words1.drop 24).take 24).all (fun c => isCode c || c.before args0 about1) = true := by decide +kernel
set_option maxRecDepth 65536 in
theorem w_t3 : (((words1.drop 24).drop 24).take 24).all (fun c => isCode c || c.before args0 about1) = true := by decide +kernel
set_option maxRecDepth 65536 in
theorem w_t4 : ((((words1.drop 24).drop 24).drop 24).take 24).all (fun c => isCode c || c.before args0 about1) = true := by decide +kernel
set_option maxRecDepth 65536 in
theorem w_t5 : (((((words1.drop 24).drop 24).drop 24).drop 24).take 24).all (fun c => isCode c || c.before args0 about1) = true := by decide +kernel
set_option maxRecDepth 65536 in
theorem w_t6 : ((((((words1.drop 24).drop 24).drop 24).drop 24).drop 24).take 24).all (fun c => isCode c || c.before args0 about1) = true := by decide +kernel
set_option maxRecDepth 65536 in
theorem w_t7 : (((((((words1.drop 24).drop 24).drop 24).drop 24).drop 24).drop 24).take 24).all (fun c => isCode c || c.before args0 about1) = true := by decide +kernel
set_option maxRecDepth 65536 in
theorem w_t8 : ((((((((words1.drop 24).drop 24).drop 24).drop 24).drop 24).drop 24).drop 24).take 24).all (fun c => isCode c || c.before args0 about1) = true := by decide +kernel
set_option maxRecDepth 65536 in
theorem w_t9 : ((((((((words1.drop 24).drop 24).drop 24).drop 24).drop 24).drop 24).drop 24).drop 24).all (fun c => isCode c || c.before args0 about1) = true := by decide +kernel
theorem w_tables : (allAtoms (Jvm.Cond.code x code maxLocals ret :: tables_1)).before args0 about1 = true := by
  rw [allAtoms_all]
  show words1.all (fun c => c.before args0 about1) = true
  refine all_split ?_ w_codes
  rw [← List.take_append_drop 24 words1, List.all_append, w_t1, ← List.take_append_drop 24 (words1.drop 24), List.all_append, w_t2, ← List.take_append_drop 24 ((words1.drop 24).drop 24), List.all_append, w_t3, ← List.take_append_drop 24 (((words1.drop 24).drop 24).drop 24), List.all_append, w_t4, ← List.take_append_drop 24 ((((words1.drop 24).drop 24).drop 24).drop 24), List.all_append, w_t5, ← List.take_append_drop 24 (((((words1.drop 24).drop 24).drop 24).drop 24).drop 24), List.all_append, w_t6, ← List.take_append_drop 24 ((((((words1.drop 24).drop 24).drop 24).drop 24).drop 24).drop 24), List.all_append, w_t7, ← List.take_append_drop 24 (((((((words1.drop 24).drop 24).drop 24).drop 24).drop 24).drop 24).drop 24), List.all_append, w_t8, w_t9]
  rfl
set_option maxRecDepth 65536 in
theorem w_rest : rest_1_c.before args0 about1 = true := by decide +kernel
set_option maxRecDepth 65536 in
theorem w_case : (Jvm.Cond.and given_1 narrow_1).before args0 about1 = true := by decide +kernel
theorem w_applies : (headSpec (Jvm.Cond.code x code maxLocals ret :: tables_1) room_1).applies x e0.platform about1 = true :=
  (Spec.applies_iff w_frames).mpr ⟨w_running, w_runnable, w_alone, w_named, w_hears, w_ripe, w_room, w_tables⟩
theorem atStart : AtStart classFile x code maxLocals ret World_1 tables_1 room_1 Calls_1 rest_1 Pre_1 launch0 p0 e0 about1 theMethod args0 below0 :=
  ⟨lists_1, trivial, launch0.admits_env _ _ _, launch0.least_env, fairChoices_fair.cas, fairChoices_fair.clock, w_frames, w_args, w_heap, w_applies, ⟨⟨16, k16, 4, by decide +kernel, rfl, rfl, _, rfl, rfl⟩, ⟨⟨19, k19, 5, by decide +kernel, rfl, rfl, _, rfl, rfl⟩, ⟨⟨20, k20, 6, by decide +kernel, rfl, rfl, _, rfl, rfl⟩, trivial⟩⟩⟩, w_rest, w_case⟩
end start1
theorem witness_1 : WitnessClaimed_1 := ⟨start1.p0, start1.e0, start1.about1, start1.theMethod, start1.args0, start1.below0, start1.atStart⟩
end Jvm.Pilot.@@N@@
