import JvmDerived
import JvmDerived.Pilot.@@N@@Statement
import JvmDerived.Pilot.@@N@@Code
set_option linter.unusedVariables false
set_option linter.unusedSimpArgs false
namespace Jvm.Pilot.@@N@@
open Jvm Jvm.ClassFile Sem Op Lib Jvm.Free Jvm.Stand Jvm.LawKit Jvm.RoadKit Bundle Jvm.Pilot.@@N@@.Jvm.D
section Own
variable {p : Program} {l : Launch} {e : Env} {R : Room} {s : State} {m : MethodId} {args : Array Value} {below : List Frame} {meth : Method} {c : Code} {T : State} {locs : List Loc} {cells slots : Nat} {Z : State} {a0 : Array Value} {h h0 : Heap} {Q : Option Value → Heap → List Loc → Prop} {S S' : State}
/-- a body's contract: from the heap h0 with the arguments as' it returns, and Q says of the value, the heap and the places written -/
def own_Met (l : Launch) (Z : State) (y : MethodName) (bytes : ByteArray) (maxL : Nat) (rt : Option FieldType) (rm : Room) (as' : Array Value) (h0 : Heap) (Q : Option Value → Heap → List Loc → Prop) : Prop :=
  ∀ ws : List Jvm.Cond, MetFree l y (head1 (Jvm.Cond.code y bytes maxL rt :: ws) rm) (fun a U => a = as' ∧ Z.Warmed39 U.vm ∧ U.heap = h0) (fun _ _ _ _ _ => True) (fun _ U o U' => ∃ v L, o = .returned v ∧ Q v U'.heap L ∧ FrameEnd U o U' L rm.cells rm.slots)
/-- from S the body comes to its end, and Q holds there -/
def own_Ends (p : Program) (e : Env) (below : List Frame) (s : State) (rm : Room) (Q : Option Value → Heap → List Loc → Prop) (S : State) : Prop :=
  ∃ s₂ o, Steps p.tables e below S s₂ ∧ s₂.status = .running ∧ Ended s₂ below o ∧ ∃ v L, o = .returned v ∧ Q v s₂.heap L ∧ FrameEnd s o s₂ L rm.cells rm.slots
theorem own_of (hs : ∀ t, Steps p.tables e below S' t → Steps p.tables e below S t) (k : own_Ends p e below s R Q S') : own_Ends p e below s R Q S := by
  obtain ⟨s₂, o, h1, h2⟩ := k; exact ⟨s₂, o, hs _ h1, h2⟩
theorem own_tr (hs : Steps p.tables e below S S') (k : own_Ends p e below s R Q S') : own_Ends p e below s R Q S := by
  obtain ⟨s₂, o, h1, h2⟩ := k; exact ⟨s₂, o, hs.trans h1, h2⟩
theorem own_ends_mono {Q' : Option Value → Heap → List Loc → Prop} (hq : ∀ v h L, Q v h L → Q' v h L) (k : own_Ends p e below s R Q S) : own_Ends p e below s R Q' S := by
  obtain ⟨s₂, o, h1, h2, h3, v, L, h4, h5, h6⟩ := k; exact ⟨s₂, o, h1, h2, h3, v, L, h4, hq _ _ _ h5, h6⟩
theorem own_met_mono {y : MethodName} {bytes : ByteArray} {maxL : Nat} {rt : Option FieldType} {rm : Room} {as' : Array Value} {Q' : Option Value → Heap → List Loc → Prop} (k : own_Met l Z y bytes maxL rt rm as' h0 Q) (hq : ∀ v h L, Q v h L → Q' v h L) : own_Met l Z y bytes maxL rt rm as' h0 Q' := by
  intro ws p e ha hc hk s m args below hf happ hP hK
  obtain ⟨n, o, g1, g2, g3, v, L, g4, g5, g6⟩ := k ws p e ha hc hk s m args below hf happ hP hK
  exact ⟨n, o, g1, g2, g3, v, L, g4, hq _ _ _ g5, g6⟩
theorem own_body {y : MethodName} {bytes : ByteArray} {maxL : Nat} {rt : Option FieldType} {rm : Room} {as' : Array Value} (hpl : plainFor y = true)
    (body : ∀ (p : Program) (e : Env) (s : State) (m : MethodId) (below : List Frame) (meth : Method) (c : Code) (T : State), Stand p l e rm s m as' below meth c T [] 0 0 → T.heap = h0 → p.tables.exec = Jvm.exec → c.code = bytes → c.maxLocals = maxL → s.vm.findClass y.cls = some m.cls → meth.name = y.name → meth.sig.returnType = rt → meth.locks = false → Z.Warmed39 s.vm → own_Ends p e below s rm Q (T.setTop (entryFrame m as' maxL))) :
    own_Met l Z y bytes maxL rt rm as' h0 Q := by
  intro ws
  refine MetFree.of_bodySF hpl hisR ?_
  intro p e s m args below meth c s₁ Bd hml0 hP hK
  obtain ⟨rfl, hZ, hh⟩ := hP
  exact body p e s m below meth c s₁ (Stand.of_body Bd) (by rw [← hh, Bd.state]; rfl) Bd.exec Bd.bytes hml0 (findClass_of_methodNamed Bd.named) (name_of_methodNamed Bd.named Bd.method).1 Bd.returns Bd.notSynchronized hZ
theorem own_ret (X : Stand p l e R s m args below meth c T locs cells slots) (hlk : meth.locks = false) {v : Option Value} (hv : meth.sig.returnType = none → v = none) (eT : T.heap = h) (hc : cells ≤ R.cells) (hs : slots ≤ R.slots) (hq : Q v h locs)
    (st : ∀ fs : List Frame, (∀ (f : JFrame) (acts : List Action), f.method = m → f.locked = none → f.entered = [] → (doReturn e (T.setTop f) acts v).1 = T.setFrames fs) → Steps p.tables e below S (T.setFrames fs)) : own_Ends p e below s R Q S := by
  subst eT
  obtain ⟨fs, hr, hrun, hended, hW, hsame⟩ := X.leave hv hlk
  exact ⟨_, _, st fs hr, hrun, hended, _, _, rfl, hq, ⟨_, rfl⟩, hW, hsame.mono hc hs⟩
theorem own_retI (X : Stand p l e R s m args below meth c T locs cells slots) (hx : p.tables.exec = Jvm.exec) (hlk : meth.locks = false) (eT : T.heap = h) {pc : Nat} {Ls : Array Slot} {z : Int32} {rest : List Value} (hret : meth.sig.returnType = some .int) (hd : decode c.code pc = .ok (.ireturn, 1))
    (hc : cells ≤ R.cells) (hs : slots ≤ R.slots) (hq : Q (some (.int z)) h locs) : own_Ends p e below s R Q (T.setTop (mkF m pc Ls (.int z :: rest))) :=
  own_ret X hlk (fun q => by rw [hret] at q; cases q) eT hc hs hq fun fs hr => retOut X hx hret rfl (Or.inl ⟨rfl, Or.inl rfl, z, rfl⟩) hd hr
theorem own_retN (X : Stand p l e R s m args below meth c T locs cells slots) (hx : p.tables.exec = Jvm.exec) (hlk : meth.locks = false) (eT : T.heap = h) {pc : Nat} {Ls : Array Slot} {z z' : Int32} {rest : List Value} {t : FieldType} (hret : meth.sig.returnType = some t) (ht : t = .boolean ∨ t = .byte ∨ t = .char ∨ t = .short) (hz : nar t z = z') (hd : decode c.code pc = .ok (.ireturn, 1))
    (hc : cells ≤ R.cells) (hs : slots ≤ R.slots) (hq : Q (some (.int z')) h locs) : own_Ends p e below s R Q (T.setTop (mkF m pc Ls (.int z :: rest))) := by
  subst hz
  exact own_ret X hlk (fun q => by rw [hret] at q; cases q) eT hc hs hq fun fs hr => retN X hx hret ht hd hr
theorem own_retJ (X : Stand p l e R s m args below meth c T locs cells slots) (hx : p.tables.exec = Jvm.exec) (hlk : meth.locks = false) (eT : T.heap = h) {pc : Nat} {Ls : Array Slot} {z : Int64} {rest : List Value} (hret : meth.sig.returnType = some .long) (hd : decode c.code pc = .ok (.lreturn, 1))
    (hc : cells ≤ R.cells) (hs : slots ≤ R.slots) (hq : Q (some (.long z)) h locs) : own_Ends p e below s R Q (T.setTop (mkF m pc Ls (.long z :: rest))) :=
  own_ret X hlk (fun q => by rw [hret] at q; cases q) eT hc hs hq fun fs hr => retOut X hx hret rfl (Or.inr (Or.inl ⟨rfl, rfl, z, rfl⟩)) hd hr
theorem own_retA (X : Stand p l e R s m args below meth c T locs cells slots) (hx : p.tables.exec = Jvm.exec) (hlk : meth.locks = false) (eT : T.heap = h) {pc : Nat} {Ls : Array Slot} {w : Value} {rest : List Value} {t : FieldType} (hret : meth.sig.returnType = some t) (ht : t.isReference = true) (hw : w.isRef = true) (hd : decode c.code pc = .ok (.areturn, 1))
    (hc : cells ≤ R.cells) (hs : slots ≤ R.slots) (hq : Q (some w) h locs) : own_Ends p e below s R Q (T.setTop (mkF m pc Ls (w :: rest))) :=
  own_ret X hlk (fun q => by rw [hret] at q; cases q) eT hc hs hq fun fs hr => retOut X hx hret (by rcases ref_cases hw with rfl | ⟨z, rfl⟩ <;> cases t <;> first | rfl | (simp [FieldType.isReference] at ht)) (Or.inr (Or.inr (Or.inr (Or.inr ⟨rfl, ht, hw⟩)))) hd hr
theorem own_retV (X : Stand p l e R s m args below meth c T locs cells slots) (hx : p.tables.exec = Jvm.exec) (hlk : meth.locks = false) (eT : T.heap = h) {pc : Nat} {Ls : Array Slot} (hret : meth.sig.returnType = none) (hd : decode c.code pc = .ok (.return_, 1))
    (hc : cells ≤ R.cells) (hs : slots ≤ R.slots) (hq : Q none h locs) : own_Ends p e below s R Q (T.setTop (mkF m pc Ls [])) :=
  own_ret X hlk (fun _ => rfl) eT hc hs hq fun fs hr => X.returnOut hx hret hd hr
/-! calls by the callee's contract -/
variable {y z : MethodName} {bytes : ByteArray} {maxL : Nat} {rt : Option FieldType} {rm : Room} {Qc : Option Value → Heap → List Loc → Prop} {own C : String} {index : Nat} {g : JFrame} {argsL rest : List Value} {b : Addr}
theorem own_static (X : Stand p l e R s m args below meth c T locs cells slots) (hx : p.tables.exec = Jvm.exec) (hZ : Z.Warmed39 s.vm) (hown : s.vm.findClass own = some m.cls) (eT : T.heap = h)
    (w1 : (Jvm.Cond.methodLink own index y).before a0 Z = true) (w2 : (Jvm.Cond.static y).before a0 Z = true) (w3 : (Jvm.Cond.initialized y.cls).before a0 Z = true) (w4 : (Jvm.Cond.code y bytes maxL rt).before a0 Z = true)
    (hy : y.cls ≠ "java/lang/invoke/MethodHandle" ∧ y.cls ≠ "java/lang/invoke/VarHandle") (hM : own_Met l Z y bytes maxL rt rm argsL.toArray h Qc)
    (hg : g.method = m) (hsz : g.locals.size = c.maxLocals) (hlen : ∀ sig, parseMethodDescriptor y.desc = some sig → argsL.length = sig.parameters.length) (hst : g.stack = argsL.reverse ++ rest)
    (hf : rm.frames + 1 ≤ R.frames) (hl : (2 * g.monitorRoom + (rest.map fun v => v.category).sum) + (maxL + 11) + rm.locals ≤ R.locals) (hc : cells + rm.cells ≤ R.cells) (hs : slots + rm.slots ≤ R.slots)
    (hd : decode c.code g.pc = .ok (.invokestatic index, 3)) :
    ∃ (v : Option Value) (T' : State) (L : List Loc) (h' : Heap), Stand p l e R s m args below meth c T' (locs ++ L) (cells + rm.cells) (slots + rm.slots) ∧ T'.heap = h' ∧ Qc v h' L ∧ ∀ t, Steps p.tables e below (T'.setTop { g with pc := g.pc + 3, stack := v.toList ++ rest }) t → Steps p.tables e below (T.setTop g) t := by
  obtain ⟨v, _, ⟨T', L', k', n'⟩, -, X', ⟨Lc, hQ, e1, e2, e3⟩, st⟩ := Jvm.LawKit.callS X hx hown (mvT hZ w1) (mvT hZ w2) (mvT hZ w3) (mvT hZ w4) hy (backOf (hM []) hZ w4 w3 hf hl) hg hsz hlen hst (Nat.le_refl _) hd (fun _ _ => ⟨rfl, eT, hc, hs⟩)
  dsimp only [Pt.U, Pt.locs, Pt.cells, Pt.slots] at X' e1 e2 e3 st hQ
  subst e1 e2 e3
  exact ⟨v, T', Lc, _, X', rfl, hQ, st⟩
theorem own_special (X : Stand p l e R s m args below meth c T locs cells slots) (hx : p.tables.exec = Jvm.exec) (hZ : Z.Warmed39 s.vm) (hown : s.vm.findClass own = some m.cls) (eT : T.heap = h) (hy1 : y.name = "<init>")
    (w1 : (Jvm.Cond.methodLink own index y).before a0 Z = true) (w2 : (Jvm.Cond.instanceMethod y).before a0 Z = true) (w3 : (Jvm.Cond.initialized y.cls).before a0 Z = true) (w4 : (Jvm.Cond.code y bytes maxL none).before a0 Z = true)
    (hy : y.cls ≠ "java/lang/invoke/MethodHandle" ∧ y.cls ≠ "java/lang/invoke/VarHandle") (hM : own_Met l Z y bytes maxL none rm (.ref b :: argsL).toArray h Qc)
    (hg : g.method = m) (hsz : g.locals.size = c.maxLocals) (hlen : ∀ sig, parseMethodDescriptor y.desc = some sig → argsL.length = sig.parameters.length) (hst : g.stack = argsL.reverse ++ .ref b :: rest)
    (hf : rm.frames + 1 ≤ R.frames) (hl : (2 * g.monitorRoom + (rest.map fun v => v.category).sum) + (maxL + 11) + rm.locals ≤ R.locals) (hc : cells + rm.cells ≤ R.cells) (hs : slots + rm.slots ≤ R.slots)
    (hd : decode c.code g.pc = .ok (.invokespecial index, 3)) :
    ∃ (v : Option Value) (T' : State) (L : List Loc) (h' : Heap), Stand p l e R s m args below meth c T' (locs ++ L) (cells + rm.cells) (slots + rm.slots) ∧ T'.heap = h' ∧ Qc v h' L ∧ ∀ t, Steps p.tables e below (T'.setTop { g with pc := g.pc + 3, stack := v.toList ++ rest }) t → Steps p.tables e below (T.setTop g) t := by
  obtain ⟨v, _, ⟨T', L', k', n'⟩, -, X', ⟨Lc, hQ, e1, e2, e3⟩, st⟩ := X.specialBack hx hy1 hown (mvT hZ w1) (mvT hZ w2) (mvT hZ w4) hy (backOf (hM []) hZ w4 w3 hf hl) hg hsz (Steps.refl _) hlen hst (Nat.le_refl _) hd (fun _ _ => ⟨rfl, eT, hc, hs⟩)
  dsimp only [Pt.U, Pt.locs, Pt.cells, Pt.slots] at X' e1 e2 e3 st hQ
  subst e1 e2 e3
  exact ⟨v, T', Lc, _, X', rfl, hQ, fun t k => st.trans k⟩
theorem own_virtual (X : Stand p l e R s m args below meth c T locs cells slots) (hx : p.tables.exec = Jvm.exec) (hZ : Z.Warmed39 s.vm) (hown : s.vm.findClass own = some m.cls) (eT : T.heap = h) (E : Exa Z h b C)
    (w1 : (Jvm.Cond.methodLink own index y).before a0 Z = true) (w2 : (Jvm.Cond.declares y).before a0 Z = true) (hnf : NotFace s y) (w5 : (Jvm.Cond.selects C y z).before a0 Z = true) (w6 : (Jvm.Cond.instanceMethod z).before a0 Z = true) (w3 : (Jvm.Cond.initialized z.cls).before a0 Z = true) (w4 : (Jvm.Cond.code z bytes maxL rt).before a0 Z = true)
    (hy : y.cls ≠ "java/lang/invoke/MethodHandle" ∧ y.cls ≠ "java/lang/invoke/VarHandle") (hM : own_Met l Z z bytes maxL rt rm (.ref b :: argsL).toArray h Qc)
    (hg : g.method = m) (hsz : g.locals.size = c.maxLocals) (hlen : ∀ sig, parseMethodDescriptor y.desc = some sig → argsL.length = sig.parameters.length) (hst : g.stack = argsL.reverse ++ .ref b :: rest)
    (hf : rm.frames + 1 ≤ R.frames) (hl : (2 * g.monitorRoom + (rest.map fun v => v.category).sum) + (maxL + 11) + rm.locals ≤ R.locals) (hc : cells + rm.cells ≤ R.cells) (hs : slots + rm.slots ≤ R.slots)
    (hd : decode c.code g.pc = .ok (.invokevirtual index, 3)) :
    ∃ (v : Option Value) (T' : State) (L : List Loc) (h' : Heap), Stand p l e R s m args below meth c T' (locs ++ L) (cells + rm.cells) (slots + rm.slots) ∧ T'.heap = h' ∧ Qc v h' L ∧ ∀ t, Steps p.tables e below (T'.setTop { g with pc := g.pc + 3, stack := v.toList ++ rest }) t → Steps p.tables e below (T.setTop g) t := by
  obtain ⟨cq, kq, qa, qb, qc⟩ := isOf hZ eT E
  obtain ⟨v, _, ⟨T', L', k', n'⟩, -, X', ⟨Lc, hQ, e1, e2, e3⟩, st⟩ := X.virtualBack hx hown (mvT hZ w1) (mvT hZ w2) hnf (mvT hZ w5) (mvT hZ w6) hy (backOf (hM []) hZ w4 w3 hf hl) qa qc hg hsz (Steps.refl _) hlen hst (Nat.le_refl _) hd (fun _ _ => ⟨rfl, eT, hc, hs⟩)
  dsimp only [Pt.U, Pt.locs, Pt.cells, Pt.slots] at X' e1 e2 e3 st hQ
  subst e1 e2 e3
  exact ⟨v, T', Lc, _, X', rfl, hQ, fun t k => st.trans k⟩
theorem own_virtualUp {owner : String} (X : Stand p l e R s m args below meth c T locs cells slots) (hx : p.tables.exec = Jvm.exec) (hZ : Z.Warmed39 s.vm) (hown : s.vm.findClass own = some m.cls) (eT : T.heap = h) (E : Exa Z h b C)
    (w1 : (Jvm.Cond.methodLink own index y).before a0 Z = true) (w7 : (Jvm.Cond.sameMethod y.cls owner y.name y.desc).before a0 Z = true) (w2 : (Jvm.Cond.declares ⟨owner, y.name, y.desc⟩).before a0 Z = true) (w5 : (Jvm.Cond.selects C y z).before a0 Z = true) (w6 : (Jvm.Cond.instanceMethod z).before a0 Z = true) (w3 : (Jvm.Cond.initialized z.cls).before a0 Z = true) (w4 : (Jvm.Cond.code z bytes maxL rt).before a0 Z = true)
    (hy : owner ≠ "java/lang/invoke/MethodHandle" ∧ owner ≠ "java/lang/invoke/VarHandle") (hM : own_Met l Z z bytes maxL rt rm (.ref b :: argsL).toArray h Qc)
    (hg : g.method = m) (hsz : g.locals.size = c.maxLocals) (hlen : ∀ sig, parseMethodDescriptor y.desc = some sig → argsL.length = sig.parameters.length) (hst : g.stack = argsL.reverse ++ .ref b :: rest)
    (hf : rm.frames + 1 ≤ R.frames) (hl : (2 * g.monitorRoom + (rest.map fun v => v.category).sum) + (maxL + 11) + rm.locals ≤ R.locals) (hc : cells + rm.cells ≤ R.cells) (hs : slots + rm.slots ≤ R.slots)
    (hd : decode c.code g.pc = .ok (.invokevirtual index, 3)) :
    ∃ (v : Option Value) (T' : State) (L : List Loc) (h' : Heap), Stand p l e R s m args below meth c T' (locs ++ L) (cells + rm.cells) (slots + rm.slots) ∧ T'.heap = h' ∧ Qc v h' L ∧ ∀ t, Steps p.tables e below (T'.setTop { g with pc := g.pc + 3, stack := v.toList ++ rest }) t → Steps p.tables e below (T.setTop g) t := by
  obtain ⟨cq, kq, qa, qb, qc⟩ := isOf hZ eT E
  obtain ⟨v, _, ⟨T', L', k', n'⟩, -, X', ⟨Lc, hQ, e1, e2, e3⟩, st⟩ := X.virtualBackUp hx hown (mvT hZ w1) (mvT hZ w7) (mvT hZ w2) hy (mvT hZ w5) (mvT hZ w6) (backOf (hM []) hZ w4 w3 hf hl) qa qc hg hsz (Steps.refl _) hlen hst (Nat.le_refl _) hd (fun _ _ => ⟨rfl, eT, hc, hs⟩)
  dsimp only [Pt.U, Pt.locs, Pt.cells, Pt.slots] at X' e1 e2 e3 st hQ
  subst e1 e2 e3
  exact ⟨v, T', Lc, _, X', rfl, hQ, fun t k => st.trans k⟩
end Own
section Own4
variable {p : Program} {l : Launch} {e : Env} {R : Room} {s : State} {m : MethodId} {args : Array Value} {below : List Frame} {meth : Method} {c : Code} {T : State} {locs : List Loc} {cells slots : Nat} {Z : State} {a0 : Array Value} {h : Heap} {a : Addr} {own ad : String} {index : Nat}
theorem own_clone (X : Stand p l e R s m args below meth c T locs cells slots) (hx : p.tables.exec = Jvm.exec) (hZ : Z.Warmed39 s.vm) (hown : s.vm.findClass own = some m.cls)
    (w1 : (Jvm.Cond.methodLink own index ⟨ad, "clone", "()Ljava/lang/Object;"⟩).before a0 Z = true) (w2 : (Jvm.Cond.sameMethod ad "java/lang/Object" "clone" "()Ljava/lang/Object;").before a0 Z = true) (w3 : (Jvm.Cond.native ⟨"java/lang/Object", "clone", "()Ljava/lang/Object;"⟩).before a0 Z = true)
    (w4 : (Jvm.Cond.instanceMethod ⟨"java/lang/Object", "clone", "()Ljava/lang/Object;"⟩).before a0 Z = true) (w5 : (Jvm.Cond.selects ad ⟨ad, "clone", "()Ljava/lang/Object;"⟩ ⟨"java/lang/Object", "clone", "()Ljava/lang/Object;"⟩).before a0 Z = true) (w6 : (Jvm.Cond.castable ad "java/lang/Cloneable").before a0 Z = true)
    (eT : T.heap = h) {k : ClassId} {ty : FieldType} {z : Int32} {vs : List Value} {dv : Value} (F : Arv Z h a k ty z vs dv) (E : Exa Z h a ad) {g : JFrame} (hg : g.method = m) (hsize : g.locals.size = c.maxLocals) {rest : List Value} (hst : g.stack = .ref a :: rest) (hd : decode c.code g.pc = .ok (.invokevirtual index, 3))
    (hf : 1 ≤ R.frames) {cap : Nat} (hl : 2 * g.monitorRoom + (rest.map fun v => v.category).sum + 14 ≤ R.locals) (hcap : z.toNatClampNeg ≤ cap) (hc : cells + 1 ≤ R.cells) (hsl : slots + cap ≤ R.slots) :
    ∃ T' h', Stand p l e R s m args below meth c T' locs (cells + 1) (slots + cap) ∧ T'.heap = h' ∧ Ext h h' ∧ Arv Z h' h.size k ty z vs dv ∧ Exa Z h' h.size ad ∧
      ∀ t, Steps p.tables e below (T'.setTop { g with pc := g.pc + 3, stack := .ref h.size :: rest }) t → Steps p.tables e below (T.setTop g) t := by
  obtain ⟨cl, A, q1, S, q3, H, G⟩ := F
  have FC : FitC Z cl := fitC_of A fun i hi v hv => by rw [H i hi] at hv; cases hv; exact G i hi
  obtain ⟨T', h', X', e', ex, A', E', st⟩ := cloneA X hx hZ hown w1 w2 w3 w4 w5 w6 eT A E FC hg hsize hst hd hf (Nat.le_refl _) hl (by rw [S]; exact hcap) hc hsl
  exact ⟨T', h', X', e', ex, ⟨cloneOf cl, A', q1, S, q3, H, G⟩, E', st⟩
end Own4
theorem own_eq_int {args : Array Value} {s : State} {t : Jvm.Term} {k : Int32} (h : (Jvm.Cond.eq t (.int k)).value args s none s [] = some true) : t.eval args s none [] s = some (.int k) := by
  simp only [Cond.value, Term.eval] at h
  cases ht : t.eval args s none [] s with
  | none => simp [ht] at h
  | some v => cases v <;> simp [ht] at h; rw [h]
theorem pn_com_example_drayage_drayage_DropActionOfMaskPinLaw : plainName "com/example/drayage/drayage/DropActionOfMaskPinLaw" = true := by first | (simp [plainName, overriddenIn]; done) | decide +kernel
theorem ef_method_2_codeII (m : MethodId) (z0 : Int32) (z1 : Int32) : entryFrame m #[(.int z0), (.int z1)] 2 = mkF m 0 #[.val (.int z0), .val (.int z1)] [] := by first | (simp [entryFrame, mkF, argsToLocals, Value.category]; done) | rfl
theorem d_method_2_code_0 : decode method_2_code 0 = .ok (.iload_n 0, 1) := by decide +kernel
theorem d_method_2_code_1 : decode method_2_code 1 = .ok (.ifCond .ne 5, 3) := by decide +kernel
theorem d_method_2_code_4 : decode method_2_code 4 = .ok (.iload_n 1, 1) := by decide +kernel
theorem d_method_2_code_5 : decode method_2_code 5 = .ok (.ireturn, 1) := by decide +kernel
theorem d_method_2_code_6 : decode method_2_code 6 = .ok (.iload_n 0, 1) := by decide +kernel
theorem d_method_2_code_7 : decode method_2_code 7 = .ok (.iconst 1, 1) := by decide +kernel
theorem d_method_2_code_8 : decode method_2_code 8 = .ok (.if_icmp .ne 5, 3) := by decide +kernel
theorem d_method_2_code_11 : decode method_2_code 11 = .ok (.iconst 1, 1) := by decide +kernel
theorem d_method_2_code_12 : decode method_2_code 12 = .ok (.ireturn, 1) := by decide +kernel
theorem d_method_2_code_13 : decode method_2_code 13 = .ok (.iload_n 0, 1) := by decide +kernel
theorem d_method_2_code_14 : decode method_2_code 14 = .ok (.iconst 2, 1) := by decide +kernel
theorem d_method_2_code_15 : decode method_2_code 15 = .ok (.if_icmp .ne 5, 3) := by decide +kernel
theorem d_method_2_code_18 : decode method_2_code 18 = .ok (.iconst 2, 1) := by decide +kernel
theorem d_method_2_code_19 : decode method_2_code 19 = .ok (.ireturn, 1) := by decide +kernel
theorem d_method_2_code_20 : decode method_2_code 20 = .ok (.iload_n 0, 1) := by decide +kernel
theorem d_method_2_code_21 : decode method_2_code 21 = .ok (.iconst 3, 1) := by decide +kernel
theorem d_method_2_code_22 : decode method_2_code 22 = .ok (.if_icmp .ne 6, 3) := by decide +kernel
theorem d_method_2_code_25 : decode method_2_code 25 = .ok (.ldc 7, 2) := by decide +kernel
theorem d_method_2_code_27 : decode method_2_code 27 = .ok (.ireturn, 1) := by decide +kernel
theorem d_method_2_code_28 : decode method_2_code 28 = .ok (.iload_n 0, 1) := by decide +kernel
theorem d_method_2_code_29 : decode method_2_code 29 = .ok (.iconst 4, 1) := by decide +kernel
theorem d_method_2_code_30 : decode method_2_code 30 = .ok (.if_icmp .ne 8, 3) := by decide +kernel
theorem d_method_2_code_33 : decode method_2_code 33 = .ok (.iload_n 1, 1) := by decide +kernel
theorem d_method_2_code_34 : decode method_2_code 34 = .ok (.ldc 8, 2) := by decide +kernel
theorem d_method_2_code_36 : decode method_2_code 36 = .ok (.iand, 1) := by decide +kernel
theorem d_method_2_code_37 : decode method_2_code 37 = .ok (.ireturn, 1) := by decide +kernel
theorem d_method_2_code_38 : decode method_2_code 38 = .ok (.iload_n 0, 1) := by decide +kernel
theorem d_method_2_code_39 : decode method_2_code 39 = .ok (.iconst 5, 1) := by decide +kernel
theorem d_method_2_code_40 : decode method_2_code 40 = .ok (.if_icmp .ne 5, 3) := by decide +kernel
theorem d_method_2_code_43 : decode method_2_code 43 = .ok (.iconst 0, 1) := by decide +kernel
theorem d_method_2_code_44 : decode method_2_code 44 = .ok (.ireturn, 1) := by decide +kernel
theorem d_method_2_code_45 : decode method_2_code 45 = .ok (.iload_n 0, 1) := by decide +kernel
theorem d_method_2_code_46 : decode method_2_code 46 = .ok (.bipush 6, 2) := by decide +kernel
theorem d_method_2_code_48 : decode method_2_code 48 = .ok (.if_icmp .ne 5, 3) := by decide +kernel
theorem d_method_2_code_51 : decode method_2_code 51 = .ok (.iconst (-1), 1) := by decide +kernel
theorem d_method_2_code_52 : decode method_2_code 52 = .ok (.ireturn, 1) := by decide +kernel
theorem d_method_2_code_53 : decode method_2_code 53 = .ok (.ldc 8, 2) := by decide +kernel
theorem d_method_2_code_55 : decode method_2_code 55 = .ok (.ireturn, 1) := by decide +kernel
set_option maxRecDepth 65536 in
set_option maxHeartbeats 40000000 in
theorem rm_pick (l : Launch) (Z : State) (a0 : Array Value) (hw : ∀ d ∈ tables_1, d.before a0 Z = true) (p1 p2 : Int32) (h0 : Heap) (n0 : Nat) (Z0 : n0 ≤ h0.size) :
    own_Met l Z (⟨"com/example/drayage/drayage/DropActionOfMaskPinLaw", "pick", "(II)I"⟩ : MethodName) method_2_code 2 (some .int) ({ frames := 0, cells := 0, slots := 0, locals := 0 } : Room) #[(.int p1), (.int p2)] h0 (fun v h L => ∃ kx : Int32, v = some (.int kx) ∧ Fr n0 L ∧ h = h0) := by
  refine own_body (plainFor_of_name pn_com_example_drayage_drayage_DropActionOfMaskPinLaw) ?_
  intro p e s m below meth c T0 X0 e0 hx hby hml hown hnm hret hlk hZ
  replace hown : s.vm.findClass "com/example/drayage/drayage/DropActionOfMaskPinLaw" = some m.cls := hown
  have N0 := Fr.nil n0
  refine own_of (fun tt_ kk_ => castTop (ef_method_2_codeII m p1 p2) kk_) ?_
  show own_Ends _ _ _ _ _ _ (T0.setTop (mkF m 0 #[.val (.int p1), .val (.int p2)] []))
  refine own_of (fun tt_ kk_ => XS.iloadN X0.here hx rfl (hb hby d_method_2_code_0) rfl  kk_) ?_
  show own_Ends _ _ _ _ _ _ (T0.setTop (mkF m 1 #[.val (.int p1), .val (.int p2)] [(.int p1)]))
  by_cases hc1 : p1 = (0 : Int32)
  · refine own_of (fun tt_ kk_ => XS.ifNo X0.here hx rfl (hb hby d_method_2_code_1) rfl ((if0 _ _).trans (teq hc1).2) kk_) ?_
    show own_Ends _ _ _ _ _ _ (T0.setTop (mkF m 4 #[.val (.int p1), .val (.int p2)] []))
    refine own_of (fun tt_ kk_ => XS.iloadN X0.here hx rfl (hb hby d_method_2_code_4) rfl  kk_) ?_
    show own_Ends _ _ _ _ _ _ (T0.setTop (mkF m 5 #[.val (.int p1), .val (.int p2)] [(.int p2)]))
    refine own_retI X0 hx hlk e0 hret (hb hby d_method_2_code_5) (by decide) (by decide) ?_
    exact ⟨_, rfl, N0, rfl⟩
  · refine own_of (fun tt_ kk_ => XS.ifYes X0.here hx rfl (pc0 := 1) (pc' := 6) rfl (hb hby d_method_2_code_1) rfl ((if0 _ _).trans (feq hc1).2) (by decide) (by decide) kk_) ?_
    show own_Ends _ _ _ _ _ _ (T0.setTop (mkF m 6 #[.val (.int p1), .val (.int p2)] []))
    refine own_of (fun tt_ kk_ => XS.iloadN X0.here hx rfl (hb hby d_method_2_code_6) rfl  kk_) ?_
    show own_Ends _ _ _ _ _ _ (T0.setTop (mkF m 7 #[.val (.int p1), .val (.int p2)] [(.int p1)]))
    refine own_of (fun tt_ kk_ => XS.iconst X0.here hx rfl (hb hby d_method_2_code_7) kk_) ?_
    show own_Ends _ _ _ _ _ _ (T0.setTop (mkF m 8 #[.val (.int p1), .val (.int p2)] [(.int (1 : Int32)), (.int p1)]))
    by_cases hc2 : p1 = (1 : Int32)
    · refine own_of (fun tt_ kk_ => XS.icmpNo X0.here hx rfl (hb hby d_method_2_code_8) rfl (teq hc2).2 kk_) ?_
      show own_Ends _ _ _ _ _ _ (T0.setTop (mkF m 11 #[.val (.int p1), .val (.int p2)] []))
      refine own_of (fun tt_ kk_ => XS.iconst X0.here hx rfl (hb hby d_method_2_code_11) kk_) ?_
      show own_Ends _ _ _ _ _ _ (T0.setTop (mkF m 12 #[.val (.int p1), .val (.int p2)] [(.int (1 : Int32))]))
      refine own_retI X0 hx hlk e0 hret (hb hby d_method_2_code_12) (by decide) (by decide) ?_
      exact ⟨_, rfl, N0, rfl⟩
    · refine own_of (fun tt_ kk_ => XS.icmpYes X0.here hx rfl (pc0 := 8) (pc' := 13) rfl (hb hby d_method_2_code_8) rfl (feq hc2).2 (by decide) (by decide) kk_) ?_
      show own_Ends _ _ _ _ _ _ (T0.setTop (mkF m 13 #[.val (.int p1), .val (.int p2)] []))
      refine own_of (fun tt_ kk_ => XS.iloadN X0.here hx rfl (hb hby d_method_2_code_13) rfl  kk_) ?_
      show own_Ends _ _ _ _ _ _ (T0.setTop (mkF m 14 #[.val (.int p1), .val (.int p2)] [(.int p1)]))
      refine own_of (fun tt_ kk_ => XS.iconst X0.here hx rfl (hb hby d_method_2_code_14) kk_) ?_
      show own_Ends _ _ _ _ _ _ (T0.setTop (mkF m 15 #[.val (.int p1), .val (.int p2)] [(.int (2 : Int32)), (.int p1)]))
      by_cases hc3 : p1 = (2 : Int32)
      · refine own_of (fun tt_ kk_ => XS.icmpNo X0.here hx rfl (hb hby d_method_2_code_15) rfl (teq hc3).2 kk_) ?_
        show own_Ends _ _ _ _ _ _ (T0.setTop (mkF m 18 #[.val (.int p1), .val (.int p2)] []))
        refine own_of (fun tt_ kk_ => XS.iconst X0.here hx rfl (hb hby d_method_2_code_18) kk_) ?_
        show own_Ends _ _ _ _ _ _ (T0.setTop (mkF m 19 #[.val (.int p1), .val (.int p2)] [(.int (2 : Int32))]))
        refine own_retI X0 hx hlk e0 hret (hb hby d_method_2_code_19) (by decide) (by decide) ?_
        exact ⟨_, rfl, N0, rfl⟩
      · refine own_of (fun tt_ kk_ => XS.icmpYes X0.here hx rfl (pc0 := 15) (pc' := 20) rfl (hb hby d_method_2_code_15) rfl (feq hc3).2 (by decide) (by decide) kk_) ?_
        show own_Ends _ _ _ _ _ _ (T0.setTop (mkF m 20 #[.val (.int p1), .val (.int p2)] []))
        refine own_of (fun tt_ kk_ => XS.iloadN X0.here hx rfl (hb hby d_method_2_code_20) rfl  kk_) ?_
        show own_Ends _ _ _ _ _ _ (T0.setTop (mkF m 21 #[.val (.int p1), .val (.int p2)] [(.int p1)]))
        refine own_of (fun tt_ kk_ => XS.iconst X0.here hx rfl (hb hby d_method_2_code_21) kk_) ?_
        show own_Ends _ _ _ _ _ _ (T0.setTop (mkF m 22 #[.val (.int p1), .val (.int p2)] [(.int (3 : Int32)), (.int p1)]))
        by_cases hc4 : p1 = (3 : Int32)
        · refine own_of (fun tt_ kk_ => XS.icmpNo X0.here hx rfl (hb hby d_method_2_code_22) rfl (teq hc4).2 kk_) ?_
          show own_Ends _ _ _ _ _ _ (T0.setTop (mkF m 25 #[.val (.int p1), .val (.int p2)] []))
          refine own_of (fun tt_ kk_ => X0.ldcI hx hown (mvT hZ (hw _ (List.mem_of_getElem? (i := 4) rfl))) (g := (mkF m 25 #[.val (.int p1), .val (.int p2)] [])) rfl (hb hby d_method_2_code_25) kk_) ?_
          show own_Ends _ _ _ _ _ _ (T0.setTop (mkF m 27 #[.val (.int p1), .val (.int p2)] [(.int (1073741824 : Int32))]))
          refine own_retI X0 hx hlk e0 hret (hb hby d_method_2_code_27) (by decide) (by decide) ?_
          exact ⟨_, rfl, N0, rfl⟩
        · refine own_of (fun tt_ kk_ => XS.icmpYes X0.here hx rfl (pc0 := 22) (pc' := 28) rfl (hb hby d_method_2_code_22) rfl (feq hc4).2 (by decide) (by decide) kk_) ?_
          show own_Ends _ _ _ _ _ _ (T0.setTop (mkF m 28 #[.val (.int p1), .val (.int p2)] []))
          refine own_of (fun tt_ kk_ => XS.iloadN X0.here hx rfl (hb hby d_method_2_code_28) rfl  kk_) ?_
          show own_Ends _ _ _ _ _ _ (T0.setTop (mkF m 29 #[.val (.int p1), .val (.int p2)] [(.int p1)]))
          refine own_of (fun tt_ kk_ => XS.iconst X0.here hx rfl (hb hby d_method_2_code_29) kk_) ?_
          show own_Ends _ _ _ _ _ _ (T0.setTop (mkF m 30 #[.val (.int p1), .val (.int p2)] [(.int (4 : Int32)), (.int p1)]))
          by_cases hc5 : p1 = (4 : Int32)
          · refine own_of (fun tt_ kk_ => XS.icmpNo X0.here hx rfl (hb hby d_method_2_code_30) rfl (teq hc5).2 kk_) ?_
            show own_Ends _ _ _ _ _ _ (T0.setTop (mkF m 33 #[.val (.int p1), .val (.int p2)] []))
            refine own_of (fun tt_ kk_ => XS.iloadN X0.here hx rfl (hb hby d_method_2_code_33) rfl  kk_) ?_
            show own_Ends _ _ _ _ _ _ (T0.setTop (mkF m 34 #[.val (.int p1), .val (.int p2)] [(.int p2)]))
            refine own_of (fun tt_ kk_ => X0.ldcI hx hown (mvT hZ (hw _ (List.mem_of_getElem? (i := 41) rfl))) (g := (mkF m 34 #[.val (.int p1), .val (.int p2)] [(.int p2)])) rfl (hb hby d_method_2_code_34) kk_) ?_
            show own_Ends _ _ _ _ _ _ (T0.setTop (mkF m 36 #[.val (.int p1), .val (.int p2)] [(.int (1073741827 : Int32)), (.int p2)]))
            refine own_of (fun tt_ kk_ => XS.iand X0.here hx rfl (hb hby d_method_2_code_36) rfl kk_) ?_
            show own_Ends _ _ _ _ _ _ (T0.setTop (mkF m 37 #[.val (.int p1), .val (.int p2)] [(.int (p2 &&& (1073741827 : Int32)))]))
            refine own_retI X0 hx hlk e0 hret (hb hby d_method_2_code_37) (by decide) (by decide) ?_
            exact ⟨_, rfl, N0, rfl⟩
          · refine own_of (fun tt_ kk_ => XS.icmpYes X0.here hx rfl (pc0 := 30) (pc' := 38) rfl (hb hby d_method_2_code_30) rfl (feq hc5).2 (by decide) (by decide) kk_) ?_
            show own_Ends _ _ _ _ _ _ (T0.setTop (mkF m 38 #[.val (.int p1), .val (.int p2)] []))
            refine own_of (fun tt_ kk_ => XS.iloadN X0.here hx rfl (hb hby d_method_2_code_38) rfl  kk_) ?_
            show own_Ends _ _ _ _ _ _ (T0.setTop (mkF m 39 #[.val (.int p1), .val (.int p2)] [(.int p1)]))
            refine own_of (fun tt_ kk_ => XS.iconst X0.here hx rfl (hb hby d_method_2_code_39) kk_) ?_
            show own_Ends _ _ _ _ _ _ (T0.setTop (mkF m 40 #[.val (.int p1), .val (.int p2)] [(.int (5 : Int32)), (.int p1)]))
            by_cases hc6 : p1 = (5 : Int32)
            · refine own_of (fun tt_ kk_ => XS.icmpNo X0.here hx rfl (hb hby d_method_2_code_40) rfl (teq hc6).2 kk_) ?_
              show own_Ends _ _ _ _ _ _ (T0.setTop (mkF m 43 #[.val (.int p1), .val (.int p2)] []))
              refine own_of (fun tt_ kk_ => XS.iconst X0.here hx rfl (hb hby d_method_2_code_43) kk_) ?_
              show own_Ends _ _ _ _ _ _ (T0.setTop (mkF m 44 #[.val (.int p1), .val (.int p2)] [(.int (0 : Int32))]))
              refine own_retI X0 hx hlk e0 hret (hb hby d_method_2_code_44) (by decide) (by decide) ?_
              exact ⟨_, rfl, N0, rfl⟩
            · refine own_of (fun tt_ kk_ => XS.icmpYes X0.here hx rfl (pc0 := 40) (pc' := 45) rfl (hb hby d_method_2_code_40) rfl (feq hc6).2 (by decide) (by decide) kk_) ?_
              show own_Ends _ _ _ _ _ _ (T0.setTop (mkF m 45 #[.val (.int p1), .val (.int p2)] []))
              refine own_of (fun tt_ kk_ => XS.iloadN X0.here hx rfl (hb hby d_method_2_code_45) rfl  kk_) ?_
              show own_Ends _ _ _ _ _ _ (T0.setTop (mkF m 46 #[.val (.int p1), .val (.int p2)] [(.int p1)]))
              refine own_of (fun tt_ kk_ => XS.bipush X0.here hx rfl (hb hby d_method_2_code_46) kk_) ?_
              show own_Ends _ _ _ _ _ _ (T0.setTop (mkF m 48 #[.val (.int p1), .val (.int p2)] [(.int (6 : Int32)), (.int p1)]))
              by_cases hc7 : p1 = (6 : Int32)
              · refine own_of (fun tt_ kk_ => XS.icmpNo X0.here hx rfl (hb hby d_method_2_code_48) rfl (teq hc7).2 kk_) ?_
                show own_Ends _ _ _ _ _ _ (T0.setTop (mkF m 51 #[.val (.int p1), .val (.int p2)] []))
                refine own_of (fun tt_ kk_ => XS.iconst X0.here hx rfl (hb hby d_method_2_code_51) kk_) ?_
                show own_Ends _ _ _ _ _ _ (T0.setTop (mkF m 52 #[.val (.int p1), .val (.int p2)] [(.int (-1 : Int32))]))
                refine own_retI X0 hx hlk e0 hret (hb hby d_method_2_code_52) (by decide) (by decide) ?_
                exact ⟨_, rfl, N0, rfl⟩
              · refine own_of (fun tt_ kk_ => XS.icmpYes X0.here hx rfl (pc0 := 48) (pc' := 53) rfl (hb hby d_method_2_code_48) rfl (feq hc7).2 (by decide) (by decide) kk_) ?_
                show own_Ends _ _ _ _ _ _ (T0.setTop (mkF m 53 #[.val (.int p1), .val (.int p2)] []))
                refine own_of (fun tt_ kk_ => X0.ldcI hx hown (mvT hZ (hw _ (List.mem_of_getElem? (i := 41) rfl))) (g := (mkF m 53 #[.val (.int p1), .val (.int p2)] [])) rfl (hb hby d_method_2_code_53) kk_) ?_
                show own_Ends _ _ _ _ _ _ (T0.setTop (mkF m 55 #[.val (.int p1), .val (.int p2)] [(.int (1073741827 : Int32))]))
                refine own_retI X0 hx hlk e0 hret (hb hby d_method_2_code_55) (by decide) (by decide) ?_
                exact ⟨_, rfl, N0, rfl⟩
theorem pn_com_example_drayage_drayage_DropAction : plainName "com/example/drayage/drayage/DropAction" = true := by first | (simp [plainName, overriddenIn]; done) | decide +kernel
theorem ef_prog_19_method_1_code (m : MethodId)  : entryFrame m #[] 0 = mkF m 0 #[] [] := by first | (simp [entryFrame, mkF, argsToLocals, Value.category]; done) | rfl
theorem d_prog_19_method_1_code_0 : decode prog_19_method_1_code 0 = .ok (.getstatic 15, 3) := by decide +kernel
theorem d_prog_19_method_1_code_3 : decode prog_19_method_1_code 3 = .ok (.invokevirtual 19, 3) := by decide +kernel
theorem d_prog_19_method_1_code_6 : decode prog_19_method_1_code 6 = .ok (.checkcast 20, 3) := by decide +kernel
theorem d_prog_19_method_1_code_9 : decode prog_19_method_1_code 9 = .ok (.areturn, 1) := by decide +kernel
set_option maxRecDepth 65536 in
set_option maxHeartbeats 40000000 in
theorem rm_values (l : Launch) (Z : State) (a0 : Array Value) (hw : ∀ d ∈ tables_1, d.before a0 Z = true) (wV wC wM wL : Addr) (kV : ClassId) (h0 : Heap) (n0 : Nat) (Z0 : n0 ≤ h0.size) (SV : Sta Z Z.heap "com/example/drayage/drayage/DropAction" "$VALUES" "[Lcom/example/drayage/drayage/DropAction;" (.ref wV)) (VV : Arv Z Z.heap wV kV (.object "com/example/drayage/drayage/DropAction") (3 : Int32) [(.ref wC), (.ref wM), (.ref wL)] .null) (EV : Exa Z Z.heap wV "[Lcom/example/drayage/drayage/DropAction;") (OL : Old Z n0 h0) :
    own_Met l Z (⟨"com/example/drayage/drayage/DropAction", "values", "()[Lcom/example/drayage/drayage/DropAction;"⟩ : MethodName) prog_19_method_1_code 0 (some (.array (.object "com/example/drayage/drayage/DropAction"))) ({ frames := 1, cells := 1, slots := 3, locals := 14 } : Room) #[] h0 (fun v h L => ∃ t : Addr, v = some (.ref t) ∧ Fr n0 L ∧ Keep h0 h [] ∧ h0.size ≤ t ∧ Arv Z h t kV (.object "com/example/drayage/drayage/DropAction") (3 : Int32) [(.ref wC), (.ref wM), (.ref wL)] .null) := by
  refine own_body (plainFor_of_name pn_com_example_drayage_drayage_DropAction) ?_
  intro p e s m below meth c T0 X0 e0 hx hby hml hown hnm hret hlk hZ
  replace hown : s.vm.findClass "com/example/drayage/drayage/DropAction" = some m.cls := hown
  have N0 := Fr.nil n0
  refine own_of (fun tt_ kk_ => castTop (ef_prog_19_method_1_code m ) kk_) ?_
  have K := Keep.refl h0 []
  show own_Ends _ _ _ _ _ _ (T0.setTop (mkF m 0 #[] []))
  obtain ⟨T8, X8, e8, st8⟩ := getS2 X0 hx hZ hown (host := "") (Or.inl (hw _ (List.mem_of_getElem? (i := 12) rfl))) Via.refl e0 (SV.ext OL.2) (g := (mkF m 0 #[] [])) rfl (hb hby d_prog_19_method_1_code_0)
  refine own_of st8 ?_
  show own_Ends _ _ _ _ _ _ (T8.setTop (mkF m 3 #[] [(.ref wV)]))
  obtain ⟨T9, h9, X9, e9, E9, V9, A9, st9⟩ := own_clone X8 hx hZ hown (hw _ (List.mem_of_getElem? (i := 14) rfl)) (hw _ (List.mem_of_getElem? (i := 15) rfl)) (hw _ (List.mem_of_getElem? (i := 19) rfl)) (hw _ (List.mem_of_getElem? (i := 17) rfl)) (hw _ (List.mem_of_getElem? (i := 18) rfl)) (hw _ (List.mem_of_getElem? (i := 20) rfl)) e8 (VV.ext OL.2) (EV.ext OL.2) (g := (mkF m 3 #[] [(.ref wV)])) rfl (by rw [hml]; rfl) rfl (hb hby d_prog_19_method_1_code_3) (by decide) (cap := 3) (Nat.le_of_ble_eq_true rfl) (by decide) (by decide) (by decide)
  obtain ⟨b9, g9⟩ : ∃ z, z = h0.size := ⟨_, rfl⟩
  rw [← g9] at V9 A9 st9
  have sz_b9 : h0.size ≤ b9 := Nat.le_trans K.1 (Nat.le_of_eq g9.symm)
  have g_b9 : n0 ≤ b9 := Nat.le_trans Z0 sz_b9
  replace OL := OL.ext E9
  replace K := K.ext E9
  refine own_of st9 ?_
  show own_Ends _ _ _ _ _ _ (T9.setTop (mkF m 6 #[] [(.ref b9)]))
  obtain ⟨T10, X10, e10, st10⟩ := castY X9 hx hZ hown (hw _ (List.mem_of_getElem? (i := 25) rfl)) e9 (Ins.self A9) (g := (mkF m 6 #[] [(.ref b9)])) rfl rfl (hb hby d_prog_19_method_1_code_6)
  refine own_of st10 ?_
  show own_Ends _ _ _ _ _ _ (T10.setTop (mkF m 9 #[] [(.ref b9)]))
  refine own_retA X10 hx hlk e10 hret rfl rfl (hb hby d_prog_19_method_1_code_9) (by decide) (by decide) ?_
  exact ⟨b9, rfl, N0, K, sz_b9, V9⟩
theorem pn_java_util_Optional : plainName "java/util/Optional" = true := by first | (simp [plainName, overriddenIn]; done) | decide +kernel
theorem ef_jdk_32_method_2_codeRR (m : MethodId) (z0 : Addr) (z1 : Addr) : entryFrame m #[(.ref z0), (.ref z1)] 2 = mkF m 0 #[.val (.ref z0), .val (.ref z1)] [] := by first | (simp [entryFrame, mkF, argsToLocals, Value.category]; done) | rfl
theorem d_jdk_32_method_2_code_0 : decode jdk_32_method_2_code 0 = .ok (.aload_n 0, 1) := by decide +kernel
theorem d_jdk_32_method_2_code_1 : decode jdk_32_method_2_code 1 = .ok (.invokespecial 7, 3) := by decide +kernel
theorem d_jdk_32_method_2_code_4 : decode jdk_32_method_2_code 4 = .ok (.aload_n 0, 1) := by decide +kernel
theorem d_jdk_32_method_2_code_5 : decode jdk_32_method_2_code 5 = .ok (.aload_n 1, 1) := by decide +kernel
theorem d_jdk_32_method_2_code_6 : decode jdk_32_method_2_code 6 = .ok (.putfield 13, 3) := by decide +kernel
theorem d_jdk_32_method_2_code_9 : decode jdk_32_method_2_code 9 = .ok (.return_, 1) := by decide +kernel
set_option maxRecDepth 65536 in
set_option maxHeartbeats 40000000 in
theorem rm_oinit (l : Launch) (Z : State) (a0 : Array Value) (hw : ∀ d ∈ tables_1, d.before a0 Z = true) (a u : Addr) (h0 : Heap) (n0 : Nat) (Z0 : n0 ≤ h0.size) (E : Exa Z h0 a "java/util/Optional") (F : Fld Z h0 a "java/util/Optional" "value" "Ljava/lang/Object;" .null) (g_a : n0 ≤ a) :
    own_Met l Z (⟨"java/util/Optional", "<init>", "(Ljava/lang/Object;)V"⟩ : MethodName) jdk_32_method_2_code 2 none ({ frames := 1, cells := 0, slots := 0, locals := 12 } : Room) #[(.ref a), (.ref u)] h0 (fun v h L => v = none ∧ Fr n0 L ∧ Keep h0 h [a] ∧ Exa Z h a "java/util/Optional" ∧ Fld Z h a "java/util/Optional" "value" "Ljava/lang/Object;" (.ref u)) := by
  refine own_body (plainFor_of_name pn_java_util_Optional) ?_
  intro p e s m below meth c T0 X0 e0 hx hby hml hown hnm hret hlk hZ
  replace hown : s.vm.findClass "java/util/Optional" = some m.cls := hown
  have N0 := Fr.nil n0
  refine own_of (fun tt_ kk_ => castTop (ef_jdk_32_method_2_codeRR m a u) kk_) ?_
  have K := Keep.refl h0 [a]
  show own_Ends _ _ _ _ _ _ (T0.setTop (mkF m 0 #[.val (.ref a), .val (.ref u)] []))
  refine own_of (fun tt_ kk_ => XS.aloadN X0.here hx rfl (hb hby d_jdk_32_method_2_code_0) rfl rfl kk_) ?_
  show own_Ends _ _ _ _ _ _ (T0.setTop (mkF m 1 #[.val (.ref a), .val (.ref u)] [(.ref a)]))
  obtain ⟨T11, X11, e11, st11⟩ := initO X0 hx hZ hown (hw _ (List.mem_of_getElem? (i := 56) rfl)) (hw _ (List.mem_of_getElem? (i := 57) rfl)) (hw _ (List.mem_of_getElem? (i := 58) rfl)) e0 (g := (mkF m 1 #[.val (.ref a), .val (.ref u)] [(.ref a)])) rfl (by rw [hml]; rfl) rfl (hb hby d_jdk_32_method_2_code_1) (by decide) (W := 0) (by show 2 * 0 + _ ≤ _; exact Nat.le_of_eq rfl) (by decide)
  refine own_of st11 ?_
  show own_Ends _ _ _ _ _ _ (T11.setTop (mkF m 4 #[.val (.ref a), .val (.ref u)] []))
  refine own_of (fun tt_ kk_ => XS.aloadN X11.here hx rfl (hb hby d_jdk_32_method_2_code_4) rfl rfl kk_) ?_
  show own_Ends _ _ _ _ _ _ (T11.setTop (mkF m 5 #[.val (.ref a), .val (.ref u)] [(.ref a)]))
  refine own_of (fun tt_ kk_ => XS.aloadN X11.here hx rfl (hb hby d_jdk_32_method_2_code_5) rfl rfl kk_) ?_
  show own_Ends _ _ _ _ _ _ (T11.setTop (mkF m 6 #[.val (.ref a), .val (.ref u)] [(.ref u), (.ref a)]))
  obtain ⟨T12, h12, X12, e12, W12, st12⟩ := putF X11 hx hZ hown (host := "") (Or.inl (hw _ (List.mem_of_getElem? (i := 39) rfl))) Via.refl e11 F E (Or.inr ⟨(hw _ (List.mem_of_getElem? (i := 40) rfl)), rfl, hnm⟩) (hw _ (List.mem_of_getElem? (i := 47) rfl)) (ty := (.object "java/lang/Object")) (by decide) rfl rfl (g := (mkF m 6 #[.val (.ref a), .val (.ref u)] [(.ref u), (.ref a)])) rfl rfl (hb hby d_jdk_32_method_2_code_6)
  replace F := F.same W12
  replace E := E.wr W12
  have N12 := Fr.snoc X12 N0 g_a
  replace K := K.wr W12 (Or.inl (List.mem_of_getElem? (i := 0) rfl))
  refine own_of st12 ?_
  show own_Ends _ _ _ _ _ _ (T12.setTop (mkF m 9 #[.val (.ref a), .val (.ref u)] []))
  refine own_retV X12 hx hlk e12 hret (hb hby d_jdk_32_method_2_code_9) (by decide) (by decide) ?_
  exact ⟨rfl, N12, K, E, F⟩
theorem pn_java_util_Objects : plainName "java/util/Objects" = true := by first | (simp [plainName, overriddenIn]; done) | decide +kernel
theorem ef_jdk_31_method_10_codeR (m : MethodId) (z0 : Addr) : entryFrame m #[(.ref z0)] 1 = mkF m 0 #[.val (.ref z0)] [] := by first | (simp [entryFrame, mkF, argsToLocals, Value.category]; done) | rfl
theorem d_jdk_31_method_10_code_0 : decode jdk_31_method_10_code 0 = .ok (.aload_n 0, 1) := by decide +kernel
theorem d_jdk_31_method_10_code_1 : decode jdk_31_method_10_code 1 = .ok (.ifnonnull 11, 3) := by decide +kernel
theorem d_jdk_31_method_10_code_12 : decode jdk_31_method_10_code 12 = .ok (.aload_n 0, 1) := by decide +kernel
theorem d_jdk_31_method_10_code_13 : decode jdk_31_method_10_code 13 = .ok (.areturn, 1) := by decide +kernel
set_option maxRecDepth 65536 in
set_option maxHeartbeats 40000000 in
theorem rm_rnn (l : Launch) (Z : State) (a0 : Array Value) (hw : ∀ d ∈ tables_1, d.before a0 Z = true) (u : Addr) (h0 : Heap) (n0 : Nat) (Z0 : n0 ≤ h0.size) :
    own_Met l Z (⟨"java/util/Objects", "requireNonNull", "(Ljava/lang/Object;)Ljava/lang/Object;"⟩ : MethodName) jdk_31_method_10_code 1 (some (.object "java/lang/Object")) ({ frames := 0, cells := 0, slots := 0, locals := 0 } : Room) #[(.ref u)] h0 (fun v h L => v = some (.ref u) ∧ Fr n0 L ∧ h = h0) := by
  refine own_body (plainFor_of_name pn_java_util_Objects) ?_
  intro p e s m below meth c T0 X0 e0 hx hby hml hown hnm hret hlk hZ
  replace hown : s.vm.findClass "java/util/Objects" = some m.cls := hown
  have N0 := Fr.nil n0
  refine own_of (fun tt_ kk_ => castTop (ef_jdk_31_method_10_codeR m u) kk_) ?_
  show own_Ends _ _ _ _ _ _ (T0.setTop (mkF m 0 #[.val (.ref u)] []))
  refine own_of (fun tt_ kk_ => XS.aloadN X0.here hx rfl (hb hby d_jdk_31_method_10_code_0) rfl rfl kk_) ?_
  show own_Ends _ _ _ _ _ _ (T0.setTop (mkF m 1 #[.val (.ref u)] [(.ref u)]))
  refine own_of (fun tt_ kk_ => XS.ifnonnullYes X0.here hx rfl (pc0 := 1) (pc' := 12) rfl (hb hby d_jdk_31_method_10_code_1) rfl (by decide) (by decide) kk_) ?_
  show own_Ends _ _ _ _ _ _ (T0.setTop (mkF m 12 #[.val (.ref u)] []))
  refine own_of (fun tt_ kk_ => XS.aloadN X0.here hx rfl (hb hby d_jdk_31_method_10_code_12) rfl rfl kk_) ?_
  show own_Ends _ _ _ _ _ _ (T0.setTop (mkF m 13 #[.val (.ref u)] [(.ref u)]))
  refine own_retA X0 hx hlk e0 hret rfl rfl (hb hby d_jdk_31_method_10_code_13) (by decide) (by decide) ?_
  exact ⟨rfl, N0, rfl⟩
theorem ef_jdk_32_method_3_codeR (m : MethodId) (z0 : Addr) : entryFrame m #[(.ref z0)] 1 = mkF m 0 #[.val (.ref z0)] [] := by first | (simp [entryFrame, mkF, argsToLocals, Value.category]; done) | rfl
theorem d_jdk_32_method_3_code_0 : decode jdk_32_method_3_code 0 = .ok (.new 2, 3) := by decide +kernel
theorem d_jdk_32_method_3_code_3 : decode jdk_32_method_3_code 3 = .ok (.dup, 1) := by decide +kernel
theorem d_jdk_32_method_3_code_4 : decode jdk_32_method_3_code 4 = .ok (.aload_n 0, 1) := by decide +kernel
theorem pd__Ljava_lang_Object__r_Ljava_lang_Object_ : parseMethodDescriptor "(Ljava/lang/Object;)Ljava/lang/Object;" = some ⟨[(.object "java/lang/Object")], some (.object "java/lang/Object")⟩ := by decide +kernel
theorem d_jdk_32_method_3_code_5 : decode jdk_32_method_3_code 5 = .ok (.invokestatic 17, 3) := by decide +kernel
theorem pd__Ljava_lang_Object__r_V : parseMethodDescriptor "(Ljava/lang/Object;)V" = some ⟨[(.object "java/lang/Object")], none⟩ := by decide +kernel
theorem d_jdk_32_method_3_code_8 : decode jdk_32_method_3_code 8 = .ok (.invokespecial 23, 3) := by decide +kernel
theorem d_jdk_32_method_3_code_11 : decode jdk_32_method_3_code 11 = .ok (.areturn, 1) := by decide +kernel
set_option maxRecDepth 65536 in
set_option maxHeartbeats 40000000 in
theorem rm_of (l : Launch) (Z : State) (a0 : Array Value) (hw : ∀ d ∈ tables_1, d.before a0 Z = true) (u : Addr) (h0 : Heap) (n0 : Nat) (Z0 : n0 ≤ h0.size) :
    own_Met l Z (⟨"java/util/Optional", "of", "(Ljava/lang/Object;)Ljava/util/Optional;"⟩ : MethodName) jdk_32_method_3_code 1 (some (.object "java/util/Optional")) ({ frames := 2, cells := 1, slots := 1, locals := 26 } : Room) #[(.ref u)] h0 (fun v h L => ∃ t : Addr, v = some (.ref t) ∧ Fr n0 L ∧ Keep h0 h [] ∧ h0.size ≤ t ∧ Exa Z h t "java/util/Optional" ∧ Fld Z h t "java/util/Optional" "value" "Ljava/lang/Object;" (.ref u)) := by
  refine own_body (plainFor_of_name pn_java_util_Optional) ?_
  intro p e s m below meth c T0 X0 e0 hx hby hml hown hnm hret hlk hZ
  replace hown : s.vm.findClass "java/util/Optional" = some m.cls := hown
  have N0 := Fr.nil n0
  refine own_of (fun tt_ kk_ => castTop (ef_jdk_32_method_3_codeR m u) kk_) ?_
  have K := Keep.refl h0 []
  show own_Ends _ _ _ _ _ _ (T0.setTop (mkF m 0 #[.val (.ref u)] []))
  obtain ⟨T13, h13, X13, e13, E13, A13, D13, -, st13⟩ := newO X0 hx hZ hown (hw _ (List.mem_of_getElem? (i := 46) rfl)) (hw _ (List.mem_of_getElem? (i := 47) rfl)) (hw _ (List.mem_of_getElem? (i := 31) rfl)) e0 (g := (mkF m 0 #[.val (.ref u)] [])) rfl (hb hby d_jdk_32_method_3_code_0) (by decide) (by decide)
  obtain ⟨b13, g13⟩ : ∃ z, z = h0.size := ⟨_, rfl⟩
  rw [← g13] at A13 D13 st13
  have sz_b13 : h0.size ≤ b13 := Nat.le_trans K.1 (Nat.le_of_eq g13.symm)
  have g_b13 : n0 ≤ b13 := Nat.le_trans Z0 sz_b13
  have F_value_b13 : Fld Z h13 b13 "java/util/Optional" "value" "Ljava/lang/Object;" .null := D13 (Or.inr (hw _ (List.mem_of_getElem? (i := 40) rfl))) (ty := (.object "java/lang/Object")) (by decide)
  replace K := K.ext E13
  refine own_of st13 ?_
  show own_Ends _ _ _ _ _ _ (T13.setTop (mkF m 3 #[.val (.ref u)] [(.ref b13)]))
  refine own_of (fun tt_ kk_ => XS.dup X13.here hx rfl (hb hby d_jdk_32_method_3_code_3) rfl rfl kk_) ?_
  show own_Ends _ _ _ _ _ _ (T13.setTop (mkF m 4 #[.val (.ref u)] [(.ref b13), (.ref b13)]))
  refine own_of (fun tt_ kk_ => XS.aloadN X13.here hx rfl (hb hby d_jdk_32_method_3_code_4) rfl rfl kk_) ?_
  show own_Ends _ _ _ _ _ _ (T13.setTop (mkF m 5 #[.val (.ref u)] [(.ref u), (.ref b13), (.ref b13)]))
  obtain ⟨v14, T14, L14, h14, X14, e14, Q14, st14⟩ := own_static X13 hx hZ hown e13 (hw _ (List.mem_of_getElem? (i := 48) rfl)) (hw _ (List.mem_of_getElem? (i := 49) rfl)) (hw _ (List.mem_of_getElem? (i := 50) rfl)) (hw _ (List.mem_of_getElem? (i := 51) rfl)) (by decide) (argsL := [(.ref u)]) (rest := [(.ref b13), (.ref b13)]) (rm_rnn l Z a0 hw u h13 n0 (Nat.le_trans Z0 K.1)) (g := (mkF m 5 #[.val (.ref u)] [(.ref u), (.ref b13), (.ref b13)])) rfl (by rw [hml]; rfl) (lenOf pd__Ljava_lang_Object__r_Ljava_lang_Object_ rfl) rfl (by decide) (Nat.le_of_ble_eq_true rfl) (by decide) (by decide) (hb hby d_jdk_32_method_3_code_5)
  obtain ⟨rfl, Nq14, q14⟩ := Q14
  replace e14 := e14.trans q14
  have N14 := Fr.app N0 Nq14
  refine own_of st14 ?_
  show own_Ends _ _ _ _ _ _ (T14.setTop (mkF m 8 #[.val (.ref u)] [(.ref u), (.ref b13), (.ref b13)]))
  obtain ⟨v15, T15, L15, h15, X15, e15, Q15, st15⟩ := own_special X14 hx hZ hown e14 (b := b13) rfl (hw _ (List.mem_of_getElem? (i := 52) rfl)) (hw _ (List.mem_of_getElem? (i := 53) rfl)) (hw _ (List.mem_of_getElem? (i := 31) rfl)) (hw _ (List.mem_of_getElem? (i := 55) rfl)) (by decide) (argsL := [(.ref u)]) (rest := [(.ref b13)]) (rm_oinit l Z a0 hw b13 u h13 n0 (Nat.le_trans Z0 K.1) A13 F_value_b13 g_b13) (g := (mkF m 8 #[.val (.ref u)] [(.ref u), (.ref b13), (.ref b13)])) rfl (by rw [hml]; rfl) (lenOf pd__Ljava_lang_Object__r_V rfl) rfl (by decide) (Nat.le_of_ble_eq_true rfl) (by decide) (by decide) (hb hby d_jdk_32_method_3_code_8)
  obtain ⟨rfl, Nq15, Kq15, A13', F_value_b13'⟩ := Q15
  replace A13 := A13.keep Kq15
  clear A13
  have A13 := A13'
  have F_value_b13 := F_value_b13'
  replace K := K.trans Kq15 (allS (Or.inr sz_b13) all0)
  have N15 := Fr.app N14 Nq15
  refine own_of st15 ?_
  show own_Ends _ _ _ _ _ _ (T15.setTop (mkF m 11 #[.val (.ref u)] [(.ref b13)]))
  refine own_retA X15 hx hlk e15 hret rfl rfl (hb hby d_jdk_32_method_3_code_11) (by decide) (by decide) ?_
  exact ⟨b13, rfl, N15, K, sz_b13, A13, F_value_b13⟩
theorem ef_jdk_32_method_1_code (m : MethodId)  : entryFrame m #[] 1 = mkF m 0 #[.unset] [] := by first | (simp [entryFrame, mkF, argsToLocals, Value.category]; done) | rfl
theorem d_jdk_32_method_1_code_0 : decode jdk_32_method_1_code 0 = .ok (.getstatic 1, 3) := by decide +kernel
theorem d_jdk_32_method_1_code_3 : decode jdk_32_method_1_code 3 = .ok (.astore_n 0, 1) := by decide +kernel
theorem d_jdk_32_method_1_code_4 : decode jdk_32_method_1_code 4 = .ok (.aload_n 0, 1) := by decide +kernel
theorem d_jdk_32_method_1_code_5 : decode jdk_32_method_1_code 5 = .ok (.areturn, 1) := by decide +kernel
set_option maxRecDepth 65536 in
set_option maxHeartbeats 40000000 in
theorem rm_empty (l : Launch) (Z : State) (a0 : Array Value) (hw : ∀ d ∈ tables_1, d.before a0 Z = true) (wE : Addr) (h0 : Heap) (n0 : Nat) (Z0 : n0 ≤ h0.size) (SE : Sta Z Z.heap "java/util/Optional" "EMPTY" "Ljava/util/Optional;" (.ref wE)) (OL : Old Z n0 h0) :
    own_Met l Z (⟨"java/util/Optional", "empty", "()Ljava/util/Optional;"⟩ : MethodName) jdk_32_method_1_code 1 (some (.object "java/util/Optional")) ({ frames := 0, cells := 0, slots := 0, locals := 0 } : Room) #[] h0 (fun v h L => v = some (.ref wE) ∧ Fr n0 L ∧ h = h0) := by
  refine own_body (plainFor_of_name pn_java_util_Optional) ?_
  intro p e s m below meth c T0 X0 e0 hx hby hml hown hnm hret hlk hZ
  replace hown : s.vm.findClass "java/util/Optional" = some m.cls := hown
  have N0 := Fr.nil n0
  refine own_of (fun tt_ kk_ => castTop (ef_jdk_32_method_1_code m ) kk_) ?_
  show own_Ends _ _ _ _ _ _ (T0.setTop (mkF m 0 #[.unset] []))
  obtain ⟨T16, X16, e16, st16⟩ := getS2 X0 hx hZ hown (host := "") (Or.inl (hw _ (List.mem_of_getElem? (i := 33) rfl))) Via.refl e0 (SE.ext OL.2) (g := (mkF m 0 #[.unset] [])) rfl (hb hby d_jdk_32_method_1_code_0)
  refine own_of st16 ?_
  show own_Ends _ _ _ _ _ _ (T16.setTop (mkF m 3 #[.unset] [(.ref wE)]))
  refine own_of (fun tt_ kk_ => XS.astoreN X16.here hx rfl (hb hby d_jdk_32_method_1_code_3) rfl rfl (l' := #[.val (.ref wE)]) rfl kk_) ?_
  show own_Ends _ _ _ _ _ _ (T16.setTop (mkF m 4 #[.val (.ref wE)] []))
  refine own_of (fun tt_ kk_ => XS.aloadN X16.here hx rfl (hb hby d_jdk_32_method_1_code_4) rfl rfl kk_) ?_
  show own_Ends _ _ _ _ _ _ (T16.setTop (mkF m 5 #[.val (.ref wE)] [(.ref wE)]))
  refine own_retA X16 hx hlk e16 hret rfl rfl (hb hby d_jdk_32_method_1_code_5) (by decide) (by decide) ?_
  exact ⟨rfl, N0, rfl⟩
theorem ef_jdk_32_method_6_codeR (m : MethodId) (z0 : Addr) : entryFrame m #[(.ref z0)] 1 = mkF m 0 #[.val (.ref z0)] [] := by first | (simp [entryFrame, mkF, argsToLocals, Value.category]; done) | rfl
theorem d_jdk_32_method_6_code_0 : decode jdk_32_method_6_code 0 = .ok (.aload_n 0, 1) := by decide +kernel
theorem d_jdk_32_method_6_code_1 : decode jdk_32_method_6_code 1 = .ok (.getfield 13, 3) := by decide +kernel
theorem d_jdk_32_method_6_code_4 : decode jdk_32_method_6_code 4 = .ok (.ifnull 7, 3) := by decide +kernel
theorem d_jdk_32_method_6_code_11 : decode jdk_32_method_6_code 11 = .ok (.iconst 0, 1) := by decide +kernel
theorem d_jdk_32_method_6_code_12 : decode jdk_32_method_6_code 12 = .ok (.ireturn, 1) := by decide +kernel
set_option maxRecDepth 65536 in
set_option maxHeartbeats 40000000 in
theorem rm_pres0 (l : Launch) (Z : State) (a0 : Array Value) (hw : ∀ d ∈ tables_1, d.before a0 Z = true) (a : Addr) (h0 : Heap) (n0 : Nat) (Z0 : n0 ≤ h0.size) (F : Fld Z h0 a "java/util/Optional" "value" "Ljava/lang/Object;" .null) :
    own_Met l Z (⟨"java/util/Optional", "isPresent", "()Z"⟩ : MethodName) jdk_32_method_6_code 1 (some .boolean) ({ frames := 0, cells := 0, slots := 0, locals := 0 } : Room) #[(.ref a)] h0 (fun v h L => v = some (.int (0 : Int32)) ∧ Fr n0 L ∧ h = h0) := by
  refine own_body (plainFor_of_name pn_java_util_Optional) ?_
  intro p e s m below meth c T0 X0 e0 hx hby hml hown hnm hret hlk hZ
  replace hown : s.vm.findClass "java/util/Optional" = some m.cls := hown
  have N0 := Fr.nil n0
  refine own_of (fun tt_ kk_ => castTop (ef_jdk_32_method_6_codeR m a) kk_) ?_
  show own_Ends _ _ _ _ _ _ (T0.setTop (mkF m 0 #[.val (.ref a)] []))
  refine own_of (fun tt_ kk_ => XS.aloadN X0.here hx rfl (hb hby d_jdk_32_method_6_code_0) rfl rfl kk_) ?_
  show own_Ends _ _ _ _ _ _ (T0.setTop (mkF m 1 #[.val (.ref a)] [(.ref a)]))
  obtain ⟨T17, X17, e17, st17⟩ := getF X0 hx hZ hown (host := "") (Or.inl (hw _ (List.mem_of_getElem? (i := 39) rfl))) Via.refl e0 F (g := (mkF m 1 #[.val (.ref a)] [(.ref a)])) rfl rfl (hb hby d_jdk_32_method_6_code_1)
  refine own_of st17 ?_
  show own_Ends _ _ _ _ _ _ (T17.setTop (mkF m 4 #[.val (.ref a)] [.null]))
  refine own_of (fun tt_ kk_ => XS.ifnullYes X17.here hx rfl (pc0 := 4) (pc' := 11) rfl (hb hby d_jdk_32_method_6_code_4) rfl (by decide) (by decide) kk_) ?_
  show own_Ends _ _ _ _ _ _ (T17.setTop (mkF m 11 #[.val (.ref a)] []))
  refine own_of (fun tt_ kk_ => XS.iconst X17.here hx rfl (hb hby d_jdk_32_method_6_code_11) kk_) ?_
  show own_Ends _ _ _ _ _ _ (T17.setTop (mkF m 12 #[.val (.ref a)] [(.int (0 : Int32))]))
  refine own_retN X17 hx hlk e17 (t := .boolean) hret (by simp) (z' := (0 : Int32)) rfl (hb hby d_jdk_32_method_6_code_12) (by decide) (by decide) ?_
  exact ⟨rfl, N0, rfl⟩
theorem d_jdk_32_method_6_code_7 : decode jdk_32_method_6_code 7 = .ok (.iconst 1, 1) := by decide +kernel
theorem d_jdk_32_method_6_code_8 : decode jdk_32_method_6_code 8 = .ok (.goto 4, 3) := by decide +kernel
set_option maxRecDepth 65536 in
set_option maxHeartbeats 40000000 in
theorem rm_pres1 (l : Launch) (Z : State) (a0 : Array Value) (hw : ∀ d ∈ tables_1, d.before a0 Z = true) (a : Addr) (u : Addr) (h0 : Heap) (n0 : Nat) (Z0 : n0 ≤ h0.size) (F : Fld Z h0 a "java/util/Optional" "value" "Ljava/lang/Object;" (.ref u)) :
    own_Met l Z (⟨"java/util/Optional", "isPresent", "()Z"⟩ : MethodName) jdk_32_method_6_code 1 (some .boolean) ({ frames := 0, cells := 0, slots := 0, locals := 0 } : Room) #[(.ref a)] h0 (fun v h L => v = some (.int (1 : Int32)) ∧ Fr n0 L ∧ h = h0) := by
  refine own_body (plainFor_of_name pn_java_util_Optional) ?_
  intro p e s m below meth c T0 X0 e0 hx hby hml hown hnm hret hlk hZ
  replace hown : s.vm.findClass "java/util/Optional" = some m.cls := hown
  have N0 := Fr.nil n0
  refine own_of (fun tt_ kk_ => castTop (ef_jdk_32_method_6_codeR m a) kk_) ?_
  show own_Ends _ _ _ _ _ _ (T0.setTop (mkF m 0 #[.val (.ref a)] []))
  refine own_of (fun tt_ kk_ => XS.aloadN X0.here hx rfl (hb hby d_jdk_32_method_6_code_0) rfl rfl kk_) ?_
  show own_Ends _ _ _ _ _ _ (T0.setTop (mkF m 1 #[.val (.ref a)] [(.ref a)]))
  obtain ⟨T18, X18, e18, st18⟩ := getF X0 hx hZ hown (host := "") (Or.inl (hw _ (List.mem_of_getElem? (i := 39) rfl))) Via.refl e0 F (g := (mkF m 1 #[.val (.ref a)] [(.ref a)])) rfl rfl (hb hby d_jdk_32_method_6_code_1)
  refine own_of st18 ?_
  show own_Ends _ _ _ _ _ _ (T18.setTop (mkF m 4 #[.val (.ref a)] [(.ref u)]))
  refine own_of (fun tt_ kk_ => XS.ifnullNo X18.here hx rfl (hb hby d_jdk_32_method_6_code_4) rfl kk_) ?_
  show own_Ends _ _ _ _ _ _ (T18.setTop (mkF m 7 #[.val (.ref a)] []))
  refine own_of (fun tt_ kk_ => XS.iconst X18.here hx rfl (hb hby d_jdk_32_method_6_code_7) kk_) ?_
  show own_Ends _ _ _ _ _ _ (T18.setTop (mkF m 8 #[.val (.ref a)] [(.int (1 : Int32))]))
  refine own_of (fun tt_ kk_ => XS.goto X18.here hx rfl (pc0 := 8) (pc' := 12) rfl (hb hby d_jdk_32_method_6_code_8) (by decide) (by decide) kk_) ?_
  show own_Ends _ _ _ _ _ _ (T18.setTop (mkF m 12 #[.val (.ref a)] [(.int (1 : Int32))]))
  refine own_retN X18 hx hlk e18 (t := .boolean) hret (by simp) (z' := (1 : Int32)) rfl (hb hby d_jdk_32_method_6_code_12) (by decide) (by decide) ?_
  exact ⟨rfl, N0, rfl⟩
theorem ef_jdk_32_method_5_codeR (m : MethodId) (z0 : Addr) : entryFrame m #[(.ref z0)] 1 = mkF m 0 #[.val (.ref z0)] [] := by first | (simp [entryFrame, mkF, argsToLocals, Value.category]; done) | rfl
theorem d_jdk_32_method_5_code_0 : decode jdk_32_method_5_code 0 = .ok (.aload_n 0, 1) := by decide +kernel
theorem d_jdk_32_method_5_code_1 : decode jdk_32_method_5_code 1 = .ok (.getfield 13, 3) := by decide +kernel
theorem d_jdk_32_method_5_code_4 : decode jdk_32_method_5_code 4 = .ok (.ifnonnull 13, 3) := by decide +kernel
theorem d_jdk_32_method_5_code_17 : decode jdk_32_method_5_code 17 = .ok (.aload_n 0, 1) := by decide +kernel
theorem d_jdk_32_method_5_code_18 : decode jdk_32_method_5_code 18 = .ok (.getfield 13, 3) := by decide +kernel
theorem d_jdk_32_method_5_code_21 : decode jdk_32_method_5_code 21 = .ok (.areturn, 1) := by decide +kernel
set_option maxRecDepth 65536 in
set_option maxHeartbeats 40000000 in
theorem rm_get (l : Launch) (Z : State) (a0 : Array Value) (hw : ∀ d ∈ tables_1, d.before a0 Z = true) (a u : Addr) (h0 : Heap) (n0 : Nat) (Z0 : n0 ≤ h0.size) (F : Fld Z h0 a "java/util/Optional" "value" "Ljava/lang/Object;" (.ref u)) :
    own_Met l Z (⟨"java/util/Optional", "get", "()Ljava/lang/Object;"⟩ : MethodName) jdk_32_method_5_code 1 (some (.object "java/lang/Object")) ({ frames := 0, cells := 0, slots := 0, locals := 0 } : Room) #[(.ref a)] h0 (fun v h L => v = some (.ref u) ∧ Fr n0 L ∧ h = h0) := by
  refine own_body (plainFor_of_name pn_java_util_Optional) ?_
  intro p e s m below meth c T0 X0 e0 hx hby hml hown hnm hret hlk hZ
  replace hown : s.vm.findClass "java/util/Optional" = some m.cls := hown
  have N0 := Fr.nil n0
  refine own_of (fun tt_ kk_ => castTop (ef_jdk_32_method_5_codeR m a) kk_) ?_
  show own_Ends _ _ _ _ _ _ (T0.setTop (mkF m 0 #[.val (.ref a)] []))
  refine own_of (fun tt_ kk_ => XS.aloadN X0.here hx rfl (hb hby d_jdk_32_method_5_code_0) rfl rfl kk_) ?_
  show own_Ends _ _ _ _ _ _ (T0.setTop (mkF m 1 #[.val (.ref a)] [(.ref a)]))
  obtain ⟨T19, X19, e19, st19⟩ := getF X0 hx hZ hown (host := "") (Or.inl (hw _ (List.mem_of_getElem? (i := 39) rfl))) Via.refl e0 F (g := (mkF m 1 #[.val (.ref a)] [(.ref a)])) rfl rfl (hb hby d_jdk_32_method_5_code_1)
  refine own_of st19 ?_
  show own_Ends _ _ _ _ _ _ (T19.setTop (mkF m 4 #[.val (.ref a)] [(.ref u)]))
  refine own_of (fun tt_ kk_ => XS.ifnonnullYes X19.here hx rfl (pc0 := 4) (pc' := 17) rfl (hb hby d_jdk_32_method_5_code_4) rfl (by decide) (by decide) kk_) ?_
  show own_Ends _ _ _ _ _ _ (T19.setTop (mkF m 17 #[.val (.ref a)] []))
  refine own_of (fun tt_ kk_ => XS.aloadN X19.here hx rfl (hb hby d_jdk_32_method_5_code_17) rfl rfl kk_) ?_
  show own_Ends _ _ _ _ _ _ (T19.setTop (mkF m 18 #[.val (.ref a)] [(.ref a)]))
  obtain ⟨T20, X20, e20, st20⟩ := getF X19 hx hZ hown (host := "") (Or.inl (hw _ (List.mem_of_getElem? (i := 39) rfl))) Via.refl e19 F (g := (mkF m 18 #[.val (.ref a)] [(.ref a)])) rfl rfl (hb hby d_jdk_32_method_5_code_18)
  refine own_of st20 ?_
  show own_Ends _ _ _ _ _ _ (T20.setTop (mkF m 21 #[.val (.ref a)] [(.ref u)]))
  refine own_retA X20 hx hlk e20 hret rfl rfl (hb hby d_jdk_32_method_5_code_21) (by decide) (by decide) ?_
  exact ⟨rfl, N0, rfl⟩
theorem ef_prog_19_method_8_codeI (m : MethodId) (z0 : Int32) : entryFrame m #[(.int z0)] 5 = mkF m 0 #[.val (.int z0), .unset, .unset, .unset, .unset] [] := by first | (simp [entryFrame, mkF, argsToLocals, Value.category]; done) | rfl
theorem pd___r_ALcom_example_drayage_drayage_DropAction_ : parseMethodDescriptor "()[Lcom/example/drayage/drayage/DropAction;" = some ⟨[], some (.array (.object "com/example/drayage/drayage/DropAction"))⟩ := by decide +kernel
theorem d_prog_19_method_8_code_0 : decode prog_19_method_8_code 0 = .ok (.invokestatic 115, 3) := by decide +kernel
theorem d_prog_19_method_8_code_3 : decode prog_19_method_8_code 3 = .ok (.astore_n 1, 1) := by decide +kernel
theorem d_prog_19_method_8_code_4 : decode prog_19_method_8_code 4 = .ok (.aload_n 1, 1) := by decide +kernel
theorem d_prog_19_method_8_code_5 : decode prog_19_method_8_code 5 = .ok (.arraylength, 1) := by decide +kernel
theorem d_prog_19_method_8_code_6 : decode prog_19_method_8_code 6 = .ok (.istore_n 2, 1) := by decide +kernel
theorem d_prog_19_method_8_code_7 : decode prog_19_method_8_code 7 = .ok (.iconst 0, 1) := by decide +kernel
theorem d_prog_19_method_8_code_8 : decode prog_19_method_8_code 8 = .ok (.istore_n 3, 1) := by decide +kernel
theorem d_prog_19_method_8_code_9 : decode prog_19_method_8_code 9 = .ok (.iload_n 3, 1) := by decide +kernel
theorem d_prog_19_method_8_code_10 : decode prog_19_method_8_code 10 = .ok (.iload_n 2, 1) := by decide +kernel
theorem d_prog_19_method_8_code_11 : decode prog_19_method_8_code 11 = .ok (.if_icmp .ge 29, 3) := by decide +kernel
theorem d_prog_19_method_8_code_14 : decode prog_19_method_8_code 14 = .ok (.aload_n 1, 1) := by decide +kernel
theorem d_prog_19_method_8_code_15 : decode prog_19_method_8_code 15 = .ok (.iload_n 3, 1) := by decide +kernel
theorem d_prog_19_method_8_code_16 : decode prog_19_method_8_code 16 = .ok (.aaload, 1) := by decide +kernel
theorem d_prog_19_method_8_code_17 : decode prog_19_method_8_code 17 = .ok (.astore 4, 2) := by decide +kernel
theorem d_prog_19_method_8_code_19 : decode prog_19_method_8_code 19 = .ok (.aload 4, 2) := by decide +kernel
theorem d_prog_19_method_8_code_21 : decode prog_19_method_8_code 21 = .ok (.getfield 34, 3) := by decide +kernel
theorem d_prog_19_method_8_code_24 : decode prog_19_method_8_code 24 = .ok (.iload_n 0, 1) := by decide +kernel
theorem d_prog_19_method_8_code_25 : decode prog_19_method_8_code 25 = .ok (.if_icmp .ne 9, 3) := by decide +kernel
theorem d_prog_19_method_8_code_28 : decode prog_19_method_8_code 28 = .ok (.aload 4, 2) := by decide +kernel
theorem pd__Ljava_lang_Object__r_Ljava_util_Optional_ : parseMethodDescriptor "(Ljava/lang/Object;)Ljava/util/Optional;" = some ⟨[(.object "java/lang/Object")], some (.object "java/util/Optional")⟩ := by decide +kernel
theorem d_prog_19_method_8_code_30 : decode prog_19_method_8_code 30 = .ok (.invokestatic 56, 3) := by decide +kernel
theorem d_prog_19_method_8_code_33 : decode prog_19_method_8_code 33 = .ok (.areturn, 1) := by decide +kernel
set_option maxRecDepth 65536 in
set_option maxHeartbeats 40000000 in
theorem rm_om0 (l : Launch) (Z : State) (a0 : Array Value) (hw : ∀ d ∈ tables_1, d.before a0 Z = true) (wV wC wM wL wE : Addr) (kV : ClassId) (h0 : Heap) (n0 : Nat) (Z0 : n0 ≤ h0.size) (SV : Sta Z Z.heap "com/example/drayage/drayage/DropAction" "$VALUES" "[Lcom/example/drayage/drayage/DropAction;" (.ref wV)) (VV : Arv Z Z.heap wV kV (.object "com/example/drayage/drayage/DropAction") (3 : Int32) [(.ref wC), (.ref wM), (.ref wL)] .null) (EV : Exa Z Z.heap wV "[Lcom/example/drayage/drayage/DropAction;") (OL : Old Z n0 h0) (SE : Sta Z Z.heap "java/util/Optional" "EMPTY" "Ljava/util/Optional;" (.ref wE)) (F_wC : Fld Z Z.heap wC "com/example/drayage/drayage/DropAction" "mask" "I" (.int (1 : Int32))) (F_wM : Fld Z Z.heap wM "com/example/drayage/drayage/DropAction" "mask" "I" (.int (2 : Int32))) (F_wL : Fld Z Z.heap wL "com/example/drayage/drayage/DropAction" "mask" "I" (.int (1073741824 : Int32))) :
    own_Met l Z (⟨"com/example/drayage/drayage/DropAction", "ofMask", "(I)Ljava/util/Optional;"⟩ : MethodName) prog_19_method_8_code 5 (some (.object "java/util/Optional")) ({ frames := 3, cells := 2, slots := 4, locals := 38 } : Room) #[(.int (1 : Int32))] h0 (fun v h L => ∃ t : Addr, v = some (.ref t) ∧ Fr n0 L ∧ Keep h0 h [] ∧ h0.size ≤ t ∧ Exa Z h t "java/util/Optional" ∧ Fld Z h t "java/util/Optional" "value" "Ljava/lang/Object;" (.ref wC)) := by
  refine own_body (plainFor_of_name pn_com_example_drayage_drayage_DropAction) ?_
  intro p e s m below meth c T0 X0 e0 hx hby hml hown hnm hret hlk hZ
  replace hown : s.vm.findClass "com/example/drayage/drayage/DropAction" = some m.cls := hown
  have N0 := Fr.nil n0
  refine own_of (fun tt_ kk_ => castTop (ef_prog_19_method_8_codeI m (1 : Int32)) kk_) ?_
  have K := Keep.refl h0 []
  show own_Ends _ _ _ _ _ _ (T0.setTop (mkF m 0 #[.val (.int (1 : Int32)), .unset, .unset, .unset, .unset] []))
  obtain ⟨v21, T21, L21, h21, X21, e21, Q21, st21⟩ := own_static X0 hx hZ hown e0 (hw _ (List.mem_of_getElem? (i := 9) rfl)) (hw _ (List.mem_of_getElem? (i := 10) rfl)) (hw _ (List.mem_of_getElem? (i := 7) rfl)) (hw _ (List.mem_of_getElem? (i := 11) rfl)) (by decide) (argsL := []) (rest := []) (rm_values l Z a0 hw wV wC wM wL kV h0 n0 (Nat.le_trans Z0 K.1) SV VV EV OL) (g := (mkF m 0 #[.val (.int (1 : Int32)), .unset, .unset, .unset, .unset] [])) rfl (by rw [hml]; rfl) (lenOf pd___r_ALcom_example_drayage_drayage_DropAction_ rfl) rfl (by decide) (Nat.le_of_ble_eq_true rfl) (by decide) (by decide) (hb hby d_prog_19_method_8_code_0)
  obtain ⟨t21, rfl, Nq21, Kq21, szq_t21, Vt21⟩ := Q21
  have sz_t21 : h0.size ≤ t21 := Nat.le_trans K.1 szq_t21
  have g_t21 : n0 ≤ t21 := Nat.le_trans Z0 sz_t21
  replace OL := OL.keep Kq21 all0
  replace K := K.trans Kq21 all0
  have N21 := Fr.app N0 Nq21
  refine own_of st21 ?_
  show own_Ends _ _ _ _ _ _ (T21.setTop (mkF m 3 #[.val (.int (1 : Int32)), .unset, .unset, .unset, .unset] [(.ref t21)]))
  refine own_of (fun tt_ kk_ => XS.astoreN X21.here hx rfl (hb hby d_prog_19_method_8_code_3) rfl rfl (l' := #[.val (.int (1 : Int32)), .val (.ref t21), .unset, .unset, .unset]) rfl kk_) ?_
  show own_Ends _ _ _ _ _ _ (T21.setTop (mkF m 4 #[.val (.int (1 : Int32)), .val (.ref t21), .unset, .unset, .unset] []))
  refine own_of (fun tt_ kk_ => XS.aloadN X21.here hx rfl (hb hby d_prog_19_method_8_code_4) rfl rfl kk_) ?_
  show own_Ends _ _ _ _ _ _ (T21.setTop (mkF m 5 #[.val (.int (1 : Int32)), .val (.ref t21), .unset, .unset, .unset] [(.ref t21)]))
  obtain ⟨cl22, Ar22, -, S22, N22', -, -⟩ := id Vt21
  refine own_of (fun tt_ kk_ => X21.arraylength hx (by rw [e21]; exact Ar22.1) (State.isArrayOf_alike hZ.alike Ar22.2.1) (g := (mkF m 5 #[.val (.int (1 : Int32)), .val (.ref t21), .unset, .unset, .unset] [(.ref t21)])) rfl rfl (hb hby d_prog_19_method_8_code_5) _ kk_) ?_
  rw [len_of S22 N22']
  show own_Ends _ _ _ _ _ _ (T21.setTop (mkF m 6 #[.val (.int (1 : Int32)), .val (.ref t21), .unset, .unset, .unset] [(.int (3 : Int32))]))
  refine own_of (fun tt_ kk_ => XS.istoreN X21.here hx rfl (hb hby d_prog_19_method_8_code_6) rfl (l' := #[.val (.int (1 : Int32)), .val (.ref t21), .val (.int (3 : Int32)), .unset, .unset]) rfl kk_) ?_
  show own_Ends _ _ _ _ _ _ (T21.setTop (mkF m 7 #[.val (.int (1 : Int32)), .val (.ref t21), .val (.int (3 : Int32)), .unset, .unset] []))
  refine own_of (fun tt_ kk_ => XS.iconst X21.here hx rfl (hb hby d_prog_19_method_8_code_7) kk_) ?_
  show own_Ends _ _ _ _ _ _ (T21.setTop (mkF m 8 #[.val (.int (1 : Int32)), .val (.ref t21), .val (.int (3 : Int32)), .unset, .unset] [(.int (0 : Int32))]))
  refine own_of (fun tt_ kk_ => XS.istoreN X21.here hx rfl (hb hby d_prog_19_method_8_code_8) rfl (l' := #[.val (.int (1 : Int32)), .val (.ref t21), .val (.int (3 : Int32)), .val (.int (0 : Int32)), .unset]) rfl kk_) ?_
  show own_Ends _ _ _ _ _ _ (T21.setTop (mkF m 9 #[.val (.int (1 : Int32)), .val (.ref t21), .val (.int (3 : Int32)), .val (.int (0 : Int32)), .unset] []))
  refine own_of (fun tt_ kk_ => XS.iloadN X21.here hx rfl (hb hby d_prog_19_method_8_code_9) rfl  kk_) ?_
  show own_Ends _ _ _ _ _ _ (T21.setTop (mkF m 10 #[.val (.int (1 : Int32)), .val (.ref t21), .val (.int (3 : Int32)), .val (.int (0 : Int32)), .unset] [(.int (0 : Int32))]))
  refine own_of (fun tt_ kk_ => XS.iloadN X21.here hx rfl (hb hby d_prog_19_method_8_code_10) rfl  kk_) ?_
  show own_Ends _ _ _ _ _ _ (T21.setTop (mkF m 11 #[.val (.int (1 : Int32)), .val (.ref t21), .val (.int (3 : Int32)), .val (.int (0 : Int32)), .unset] [(.int (3 : Int32)), (.int (0 : Int32))]))
  refine own_of (fun tt_ kk_ => XS.icmpNo X21.here hx rfl (hb hby d_prog_19_method_8_code_11) rfl (tlt (by decide : ((0 : Int32) < (3 : Int32)))).2.1 kk_) ?_
  show own_Ends _ _ _ _ _ _ (T21.setTop (mkF m 14 #[.val (.int (1 : Int32)), .val (.ref t21), .val (.int (3 : Int32)), .val (.int (0 : Int32)), .unset] []))
  refine own_of (fun tt_ kk_ => XS.aloadN X21.here hx rfl (hb hby d_prog_19_method_8_code_14) rfl rfl kk_) ?_
  show own_Ends _ _ _ _ _ _ (T21.setTop (mkF m 15 #[.val (.int (1 : Int32)), .val (.ref t21), .val (.int (3 : Int32)), .val (.int (0 : Int32)), .unset] [(.ref t21)]))
  refine own_of (fun tt_ kk_ => XS.iloadN X21.here hx rfl (hb hby d_prog_19_method_8_code_15) rfl  kk_) ?_
  show own_Ends _ _ _ _ _ _ (T21.setTop (mkF m 16 #[.val (.int (1 : Int32)), .val (.ref t21), .val (.int (3 : Int32)), .val (.int (0 : Int32)), .unset] [(.int (0 : Int32)), (.ref t21)]))
  obtain ⟨cl23, Ar23, q23, S23, N23', H23, G23⟩ := id Vt21
  have hin23 : ¬ ((0 : Int32) < 0 ∨ cl23.slots.size ≤ ((0 : Int32)).toNatClampNeg) := inb_of S23 ⟨by decide, by decide⟩
  have hat23 : cl23.slots[((0 : Int32)).toNatClampNeg]? = some (.ref wC) := H23.at hin23 rfl
  refine own_of (fun tt_ kk_ => X21.aaload hx (j := (0 : Int32)) (v := (.ref wC)) (by rw [e21]; exact Ar23.1) (State.isArrayOf_alike hZ.alike Ar23.2.1) rfl Ar23.2.2 hin23 hat23 (g := (mkF m 16 #[.val (.int (1 : Int32)), .val (.ref t21), .val (.int (3 : Int32)), .val (.int (0 : Int32)), .unset] [(.int (0 : Int32)), (.ref t21)])) rfl rfl (hb hby d_prog_19_method_8_code_16) _ kk_) ?_
  show own_Ends _ _ _ _ _ _ (T21.setTop (mkF m 17 #[.val (.int (1 : Int32)), .val (.ref t21), .val (.int (3 : Int32)), .val (.int (0 : Int32)), .unset] [(.ref wC)]))
  refine own_of (fun tt_ kk_ => XS.astore X21.here hx rfl (hb hby d_prog_19_method_8_code_17) rfl rfl (l' := #[.val (.int (1 : Int32)), .val (.ref t21), .val (.int (3 : Int32)), .val (.int (0 : Int32)), .val (.ref wC)]) rfl kk_) ?_
  show own_Ends _ _ _ _ _ _ (T21.setTop (mkF m 19 #[.val (.int (1 : Int32)), .val (.ref t21), .val (.int (3 : Int32)), .val (.int (0 : Int32)), .val (.ref wC)] []))
  refine own_of (fun tt_ kk_ => XS.aload X21.here hx rfl (hb hby d_prog_19_method_8_code_19) rfl rfl kk_) ?_
  show own_Ends _ _ _ _ _ _ (T21.setTop (mkF m 21 #[.val (.int (1 : Int32)), .val (.ref t21), .val (.int (3 : Int32)), .val (.int (0 : Int32)), .val (.ref wC)] [(.ref wC)]))
  obtain ⟨T24, X24, e24, st24⟩ := getF X21 hx hZ hown (host := "") (Or.inl (hw _ (List.mem_of_getElem? (i := 27) rfl))) Via.refl e21 (F_wC.ext OL.2) (g := (mkF m 21 #[.val (.int (1 : Int32)), .val (.ref t21), .val (.int (3 : Int32)), .val (.int (0 : Int32)), .val (.ref wC)] [(.ref wC)])) rfl rfl (hb hby d_prog_19_method_8_code_21)
  refine own_of st24 ?_
  show own_Ends _ _ _ _ _ _ (T24.setTop (mkF m 24 #[.val (.int (1 : Int32)), .val (.ref t21), .val (.int (3 : Int32)), .val (.int (0 : Int32)), .val (.ref wC)] [(.int (1 : Int32))]))
  refine own_of (fun tt_ kk_ => XS.iloadN X24.here hx rfl (hb hby d_prog_19_method_8_code_24) rfl  kk_) ?_
  show own_Ends _ _ _ _ _ _ (T24.setTop (mkF m 25 #[.val (.int (1 : Int32)), .val (.ref t21), .val (.int (3 : Int32)), .val (.int (0 : Int32)), .val (.ref wC)] [(.int (1 : Int32)), (.int (1 : Int32))]))
  refine own_of (fun tt_ kk_ => XS.icmpNo X24.here hx rfl (hb hby d_prog_19_method_8_code_25) rfl (teq (by decide : ((1 : Int32) = (1 : Int32)))).2 kk_) ?_
  show own_Ends _ _ _ _ _ _ (T24.setTop (mkF m 28 #[.val (.int (1 : Int32)), .val (.ref t21), .val (.int (3 : Int32)), .val (.int (0 : Int32)), .val (.ref wC)] []))
  refine own_of (fun tt_ kk_ => XS.aload X24.here hx rfl (hb hby d_prog_19_method_8_code_28) rfl rfl kk_) ?_
  show own_Ends _ _ _ _ _ _ (T24.setTop (mkF m 30 #[.val (.int (1 : Int32)), .val (.ref t21), .val (.int (3 : Int32)), .val (.int (0 : Int32)), .val (.ref wC)] [(.ref wC)]))
  obtain ⟨v25, T25, L25, h25, X25, e25, Q25, st25⟩ := own_static X24 hx hZ hown e24 (hw _ (List.mem_of_getElem? (i := 43) rfl)) (hw _ (List.mem_of_getElem? (i := 44) rfl)) (hw _ (List.mem_of_getElem? (i := 31) rfl)) (hw _ (List.mem_of_getElem? (i := 45) rfl)) (by decide) (argsL := [(.ref wC)]) (rest := []) (rm_of l Z a0 hw wC h21 n0 (Nat.le_trans Z0 K.1)) (g := (mkF m 30 #[.val (.int (1 : Int32)), .val (.ref t21), .val (.int (3 : Int32)), .val (.int (0 : Int32)), .val (.ref wC)] [(.ref wC)])) rfl (by rw [hml]; rfl) (lenOf pd__Ljava_lang_Object__r_Ljava_util_Optional_ rfl) rfl (by decide) (Nat.le_of_ble_eq_true rfl) (by decide) (by decide) (hb hby d_prog_19_method_8_code_30)
  obtain ⟨t25, rfl, Nq25, Kq25, szq_t25, Eo25, Fo25⟩ := Q25
  have ne_t21_t25 : t21 ≠ t25 := Nat.ne_of_lt (Nat.lt_of_lt_of_le Vt21.lt szq_t25)
  have sz_t25 : h0.size ≤ t25 := Nat.le_trans K.1 szq_t25
  have g_t25 : n0 ≤ t25 := Nat.le_trans Z0 sz_t25
  replace OL := OL.keep Kq25 all0
  replace Vt21 := Vt21.keep Kq25 nin0
  replace K := K.trans Kq25 all0
  have N25 := Fr.app N21 Nq25
  refine own_of st25 ?_
  show own_Ends _ _ _ _ _ _ (T25.setTop (mkF m 33 #[.val (.int (1 : Int32)), .val (.ref t21), .val (.int (3 : Int32)), .val (.int (0 : Int32)), .val (.ref wC)] [(.ref t25)]))
  refine own_retA X25 hx hlk e25 hret rfl rfl (hb hby d_prog_19_method_8_code_33) (by decide) (by decide) ?_
  exact ⟨t25, rfl, N25, K, sz_t25, Eo25, Fo25⟩
theorem d_prog_19_method_8_code_34 : decode prog_19_method_8_code 34 = .ok (.iinc 3 1, 3) := by decide +kernel
theorem d_prog_19_method_8_code_37 : decode prog_19_method_8_code 37 = .ok (.goto (-28), 3) := by decide +kernel
set_option maxRecDepth 65536 in
set_option maxHeartbeats 40000000 in
theorem rm_om1 (l : Launch) (Z : State) (a0 : Array Value) (hw : ∀ d ∈ tables_1, d.before a0 Z = true) (wV wC wM wL wE : Addr) (kV : ClassId) (h0 : Heap) (n0 : Nat) (Z0 : n0 ≤ h0.size) (SV : Sta Z Z.heap "com/example/drayage/drayage/DropAction" "$VALUES" "[Lcom/example/drayage/drayage/DropAction;" (.ref wV)) (VV : Arv Z Z.heap wV kV (.object "com/example/drayage/drayage/DropAction") (3 : Int32) [(.ref wC), (.ref wM), (.ref wL)] .null) (EV : Exa Z Z.heap wV "[Lcom/example/drayage/drayage/DropAction;") (OL : Old Z n0 h0) (SE : Sta Z Z.heap "java/util/Optional" "EMPTY" "Ljava/util/Optional;" (.ref wE)) (F_wC : Fld Z Z.heap wC "com/example/drayage/drayage/DropAction" "mask" "I" (.int (1 : Int32))) (F_wM : Fld Z Z.heap wM "com/example/drayage/drayage/DropAction" "mask" "I" (.int (2 : Int32))) (F_wL : Fld Z Z.heap wL "com/example/drayage/drayage/DropAction" "mask" "I" (.int (1073741824 : Int32))) :
    own_Met l Z (⟨"com/example/drayage/drayage/DropAction", "ofMask", "(I)Ljava/util/Optional;"⟩ : MethodName) prog_19_method_8_code 5 (some (.object "java/util/Optional")) ({ frames := 3, cells := 2, slots := 4, locals := 38 } : Room) #[(.int (2 : Int32))] h0 (fun v h L => ∃ t : Addr, v = some (.ref t) ∧ Fr n0 L ∧ Keep h0 h [] ∧ h0.size ≤ t ∧ Exa Z h t "java/util/Optional" ∧ Fld Z h t "java/util/Optional" "value" "Ljava/lang/Object;" (.ref wM)) := by
  refine own_body (plainFor_of_name pn_com_example_drayage_drayage_DropAction) ?_
  intro p e s m below meth c T0 X0 e0 hx hby hml hown hnm hret hlk hZ
  replace hown : s.vm.findClass "com/example/drayage/drayage/DropAction" = some m.cls := hown
  have N0 := Fr.nil n0
  refine own_of (fun tt_ kk_ => castTop (ef_prog_19_method_8_codeI m (2 : Int32)) kk_) ?_
  have K := Keep.refl h0 []
  show own_Ends _ _ _ _ _ _ (T0.setTop (mkF m 0 #[.val (.int (2 : Int32)), .unset, .unset, .unset, .unset] []))
  obtain ⟨v26, T26, L26, h26, X26, e26, Q26, st26⟩ := own_static X0 hx hZ hown e0 (hw _ (List.mem_of_getElem? (i := 9) rfl)) (hw _ (List.mem_of_getElem? (i := 10) rfl)) (hw _ (List.mem_of_getElem? (i := 7) rfl)) (hw _ (List.mem_of_getElem? (i := 11) rfl)) (by decide) (argsL := []) (rest := []) (rm_values l Z a0 hw wV wC wM wL kV h0 n0 (Nat.le_trans Z0 K.1) SV VV EV OL) (g := (mkF m 0 #[.val (.int (2 : Int32)), .unset, .unset, .unset, .unset] [])) rfl (by rw [hml]; rfl) (lenOf pd___r_ALcom_example_drayage_drayage_DropAction_ rfl) rfl (by decide) (Nat.le_of_ble_eq_true rfl) (by decide) (by decide) (hb hby d_prog_19_method_8_code_0)
  obtain ⟨t26, rfl, Nq26, Kq26, szq_t26, Vt26⟩ := Q26
  have sz_t26 : h0.size ≤ t26 := Nat.le_trans K.1 szq_t26
  have g_t26 : n0 ≤ t26 := Nat.le_trans Z0 sz_t26
  replace OL := OL.keep Kq26 all0
  replace K := K.trans Kq26 all0
  have N26 := Fr.app N0 Nq26
  refine own_of st26 ?_
  show own_Ends _ _ _ _ _ _ (T26.setTop (mkF m 3 #[.val (.int (2 : Int32)), .unset, .unset, .unset, .unset] [(.ref t26)]))
  refine own_of (fun tt_ kk_ => XS.astoreN X26.here hx rfl (hb hby d_prog_19_method_8_code_3) rfl rfl (l' := #[.val (.int (2 : Int32)), .val (.ref t26), .unset, .unset, .unset]) rfl kk_) ?_
  show own_Ends _ _ _ _ _ _ (T26.setTop (mkF m 4 #[.val (.int (2 : Int32)), .val (.ref t26), .unset, .unset, .unset] []))
  refine own_of (fun tt_ kk_ => XS.aloadN X26.here hx rfl (hb hby d_prog_19_method_8_code_4) rfl rfl kk_) ?_
  show own_Ends _ _ _ _ _ _ (T26.setTop (mkF m 5 #[.val (.int (2 : Int32)), .val (.ref t26), .unset, .unset, .unset] [(.ref t26)]))
  obtain ⟨cl27, Ar27, -, S27, N27', -, -⟩ := id Vt26
  refine own_of (fun tt_ kk_ => X26.arraylength hx (by rw [e26]; exact Ar27.1) (State.isArrayOf_alike hZ.alike Ar27.2.1) (g := (mkF m 5 #[.val (.int (2 : Int32)), .val (.ref t26), .unset, .unset, .unset] [(.ref t26)])) rfl rfl (hb hby d_prog_19_method_8_code_5) _ kk_) ?_
  rw [len_of S27 N27']
  show own_Ends _ _ _ _ _ _ (T26.setTop (mkF m 6 #[.val (.int (2 : Int32)), .val (.ref t26), .unset, .unset, .unset] [(.int (3 : Int32))]))
  refine own_of (fun tt_ kk_ => XS.istoreN X26.here hx rfl (hb hby d_prog_19_method_8_code_6) rfl (l' := #[.val (.int (2 : Int32)), .val (.ref t26), .val (.int (3 : Int32)), .unset, .unset]) rfl kk_) ?_
  show own_Ends _ _ _ _ _ _ (T26.setTop (mkF m 7 #[.val (.int (2 : Int32)), .val (.ref t26), .val (.int (3 : Int32)), .unset, .unset] []))
  refine own_of (fun tt_ kk_ => XS.iconst X26.here hx rfl (hb hby d_prog_19_method_8_code_7) kk_) ?_
  show own_Ends _ _ _ _ _ _ (T26.setTop (mkF m 8 #[.val (.int (2 : Int32)), .val (.ref t26), .val (.int (3 : Int32)), .unset, .unset] [(.int (0 : Int32))]))
  refine own_of (fun tt_ kk_ => XS.istoreN X26.here hx rfl (hb hby d_prog_19_method_8_code_8) rfl (l' := #[.val (.int (2 : Int32)), .val (.ref t26), .val (.int (3 : Int32)), .val (.int (0 : Int32)), .unset]) rfl kk_) ?_
  show own_Ends _ _ _ _ _ _ (T26.setTop (mkF m 9 #[.val (.int (2 : Int32)), .val (.ref t26), .val (.int (3 : Int32)), .val (.int (0 : Int32)), .unset] []))
  refine own_of (fun tt_ kk_ => XS.iloadN X26.here hx rfl (hb hby d_prog_19_method_8_code_9) rfl  kk_) ?_
  show own_Ends _ _ _ _ _ _ (T26.setTop (mkF m 10 #[.val (.int (2 : Int32)), .val (.ref t26), .val (.int (3 : Int32)), .val (.int (0 : Int32)), .unset] [(.int (0 : Int32))]))
  refine own_of (fun tt_ kk_ => XS.iloadN X26.here hx rfl (hb hby d_prog_19_method_8_code_10) rfl  kk_) ?_
  show own_Ends _ _ _ _ _ _ (T26.setTop (mkF m 11 #[.val (.int (2 : Int32)), .val (.ref t26), .val (.int (3 : Int32)), .val (.int (0 : Int32)), .unset] [(.int (3 : Int32)), (.int (0 : Int32))]))
  refine own_of (fun tt_ kk_ => XS.icmpNo X26.here hx rfl (hb hby d_prog_19_method_8_code_11) rfl (tlt (by decide : ((0 : Int32) < (3 : Int32)))).2.1 kk_) ?_
  show own_Ends _ _ _ _ _ _ (T26.setTop (mkF m 14 #[.val (.int (2 : Int32)), .val (.ref t26), .val (.int (3 : Int32)), .val (.int (0 : Int32)), .unset] []))
  refine own_of (fun tt_ kk_ => XS.aloadN X26.here hx rfl (hb hby d_prog_19_method_8_code_14) rfl rfl kk_) ?_
  show own_Ends _ _ _ _ _ _ (T26.setTop (mkF m 15 #[.val (.int (2 : Int32)), .val (.ref t26), .val (.int (3 : Int32)), .val (.int (0 : Int32)), .unset] [(.ref t26)]))
  refine own_of (fun tt_ kk_ => XS.iloadN X26.here hx rfl (hb hby d_prog_19_method_8_code_15) rfl  kk_) ?_
  show own_Ends _ _ _ _ _ _ (T26.setTop (mkF m 16 #[.val (.int (2 : Int32)), .val (.ref t26), .val (.int (3 : Int32)), .val (.int (0 : Int32)), .unset] [(.int (0 : Int32)), (.ref t26)]))
  obtain ⟨cl28, Ar28, q28, S28, N28', H28, G28⟩ := id Vt26
  have hin28 : ¬ ((0 : Int32) < 0 ∨ cl28.slots.size ≤ ((0 : Int32)).toNatClampNeg) := inb_of S28 ⟨by decide, by decide⟩
  have hat28 : cl28.slots[((0 : Int32)).toNatClampNeg]? = some (.ref wC) := H28.at hin28 rfl
  refine own_of (fun tt_ kk_ => X26.aaload hx (j := (0 : Int32)) (v := (.ref wC)) (by rw [e26]; exact Ar28.1) (State.isArrayOf_alike hZ.alike Ar28.2.1) rfl Ar28.2.2 hin28 hat28 (g := (mkF m 16 #[.val (.int (2 : Int32)), .val (.ref t26), .val (.int (3 : Int32)), .val (.int (0 : Int32)), .unset] [(.int (0 : Int32)), (.ref t26)])) rfl rfl (hb hby d_prog_19_method_8_code_16) _ kk_) ?_
  show own_Ends _ _ _ _ _ _ (T26.setTop (mkF m 17 #[.val (.int (2 : Int32)), .val (.ref t26), .val (.int (3 : Int32)), .val (.int (0 : Int32)), .unset] [(.ref wC)]))
  refine own_of (fun tt_ kk_ => XS.astore X26.here hx rfl (hb hby d_prog_19_method_8_code_17) rfl rfl (l' := #[.val (.int (2 : Int32)), .val (.ref t26), .val (.int (3 : Int32)), .val (.int (0 : Int32)), .val (.ref wC)]) rfl kk_) ?_
  show own_Ends _ _ _ _ _ _ (T26.setTop (mkF m 19 #[.val (.int (2 : Int32)), .val (.ref t26), .val (.int (3 : Int32)), .val (.int (0 : Int32)), .val (.ref wC)] []))
  refine own_of (fun tt_ kk_ => XS.aload X26.here hx rfl (hb hby d_prog_19_method_8_code_19) rfl rfl kk_) ?_
  show own_Ends _ _ _ _ _ _ (T26.setTop (mkF m 21 #[.val (.int (2 : Int32)), .val (.ref t26), .val (.int (3 : Int32)), .val (.int (0 : Int32)), .val (.ref wC)] [(.ref wC)]))
  obtain ⟨T29, X29, e29, st29⟩ := getF X26 hx hZ hown (host := "") (Or.inl (hw _ (List.mem_of_getElem? (i := 27) rfl))) Via.refl e26 (F_wC.ext OL.2) (g := (mkF m 21 #[.val (.int (2 : Int32)), .val (.ref t26), .val (.int (3 : Int32)), .val (.int (0 : Int32)), .val (.ref wC)] [(.ref wC)])) rfl rfl (hb hby d_prog_19_method_8_code_21)
  refine own_of st29 ?_
  show own_Ends _ _ _ _ _ _ (T29.setTop (mkF m 24 #[.val (.int (2 : Int32)), .val (.ref t26), .val (.int (3 : Int32)), .val (.int (0 : Int32)), .val (.ref wC)] [(.int (1 : Int32))]))
  refine own_of (fun tt_ kk_ => XS.iloadN X29.here hx rfl (hb hby d_prog_19_method_8_code_24) rfl  kk_) ?_
  show own_Ends _ _ _ _ _ _ (T29.setTop (mkF m 25 #[.val (.int (2 : Int32)), .val (.ref t26), .val (.int (3 : Int32)), .val (.int (0 : Int32)), .val (.ref wC)] [(.int (2 : Int32)), (.int (1 : Int32))]))
  refine own_of (fun tt_ kk_ => XS.icmpYes X29.here hx rfl (pc0 := 25) (pc' := 34) rfl (hb hby d_prog_19_method_8_code_25) rfl (feq (by decide : ¬ ((1 : Int32) = (2 : Int32)))).2 (by decide) (by decide) kk_) ?_
  show own_Ends _ _ _ _ _ _ (T29.setTop (mkF m 34 #[.val (.int (2 : Int32)), .val (.ref t26), .val (.int (3 : Int32)), .val (.int (0 : Int32)), .val (.ref wC)] []))
  refine own_of (fun tt_ kk_ => XS.iinc X29.here hx rfl (hb hby d_prog_19_method_8_code_34) rfl (l' := #[.val (.int (2 : Int32)), .val (.ref t26), .val (.int (3 : Int32)), .val (.int (1 : Int32)), .val (.ref wC)]) rfl kk_) ?_
  show own_Ends _ _ _ _ _ _ (T29.setTop (mkF m 37 #[.val (.int (2 : Int32)), .val (.ref t26), .val (.int (3 : Int32)), .val (.int (1 : Int32)), .val (.ref wC)] []))
  refine own_of (fun tt_ kk_ => XS.goto X29.here hx rfl (pc0 := 37) (pc' := 9) rfl (hb hby d_prog_19_method_8_code_37) (by decide) (by decide) kk_) ?_
  show own_Ends _ _ _ _ _ _ (T29.setTop (mkF m 9 #[.val (.int (2 : Int32)), .val (.ref t26), .val (.int (3 : Int32)), .val (.int (1 : Int32)), .val (.ref wC)] []))
  refine own_of (fun tt_ kk_ => XS.iloadN X29.here hx rfl (hb hby d_prog_19_method_8_code_9) rfl  kk_) ?_
  show own_Ends _ _ _ _ _ _ (T29.setTop (mkF m 10 #[.val (.int (2 : Int32)), .val (.ref t26), .val (.int (3 : Int32)), .val (.int (1 : Int32)), .val (.ref wC)] [(.int (1 : Int32))]))
  refine own_of (fun tt_ kk_ => XS.iloadN X29.here hx rfl (hb hby d_prog_19_method_8_code_10) rfl  kk_) ?_
  show own_Ends _ _ _ _ _ _ (T29.setTop (mkF m 11 #[.val (.int (2 : Int32)), .val (.ref t26), .val (.int (3 : Int32)), .val (.int (1 : Int32)), .val (.ref wC)] [(.int (3 : Int32)), (.int (1 : Int32))]))
  refine own_of (fun tt_ kk_ => XS.icmpNo X29.here hx rfl (hb hby d_prog_19_method_8_code_11) rfl (tlt (by decide : ((1 : Int32) < (3 : Int32)))).2.1 kk_) ?_
  show own_Ends _ _ _ _ _ _ (T29.setTop (mkF m 14 #[.val (.int (2 : Int32)), .val (.ref t26), .val (.int (3 : Int32)), .val (.int (1 : Int32)), .val (.ref wC)] []))
  refine own_of (fun tt_ kk_ => XS.aloadN X29.here hx rfl (hb hby d_prog_19_method_8_code_14) rfl rfl kk_) ?_
  show own_Ends _ _ _ _ _ _ (T29.setTop (mkF m 15 #[.val (.int (2 : Int32)), .val (.ref t26), .val (.int (3 : Int32)), .val (.int (1 : Int32)), .val (.ref wC)] [(.ref t26)]))
  refine own_of (fun tt_ kk_ => XS.iloadN X29.here hx rfl (hb hby d_prog_19_method_8_code_15) rfl  kk_) ?_
  show own_Ends _ _ _ _ _ _ (T29.setTop (mkF m 16 #[.val (.int (2 : Int32)), .val (.ref t26), .val (.int (3 : Int32)), .val (.int (1 : Int32)), .val (.ref wC)] [(.int (1 : Int32)), (.ref t26)]))
  obtain ⟨cl30, Ar30, q30, S30, N30', H30, G30⟩ := id Vt26
  have hin30 : ¬ ((1 : Int32) < 0 ∨ cl30.slots.size ≤ ((1 : Int32)).toNatClampNeg) := inb_of S30 ⟨by decide, by decide⟩
  have hat30 : cl30.slots[((1 : Int32)).toNatClampNeg]? = some (.ref wM) := H30.at hin30 rfl
  refine own_of (fun tt_ kk_ => X29.aaload hx (j := (1 : Int32)) (v := (.ref wM)) (by rw [e29]; exact Ar30.1) (State.isArrayOf_alike hZ.alike Ar30.2.1) rfl Ar30.2.2 hin30 hat30 (g := (mkF m 16 #[.val (.int (2 : Int32)), .val (.ref t26), .val (.int (3 : Int32)), .val (.int (1 : Int32)), .val (.ref wC)] [(.int (1 : Int32)), (.ref t26)])) rfl rfl (hb hby d_prog_19_method_8_code_16) _ kk_) ?_
  show own_Ends _ _ _ _ _ _ (T29.setTop (mkF m 17 #[.val (.int (2 : Int32)), .val (.ref t26), .val (.int (3 : Int32)), .val (.int (1 : Int32)), .val (.ref wC)] [(.ref wM)]))
  refine own_of (fun tt_ kk_ => XS.astore X29.here hx rfl (hb hby d_prog_19_method_8_code_17) rfl rfl (l' := #[.val (.int (2 : Int32)), .val (.ref t26), .val (.int (3 : Int32)), .val (.int (1 : Int32)), .val (.ref wM)]) rfl kk_) ?_
  show own_Ends _ _ _ _ _ _ (T29.setTop (mkF m 19 #[.val (.int (2 : Int32)), .val (.ref t26), .val (.int (3 : Int32)), .val (.int (1 : Int32)), .val (.ref wM)] []))
  refine own_of (fun tt_ kk_ => XS.aload X29.here hx rfl (hb hby d_prog_19_method_8_code_19) rfl rfl kk_) ?_
  show own_Ends _ _ _ _ _ _ (T29.setTop (mkF m 21 #[.val (.int (2 : Int32)), .val (.ref t26), .val (.int (3 : Int32)), .val (.int (1 : Int32)), .val (.ref wM)] [(.ref wM)]))
  obtain ⟨T31, X31, e31, st31⟩ := getF X29 hx hZ hown (host := "") (Or.inl (hw _ (List.mem_of_getElem? (i := 27) rfl))) Via.refl e29 (F_wM.ext OL.2) (g := (mkF m 21 #[.val (.int (2 : Int32)), .val (.ref t26), .val (.int (3 : Int32)), .val (.int (1 : Int32)), .val (.ref wM)] [(.ref wM)])) rfl rfl (hb hby d_prog_19_method_8_code_21)
  refine own_of st31 ?_
  show own_Ends _ _ _ _ _ _ (T31.setTop (mkF m 24 #[.val (.int (2 : Int32)), .val (.ref t26), .val (.int (3 : Int32)), .val (.int (1 : Int32)), .val (.ref wM)] [(.int (2 : Int32))]))
  refine own_of (fun tt_ kk_ => XS.iloadN X31.here hx rfl (hb hby d_prog_19_method_8_code_24) rfl  kk_) ?_
  show own_Ends _ _ _ _ _ _ (T31.setTop (mkF m 25 #[.val (.int (2 : Int32)), .val (.ref t26), .val (.int (3 : Int32)), .val (.int (1 : Int32)), .val (.ref wM)] [(.int (2 : Int32)), (.int (2 : Int32))]))
  refine own_of (fun tt_ kk_ => XS.icmpNo X31.here hx rfl (hb hby d_prog_19_method_8_code_25) rfl (teq (by decide : ((2 : Int32) = (2 : Int32)))).2 kk_) ?_
  show own_Ends _ _ _ _ _ _ (T31.setTop (mkF m 28 #[.val (.int (2 : Int32)), .val (.ref t26), .val (.int (3 : Int32)), .val (.int (1 : Int32)), .val (.ref wM)] []))
  refine own_of (fun tt_ kk_ => XS.aload X31.here hx rfl (hb hby d_prog_19_method_8_code_28) rfl rfl kk_) ?_
  show own_Ends _ _ _ _ _ _ (T31.setTop (mkF m 30 #[.val (.int (2 : Int32)), .val (.ref t26), .val (.int (3 : Int32)), .val (.int (1 : Int32)), .val (.ref wM)] [(.ref wM)]))
  obtain ⟨v32, T32, L32, h32, X32, e32, Q32, st32⟩ := own_static X31 hx hZ hown e31 (hw _ (List.mem_of_getElem? (i := 43) rfl)) (hw _ (List.mem_of_getElem? (i := 44) rfl)) (hw _ (List.mem_of_getElem? (i := 31) rfl)) (hw _ (List.mem_of_getElem? (i := 45) rfl)) (by decide) (argsL := [(.ref wM)]) (rest := []) (rm_of l Z a0 hw wM h26 n0 (Nat.le_trans Z0 K.1)) (g := (mkF m 30 #[.val (.int (2 : Int32)), .val (.ref t26), .val (.int (3 : Int32)), .val (.int (1 : Int32)), .val (.ref wM)] [(.ref wM)])) rfl (by rw [hml]; rfl) (lenOf pd__Ljava_lang_Object__r_Ljava_util_Optional_ rfl) rfl (by decide) (Nat.le_of_ble_eq_true rfl) (by decide) (by decide) (hb hby d_prog_19_method_8_code_30)
  obtain ⟨t32, rfl, Nq32, Kq32, szq_t32, Eo32, Fo32⟩ := Q32
  have ne_t26_t32 : t26 ≠ t32 := Nat.ne_of_lt (Nat.lt_of_lt_of_le Vt26.lt szq_t32)
  have sz_t32 : h0.size ≤ t32 := Nat.le_trans K.1 szq_t32
  have g_t32 : n0 ≤ t32 := Nat.le_trans Z0 sz_t32
  replace OL := OL.keep Kq32 all0
  replace Vt26 := Vt26.keep Kq32 nin0
  replace K := K.trans Kq32 all0
  have N32 := Fr.app N26 Nq32
  refine own_of st32 ?_
  show own_Ends _ _ _ _ _ _ (T32.setTop (mkF m 33 #[.val (.int (2 : Int32)), .val (.ref t26), .val (.int (3 : Int32)), .val (.int (1 : Int32)), .val (.ref wM)] [(.ref t32)]))
  refine own_retA X32 hx hlk e32 hret rfl rfl (hb hby d_prog_19_method_8_code_33) (by decide) (by decide) ?_
  exact ⟨t32, rfl, N32, K, sz_t32, Eo32, Fo32⟩
set_option maxRecDepth 65536 in
set_option maxHeartbeats 40000000 in
theorem rm_om2 (l : Launch) (Z : State) (a0 : Array Value) (hw : ∀ d ∈ tables_1, d.before a0 Z = true) (wV wC wM wL wE : Addr) (kV : ClassId) (h0 : Heap) (n0 : Nat) (Z0 : n0 ≤ h0.size) (SV : Sta Z Z.heap "com/example/drayage/drayage/DropAction" "$VALUES" "[Lcom/example/drayage/drayage/DropAction;" (.ref wV)) (VV : Arv Z Z.heap wV kV (.object "com/example/drayage/drayage/DropAction") (3 : Int32) [(.ref wC), (.ref wM), (.ref wL)] .null) (EV : Exa Z Z.heap wV "[Lcom/example/drayage/drayage/DropAction;") (OL : Old Z n0 h0) (SE : Sta Z Z.heap "java/util/Optional" "EMPTY" "Ljava/util/Optional;" (.ref wE)) (F_wC : Fld Z Z.heap wC "com/example/drayage/drayage/DropAction" "mask" "I" (.int (1 : Int32))) (F_wM : Fld Z Z.heap wM "com/example/drayage/drayage/DropAction" "mask" "I" (.int (2 : Int32))) (F_wL : Fld Z Z.heap wL "com/example/drayage/drayage/DropAction" "mask" "I" (.int (1073741824 : Int32))) :
    own_Met l Z (⟨"com/example/drayage/drayage/DropAction", "ofMask", "(I)Ljava/util/Optional;"⟩ : MethodName) prog_19_method_8_code 5 (some (.object "java/util/Optional")) ({ frames := 3, cells := 2, slots := 4, locals := 38 } : Room) #[(.int (1073741824 : Int32))] h0 (fun v h L => ∃ t : Addr, v = some (.ref t) ∧ Fr n0 L ∧ Keep h0 h [] ∧ h0.size ≤ t ∧ Exa Z h t "java/util/Optional" ∧ Fld Z h t "java/util/Optional" "value" "Ljava/lang/Object;" (.ref wL)) := by
  refine own_body (plainFor_of_name pn_com_example_drayage_drayage_DropAction) ?_
  intro p e s m below meth c T0 X0 e0 hx hby hml hown hnm hret hlk hZ
  replace hown : s.vm.findClass "com/example/drayage/drayage/DropAction" = some m.cls := hown
  have N0 := Fr.nil n0
  refine own_of (fun tt_ kk_ => castTop (ef_prog_19_method_8_codeI m (1073741824 : Int32)) kk_) ?_
  have K := Keep.refl h0 []
  show own_Ends _ _ _ _ _ _ (T0.setTop (mkF m 0 #[.val (.int (1073741824 : Int32)), .unset, .unset, .unset, .unset] []))
  obtain ⟨v33, T33, L33, h33, X33, e33, Q33, st33⟩ := own_static X0 hx hZ hown e0 (hw _ (List.mem_of_getElem? (i := 9) rfl)) (hw _ (List.mem_of_getElem? (i := 10) rfl)) (hw _ (List.mem_of_getElem? (i := 7) rfl)) (hw _ (List.mem_of_getElem? (i := 11) rfl)) (by decide) (argsL := []) (rest := []) (rm_values l Z a0 hw wV wC wM wL kV h0 n0 (Nat.le_trans Z0 K.1) SV VV EV OL) (g := (mkF m 0 #[.val (.int (1073741824 : Int32)), .unset, .unset, .unset, .unset] [])) rfl (by rw [hml]; rfl) (lenOf pd___r_ALcom_example_drayage_drayage_DropAction_ rfl) rfl (by decide) (Nat.le_of_ble_eq_true rfl) (by decide) (by decide) (hb hby d_prog_19_method_8_code_0)
  obtain ⟨t33, rfl, Nq33, Kq33, szq_t33, Vt33⟩ := Q33
  have sz_t33 : h0.size ≤ t33 := Nat.le_trans K.1 szq_t33
  have g_t33 : n0 ≤ t33 := Nat.le_trans Z0 sz_t33
  replace OL := OL.keep Kq33 all0
  replace K := K.trans Kq33 all0
  have N33 := Fr.app N0 Nq33
  refine own_of st33 ?_
  show own_Ends _ _ _ _ _ _ (T33.setTop (mkF m 3 #[.val (.int (1073741824 : Int32)), .unset, .unset, .unset, .unset] [(.ref t33)]))
  refine own_of (fun tt_ kk_ => XS.astoreN X33.here hx rfl (hb hby d_prog_19_method_8_code_3) rfl rfl (l' := #[.val (.int (1073741824 : Int32)), .val (.ref t33), .unset, .unset, .unset]) rfl kk_) ?_
  show own_Ends _ _ _ _ _ _ (T33.setTop (mkF m 4 #[.val (.int (1073741824 : Int32)), .val (.ref t33), .unset, .unset, .unset] []))
  refine own_of (fun tt_ kk_ => XS.aloadN X33.here hx rfl (hb hby d_prog_19_method_8_code_4) rfl rfl kk_) ?_
  show own_Ends _ _ _ _ _ _ (T33.setTop (mkF m 5 #[.val (.int (1073741824 : Int32)), .val (.ref t33), .unset, .unset, .unset] [(.ref t33)]))
  obtain ⟨cl34, Ar34, -, S34, N34', -, -⟩ := id Vt33
  refine own_of (fun tt_ kk_ => X33.arraylength hx (by rw [e33]; exact Ar34.1) (State.isArrayOf_alike hZ.alike Ar34.2.1) (g := (mkF m 5 #[.val (.int (1073741824 : Int32)), .val (.ref t33), .unset, .unset, .unset] [(.ref t33)])) rfl rfl (hb hby d_prog_19_method_8_code_5) _ kk_) ?_
  rw [len_of S34 N34']
  show own_Ends _ _ _ _ _ _ (T33.setTop (mkF m 6 #[.val (.int (1073741824 : Int32)), .val (.ref t33), .unset, .unset, .unset] [(.int (3 : Int32))]))
  refine own_of (fun tt_ kk_ => XS.istoreN X33.here hx rfl (hb hby d_prog_19_method_8_code_6) rfl (l' := #[.val (.int (1073741824 : Int32)), .val (.ref t33), .val (.int (3 : Int32)), .unset, .unset]) rfl kk_) ?_
  show own_Ends _ _ _ _ _ _ (T33.setTop (mkF m 7 #[.val (.int (1073741824 : Int32)), .val (.ref t33), .val (.int (3 : Int32)), .unset, .unset] []))
  refine own_of (fun tt_ kk_ => XS.iconst X33.here hx rfl (hb hby d_prog_19_method_8_code_7) kk_) ?_
  show own_Ends _ _ _ _ _ _ (T33.setTop (mkF m 8 #[.val (.int (1073741824 : Int32)), .val (.ref t33), .val (.int (3 : Int32)), .unset, .unset] [(.int (0 : Int32))]))
  refine own_of (fun tt_ kk_ => XS.istoreN X33.here hx rfl (hb hby d_prog_19_method_8_code_8) rfl (l' := #[.val (.int (1073741824 : Int32)), .val (.ref t33), .val (.int (3 : Int32)), .val (.int (0 : Int32)), .unset]) rfl kk_) ?_
  show own_Ends _ _ _ _ _ _ (T33.setTop (mkF m 9 #[.val (.int (1073741824 : Int32)), .val (.ref t33), .val (.int (3 : Int32)), .val (.int (0 : Int32)), .unset] []))
  refine own_of (fun tt_ kk_ => XS.iloadN X33.here hx rfl (hb hby d_prog_19_method_8_code_9) rfl  kk_) ?_
  show own_Ends _ _ _ _ _ _ (T33.setTop (mkF m 10 #[.val (.int (1073741824 : Int32)), .val (.ref t33), .val (.int (3 : Int32)), .val (.int (0 : Int32)), .unset] [(.int (0 : Int32))]))
  refine own_of (fun tt_ kk_ => XS.iloadN X33.here hx rfl (hb hby d_prog_19_method_8_code_10) rfl  kk_) ?_
  show own_Ends _ _ _ _ _ _ (T33.setTop (mkF m 11 #[.val (.int (1073741824 : Int32)), .val (.ref t33), .val (.int (3 : Int32)), .val (.int (0 : Int32)), .unset] [(.int (3 : Int32)), (.int (0 : Int32))]))
  refine own_of (fun tt_ kk_ => XS.icmpNo X33.here hx rfl (hb hby d_prog_19_method_8_code_11) rfl (tlt (by decide : ((0 : Int32) < (3 : Int32)))).2.1 kk_) ?_
  show own_Ends _ _ _ _ _ _ (T33.setTop (mkF m 14 #[.val (.int (1073741824 : Int32)), .val (.ref t33), .val (.int (3 : Int32)), .val (.int (0 : Int32)), .unset] []))
  refine own_of (fun tt_ kk_ => XS.aloadN X33.here hx rfl (hb hby d_prog_19_method_8_code_14) rfl rfl kk_) ?_
  show own_Ends _ _ _ _ _ _ (T33.setTop (mkF m 15 #[.val (.int (1073741824 : Int32)), .val (.ref t33), .val (.int (3 : Int32)), .val (.int (0 : Int32)), .unset] [(.ref t33)]))
  refine own_of (fun tt_ kk_ => XS.iloadN X33.here hx rfl (hb hby d_prog_19_method_8_code_15) rfl  kk_) ?_
  show own_Ends _ _ _ _ _ _ (T33.setTop (mkF m 16 #[.val (.int (1073741824 : Int32)), .val (.ref t33), .val (.int (3 : Int32)), .val (.int (0 : Int32)), .unset] [(.int (0 : Int32)), (.ref t33)]))
  obtain ⟨cl35, Ar35, q35, S35, N35', H35, G35⟩ := id Vt33
  have hin35 : ¬ ((0 : Int32) < 0 ∨ cl35.slots.size ≤ ((0 : Int32)).toNatClampNeg) := inb_of S35 ⟨by decide, by decide⟩
  have hat35 : cl35.slots[((0 : Int32)).toNatClampNeg]? = some (.ref wC) := H35.at hin35 rfl
  refine own_of (fun tt_ kk_ => X33.aaload hx (j := (0 : Int32)) (v := (.ref wC)) (by rw [e33]; exact Ar35.1) (State.isArrayOf_alike hZ.alike Ar35.2.1) rfl Ar35.2.2 hin35 hat35 (g := (mkF m 16 #[.val (.int (1073741824 : Int32)), .val (.ref t33), .val (.int (3 : Int32)), .val (.int (0 : Int32)), .unset] [(.int (0 : Int32)), (.ref t33)])) rfl rfl (hb hby d_prog_19_method_8_code_16) _ kk_) ?_
  show own_Ends _ _ _ _ _ _ (T33.setTop (mkF m 17 #[.val (.int (1073741824 : Int32)), .val (.ref t33), .val (.int (3 : Int32)), .val (.int (0 : Int32)), .unset] [(.ref wC)]))
  refine own_of (fun tt_ kk_ => XS.astore X33.here hx rfl (hb hby d_prog_19_method_8_code_17) rfl rfl (l' := #[.val (.int (1073741824 : Int32)), .val (.ref t33), .val (.int (3 : Int32)), .val (.int (0 : Int32)), .val (.ref wC)]) rfl kk_) ?_
  show own_Ends _ _ _ _ _ _ (T33.setTop (mkF m 19 #[.val (.int (1073741824 : Int32)), .val (.ref t33), .val (.int (3 : Int32)), .val (.int (0 : Int32)), .val (.ref wC)] []))
  refine own_of (fun tt_ kk_ => XS.aload X33.here hx rfl (hb hby d_prog_19_method_8_code_19) rfl rfl kk_) ?_
  show own_Ends _ _ _ _ _ _ (T33.setTop (mkF m 21 #[.val (.int (1073741824 : Int32)), .val (.ref t33), .val (.int (3 : Int32)), .val (.int (0 : Int32)), .val (.ref wC)] [(.ref wC)]))
  obtain ⟨T36, X36, e36, st36⟩ := getF X33 hx hZ hown (host := "") (Or.inl (hw _ (List.mem_of_getElem? (i := 27) rfl))) Via.refl e33 (F_wC.ext OL.2) (g := (mkF m 21 #[.val (.int (1073741824 : Int32)), .val (.ref t33), .val (.int (3 : Int32)), .val (.int (0 : Int32)), .val (.ref wC)] [(.ref wC)])) rfl rfl (hb hby d_prog_19_method_8_code_21)
  refine own_of st36 ?_
  show own_Ends _ _ _ _ _ _ (T36.setTop (mkF m 24 #[.val (.int (1073741824 : Int32)), .val (.ref t33), .val (.int (3 : Int32)), .val (.int (0 : Int32)), .val (.ref wC)] [(.int (1 : Int32))]))
  refine own_of (fun tt_ kk_ => XS.iloadN X36.here hx rfl (hb hby d_prog_19_method_8_code_24) rfl  kk_) ?_
  show own_Ends _ _ _ _ _ _ (T36.setTop (mkF m 25 #[.val (.int (1073741824 : Int32)), .val (.ref t33), .val (.int (3 : Int32)), .val (.int (0 : Int32)), .val (.ref wC)] [(.int (1073741824 : Int32)), (.int (1 : Int32))]))
  refine own_of (fun tt_ kk_ => XS.icmpYes X36.here hx rfl (pc0 := 25) (pc' := 34) rfl (hb hby d_prog_19_method_8_code_25) rfl (feq (by decide : ¬ ((1 : Int32) = (1073741824 : Int32)))).2 (by decide) (by decide) kk_) ?_
  show own_Ends _ _ _ _ _ _ (T36.setTop (mkF m 34 #[.val (.int (1073741824 : Int32)), .val (.ref t33), .val (.int (3 : Int32)), .val (.int (0 : Int32)), .val (.ref wC)] []))
  refine own_of (fun tt_ kk_ => XS.iinc X36.here hx rfl (hb hby d_prog_19_method_8_code_34) rfl (l' := #[.val (.int (1073741824 : Int32)), .val (.ref t33), .val (.int (3 : Int32)), .val (.int (1 : Int32)), .val (.ref wC)]) rfl kk_) ?_
  show own_Ends _ _ _ _ _ _ (T36.setTop (mkF m 37 #[.val (.int (1073741824 : Int32)), .val (.ref t33), .val (.int (3 : Int32)), .val (.int (1 : Int32)), .val (.ref wC)] []))
  refine own_of (fun tt_ kk_ => XS.goto X36.here hx rfl (pc0 := 37) (pc' := 9) rfl (hb hby d_prog_19_method_8_code_37) (by decide) (by decide) kk_) ?_
  show own_Ends _ _ _ _ _ _ (T36.setTop (mkF m 9 #[.val (.int (1073741824 : Int32)), .val (.ref t33), .val (.int (3 : Int32)), .val (.int (1 : Int32)), .val (.ref wC)] []))
  refine own_of (fun tt_ kk_ => XS.iloadN X36.here hx rfl (hb hby d_prog_19_method_8_code_9) rfl  kk_) ?_
  show own_Ends _ _ _ _ _ _ (T36.setTop (mkF m 10 #[.val (.int (1073741824 : Int32)), .val (.ref t33), .val (.int (3 : Int32)), .val (.int (1 : Int32)), .val (.ref wC)] [(.int (1 : Int32))]))
  refine own_of (fun tt_ kk_ => XS.iloadN X36.here hx rfl (hb hby d_prog_19_method_8_code_10) rfl  kk_) ?_
  show own_Ends _ _ _ _ _ _ (T36.setTop (mkF m 11 #[.val (.int (1073741824 : Int32)), .val (.ref t33), .val (.int (3 : Int32)), .val (.int (1 : Int32)), .val (.ref wC)] [(.int (3 : Int32)), (.int (1 : Int32))]))
  refine own_of (fun tt_ kk_ => XS.icmpNo X36.here hx rfl (hb hby d_prog_19_method_8_code_11) rfl (tlt (by decide : ((1 : Int32) < (3 : Int32)))).2.1 kk_) ?_
  show own_Ends _ _ _ _ _ _ (T36.setTop (mkF m 14 #[.val (.int (1073741824 : Int32)), .val (.ref t33), .val (.int (3 : Int32)), .val (.int (1 : Int32)), .val (.ref wC)] []))
  refine own_of (fun tt_ kk_ => XS.aloadN X36.here hx rfl (hb hby d_prog_19_method_8_code_14) rfl rfl kk_) ?_
  show own_Ends _ _ _ _ _ _ (T36.setTop (mkF m 15 #[.val (.int (1073741824 : Int32)), .val (.ref t33), .val (.int (3 : Int32)), .val (.int (1 : Int32)), .val (.ref wC)] [(.ref t33)]))
  refine own_of (fun tt_ kk_ => XS.iloadN X36.here hx rfl (hb hby d_prog_19_method_8_code_15) rfl  kk_) ?_
  show own_Ends _ _ _ _ _ _ (T36.setTop (mkF m 16 #[.val (.int (1073741824 : Int32)), .val (.ref t33), .val (.int (3 : Int32)), .val (.int (1 : Int32)), .val (.ref wC)] [(.int (1 : Int32)), (.ref t33)]))
  obtain ⟨cl37, Ar37, q37, S37, N37', H37, G37⟩ := id Vt33
  have hin37 : ¬ ((1 : Int32) < 0 ∨ cl37.slots.size ≤ ((1 : Int32)).toNatClampNeg) := inb_of S37 ⟨by decide, by decide⟩
  have hat37 : cl37.slots[((1 : Int32)).toNatClampNeg]? = some (.ref wM) := H37.at hin37 rfl
  refine own_of (fun tt_ kk_ => X36.aaload hx (j := (1 : Int32)) (v := (.ref wM)) (by rw [e36]; exact Ar37.1) (State.isArrayOf_alike hZ.alike Ar37.2.1) rfl Ar37.2.2 hin37 hat37 (g := (mkF m 16 #[.val (.int (1073741824 : Int32)), .val (.ref t33), .val (.int (3 : Int32)), .val (.int (1 : Int32)), .val (.ref wC)] [(.int (1 : Int32)), (.ref t33)])) rfl rfl (hb hby d_prog_19_method_8_code_16) _ kk_) ?_
  show own_Ends _ _ _ _ _ _ (T36.setTop (mkF m 17 #[.val (.int (1073741824 : Int32)), .val (.ref t33), .val (.int (3 : Int32)), .val (.int (1 : Int32)), .val (.ref wC)] [(.ref wM)]))
  refine own_of (fun tt_ kk_ => XS.astore X36.here hx rfl (hb hby d_prog_19_method_8_code_17) rfl rfl (l' := #[.val (.int (1073741824 : Int32)), .val (.ref t33), .val (.int (3 : Int32)), .val (.int (1 : Int32)), .val (.ref wM)]) rfl kk_) ?_
  show own_Ends _ _ _ _ _ _ (T36.setTop (mkF m 19 #[.val (.int (1073741824 : Int32)), .val (.ref t33), .val (.int (3 : Int32)), .val (.int (1 : Int32)), .val (.ref wM)] []))
  refine own_of (fun tt_ kk_ => XS.aload X36.here hx rfl (hb hby d_prog_19_method_8_code_19) rfl rfl kk_) ?_
  show own_Ends _ _ _ _ _ _ (T36.setTop (mkF m 21 #[.val (.int (1073741824 : Int32)), .val (.ref t33), .val (.int (3 : Int32)), .val (.int (1 : Int32)), .val (.ref wM)] [(.ref wM)]))
  obtain ⟨T38, X38, e38, st38⟩ := getF X36 hx hZ hown (host := "") (Or.inl (hw _ (List.mem_of_getElem? (i := 27) rfl))) Via.refl e36 (F_wM.ext OL.2) (g := (mkF m 21 #[.val (.int (1073741824 : Int32)), .val (.ref t33), .val (.int (3 : Int32)), .val (.int (1 : Int32)), .val (.ref wM)] [(.ref wM)])) rfl rfl (hb hby d_prog_19_method_8_code_21)
  refine own_of st38 ?_
  show own_Ends _ _ _ _ _ _ (T38.setTop (mkF m 24 #[.val (.int (1073741824 : Int32)), .val (.ref t33), .val (.int (3 : Int32)), .val (.int (1 : Int32)), .val (.ref wM)] [(.int (2 : Int32))]))
  refine own_of (fun tt_ kk_ => XS.iloadN X38.here hx rfl (hb hby d_prog_19_method_8_code_24) rfl  kk_) ?_
  show own_Ends _ _ _ _ _ _ (T38.setTop (mkF m 25 #[.val (.int (1073741824 : Int32)), .val (.ref t33), .val (.int (3 : Int32)), .val (.int (1 : Int32)), .val (.ref wM)] [(.int (1073741824 : Int32)), (.int (2 : Int32))]))
  refine own_of (fun tt_ kk_ => XS.icmpYes X38.here hx rfl (pc0 := 25) (pc' := 34) rfl (hb hby d_prog_19_method_8_code_25) rfl (feq (by decide : ¬ ((2 : Int32) = (1073741824 : Int32)))).2 (by decide) (by decide) kk_) ?_
  show own_Ends _ _ _ _ _ _ (T38.setTop (mkF m 34 #[.val (.int (1073741824 : Int32)), .val (.ref t33), .val (.int (3 : Int32)), .val (.int (1 : Int32)), .val (.ref wM)] []))
  refine own_of (fun tt_ kk_ => XS.iinc X38.here hx rfl (hb hby d_prog_19_method_8_code_34) rfl (l' := #[.val (.int (1073741824 : Int32)), .val (.ref t33), .val (.int (3 : Int32)), .val (.int (2 : Int32)), .val (.ref wM)]) rfl kk_) ?_
  show own_Ends _ _ _ _ _ _ (T38.setTop (mkF m 37 #[.val (.int (1073741824 : Int32)), .val (.ref t33), .val (.int (3 : Int32)), .val (.int (2 : Int32)), .val (.ref wM)] []))
  refine own_of (fun tt_ kk_ => XS.goto X38.here hx rfl (pc0 := 37) (pc' := 9) rfl (hb hby d_prog_19_method_8_code_37) (by decide) (by decide) kk_) ?_
  show own_Ends _ _ _ _ _ _ (T38.setTop (mkF m 9 #[.val (.int (1073741824 : Int32)), .val (.ref t33), .val (.int (3 : Int32)), .val (.int (2 : Int32)), .val (.ref wM)] []))
  refine own_of (fun tt_ kk_ => XS.iloadN X38.here hx rfl (hb hby d_prog_19_method_8_code_9) rfl  kk_) ?_
  show own_Ends _ _ _ _ _ _ (T38.setTop (mkF m 10 #[.val (.int (1073741824 : Int32)), .val (.ref t33), .val (.int (3 : Int32)), .val (.int (2 : Int32)), .val (.ref wM)] [(.int (2 : Int32))]))
  refine own_of (fun tt_ kk_ => XS.iloadN X38.here hx rfl (hb hby d_prog_19_method_8_code_10) rfl  kk_) ?_
  show own_Ends _ _ _ _ _ _ (T38.setTop (mkF m 11 #[.val (.int (1073741824 : Int32)), .val (.ref t33), .val (.int (3 : Int32)), .val (.int (2 : Int32)), .val (.ref wM)] [(.int (3 : Int32)), (.int (2 : Int32))]))
  refine own_of (fun tt_ kk_ => XS.icmpNo X38.here hx rfl (hb hby d_prog_19_method_8_code_11) rfl (tlt (by decide : ((2 : Int32) < (3 : Int32)))).2.1 kk_) ?_
  show own_Ends _ _ _ _ _ _ (T38.setTop (mkF m 14 #[.val (.int (1073741824 : Int32)), .val (.ref t33), .val (.int (3 : Int32)), .val (.int (2 : Int32)), .val (.ref wM)] []))
  refine own_of (fun tt_ kk_ => XS.aloadN X38.here hx rfl (hb hby d_prog_19_method_8_code_14) rfl rfl kk_) ?_
  show own_Ends _ _ _ _ _ _ (T38.setTop (mkF m 15 #[.val (.int (1073741824 : Int32)), .val (.ref t33), .val (.int (3 : Int32)), .val (.int (2 : Int32)), .val (.ref wM)] [(.ref t33)]))
  refine own_of (fun tt_ kk_ => XS.iloadN X38.here hx rfl (hb hby d_prog_19_method_8_code_15) rfl  kk_) ?_
  show own_Ends _ _ _ _ _ _ (T38.setTop (mkF m 16 #[.val (.int (1073741824 : Int32)), .val (.ref t33), .val (.int (3 : Int32)), .val (.int (2 : Int32)), .val (.ref wM)] [(.int (2 : Int32)), (.ref t33)]))
  obtain ⟨cl39, Ar39, q39, S39, N39', H39, G39⟩ := id Vt33
  have hin39 : ¬ ((2 : Int32) < 0 ∨ cl39.slots.size ≤ ((2 : Int32)).toNatClampNeg) := inb_of S39 ⟨by decide, by decide⟩
  have hat39 : cl39.slots[((2 : Int32)).toNatClampNeg]? = some (.ref wL) := H39.at hin39 rfl
  refine own_of (fun tt_ kk_ => X38.aaload hx (j := (2 : Int32)) (v := (.ref wL)) (by rw [e38]; exact Ar39.1) (State.isArrayOf_alike hZ.alike Ar39.2.1) rfl Ar39.2.2 hin39 hat39 (g := (mkF m 16 #[.val (.int (1073741824 : Int32)), .val (.ref t33), .val (.int (3 : Int32)), .val (.int (2 : Int32)), .val (.ref wM)] [(.int (2 : Int32)), (.ref t33)])) rfl rfl (hb hby d_prog_19_method_8_code_16) _ kk_) ?_
  show own_Ends _ _ _ _ _ _ (T38.setTop (mkF m 17 #[.val (.int (1073741824 : Int32)), .val (.ref t33), .val (.int (3 : Int32)), .val (.int (2 : Int32)), .val (.ref wM)] [(.ref wL)]))
  refine own_of (fun tt_ kk_ => XS.astore X38.here hx rfl (hb hby d_prog_19_method_8_code_17) rfl rfl (l' := #[.val (.int (1073741824 : Int32)), .val (.ref t33), .val (.int (3 : Int32)), .val (.int (2 : Int32)), .val (.ref wL)]) rfl kk_) ?_
  show own_Ends _ _ _ _ _ _ (T38.setTop (mkF m 19 #[.val (.int (1073741824 : Int32)), .val (.ref t33), .val (.int (3 : Int32)), .val (.int (2 : Int32)), .val (.ref wL)] []))
  refine own_of (fun tt_ kk_ => XS.aload X38.here hx rfl (hb hby d_prog_19_method_8_code_19) rfl rfl kk_) ?_
  show own_Ends _ _ _ _ _ _ (T38.setTop (mkF m 21 #[.val (.int (1073741824 : Int32)), .val (.ref t33), .val (.int (3 : Int32)), .val (.int (2 : Int32)), .val (.ref wL)] [(.ref wL)]))
  obtain ⟨T40, X40, e40, st40⟩ := getF X38 hx hZ hown (host := "") (Or.inl (hw _ (List.mem_of_getElem? (i := 27) rfl))) Via.refl e38 (F_wL.ext OL.2) (g := (mkF m 21 #[.val (.int (1073741824 : Int32)), .val (.ref t33), .val (.int (3 : Int32)), .val (.int (2 : Int32)), .val (.ref wL)] [(.ref wL)])) rfl rfl (hb hby d_prog_19_method_8_code_21)
  refine own_of st40 ?_
  show own_Ends _ _ _ _ _ _ (T40.setTop (mkF m 24 #[.val (.int (1073741824 : Int32)), .val (.ref t33), .val (.int (3 : Int32)), .val (.int (2 : Int32)), .val (.ref wL)] [(.int (1073741824 : Int32))]))
  refine own_of (fun tt_ kk_ => XS.iloadN X40.here hx rfl (hb hby d_prog_19_method_8_code_24) rfl  kk_) ?_
  show own_Ends _ _ _ _ _ _ (T40.setTop (mkF m 25 #[.val (.int (1073741824 : Int32)), .val (.ref t33), .val (.int (3 : Int32)), .val (.int (2 : Int32)), .val (.ref wL)] [(.int (1073741824 : Int32)), (.int (1073741824 : Int32))]))
  refine own_of (fun tt_ kk_ => XS.icmpNo X40.here hx rfl (hb hby d_prog_19_method_8_code_25) rfl (teq (by decide : ((1073741824 : Int32) = (1073741824 : Int32)))).2 kk_) ?_
  show own_Ends _ _ _ _ _ _ (T40.setTop (mkF m 28 #[.val (.int (1073741824 : Int32)), .val (.ref t33), .val (.int (3 : Int32)), .val (.int (2 : Int32)), .val (.ref wL)] []))
  refine own_of (fun tt_ kk_ => XS.aload X40.here hx rfl (hb hby d_prog_19_method_8_code_28) rfl rfl kk_) ?_
  show own_Ends _ _ _ _ _ _ (T40.setTop (mkF m 30 #[.val (.int (1073741824 : Int32)), .val (.ref t33), .val (.int (3 : Int32)), .val (.int (2 : Int32)), .val (.ref wL)] [(.ref wL)]))
  obtain ⟨v41, T41, L41, h41, X41, e41, Q41, st41⟩ := own_static X40 hx hZ hown e40 (hw _ (List.mem_of_getElem? (i := 43) rfl)) (hw _ (List.mem_of_getElem? (i := 44) rfl)) (hw _ (List.mem_of_getElem? (i := 31) rfl)) (hw _ (List.mem_of_getElem? (i := 45) rfl)) (by decide) (argsL := [(.ref wL)]) (rest := []) (rm_of l Z a0 hw wL h33 n0 (Nat.le_trans Z0 K.1)) (g := (mkF m 30 #[.val (.int (1073741824 : Int32)), .val (.ref t33), .val (.int (3 : Int32)), .val (.int (2 : Int32)), .val (.ref wL)] [(.ref wL)])) rfl (by rw [hml]; rfl) (lenOf pd__Ljava_lang_Object__r_Ljava_util_Optional_ rfl) rfl (by decide) (Nat.le_of_ble_eq_true rfl) (by decide) (by decide) (hb hby d_prog_19_method_8_code_30)
  obtain ⟨t41, rfl, Nq41, Kq41, szq_t41, Eo41, Fo41⟩ := Q41
  have ne_t33_t41 : t33 ≠ t41 := Nat.ne_of_lt (Nat.lt_of_lt_of_le Vt33.lt szq_t41)
  have sz_t41 : h0.size ≤ t41 := Nat.le_trans K.1 szq_t41
  have g_t41 : n0 ≤ t41 := Nat.le_trans Z0 sz_t41
  replace OL := OL.keep Kq41 all0
  replace Vt33 := Vt33.keep Kq41 nin0
  replace K := K.trans Kq41 all0
  have N41 := Fr.app N33 Nq41
  refine own_of st41 ?_
  show own_Ends _ _ _ _ _ _ (T41.setTop (mkF m 33 #[.val (.int (1073741824 : Int32)), .val (.ref t33), .val (.int (3 : Int32)), .val (.int (2 : Int32)), .val (.ref wL)] [(.ref t41)]))
  refine own_retA X41 hx hlk e41 hret rfl rfl (hb hby d_prog_19_method_8_code_33) (by decide) (by decide) ?_
  exact ⟨t41, rfl, N41, K, sz_t41, Eo41, Fo41⟩
theorem pd___r_Ljava_util_Optional_ : parseMethodDescriptor "()Ljava/util/Optional;" = some ⟨[], some (.object "java/util/Optional")⟩ := by decide +kernel
theorem d_prog_19_method_8_code_40 : decode prog_19_method_8_code 40 = .ok (.invokestatic 62, 3) := by decide +kernel
theorem d_prog_19_method_8_code_43 : decode prog_19_method_8_code 43 = .ok (.areturn, 1) := by decide +kernel
set_option maxRecDepth 65536 in
set_option maxHeartbeats 40000000 in
theorem rm_om3 (l : Launch) (Z : State) (a0 : Array Value) (hw : ∀ d ∈ tables_1, d.before a0 Z = true) (wV wC wM wL wE : Addr) (kV : ClassId) (kx : Int32) (h0 : Heap) (n0 : Nat) (Z0 : n0 ≤ h0.size) (SV : Sta Z Z.heap "com/example/drayage/drayage/DropAction" "$VALUES" "[Lcom/example/drayage/drayage/DropAction;" (.ref wV)) (VV : Arv Z Z.heap wV kV (.object "com/example/drayage/drayage/DropAction") (3 : Int32) [(.ref wC), (.ref wM), (.ref wL)] .null) (EV : Exa Z Z.heap wV "[Lcom/example/drayage/drayage/DropAction;") (OL : Old Z n0 h0) (SE : Sta Z Z.heap "java/util/Optional" "EMPTY" "Ljava/util/Optional;" (.ref wE)) (F_wC : Fld Z Z.heap wC "com/example/drayage/drayage/DropAction" "mask" "I" (.int (1 : Int32))) (F_wM : Fld Z Z.heap wM "com/example/drayage/drayage/DropAction" "mask" "I" (.int (2 : Int32))) (F_wL : Fld Z Z.heap wL "com/example/drayage/drayage/DropAction" "mask" "I" (.int (1073741824 : Int32))) (hk0 : ¬ ((1 : Int32) = kx)) (hk1 : ¬ ((2 : Int32) = kx)) (hk2 : ¬ ((1073741824 : Int32) = kx)) :
    own_Met l Z (⟨"com/example/drayage/drayage/DropAction", "ofMask", "(I)Ljava/util/Optional;"⟩ : MethodName) prog_19_method_8_code 5 (some (.object "java/util/Optional")) ({ frames := 3, cells := 2, slots := 4, locals := 38 } : Room) #[(.int kx)] h0 (fun v h L => v = some (.ref wE) ∧ Fr n0 L ∧ Keep h0 h []) := by
  refine own_body (plainFor_of_name pn_com_example_drayage_drayage_DropAction) ?_
  intro p e s m below meth c T0 X0 e0 hx hby hml hown hnm hret hlk hZ
  replace hown : s.vm.findClass "com/example/drayage/drayage/DropAction" = some m.cls := hown
  have N0 := Fr.nil n0
  refine own_of (fun tt_ kk_ => castTop (ef_prog_19_method_8_codeI m kx) kk_) ?_
  have K := Keep.refl h0 []
  show own_Ends _ _ _ _ _ _ (T0.setTop (mkF m 0 #[.val (.int kx), .unset, .unset, .unset, .unset] []))
  obtain ⟨v42, T42, L42, h42, X42, e42, Q42, st42⟩ := own_static X0 hx hZ hown e0 (hw _ (List.mem_of_getElem? (i := 9) rfl)) (hw _ (List.mem_of_getElem? (i := 10) rfl)) (hw _ (List.mem_of_getElem? (i := 7) rfl)) (hw _ (List.mem_of_getElem? (i := 11) rfl)) (by decide) (argsL := []) (rest := []) (rm_values l Z a0 hw wV wC wM wL kV h0 n0 (Nat.le_trans Z0 K.1) SV VV EV OL) (g := (mkF m 0 #[.val (.int kx), .unset, .unset, .unset, .unset] [])) rfl (by rw [hml]; rfl) (lenOf pd___r_ALcom_example_drayage_drayage_DropAction_ rfl) rfl (by decide) (Nat.le_of_ble_eq_true rfl) (by decide) (by decide) (hb hby d_prog_19_method_8_code_0)
  obtain ⟨t42, rfl, Nq42, Kq42, szq_t42, Vt42⟩ := Q42
  have sz_t42 : h0.size ≤ t42 := Nat.le_trans K.1 szq_t42
  have g_t42 : n0 ≤ t42 := Nat.le_trans Z0 sz_t42
  replace OL := OL.keep Kq42 all0
  replace K := K.trans Kq42 all0
  have N42 := Fr.app N0 Nq42
  refine own_of st42 ?_
  show own_Ends _ _ _ _ _ _ (T42.setTop (mkF m 3 #[.val (.int kx), .unset, .unset, .unset, .unset] [(.ref t42)]))
  refine own_of (fun tt_ kk_ => XS.astoreN X42.here hx rfl (hb hby d_prog_19_method_8_code_3) rfl rfl (l' := #[.val (.int kx), .val (.ref t42), .unset, .unset, .unset]) rfl kk_) ?_
  show own_Ends _ _ _ _ _ _ (T42.setTop (mkF m 4 #[.val (.int kx), .val (.ref t42), .unset, .unset, .unset] []))
  refine own_of (fun tt_ kk_ => XS.aloadN X42.here hx rfl (hb hby d_prog_19_method_8_code_4) rfl rfl kk_) ?_
  show own_Ends _ _ _ _ _ _ (T42.setTop (mkF m 5 #[.val (.int kx), .val (.ref t42), .unset, .unset, .unset] [(.ref t42)]))
  obtain ⟨cl43, Ar43, -, S43, N43', -, -⟩ := id Vt42
  refine own_of (fun tt_ kk_ => X42.arraylength hx (by rw [e42]; exact Ar43.1) (State.isArrayOf_alike hZ.alike Ar43.2.1) (g := (mkF m 5 #[.val (.int kx), .val (.ref t42), .unset, .unset, .unset] [(.ref t42)])) rfl rfl (hb hby d_prog_19_method_8_code_5) _ kk_) ?_
  rw [len_of S43 N43']
  show own_Ends _ _ _ _ _ _ (T42.setTop (mkF m 6 #[.val (.int kx), .val (.ref t42), .unset, .unset, .unset] [(.int (3 : Int32))]))
  refine own_of (fun tt_ kk_ => XS.istoreN X42.here hx rfl (hb hby d_prog_19_method_8_code_6) rfl (l' := #[.val (.int kx), .val (.ref t42), .val (.int (3 : Int32)), .unset, .unset]) rfl kk_) ?_
  show own_Ends _ _ _ _ _ _ (T42.setTop (mkF m 7 #[.val (.int kx), .val (.ref t42), .val (.int (3 : Int32)), .unset, .unset] []))
  refine own_of (fun tt_ kk_ => XS.iconst X42.here hx rfl (hb hby d_prog_19_method_8_code_7) kk_) ?_
  show own_Ends _ _ _ _ _ _ (T42.setTop (mkF m 8 #[.val (.int kx), .val (.ref t42), .val (.int (3 : Int32)), .unset, .unset] [(.int (0 : Int32))]))
  refine own_of (fun tt_ kk_ => XS.istoreN X42.here hx rfl (hb hby d_prog_19_method_8_code_8) rfl (l' := #[.val (.int kx), .val (.ref t42), .val (.int (3 : Int32)), .val (.int (0 : Int32)), .unset]) rfl kk_) ?_
  show own_Ends _ _ _ _ _ _ (T42.setTop (mkF m 9 #[.val (.int kx), .val (.ref t42), .val (.int (3 : Int32)), .val (.int (0 : Int32)), .unset] []))
  refine own_of (fun tt_ kk_ => XS.iloadN X42.here hx rfl (hb hby d_prog_19_method_8_code_9) rfl  kk_) ?_
  show own_Ends _ _ _ _ _ _ (T42.setTop (mkF m 10 #[.val (.int kx), .val (.ref t42), .val (.int (3 : Int32)), .val (.int (0 : Int32)), .unset] [(.int (0 : Int32))]))
  refine own_of (fun tt_ kk_ => XS.iloadN X42.here hx rfl (hb hby d_prog_19_method_8_code_10) rfl  kk_) ?_
  show own_Ends _ _ _ _ _ _ (T42.setTop (mkF m 11 #[.val (.int kx), .val (.ref t42), .val (.int (3 : Int32)), .val (.int (0 : Int32)), .unset] [(.int (3 : Int32)), (.int (0 : Int32))]))
  refine own_of (fun tt_ kk_ => XS.icmpNo X42.here hx rfl (hb hby d_prog_19_method_8_code_11) rfl (tlt (by decide : ((0 : Int32) < (3 : Int32)))).2.1 kk_) ?_
  show own_Ends _ _ _ _ _ _ (T42.setTop (mkF m 14 #[.val (.int kx), .val (.ref t42), .val (.int (3 : Int32)), .val (.int (0 : Int32)), .unset] []))
  refine own_of (fun tt_ kk_ => XS.aloadN X42.here hx rfl (hb hby d_prog_19_method_8_code_14) rfl rfl kk_) ?_
  show own_Ends _ _ _ _ _ _ (T42.setTop (mkF m 15 #[.val (.int kx), .val (.ref t42), .val (.int (3 : Int32)), .val (.int (0 : Int32)), .unset] [(.ref t42)]))
  refine own_of (fun tt_ kk_ => XS.iloadN X42.here hx rfl (hb hby d_prog_19_method_8_code_15) rfl  kk_) ?_
  show own_Ends _ _ _ _ _ _ (T42.setTop (mkF m 16 #[.val (.int kx), .val (.ref t42), .val (.int (3 : Int32)), .val (.int (0 : Int32)), .unset] [(.int (0 : Int32)), (.ref t42)]))
  obtain ⟨cl44, Ar44, q44, S44, N44', H44, G44⟩ := id Vt42
  have hin44 : ¬ ((0 : Int32) < 0 ∨ cl44.slots.size ≤ ((0 : Int32)).toNatClampNeg) := inb_of S44 ⟨by decide, by decide⟩
  have hat44 : cl44.slots[((0 : Int32)).toNatClampNeg]? = some (.ref wC) := H44.at hin44 rfl
  refine own_of (fun tt_ kk_ => X42.aaload hx (j := (0 : Int32)) (v := (.ref wC)) (by rw [e42]; exact Ar44.1) (State.isArrayOf_alike hZ.alike Ar44.2.1) rfl Ar44.2.2 hin44 hat44 (g := (mkF m 16 #[.val (.int kx), .val (.ref t42), .val (.int (3 : Int32)), .val (.int (0 : Int32)), .unset] [(.int (0 : Int32)), (.ref t42)])) rfl rfl (hb hby d_prog_19_method_8_code_16) _ kk_) ?_
  show own_Ends _ _ _ _ _ _ (T42.setTop (mkF m 17 #[.val (.int kx), .val (.ref t42), .val (.int (3 : Int32)), .val (.int (0 : Int32)), .unset] [(.ref wC)]))
  refine own_of (fun tt_ kk_ => XS.astore X42.here hx rfl (hb hby d_prog_19_method_8_code_17) rfl rfl (l' := #[.val (.int kx), .val (.ref t42), .val (.int (3 : Int32)), .val (.int (0 : Int32)), .val (.ref wC)]) rfl kk_) ?_
  show own_Ends _ _ _ _ _ _ (T42.setTop (mkF m 19 #[.val (.int kx), .val (.ref t42), .val (.int (3 : Int32)), .val (.int (0 : Int32)), .val (.ref wC)] []))
  refine own_of (fun tt_ kk_ => XS.aload X42.here hx rfl (hb hby d_prog_19_method_8_code_19) rfl rfl kk_) ?_
  show own_Ends _ _ _ _ _ _ (T42.setTop (mkF m 21 #[.val (.int kx), .val (.ref t42), .val (.int (3 : Int32)), .val (.int (0 : Int32)), .val (.ref wC)] [(.ref wC)]))
  obtain ⟨T45, X45, e45, st45⟩ := getF X42 hx hZ hown (host := "") (Or.inl (hw _ (List.mem_of_getElem? (i := 27) rfl))) Via.refl e42 (F_wC.ext OL.2) (g := (mkF m 21 #[.val (.int kx), .val (.ref t42), .val (.int (3 : Int32)), .val (.int (0 : Int32)), .val (.ref wC)] [(.ref wC)])) rfl rfl (hb hby d_prog_19_method_8_code_21)
  refine own_of st45 ?_
  show own_Ends _ _ _ _ _ _ (T45.setTop (mkF m 24 #[.val (.int kx), .val (.ref t42), .val (.int (3 : Int32)), .val (.int (0 : Int32)), .val (.ref wC)] [(.int (1 : Int32))]))
  refine own_of (fun tt_ kk_ => XS.iloadN X45.here hx rfl (hb hby d_prog_19_method_8_code_24) rfl  kk_) ?_
  show own_Ends _ _ _ _ _ _ (T45.setTop (mkF m 25 #[.val (.int kx), .val (.ref t42), .val (.int (3 : Int32)), .val (.int (0 : Int32)), .val (.ref wC)] [(.int kx), (.int (1 : Int32))]))
  refine own_of (fun tt_ kk_ => XS.icmpYes X45.here hx rfl (pc0 := 25) (pc' := 34) rfl (hb hby d_prog_19_method_8_code_25) rfl (feq hk0).2 (by decide) (by decide) kk_) ?_
  show own_Ends _ _ _ _ _ _ (T45.setTop (mkF m 34 #[.val (.int kx), .val (.ref t42), .val (.int (3 : Int32)), .val (.int (0 : Int32)), .val (.ref wC)] []))
  refine own_of (fun tt_ kk_ => XS.iinc X45.here hx rfl (hb hby d_prog_19_method_8_code_34) rfl (l' := #[.val (.int kx), .val (.ref t42), .val (.int (3 : Int32)), .val (.int (1 : Int32)), .val (.ref wC)]) rfl kk_) ?_
  show own_Ends _ _ _ _ _ _ (T45.setTop (mkF m 37 #[.val (.int kx), .val (.ref t42), .val (.int (3 : Int32)), .val (.int (1 : Int32)), .val (.ref wC)] []))
  refine own_of (fun tt_ kk_ => XS.goto X45.here hx rfl (pc0 := 37) (pc' := 9) rfl (hb hby d_prog_19_method_8_code_37) (by decide) (by decide) kk_) ?_
  show own_Ends _ _ _ _ _ _ (T45.setTop (mkF m 9 #[.val (.int kx), .val (.ref t42), .val (.int (3 : Int32)), .val (.int (1 : Int32)), .val (.ref wC)] []))
  refine own_of (fun tt_ kk_ => XS.iloadN X45.here hx rfl (hb hby d_prog_19_method_8_code_9) rfl  kk_) ?_
  show own_Ends _ _ _ _ _ _ (T45.setTop (mkF m 10 #[.val (.int kx), .val (.ref t42), .val (.int (3 : Int32)), .val (.int (1 : Int32)), .val (.ref wC)] [(.int (1 : Int32))]))
  refine own_of (fun tt_ kk_ => XS.iloadN X45.here hx rfl (hb hby d_prog_19_method_8_code_10) rfl  kk_) ?_
  show own_Ends _ _ _ _ _ _ (T45.setTop (mkF m 11 #[.val (.int kx), .val (.ref t42), .val (.int (3 : Int32)), .val (.int (1 : Int32)), .val (.ref wC)] [(.int (3 : Int32)), (.int (1 : Int32))]))
  refine own_of (fun tt_ kk_ => XS.icmpNo X45.here hx rfl (hb hby d_prog_19_method_8_code_11) rfl (tlt (by decide : ((1 : Int32) < (3 : Int32)))).2.1 kk_) ?_
  show own_Ends _ _ _ _ _ _ (T45.setTop (mkF m 14 #[.val (.int kx), .val (.ref t42), .val (.int (3 : Int32)), .val (.int (1 : Int32)), .val (.ref wC)] []))
  refine own_of (fun tt_ kk_ => XS.aloadN X45.here hx rfl (hb hby d_prog_19_method_8_code_14) rfl rfl kk_) ?_
  show own_Ends _ _ _ _ _ _ (T45.setTop (mkF m 15 #[.val (.int kx), .val (.ref t42), .val (.int (3 : Int32)), .val (.int (1 : Int32)), .val (.ref wC)] [(.ref t42)]))
  refine own_of (fun tt_ kk_ => XS.iloadN X45.here hx rfl (hb hby d_prog_19_method_8_code_15) rfl  kk_) ?_
  show own_Ends _ _ _ _ _ _ (T45.setTop (mkF m 16 #[.val (.int kx), .val (.ref t42), .val (.int (3 : Int32)), .val (.int (1 : Int32)), .val (.ref wC)] [(.int (1 : Int32)), (.ref t42)]))
  obtain ⟨cl46, Ar46, q46, S46, N46', H46, G46⟩ := id Vt42
  have hin46 : ¬ ((1 : Int32) < 0 ∨ cl46.slots.size ≤ ((1 : Int32)).toNatClampNeg) := inb_of S46 ⟨by decide, by decide⟩
  have hat46 : cl46.slots[((1 : Int32)).toNatClampNeg]? = some (.ref wM) := H46.at hin46 rfl
  refine own_of (fun tt_ kk_ => X45.aaload hx (j := (1 : Int32)) (v := (.ref wM)) (by rw [e45]; exact Ar46.1) (State.isArrayOf_alike hZ.alike Ar46.2.1) rfl Ar46.2.2 hin46 hat46 (g := (mkF m 16 #[.val (.int kx), .val (.ref t42), .val (.int (3 : Int32)), .val (.int (1 : Int32)), .val (.ref wC)] [(.int (1 : Int32)), (.ref t42)])) rfl rfl (hb hby d_prog_19_method_8_code_16) _ kk_) ?_
  show own_Ends _ _ _ _ _ _ (T45.setTop (mkF m 17 #[.val (.int kx), .val (.ref t42), .val (.int (3 : Int32)), .val (.int (1 : Int32)), .val (.ref wC)] [(.ref wM)]))
  refine own_of (fun tt_ kk_ => XS.astore X45.here hx rfl (hb hby d_prog_19_method_8_code_17) rfl rfl (l' := #[.val (.int kx), .val (.ref t42), .val (.int (3 : Int32)), .val (.int (1 : Int32)), .val (.ref wM)]) rfl kk_) ?_
  show own_Ends _ _ _ _ _ _ (T45.setTop (mkF m 19 #[.val (.int kx), .val (.ref t42), .val (.int (3 : Int32)), .val (.int (1 : Int32)), .val (.ref wM)] []))
  refine own_of (fun tt_ kk_ => XS.aload X45.here hx rfl (hb hby d_prog_19_method_8_code_19) rfl rfl kk_) ?_
  show own_Ends _ _ _ _ _ _ (T45.setTop (mkF m 21 #[.val (.int kx), .val (.ref t42), .val (.int (3 : Int32)), .val (.int (1 : Int32)), .val (.ref wM)] [(.ref wM)]))
  obtain ⟨T47, X47, e47, st47⟩ := getF X45 hx hZ hown (host := "") (Or.inl (hw _ (List.mem_of_getElem? (i := 27) rfl))) Via.refl e45 (F_wM.ext OL.2) (g := (mkF m 21 #[.val (.int kx), .val (.ref t42), .val (.int (3 : Int32)), .val (.int (1 : Int32)), .val (.ref wM)] [(.ref wM)])) rfl rfl (hb hby d_prog_19_method_8_code_21)
  refine own_of st47 ?_
  show own_Ends _ _ _ _ _ _ (T47.setTop (mkF m 24 #[.val (.int kx), .val (.ref t42), .val (.int (3 : Int32)), .val (.int (1 : Int32)), .val (.ref wM)] [(.int (2 : Int32))]))
  refine own_of (fun tt_ kk_ => XS.iloadN X47.here hx rfl (hb hby d_prog_19_method_8_code_24) rfl  kk_) ?_
  show own_Ends _ _ _ _ _ _ (T47.setTop (mkF m 25 #[.val (.int kx), .val (.ref t42), .val (.int (3 : Int32)), .val (.int (1 : Int32)), .val (.ref wM)] [(.int kx), (.int (2 : Int32))]))
  refine own_of (fun tt_ kk_ => XS.icmpYes X47.here hx rfl (pc0 := 25) (pc' := 34) rfl (hb hby d_prog_19_method_8_code_25) rfl (feq hk1).2 (by decide) (by decide) kk_) ?_
  show own_Ends _ _ _ _ _ _ (T47.setTop (mkF m 34 #[.val (.int kx), .val (.ref t42), .val (.int (3 : Int32)), .val (.int (1 : Int32)), .val (.ref wM)] []))
  refine own_of (fun tt_ kk_ => XS.iinc X47.here hx rfl (hb hby d_prog_19_method_8_code_34) rfl (l' := #[.val (.int kx), .val (.ref t42), .val (.int (3 : Int32)), .val (.int (2 : Int32)), .val (.ref wM)]) rfl kk_) ?_
  show own_Ends _ _ _ _ _ _ (T47.setTop (mkF m 37 #[.val (.int kx), .val (.ref t42), .val (.int (3 : Int32)), .val (.int (2 : Int32)), .val (.ref wM)] []))
  refine own_of (fun tt_ kk_ => XS.goto X47.here hx rfl (pc0 := 37) (pc' := 9) rfl (hb hby d_prog_19_method_8_code_37) (by decide) (by decide) kk_) ?_
  show own_Ends _ _ _ _ _ _ (T47.setTop (mkF m 9 #[.val (.int kx), .val (.ref t42), .val (.int (3 : Int32)), .val (.int (2 : Int32)), .val (.ref wM)] []))
  refine own_of (fun tt_ kk_ => XS.iloadN X47.here hx rfl (hb hby d_prog_19_method_8_code_9) rfl  kk_) ?_
  show own_Ends _ _ _ _ _ _ (T47.setTop (mkF m 10 #[.val (.int kx), .val (.ref t42), .val (.int (3 : Int32)), .val (.int (2 : Int32)), .val (.ref wM)] [(.int (2 : Int32))]))
  refine own_of (fun tt_ kk_ => XS.iloadN X47.here hx rfl (hb hby d_prog_19_method_8_code_10) rfl  kk_) ?_
  show own_Ends _ _ _ _ _ _ (T47.setTop (mkF m 11 #[.val (.int kx), .val (.ref t42), .val (.int (3 : Int32)), .val (.int (2 : Int32)), .val (.ref wM)] [(.int (3 : Int32)), (.int (2 : Int32))]))
  refine own_of (fun tt_ kk_ => XS.icmpNo X47.here hx rfl (hb hby d_prog_19_method_8_code_11) rfl (tlt (by decide : ((2 : Int32) < (3 : Int32)))).2.1 kk_) ?_
  show own_Ends _ _ _ _ _ _ (T47.setTop (mkF m 14 #[.val (.int kx), .val (.ref t42), .val (.int (3 : Int32)), .val (.int (2 : Int32)), .val (.ref wM)] []))
  refine own_of (fun tt_ kk_ => XS.aloadN X47.here hx rfl (hb hby d_prog_19_method_8_code_14) rfl rfl kk_) ?_
  show own_Ends _ _ _ _ _ _ (T47.setTop (mkF m 15 #[.val (.int kx), .val (.ref t42), .val (.int (3 : Int32)), .val (.int (2 : Int32)), .val (.ref wM)] [(.ref t42)]))
  refine own_of (fun tt_ kk_ => XS.iloadN X47.here hx rfl (hb hby d_prog_19_method_8_code_15) rfl  kk_) ?_
  show own_Ends _ _ _ _ _ _ (T47.setTop (mkF m 16 #[.val (.int kx), .val (.ref t42), .val (.int (3 : Int32)), .val (.int (2 : Int32)), .val (.ref wM)] [(.int (2 : Int32)), (.ref t42)]))
  obtain ⟨cl48, Ar48, q48, S48, N48', H48, G48⟩ := id Vt42
  have hin48 : ¬ ((2 : Int32) < 0 ∨ cl48.slots.size ≤ ((2 : Int32)).toNatClampNeg) := inb_of S48 ⟨by decide, by decide⟩
  have hat48 : cl48.slots[((2 : Int32)).toNatClampNeg]? = some (.ref wL) := H48.at hin48 rfl
  refine own_of (fun tt_ kk_ => X47.aaload hx (j := (2 : Int32)) (v := (.ref wL)) (by rw [e47]; exact Ar48.1) (State.isArrayOf_alike hZ.alike Ar48.2.1) rfl Ar48.2.2 hin48 hat48 (g := (mkF m 16 #[.val (.int kx), .val (.ref t42), .val (.int (3 : Int32)), .val (.int (2 : Int32)), .val (.ref wM)] [(.int (2 : Int32)), (.ref t42)])) rfl rfl (hb hby d_prog_19_method_8_code_16) _ kk_) ?_
  show own_Ends _ _ _ _ _ _ (T47.setTop (mkF m 17 #[.val (.int kx), .val (.ref t42), .val (.int (3 : Int32)), .val (.int (2 : Int32)), .val (.ref wM)] [(.ref wL)]))
  refine own_of (fun tt_ kk_ => XS.astore X47.here hx rfl (hb hby d_prog_19_method_8_code_17) rfl rfl (l' := #[.val (.int kx), .val (.ref t42), .val (.int (3 : Int32)), .val (.int (2 : Int32)), .val (.ref wL)]) rfl kk_) ?_
  show own_Ends _ _ _ _ _ _ (T47.setTop (mkF m 19 #[.val (.int kx), .val (.ref t42), .val (.int (3 : Int32)), .val (.int (2 : Int32)), .val (.ref wL)] []))
  refine own_of (fun tt_ kk_ => XS.aload X47.here hx rfl (hb hby d_prog_19_method_8_code_19) rfl rfl kk_) ?_
  show own_Ends _ _ _ _ _ _ (T47.setTop (mkF m 21 #[.val (.int kx), .val (.ref t42), .val (.int (3 : Int32)), .val (.int (2 : Int32)), .val (.ref wL)] [(.ref wL)]))
  obtain ⟨T49, X49, e49, st49⟩ := getF X47 hx hZ hown (host := "") (Or.inl (hw _ (List.mem_of_getElem? (i := 27) rfl))) Via.refl e47 (F_wL.ext OL.2) (g := (mkF m 21 #[.val (.int kx), .val (.ref t42), .val (.int (3 : Int32)), .val (.int (2 : Int32)), .val (.ref wL)] [(.ref wL)])) rfl rfl (hb hby d_prog_19_method_8_code_21)
  refine own_of st49 ?_
  show own_Ends _ _ _ _ _ _ (T49.setTop (mkF m 24 #[.val (.int kx), .val (.ref t42), .val (.int (3 : Int32)), .val (.int (2 : Int32)), .val (.ref wL)] [(.int (1073741824 : Int32))]))
  refine own_of (fun tt_ kk_ => XS.iloadN X49.here hx rfl (hb hby d_prog_19_method_8_code_24) rfl  kk_) ?_
  show own_Ends _ _ _ _ _ _ (T49.setTop (mkF m 25 #[.val (.int kx), .val (.ref t42), .val (.int (3 : Int32)), .val (.int (2 : Int32)), .val (.ref wL)] [(.int kx), (.int (1073741824 : Int32))]))
  refine own_of (fun tt_ kk_ => XS.icmpYes X49.here hx rfl (pc0 := 25) (pc' := 34) rfl (hb hby d_prog_19_method_8_code_25) rfl (feq hk2).2 (by decide) (by decide) kk_) ?_
  show own_Ends _ _ _ _ _ _ (T49.setTop (mkF m 34 #[.val (.int kx), .val (.ref t42), .val (.int (3 : Int32)), .val (.int (2 : Int32)), .val (.ref wL)] []))
  refine own_of (fun tt_ kk_ => XS.iinc X49.here hx rfl (hb hby d_prog_19_method_8_code_34) rfl (l' := #[.val (.int kx), .val (.ref t42), .val (.int (3 : Int32)), .val (.int (3 : Int32)), .val (.ref wL)]) rfl kk_) ?_
  show own_Ends _ _ _ _ _ _ (T49.setTop (mkF m 37 #[.val (.int kx), .val (.ref t42), .val (.int (3 : Int32)), .val (.int (3 : Int32)), .val (.ref wL)] []))
  refine own_of (fun tt_ kk_ => XS.goto X49.here hx rfl (pc0 := 37) (pc' := 9) rfl (hb hby d_prog_19_method_8_code_37) (by decide) (by decide) kk_) ?_
  show own_Ends _ _ _ _ _ _ (T49.setTop (mkF m 9 #[.val (.int kx), .val (.ref t42), .val (.int (3 : Int32)), .val (.int (3 : Int32)), .val (.ref wL)] []))
  refine own_of (fun tt_ kk_ => XS.iloadN X49.here hx rfl (hb hby d_prog_19_method_8_code_9) rfl  kk_) ?_
  show own_Ends _ _ _ _ _ _ (T49.setTop (mkF m 10 #[.val (.int kx), .val (.ref t42), .val (.int (3 : Int32)), .val (.int (3 : Int32)), .val (.ref wL)] [(.int (3 : Int32))]))
  refine own_of (fun tt_ kk_ => XS.iloadN X49.here hx rfl (hb hby d_prog_19_method_8_code_10) rfl  kk_) ?_
  show own_Ends _ _ _ _ _ _ (T49.setTop (mkF m 11 #[.val (.int kx), .val (.ref t42), .val (.int (3 : Int32)), .val (.int (3 : Int32)), .val (.ref wL)] [(.int (3 : Int32)), (.int (3 : Int32))]))
  refine own_of (fun tt_ kk_ => XS.icmpYes X49.here hx rfl (pc0 := 11) (pc' := 40) rfl (hb hby d_prog_19_method_8_code_11) rfl (flt (by decide : ¬ ((3 : Int32) < (3 : Int32)))).2.1 (by decide) (by decide) kk_) ?_
  show own_Ends _ _ _ _ _ _ (T49.setTop (mkF m 40 #[.val (.int kx), .val (.ref t42), .val (.int (3 : Int32)), .val (.int (3 : Int32)), .val (.ref wL)] []))
  obtain ⟨v50, T50, L50, h50, X50, e50, Q50, st50⟩ := own_static X49 hx hZ hown e49 (hw _ (List.mem_of_getElem? (i := 29) rfl)) (hw _ (List.mem_of_getElem? (i := 30) rfl)) (hw _ (List.mem_of_getElem? (i := 31) rfl)) (hw _ (List.mem_of_getElem? (i := 32) rfl)) (by decide) (argsL := []) (rest := []) (rm_empty l Z a0 hw wE h42 n0 (Nat.le_trans Z0 K.1) SE OL) (g := (mkF m 40 #[.val (.int kx), .val (.ref t42), .val (.int (3 : Int32)), .val (.int (3 : Int32)), .val (.ref wL)] [])) rfl (by rw [hml]; rfl) (lenOf pd___r_Ljava_util_Optional_ rfl) rfl (by decide) (Nat.le_of_ble_eq_true rfl) (by decide) (by decide) (hb hby d_prog_19_method_8_code_40)
  obtain ⟨rfl, Nq50, q50⟩ := Q50
  replace e50 := e50.trans q50
  have N50 := Fr.app N42 Nq50
  refine own_of st50 ?_
  show own_Ends _ _ _ _ _ _ (T50.setTop (mkF m 43 #[.val (.int kx), .val (.ref t42), .val (.int (3 : Int32)), .val (.int (3 : Int32)), .val (.ref wL)] [(.ref wE)]))
  refine own_retA X50 hx hlk e50 hret rfl rfl (hb hby d_prog_19_method_8_code_43) (by decide) (by decide) ?_
  exact ⟨rfl, N50, K⟩
theorem ef_codeII (m : MethodId) (z0 : Int32) (z1 : Int32) : entryFrame m #[(.int z0), (.int z1)] maxLocals = mkF m 0 #[.val (.int z0), .val (.int z1), .unset, .unset, .unset] [] := by first | (simp [entryFrame, mkF, argsToLocals, Value.category, maxLocals]; done) | rfl
theorem pd__II_r_I : parseMethodDescriptor "(II)I" = some ⟨[.int, .int], some .int⟩ := by decide +kernel
theorem pd__I_r_Ljava_util_Optional_ : parseMethodDescriptor "(I)Ljava/util/Optional;" = some ⟨[.int], some (.object "java/util/Optional")⟩ := by decide +kernel
theorem pd___r_Z : parseMethodDescriptor "()Z" = some ⟨[], some .boolean⟩ := by decide +kernel
theorem pd___r_Ljava_lang_Object_ : parseMethodDescriptor "()Ljava/lang/Object;" = some ⟨[], some (.object "java/lang/Object")⟩ := by decide +kernel
set_option maxRecDepth 65536 in
set_option maxHeartbeats 40000000 in
theorem rm0 (l : Launch) (Z : State) (a0 : Array Value) (hw : ∀ d ∈ tables_1, d.before a0 Z = true) (p1 p2 : Int32) (wV wC wM wL wE : Addr) (kV : ClassId) (h0 : Heap) (n0 : Nat) (Z0 : n0 ≤ h0.size) (SV : Sta Z Z.heap "com/example/drayage/drayage/DropAction" "$VALUES" "[Lcom/example/drayage/drayage/DropAction;" (.ref wV)) (VV : Arv Z Z.heap wV kV (.object "com/example/drayage/drayage/DropAction") (3 : Int32) [(.ref wC), (.ref wM), (.ref wL)] .null) (EV : Exa Z Z.heap wV "[Lcom/example/drayage/drayage/DropAction;") (OL : Old Z n0 h0) (SE : Sta Z Z.heap "java/util/Optional" "EMPTY" "Ljava/util/Optional;" (.ref wE)) (F_wC : Fld Z Z.heap wC "com/example/drayage/drayage/DropAction" "mask" "I" (.int (1 : Int32))) (F_wM : Fld Z Z.heap wM "com/example/drayage/drayage/DropAction" "mask" "I" (.int (2 : Int32))) (F_wL : Fld Z Z.heap wL "com/example/drayage/drayage/DropAction" "mask" "I" (.int (1073741824 : Int32))) (S_wC : Sta Z Z.heap "com/example/drayage/drayage/DropAction" "COPY" "Lcom/example/drayage/drayage/DropAction;" (.ref wC)) (S_wM : Sta Z Z.heap "com/example/drayage/drayage/DropAction" "MOVE" "Lcom/example/drayage/drayage/DropAction;" (.ref wM)) (S_wL : Sta Z Z.heap "com/example/drayage/drayage/DropAction" "LINK" "Lcom/example/drayage/drayage/DropAction;" (.ref wL)) (EE : Exa Z Z.heap wE "java/util/Optional") (FE : Fld Z Z.heap wE "java/util/Optional" "value" "Ljava/lang/Object;" .null) :
    own_Met l Z x code maxLocals ret room_1 #[(.int p1), (.int p2)] h0 (fun v h L => v = some (.int 1) ∧ Fr n0 L) := by
  refine own_body (plainFor_of_name pn_com_example_drayage_drayage_DropActionOfMaskPinLaw) ?_
  intro p e s m below meth c T0 X0 e0 hx hby hml hown hnm hret hlk hZ
  replace hown : s.vm.findClass "com/example/drayage/drayage/DropActionOfMaskPinLaw" = some m.cls := hown
  have N0 := Fr.nil n0
  refine own_of (fun tt_ kk_ => castTop (ef_codeII m p1 p2) kk_) ?_
  have K := Keep.refl h0 []
  show own_Ends _ _ _ _ _ _ (T0.setTop (mkF m 0 #[.val (.int p1), .val (.int p2), .unset, .unset, .unset] []))
  refine own_of (fun tt_ kk_ => XS.iloadN X0.here hx rfl (hb hby at_0) rfl  kk_) ?_
  show own_Ends _ _ _ _ _ _ (T0.setTop (mkF m 1 #[.val (.int p1), .val (.int p2), .unset, .unset, .unset] [(.int p1)]))
  refine own_of (fun tt_ kk_ => XS.bipush X0.here hx rfl (hb hby at_1) kk_) ?_
  show own_Ends _ _ _ _ _ _ (T0.setTop (mkF m 3 #[.val (.int p1), .val (.int p2), .unset, .unset, .unset] [(.int (7 : Int32)), (.int p1)]))
  refine own_of (fun tt_ kk_ => XS.iand X0.here hx rfl (hb hby at_3) rfl kk_) ?_
  show own_Ends _ _ _ _ _ _ (T0.setTop (mkF m 4 #[.val (.int p1), .val (.int p2), .unset, .unset, .unset] [(.int (p1 &&& (7 : Int32)))]))
  refine own_of (fun tt_ kk_ => XS.iloadN X0.here hx rfl (hb hby at_4) rfl  kk_) ?_
  show own_Ends _ _ _ _ _ _ (T0.setTop (mkF m 5 #[.val (.int p1), .val (.int p2), .unset, .unset, .unset] [(.int p2), (.int (p1 &&& (7 : Int32)))]))
  obtain ⟨v51, T51, L51, h51, X51, e51, Q51, st51⟩ := own_static X0 hx hZ hown e0 (hw _ (List.mem_of_getElem? (i := 0) rfl)) (hw _ (List.mem_of_getElem? (i := 1) rfl)) (hw _ (List.mem_of_getElem? (i := 2) rfl)) (hw _ (List.mem_of_getElem? (i := 3) rfl)) (by decide) (argsL := [(.int (p1 &&& (7 : Int32))), (.int p2)]) (rest := []) (rm_pick l Z a0 hw (p1 &&& (7 : Int32)) p2 h0 n0 Z0) (g := (mkF m 5 #[.val (.int p1), .val (.int p2), .unset, .unset, .unset] [(.int p2), (.int (p1 &&& (7 : Int32)))])) rfl (by rw [hml]; rfl) (lenOf pd__II_r_I rfl) rfl (by decide) (Nat.le_of_ble_eq_true rfl) (by decide) (by decide) (hb hby at_5)
  obtain ⟨kx, rfl, Nq51, q51⟩ := Q51
  replace e51 := e51.trans q51
  have N51 := Fr.app N0 Nq51
  refine own_of st51 ?_
  show own_Ends _ _ _ _ _ _ (T51.setTop (mkF m 8 #[.val (.int p1), .val (.int p2), .unset, .unset, .unset] [(.int kx)]))
  refine own_of (fun tt_ kk_ => XS.istoreN X51.here hx rfl (hb hby at_8) rfl (l' := #[.val (.int p1), .val (.int p2), .val (.int kx), .unset, .unset]) rfl kk_) ?_
  show own_Ends _ _ _ _ _ _ (T51.setTop (mkF m 9 #[.val (.int p1), .val (.int p2), .val (.int kx), .unset, .unset] []))
  refine own_of (fun tt_ kk_ => XS.aconstNull X51.here hx rfl (hb hby at_9) kk_) ?_
  show own_Ends _ _ _ _ _ _ (T51.setTop (mkF m 10 #[.val (.int p1), .val (.int p2), .val (.int kx), .unset, .unset] [.null]))
  refine own_of (fun tt_ kk_ => XS.astoreN X51.here hx rfl (hb hby at_10) rfl rfl (l' := #[.val (.int p1), .val (.int p2), .val (.int kx), .val .null, .unset]) rfl kk_) ?_
  show own_Ends _ _ _ _ _ _ (T51.setTop (mkF m 11 #[.val (.int p1), .val (.int p2), .val (.int kx), .val .null, .unset] []))
  refine own_of (fun tt_ kk_ => XS.iloadN X51.here hx rfl (hb hby at_11) rfl  kk_) ?_
  show own_Ends _ _ _ _ _ _ (T51.setTop (mkF m 12 #[.val (.int p1), .val (.int p2), .val (.int kx), .val .null, .unset] [(.int kx)]))
  refine own_of (fun tt_ kk_ => XS.iconst X51.here hx rfl (hb hby at_12) kk_) ?_
  show own_Ends _ _ _ _ _ _ (T51.setTop (mkF m 13 #[.val (.int p1), .val (.int p2), .val (.int kx), .val .null, .unset] [(.int (1 : Int32)), (.int kx)]))
  by_cases hc52 : kx = (1 : Int32)
  · refine own_of (fun tt_ kk_ => XS.icmpNo X51.here hx rfl (hb hby at_13) rfl (teq hc52).2 kk_) ?_
    show own_Ends _ _ _ _ _ _ (T51.setTop (mkF m 16 #[.val (.int p1), .val (.int p2), .val (.int kx), .val .null, .unset] []))
    obtain ⟨T53, X53, e53, st53⟩ := getS2 X51 hx hZ hown (host := "") (Or.inl (hw _ (List.mem_of_getElem? (i := 42) rfl))) Via.refl e51 (S_wC.ext OL.2) (g := (mkF m 16 #[.val (.int p1), .val (.int p2), .val (.int kx), .val .null, .unset] [])) rfl (hb hby at_16)
    refine own_of st53 ?_
    show own_Ends _ _ _ _ _ _ (T53.setTop (mkF m 19 #[.val (.int p1), .val (.int p2), .val (.int kx), .val .null, .unset] [(.ref wC)]))
    refine own_of (fun tt_ kk_ => XS.astoreN X53.here hx rfl (hb hby at_19) rfl rfl (l' := #[.val (.int p1), .val (.int p2), .val (.int kx), .val (.ref wC), .unset]) rfl kk_) ?_
    show own_Ends _ _ _ _ _ _ (T53.setTop (mkF m 20 #[.val (.int p1), .val (.int p2), .val (.int kx), .val (.ref wC), .unset] []))
    refine own_of (fun tt_ kk_ => XS.goto X53.here hx rfl (pc0 := 20) (pc' := 45) rfl (hb hby at_20) (by decide) (by decide) kk_) ?_
    show own_Ends _ _ _ _ _ _ (T53.setTop (mkF m 45 #[.val (.int p1), .val (.int p2), .val (.int kx), .val (.ref wC), .unset] []))
    subst hc52
    show own_Ends _ _ _ _ _ _ (T53.setTop (mkF m 45 #[.val (.int p1), .val (.int p2), .val (.int (1 : Int32)), .val (.ref wC), .unset] []))
    refine own_of (fun tt_ kk_ => XS.iloadN X53.here hx rfl (hb hby at_45) rfl  kk_) ?_
    show own_Ends _ _ _ _ _ _ (T53.setTop (mkF m 46 #[.val (.int p1), .val (.int p2), .val (.int (1 : Int32)), .val (.ref wC), .unset] [(.int (1 : Int32))]))
    obtain ⟨v54, T54, L54, h54, X54, e54, Q54, st54⟩ := own_static X53 hx hZ hown e53 (hw _ (List.mem_of_getElem? (i := 5) rfl)) (hw _ (List.mem_of_getElem? (i := 6) rfl)) (hw _ (List.mem_of_getElem? (i := 7) rfl)) (hw _ (List.mem_of_getElem? (i := 8) rfl)) (by decide) (argsL := [(.int (1 : Int32))]) (rest := []) (rm_om0 l Z a0 hw wV wC wM wL wE kV h0 n0 (Nat.le_trans Z0 K.1) SV VV EV OL SE F_wC F_wM F_wL) (g := (mkF m 46 #[.val (.int p1), .val (.int p2), .val (.int (1 : Int32)), .val (.ref wC), .unset] [(.int (1 : Int32))])) rfl (by rw [hml]; rfl) (lenOf pd__I_r_Ljava_util_Optional_ rfl) rfl (by decide) (Nat.le_of_ble_eq_true rfl) (by decide) (by decide) (hb hby at_46)
    obtain ⟨t54, rfl, Nq54, Kq54, szq_t54, Eo54, Fo54⟩ := Q54
    have sz_t54 : h0.size ≤ t54 := Nat.le_trans K.1 szq_t54
    have g_t54 : n0 ≤ t54 := Nat.le_trans Z0 sz_t54
    replace OL := OL.keep Kq54 all0
    replace K := K.trans Kq54 all0
    have N54 := Fr.app N51 Nq54
    refine own_of st54 ?_
    show own_Ends _ _ _ _ _ _ (T54.setTop (mkF m 49 #[.val (.int p1), .val (.int p2), .val (.int (1 : Int32)), .val (.ref wC), .unset] [(.ref t54)]))
    refine own_of (fun tt_ kk_ => XS.astore X54.here hx rfl (hb hby at_49) rfl rfl (l' := #[.val (.int p1), .val (.int p2), .val (.int (1 : Int32)), .val (.ref wC), .val (.ref t54)]) rfl kk_) ?_
    show own_Ends _ _ _ _ _ _ (T54.setTop (mkF m 51 #[.val (.int p1), .val (.int p2), .val (.int (1 : Int32)), .val (.ref wC), .val (.ref t54)] []))
    refine own_of (fun tt_ kk_ => XS.aloadN X54.here hx rfl (hb hby at_51) rfl rfl kk_) ?_
    show own_Ends _ _ _ _ _ _ (T54.setTop (mkF m 52 #[.val (.int p1), .val (.int p2), .val (.int (1 : Int32)), .val (.ref wC), .val (.ref t54)] [(.ref wC)]))
    refine own_of (fun tt_ kk_ => XS.ifnonnullYes X54.here hx rfl (pc0 := 52) (pc' := 69) rfl (hb hby at_52) rfl (by decide) (by decide) kk_) ?_
    show own_Ends _ _ _ _ _ _ (T54.setTop (mkF m 69 #[.val (.int p1), .val (.int p2), .val (.int (1 : Int32)), .val (.ref wC), .val (.ref t54)] []))
    refine own_of (fun tt_ kk_ => XS.aload X54.here hx rfl (hb hby at_69) rfl rfl kk_) ?_
    show own_Ends _ _ _ _ _ _ (T54.setTop (mkF m 71 #[.val (.int p1), .val (.int p2), .val (.int (1 : Int32)), .val (.ref wC), .val (.ref t54)] [(.ref t54)]))
    obtain ⟨v55, T55, L55, h55, X55, e55, Q55, st55⟩ := own_virtual X54 hx hZ hown e54 Eo54 (hw _ (List.mem_of_getElem? (i := 34) rfl)) (hw _ (List.mem_of_getElem? (i := 35) rfl)) (notFace_of_selects (args := #[]) (mvT hZ (hw _ (List.mem_of_getElem? (i := 37) rfl)))) (hw _ (List.mem_of_getElem? (i := 37) rfl)) (hw _ (List.mem_of_getElem? (i := 36) rfl)) (hw _ (List.mem_of_getElem? (i := 31) rfl)) (hw _ (List.mem_of_getElem? (i := 38) rfl)) (by decide) (argsL := []) (rest := []) (rm_pres1 l Z a0 hw t54 wC h54 n0 (Nat.le_trans Z0 K.1) Fo54) (g := (mkF m 71 #[.val (.int p1), .val (.int p2), .val (.int (1 : Int32)), .val (.ref wC), .val (.ref t54)] [(.ref t54)])) rfl (by rw [hml]; rfl) (lenOf pd___r_Z rfl) rfl (by decide) (Nat.le_of_ble_eq_true rfl) (by decide) (by decide) (hb hby at_71)
    obtain ⟨rfl, Nq55, q55⟩ := Q55
    replace e55 := e55.trans q55
    have N55 := Fr.app N54 Nq55
    refine own_of st55 ?_
    show own_Ends _ _ _ _ _ _ (T55.setTop (mkF m 74 #[.val (.int p1), .val (.int p2), .val (.int (1 : Int32)), .val (.ref wC), .val (.ref t54)] [(.int (1 : Int32))]))
    refine own_of (fun tt_ kk_ => XS.ifNo X55.here hx rfl (hb hby at_74) rfl ((if0 _ _).trans (feq (by decide : ¬ ((1 : Int32) = (0 : Int32)))).1) kk_) ?_
    show own_Ends _ _ _ _ _ _ (T55.setTop (mkF m 77 #[.val (.int p1), .val (.int p2), .val (.int (1 : Int32)), .val (.ref wC), .val (.ref t54)] []))
    refine own_of (fun tt_ kk_ => XS.aload X55.here hx rfl (hb hby at_77) rfl rfl kk_) ?_
    show own_Ends _ _ _ _ _ _ (T55.setTop (mkF m 79 #[.val (.int p1), .val (.int p2), .val (.int (1 : Int32)), .val (.ref wC), .val (.ref t54)] [(.ref t54)]))
    obtain ⟨v56, T56, L56, h56, X56, e56, Q56, st56⟩ := own_virtual X55 hx hZ hown e55 Eo54 (hw _ (List.mem_of_getElem? (i := 59) rfl)) (hw _ (List.mem_of_getElem? (i := 60) rfl)) (notFace_of_selects (args := #[]) (mvT hZ (hw _ (List.mem_of_getElem? (i := 62) rfl)))) (hw _ (List.mem_of_getElem? (i := 62) rfl)) (hw _ (List.mem_of_getElem? (i := 61) rfl)) (hw _ (List.mem_of_getElem? (i := 31) rfl)) (hw _ (List.mem_of_getElem? (i := 63) rfl)) (by decide) (argsL := []) (rest := []) (rm_get l Z a0 hw t54 wC h54 n0 (Nat.le_trans Z0 K.1) Fo54) (g := (mkF m 79 #[.val (.int p1), .val (.int p2), .val (.int (1 : Int32)), .val (.ref wC), .val (.ref t54)] [(.ref t54)])) rfl (by rw [hml]; rfl) (lenOf pd___r_Ljava_lang_Object_ rfl) rfl (by decide) (Nat.le_of_ble_eq_true rfl) (by decide) (by decide) (hb hby at_79)
    obtain ⟨rfl, Nq56, q56⟩ := Q56
    replace e56 := e56.trans q56
    have N56 := Fr.app N55 Nq56
    refine own_of st56 ?_
    show own_Ends _ _ _ _ _ _ (T56.setTop (mkF m 82 #[.val (.int p1), .val (.int p2), .val (.int (1 : Int32)), .val (.ref wC), .val (.ref t54)] [(.ref wC)]))
    refine own_of (fun tt_ kk_ => XS.aloadN X56.here hx rfl (hb hby at_82) rfl rfl kk_) ?_
    show own_Ends _ _ _ _ _ _ (T56.setTop (mkF m 83 #[.val (.int p1), .val (.int p2), .val (.int (1 : Int32)), .val (.ref wC), .val (.ref t54)] [(.ref wC), (.ref wC)]))
    refine own_of (fun tt_ kk_ => Jvm.RoadKit.acmp (g := (mkF m 83 #[.val (.int p1), .val (.int p2), .val (.int (1 : Int32)), .val (.ref wC), .val (.ref t54)] [(.ref wC), (.ref wC)])) X56 hx rfl rfl rfl (pc0 := 83) (pc' := 86) (same := true) rfl (hb hby at_83) rfl (decide_eq_true rfl) (by decide) (by decide) kk_) ?_
    show own_Ends _ _ _ _ _ _ (T56.setTop (mkF m 86 #[.val (.int p1), .val (.int p2), .val (.int (1 : Int32)), .val (.ref wC), .val (.ref t54)] []))
    refine own_of (fun tt_ kk_ => XS.iconst X56.here hx rfl (hb hby at_86) kk_) ?_
    show own_Ends _ _ _ _ _ _ (T56.setTop (mkF m 87 #[.val (.int p1), .val (.int p2), .val (.int (1 : Int32)), .val (.ref wC), .val (.ref t54)] [(.int (1 : Int32))]))
    refine own_of (fun tt_ kk_ => XS.goto X56.here hx rfl (pc0 := 87) (pc' := 91) rfl (hb hby at_87) (by decide) (by decide) kk_) ?_
    show own_Ends _ _ _ _ _ _ (T56.setTop (mkF m 91 #[.val (.int p1), .val (.int p2), .val (.int (1 : Int32)), .val (.ref wC), .val (.ref t54)] [(.int (1 : Int32))]))
    refine own_retN X56 hx hlk e56 (t := .boolean) hret (by simp) (z' := (1 : Int32)) rfl (hb hby at_91) (by decide) (by decide) ?_
    exact ⟨rfl, N56⟩
  · refine own_of (fun tt_ kk_ => XS.icmpYes X51.here hx rfl (pc0 := 13) (pc' := 23) rfl (hb hby at_13) rfl (feq hc52).2 (by decide) (by decide) kk_) ?_
    show own_Ends _ _ _ _ _ _ (T51.setTop (mkF m 23 #[.val (.int p1), .val (.int p2), .val (.int kx), .val .null, .unset] []))
    refine own_of (fun tt_ kk_ => XS.iloadN X51.here hx rfl (hb hby at_23) rfl  kk_) ?_
    show own_Ends _ _ _ _ _ _ (T51.setTop (mkF m 24 #[.val (.int p1), .val (.int p2), .val (.int kx), .val .null, .unset] [(.int kx)]))
    refine own_of (fun tt_ kk_ => XS.iconst X51.here hx rfl (hb hby at_24) kk_) ?_
    show own_Ends _ _ _ _ _ _ (T51.setTop (mkF m 25 #[.val (.int p1), .val (.int p2), .val (.int kx), .val .null, .unset] [(.int (2 : Int32)), (.int kx)]))
    by_cases hc57 : kx = (2 : Int32)
    · refine own_of (fun tt_ kk_ => XS.icmpNo X51.here hx rfl (hb hby at_25) rfl (teq hc57).2 kk_) ?_
      show own_Ends _ _ _ _ _ _ (T51.setTop (mkF m 28 #[.val (.int p1), .val (.int p2), .val (.int kx), .val .null, .unset] []))
      obtain ⟨T58, X58, e58, st58⟩ := getS2 X51 hx hZ hown (host := "") (Or.inl (hw _ (List.mem_of_getElem? (i := 65) rfl))) Via.refl e51 (S_wM.ext OL.2) (g := (mkF m 28 #[.val (.int p1), .val (.int p2), .val (.int kx), .val .null, .unset] [])) rfl (hb hby at_28)
      refine own_of st58 ?_
      show own_Ends _ _ _ _ _ _ (T58.setTop (mkF m 31 #[.val (.int p1), .val (.int p2), .val (.int kx), .val .null, .unset] [(.ref wM)]))
      refine own_of (fun tt_ kk_ => XS.astoreN X58.here hx rfl (hb hby at_31) rfl rfl (l' := #[.val (.int p1), .val (.int p2), .val (.int kx), .val (.ref wM), .unset]) rfl kk_) ?_
      show own_Ends _ _ _ _ _ _ (T58.setTop (mkF m 32 #[.val (.int p1), .val (.int p2), .val (.int kx), .val (.ref wM), .unset] []))
      refine own_of (fun tt_ kk_ => XS.goto X58.here hx rfl (pc0 := 32) (pc' := 45) rfl (hb hby at_32) (by decide) (by decide) kk_) ?_
      show own_Ends _ _ _ _ _ _ (T58.setTop (mkF m 45 #[.val (.int p1), .val (.int p2), .val (.int kx), .val (.ref wM), .unset] []))
      subst hc57
      show own_Ends _ _ _ _ _ _ (T58.setTop (mkF m 45 #[.val (.int p1), .val (.int p2), .val (.int (2 : Int32)), .val (.ref wM), .unset] []))
      refine own_of (fun tt_ kk_ => XS.iloadN X58.here hx rfl (hb hby at_45) rfl  kk_) ?_
      show own_Ends _ _ _ _ _ _ (T58.setTop (mkF m 46 #[.val (.int p1), .val (.int p2), .val (.int (2 : Int32)), .val (.ref wM), .unset] [(.int (2 : Int32))]))
      obtain ⟨v59, T59, L59, h59, X59, e59, Q59, st59⟩ := own_static X58 hx hZ hown e58 (hw _ (List.mem_of_getElem? (i := 5) rfl)) (hw _ (List.mem_of_getElem? (i := 6) rfl)) (hw _ (List.mem_of_getElem? (i := 7) rfl)) (hw _ (List.mem_of_getElem? (i := 8) rfl)) (by decide) (argsL := [(.int (2 : Int32))]) (rest := []) (rm_om1 l Z a0 hw wV wC wM wL wE kV h0 n0 (Nat.le_trans Z0 K.1) SV VV EV OL SE F_wC F_wM F_wL) (g := (mkF m 46 #[.val (.int p1), .val (.int p2), .val (.int (2 : Int32)), .val (.ref wM), .unset] [(.int (2 : Int32))])) rfl (by rw [hml]; rfl) (lenOf pd__I_r_Ljava_util_Optional_ rfl) rfl (by decide) (Nat.le_of_ble_eq_true rfl) (by decide) (by decide) (hb hby at_46)
      obtain ⟨t59, rfl, Nq59, Kq59, szq_t59, Eo59, Fo59⟩ := Q59
      have sz_t59 : h0.size ≤ t59 := Nat.le_trans K.1 szq_t59
      have g_t59 : n0 ≤ t59 := Nat.le_trans Z0 sz_t59
      replace OL := OL.keep Kq59 all0
      replace K := K.trans Kq59 all0
      have N59 := Fr.app N51 Nq59
      refine own_of st59 ?_
      show own_Ends _ _ _ _ _ _ (T59.setTop (mkF m 49 #[.val (.int p1), .val (.int p2), .val (.int (2 : Int32)), .val (.ref wM), .unset] [(.ref t59)]))
      refine own_of (fun tt_ kk_ => XS.astore X59.here hx rfl (hb hby at_49) rfl rfl (l' := #[.val (.int p1), .val (.int p2), .val (.int (2 : Int32)), .val (.ref wM), .val (.ref t59)]) rfl kk_) ?_
      show own_Ends _ _ _ _ _ _ (T59.setTop (mkF m 51 #[.val (.int p1), .val (.int p2), .val (.int (2 : Int32)), .val (.ref wM), .val (.ref t59)] []))
      refine own_of (fun tt_ kk_ => XS.aloadN X59.here hx rfl (hb hby at_51) rfl rfl kk_) ?_
      show own_Ends _ _ _ _ _ _ (T59.setTop (mkF m 52 #[.val (.int p1), .val (.int p2), .val (.int (2 : Int32)), .val (.ref wM), .val (.ref t59)] [(.ref wM)]))
      refine own_of (fun tt_ kk_ => XS.ifnonnullYes X59.here hx rfl (pc0 := 52) (pc' := 69) rfl (hb hby at_52) rfl (by decide) (by decide) kk_) ?_
      show own_Ends _ _ _ _ _ _ (T59.setTop (mkF m 69 #[.val (.int p1), .val (.int p2), .val (.int (2 : Int32)), .val (.ref wM), .val (.ref t59)] []))
      refine own_of (fun tt_ kk_ => XS.aload X59.here hx rfl (hb hby at_69) rfl rfl kk_) ?_
      show own_Ends _ _ _ _ _ _ (T59.setTop (mkF m 71 #[.val (.int p1), .val (.int p2), .val (.int (2 : Int32)), .val (.ref wM), .val (.ref t59)] [(.ref t59)]))
      obtain ⟨v60, T60, L60, h60, X60, e60, Q60, st60⟩ := own_virtual X59 hx hZ hown e59 Eo59 (hw _ (List.mem_of_getElem? (i := 34) rfl)) (hw _ (List.mem_of_getElem? (i := 35) rfl)) (notFace_of_selects (args := #[]) (mvT hZ (hw _ (List.mem_of_getElem? (i := 37) rfl)))) (hw _ (List.mem_of_getElem? (i := 37) rfl)) (hw _ (List.mem_of_getElem? (i := 36) rfl)) (hw _ (List.mem_of_getElem? (i := 31) rfl)) (hw _ (List.mem_of_getElem? (i := 38) rfl)) (by decide) (argsL := []) (rest := []) (rm_pres1 l Z a0 hw t59 wM h59 n0 (Nat.le_trans Z0 K.1) Fo59) (g := (mkF m 71 #[.val (.int p1), .val (.int p2), .val (.int (2 : Int32)), .val (.ref wM), .val (.ref t59)] [(.ref t59)])) rfl (by rw [hml]; rfl) (lenOf pd___r_Z rfl) rfl (by decide) (Nat.le_of_ble_eq_true rfl) (by decide) (by decide) (hb hby at_71)
      obtain ⟨rfl, Nq60, q60⟩ := Q60
      replace e60 := e60.trans q60
      have N60 := Fr.app N59 Nq60
      refine own_of st60 ?_
      show own_Ends _ _ _ _ _ _ (T60.setTop (mkF m 74 #[.val (.int p1), .val (.int p2), .val (.int (2 : Int32)), .val (.ref wM), .val (.ref t59)] [(.int (1 : Int32))]))
      refine own_of (fun tt_ kk_ => XS.ifNo X60.here hx rfl (hb hby at_74) rfl ((if0 _ _).trans (feq (by decide : ¬ ((1 : Int32) = (0 : Int32)))).1) kk_) ?_
      show own_Ends _ _ _ _ _ _ (T60.setTop (mkF m 77 #[.val (.int p1), .val (.int p2), .val (.int (2 : Int32)), .val (.ref wM), .val (.ref t59)] []))
      refine own_of (fun tt_ kk_ => XS.aload X60.here hx rfl (hb hby at_77) rfl rfl kk_) ?_
      show own_Ends _ _ _ _ _ _ (T60.setTop (mkF m 79 #[.val (.int p1), .val (.int p2), .val (.int (2 : Int32)), .val (.ref wM), .val (.ref t59)] [(.ref t59)]))
      obtain ⟨v61, T61, L61, h61, X61, e61, Q61, st61⟩ := own_virtual X60 hx hZ hown e60 Eo59 (hw _ (List.mem_of_getElem? (i := 59) rfl)) (hw _ (List.mem_of_getElem? (i := 60) rfl)) (notFace_of_selects (args := #[]) (mvT hZ (hw _ (List.mem_of_getElem? (i := 62) rfl)))) (hw _ (List.mem_of_getElem? (i := 62) rfl)) (hw _ (List.mem_of_getElem? (i := 61) rfl)) (hw _ (List.mem_of_getElem? (i := 31) rfl)) (hw _ (List.mem_of_getElem? (i := 63) rfl)) (by decide) (argsL := []) (rest := []) (rm_get l Z a0 hw t59 wM h59 n0 (Nat.le_trans Z0 K.1) Fo59) (g := (mkF m 79 #[.val (.int p1), .val (.int p2), .val (.int (2 : Int32)), .val (.ref wM), .val (.ref t59)] [(.ref t59)])) rfl (by rw [hml]; rfl) (lenOf pd___r_Ljava_lang_Object_ rfl) rfl (by decide) (Nat.le_of_ble_eq_true rfl) (by decide) (by decide) (hb hby at_79)
      obtain ⟨rfl, Nq61, q61⟩ := Q61
      replace e61 := e61.trans q61
      have N61 := Fr.app N60 Nq61
      refine own_of st61 ?_
      show own_Ends _ _ _ _ _ _ (T61.setTop (mkF m 82 #[.val (.int p1), .val (.int p2), .val (.int (2 : Int32)), .val (.ref wM), .val (.ref t59)] [(.ref wM)]))
      refine own_of (fun tt_ kk_ => XS.aloadN X61.here hx rfl (hb hby at_82) rfl rfl kk_) ?_
      show own_Ends _ _ _ _ _ _ (T61.setTop (mkF m 83 #[.val (.int p1), .val (.int p2), .val (.int (2 : Int32)), .val (.ref wM), .val (.ref t59)] [(.ref wM), (.ref wM)]))
      refine own_of (fun tt_ kk_ => Jvm.RoadKit.acmp (g := (mkF m 83 #[.val (.int p1), .val (.int p2), .val (.int (2 : Int32)), .val (.ref wM), .val (.ref t59)] [(.ref wM), (.ref wM)])) X61 hx rfl rfl rfl (pc0 := 83) (pc' := 86) (same := true) rfl (hb hby at_83) rfl (decide_eq_true rfl) (by decide) (by decide) kk_) ?_
      show own_Ends _ _ _ _ _ _ (T61.setTop (mkF m 86 #[.val (.int p1), .val (.int p2), .val (.int (2 : Int32)), .val (.ref wM), .val (.ref t59)] []))
      refine own_of (fun tt_ kk_ => XS.iconst X61.here hx rfl (hb hby at_86) kk_) ?_
      show own_Ends _ _ _ _ _ _ (T61.setTop (mkF m 87 #[.val (.int p1), .val (.int p2), .val (.int (2 : Int32)), .val (.ref wM), .val (.ref t59)] [(.int (1 : Int32))]))
      refine own_of (fun tt_ kk_ => XS.goto X61.here hx rfl (pc0 := 87) (pc' := 91) rfl (hb hby at_87) (by decide) (by decide) kk_) ?_
      show own_Ends _ _ _ _ _ _ (T61.setTop (mkF m 91 #[.val (.int p1), .val (.int p2), .val (.int (2 : Int32)), .val (.ref wM), .val (.ref t59)] [(.int (1 : Int32))]))
      refine own_retN X61 hx hlk e61 (t := .boolean) hret (by simp) (z' := (1 : Int32)) rfl (hb hby at_91) (by decide) (by decide) ?_
      exact ⟨rfl, N61⟩
    · refine own_of (fun tt_ kk_ => XS.icmpYes X51.here hx rfl (pc0 := 25) (pc' := 35) rfl (hb hby at_25) rfl (feq hc57).2 (by decide) (by decide) kk_) ?_
      show own_Ends _ _ _ _ _ _ (T51.setTop (mkF m 35 #[.val (.int p1), .val (.int p2), .val (.int kx), .val .null, .unset] []))
      refine own_of (fun tt_ kk_ => XS.iloadN X51.here hx rfl (hb hby at_35) rfl  kk_) ?_
      show own_Ends _ _ _ _ _ _ (T51.setTop (mkF m 36 #[.val (.int p1), .val (.int p2), .val (.int kx), .val .null, .unset] [(.int kx)]))
      refine own_of (fun tt_ kk_ => X51.ldcI hx hown (mvT hZ (hw _ (List.mem_of_getElem? (i := 4) rfl))) (g := (mkF m 36 #[.val (.int p1), .val (.int p2), .val (.int kx), .val .null, .unset] [(.int kx)])) rfl (hb hby at_36) kk_) ?_
      show own_Ends _ _ _ _ _ _ (T51.setTop (mkF m 38 #[.val (.int p1), .val (.int p2), .val (.int kx), .val .null, .unset] [(.int (1073741824 : Int32)), (.int kx)]))
      by_cases hc62 : kx = (1073741824 : Int32)
      · refine own_of (fun tt_ kk_ => XS.icmpNo X51.here hx rfl (hb hby at_38) rfl (teq hc62).2 kk_) ?_
        show own_Ends _ _ _ _ _ _ (T51.setTop (mkF m 41 #[.val (.int p1), .val (.int p2), .val (.int kx), .val .null, .unset] []))
        obtain ⟨T63, X63, e63, st63⟩ := getS2 X51 hx hZ hown (host := "") (Or.inl (hw _ (List.mem_of_getElem? (i := 64) rfl))) Via.refl e51 (S_wL.ext OL.2) (g := (mkF m 41 #[.val (.int p1), .val (.int p2), .val (.int kx), .val .null, .unset] [])) rfl (hb hby at_41)
        refine own_of st63 ?_
        show own_Ends _ _ _ _ _ _ (T63.setTop (mkF m 44 #[.val (.int p1), .val (.int p2), .val (.int kx), .val .null, .unset] [(.ref wL)]))
        refine own_of (fun tt_ kk_ => XS.astoreN X63.here hx rfl (hb hby at_44) rfl rfl (l' := #[.val (.int p1), .val (.int p2), .val (.int kx), .val (.ref wL), .unset]) rfl kk_) ?_
        show own_Ends _ _ _ _ _ _ (T63.setTop (mkF m 45 #[.val (.int p1), .val (.int p2), .val (.int kx), .val (.ref wL), .unset] []))
        subst hc62
        show own_Ends _ _ _ _ _ _ (T63.setTop (mkF m 45 #[.val (.int p1), .val (.int p2), .val (.int (1073741824 : Int32)), .val (.ref wL), .unset] []))
        refine own_of (fun tt_ kk_ => XS.iloadN X63.here hx rfl (hb hby at_45) rfl  kk_) ?_
        show own_Ends _ _ _ _ _ _ (T63.setTop (mkF m 46 #[.val (.int p1), .val (.int p2), .val (.int (1073741824 : Int32)), .val (.ref wL), .unset] [(.int (1073741824 : Int32))]))
        obtain ⟨v64, T64, L64, h64, X64, e64, Q64, st64⟩ := own_static X63 hx hZ hown e63 (hw _ (List.mem_of_getElem? (i := 5) rfl)) (hw _ (List.mem_of_getElem? (i := 6) rfl)) (hw _ (List.mem_of_getElem? (i := 7) rfl)) (hw _ (List.mem_of_getElem? (i := 8) rfl)) (by decide) (argsL := [(.int (1073741824 : Int32))]) (rest := []) (rm_om2 l Z a0 hw wV wC wM wL wE kV h0 n0 (Nat.le_trans Z0 K.1) SV VV EV OL SE F_wC F_wM F_wL) (g := (mkF m 46 #[.val (.int p1), .val (.int p2), .val (.int (1073741824 : Int32)), .val (.ref wL), .unset] [(.int (1073741824 : Int32))])) rfl (by rw [hml]; rfl) (lenOf pd__I_r_Ljava_util_Optional_ rfl) rfl (by decide) (Nat.le_of_ble_eq_true rfl) (by decide) (by decide) (hb hby at_46)
        obtain ⟨t64, rfl, Nq64, Kq64, szq_t64, Eo64, Fo64⟩ := Q64
        have sz_t64 : h0.size ≤ t64 := Nat.le_trans K.1 szq_t64
        have g_t64 : n0 ≤ t64 := Nat.le_trans Z0 sz_t64
        replace OL := OL.keep Kq64 all0
        replace K := K.trans Kq64 all0
        have N64 := Fr.app N51 Nq64
        refine own_of st64 ?_
        show own_Ends _ _ _ _ _ _ (T64.setTop (mkF m 49 #[.val (.int p1), .val (.int p2), .val (.int (1073741824 : Int32)), .val (.ref wL), .unset] [(.ref t64)]))
        refine own_of (fun tt_ kk_ => XS.astore X64.here hx rfl (hb hby at_49) rfl rfl (l' := #[.val (.int p1), .val (.int p2), .val (.int (1073741824 : Int32)), .val (.ref wL), .val (.ref t64)]) rfl kk_) ?_
        show own_Ends _ _ _ _ _ _ (T64.setTop (mkF m 51 #[.val (.int p1), .val (.int p2), .val (.int (1073741824 : Int32)), .val (.ref wL), .val (.ref t64)] []))
        refine own_of (fun tt_ kk_ => XS.aloadN X64.here hx rfl (hb hby at_51) rfl rfl kk_) ?_
        show own_Ends _ _ _ _ _ _ (T64.setTop (mkF m 52 #[.val (.int p1), .val (.int p2), .val (.int (1073741824 : Int32)), .val (.ref wL), .val (.ref t64)] [(.ref wL)]))
        refine own_of (fun tt_ kk_ => XS.ifnonnullYes X64.here hx rfl (pc0 := 52) (pc' := 69) rfl (hb hby at_52) rfl (by decide) (by decide) kk_) ?_
        show own_Ends _ _ _ _ _ _ (T64.setTop (mkF m 69 #[.val (.int p1), .val (.int p2), .val (.int (1073741824 : Int32)), .val (.ref wL), .val (.ref t64)] []))
        refine own_of (fun tt_ kk_ => XS.aload X64.here hx rfl (hb hby at_69) rfl rfl kk_) ?_
        show own_Ends _ _ _ _ _ _ (T64.setTop (mkF m 71 #[.val (.int p1), .val (.int p2), .val (.int (1073741824 : Int32)), .val (.ref wL), .val (.ref t64)] [(.ref t64)]))
        obtain ⟨v65, T65, L65, h65, X65, e65, Q65, st65⟩ := own_virtual X64 hx hZ hown e64 Eo64 (hw _ (List.mem_of_getElem? (i := 34) rfl)) (hw _ (List.mem_of_getElem? (i := 35) rfl)) (notFace_of_selects (args := #[]) (mvT hZ (hw _ (List.mem_of_getElem? (i := 37) rfl)))) (hw _ (List.mem_of_getElem? (i := 37) rfl)) (hw _ (List.mem_of_getElem? (i := 36) rfl)) (hw _ (List.mem_of_getElem? (i := 31) rfl)) (hw _ (List.mem_of_getElem? (i := 38) rfl)) (by decide) (argsL := []) (rest := []) (rm_pres1 l Z a0 hw t64 wL h64 n0 (Nat.le_trans Z0 K.1) Fo64) (g := (mkF m 71 #[.val (.int p1), .val (.int p2), .val (.int (1073741824 : Int32)), .val (.ref wL), .val (.ref t64)] [(.ref t64)])) rfl (by rw [hml]; rfl) (lenOf pd___r_Z rfl) rfl (by decide) (Nat.le_of_ble_eq_true rfl) (by decide) (by decide) (hb hby at_71)
        obtain ⟨rfl, Nq65, q65⟩ := Q65
        replace e65 := e65.trans q65
        have N65 := Fr.app N64 Nq65
        refine own_of st65 ?_
        show own_Ends _ _ _ _ _ _ (T65.setTop (mkF m 74 #[.val (.int p1), .val (.int p2), .val (.int (1073741824 : Int32)), .val (.ref wL), .val (.ref t64)] [(.int (1 : Int32))]))
        refine own_of (fun tt_ kk_ => XS.ifNo X65.here hx rfl (hb hby at_74) rfl ((if0 _ _).trans (feq (by decide : ¬ ((1 : Int32) = (0 : Int32)))).1) kk_) ?_
        show own_Ends _ _ _ _ _ _ (T65.setTop (mkF m 77 #[.val (.int p1), .val (.int p2), .val (.int (1073741824 : Int32)), .val (.ref wL), .val (.ref t64)] []))
        refine own_of (fun tt_ kk_ => XS.aload X65.here hx rfl (hb hby at_77) rfl rfl kk_) ?_
        show own_Ends _ _ _ _ _ _ (T65.setTop (mkF m 79 #[.val (.int p1), .val (.int p2), .val (.int (1073741824 : Int32)), .val (.ref wL), .val (.ref t64)] [(.ref t64)]))
        obtain ⟨v66, T66, L66, h66, X66, e66, Q66, st66⟩ := own_virtual X65 hx hZ hown e65 Eo64 (hw _ (List.mem_of_getElem? (i := 59) rfl)) (hw _ (List.mem_of_getElem? (i := 60) rfl)) (notFace_of_selects (args := #[]) (mvT hZ (hw _ (List.mem_of_getElem? (i := 62) rfl)))) (hw _ (List.mem_of_getElem? (i := 62) rfl)) (hw _ (List.mem_of_getElem? (i := 61) rfl)) (hw _ (List.mem_of_getElem? (i := 31) rfl)) (hw _ (List.mem_of_getElem? (i := 63) rfl)) (by decide) (argsL := []) (rest := []) (rm_get l Z a0 hw t64 wL h64 n0 (Nat.le_trans Z0 K.1) Fo64) (g := (mkF m 79 #[.val (.int p1), .val (.int p2), .val (.int (1073741824 : Int32)), .val (.ref wL), .val (.ref t64)] [(.ref t64)])) rfl (by rw [hml]; rfl) (lenOf pd___r_Ljava_lang_Object_ rfl) rfl (by decide) (Nat.le_of_ble_eq_true rfl) (by decide) (by decide) (hb hby at_79)
        obtain ⟨rfl, Nq66, q66⟩ := Q66
        replace e66 := e66.trans q66
        have N66 := Fr.app N65 Nq66
        refine own_of st66 ?_
        show own_Ends _ _ _ _ _ _ (T66.setTop (mkF m 82 #[.val (.int p1), .val (.int p2), .val (.int (1073741824 : Int32)), .val (.ref wL), .val (.ref t64)] [(.ref wL)]))
        refine own_of (fun tt_ kk_ => XS.aloadN X66.here hx rfl (hb hby at_82) rfl rfl kk_) ?_
        show own_Ends _ _ _ _ _ _ (T66.setTop (mkF m 83 #[.val (.int p1), .val (.int p2), .val (.int (1073741824 : Int32)), .val (.ref wL), .val (.ref t64)] [(.ref wL), (.ref wL)]))
        refine own_of (fun tt_ kk_ => Jvm.RoadKit.acmp (g := (mkF m 83 #[.val (.int p1), .val (.int p2), .val (.int (1073741824 : Int32)), .val (.ref wL), .val (.ref t64)] [(.ref wL), (.ref wL)])) X66 hx rfl rfl rfl (pc0 := 83) (pc' := 86) (same := true) rfl (hb hby at_83) rfl (decide_eq_true rfl) (by decide) (by decide) kk_) ?_
        show own_Ends _ _ _ _ _ _ (T66.setTop (mkF m 86 #[.val (.int p1), .val (.int p2), .val (.int (1073741824 : Int32)), .val (.ref wL), .val (.ref t64)] []))
        refine own_of (fun tt_ kk_ => XS.iconst X66.here hx rfl (hb hby at_86) kk_) ?_
        show own_Ends _ _ _ _ _ _ (T66.setTop (mkF m 87 #[.val (.int p1), .val (.int p2), .val (.int (1073741824 : Int32)), .val (.ref wL), .val (.ref t64)] [(.int (1 : Int32))]))
        refine own_of (fun tt_ kk_ => XS.goto X66.here hx rfl (pc0 := 87) (pc' := 91) rfl (hb hby at_87) (by decide) (by decide) kk_) ?_
        show own_Ends _ _ _ _ _ _ (T66.setTop (mkF m 91 #[.val (.int p1), .val (.int p2), .val (.int (1073741824 : Int32)), .val (.ref wL), .val (.ref t64)] [(.int (1 : Int32))]))
        refine own_retN X66 hx hlk e66 (t := .boolean) hret (by simp) (z' := (1 : Int32)) rfl (hb hby at_91) (by decide) (by decide) ?_
        exact ⟨rfl, N66⟩
      · refine own_of (fun tt_ kk_ => XS.icmpYes X51.here hx rfl (pc0 := 38) (pc' := 45) rfl (hb hby at_38) rfl (feq hc62).2 (by decide) (by decide) kk_) ?_
        show own_Ends _ _ _ _ _ _ (T51.setTop (mkF m 45 #[.val (.int p1), .val (.int p2), .val (.int kx), .val .null, .unset] []))
        refine own_of (fun tt_ kk_ => XS.iloadN X51.here hx rfl (hb hby at_45) rfl  kk_) ?_
        show own_Ends _ _ _ _ _ _ (T51.setTop (mkF m 46 #[.val (.int p1), .val (.int p2), .val (.int kx), .val .null, .unset] [(.int kx)]))
        obtain ⟨v67, T67, L67, h67, X67, e67, Q67, st67⟩ := own_static X51 hx hZ hown e51 (hw _ (List.mem_of_getElem? (i := 5) rfl)) (hw _ (List.mem_of_getElem? (i := 6) rfl)) (hw _ (List.mem_of_getElem? (i := 7) rfl)) (hw _ (List.mem_of_getElem? (i := 8) rfl)) (by decide) (argsL := [(.int kx)]) (rest := []) (rm_om3 l Z a0 hw wV wC wM wL wE kV kx h0 n0 (Nat.le_trans Z0 K.1) SV VV EV OL SE F_wC F_wM F_wL (fun q => hc52 q.symm) (fun q => hc57 q.symm) (fun q => hc62 q.symm)) (g := (mkF m 46 #[.val (.int p1), .val (.int p2), .val (.int kx), .val .null, .unset] [(.int kx)])) rfl (by rw [hml]; rfl) (lenOf pd__I_r_Ljava_util_Optional_ rfl) rfl (by decide) (Nat.le_of_ble_eq_true rfl) (by decide) (by decide) (hb hby at_46)
        obtain ⟨rfl, Nq67, Kq67⟩ := Q67
        replace OL := OL.keep Kq67 all0
        replace K := K.trans Kq67 all0
        have N67 := Fr.app N51 Nq67
        refine own_of st67 ?_
        show own_Ends _ _ _ _ _ _ (T67.setTop (mkF m 49 #[.val (.int p1), .val (.int p2), .val (.int kx), .val .null, .unset] [(.ref wE)]))
        refine own_of (fun tt_ kk_ => XS.astore X67.here hx rfl (hb hby at_49) rfl rfl (l' := #[.val (.int p1), .val (.int p2), .val (.int kx), .val .null, .val (.ref wE)]) rfl kk_) ?_
        show own_Ends _ _ _ _ _ _ (T67.setTop (mkF m 51 #[.val (.int p1), .val (.int p2), .val (.int kx), .val .null, .val (.ref wE)] []))
        refine own_of (fun tt_ kk_ => XS.aloadN X67.here hx rfl (hb hby at_51) rfl rfl kk_) ?_
        show own_Ends _ _ _ _ _ _ (T67.setTop (mkF m 52 #[.val (.int p1), .val (.int p2), .val (.int kx), .val .null, .val (.ref wE)] [.null]))
        refine own_of (fun tt_ kk_ => XS.ifnonnullNo X67.here hx rfl (hb hby at_52) rfl kk_) ?_
        show own_Ends _ _ _ _ _ _ (T67.setTop (mkF m 55 #[.val (.int p1), .val (.int p2), .val (.int kx), .val .null, .val (.ref wE)] []))
        refine own_of (fun tt_ kk_ => XS.aload X67.here hx rfl (hb hby at_55) rfl rfl kk_) ?_
        show own_Ends _ _ _ _ _ _ (T67.setTop (mkF m 57 #[.val (.int p1), .val (.int p2), .val (.int kx), .val .null, .val (.ref wE)] [(.ref wE)]))
        obtain ⟨v68, T68, L68, h68, X68, e68, Q68, st68⟩ := own_virtual X67 hx hZ hown e67 (EE.ext OL.2) (hw _ (List.mem_of_getElem? (i := 34) rfl)) (hw _ (List.mem_of_getElem? (i := 35) rfl)) (notFace_of_selects (args := #[]) (mvT hZ (hw _ (List.mem_of_getElem? (i := 37) rfl)))) (hw _ (List.mem_of_getElem? (i := 37) rfl)) (hw _ (List.mem_of_getElem? (i := 36) rfl)) (hw _ (List.mem_of_getElem? (i := 31) rfl)) (hw _ (List.mem_of_getElem? (i := 38) rfl)) (by decide) (argsL := []) (rest := []) (rm_pres0 l Z a0 hw wE  h67 n0 (Nat.le_trans Z0 K.1) (FE.ext OL.2)) (g := (mkF m 57 #[.val (.int p1), .val (.int p2), .val (.int kx), .val .null, .val (.ref wE)] [(.ref wE)])) rfl (by rw [hml]; rfl) (lenOf pd___r_Z rfl) rfl (by decide) (Nat.le_of_ble_eq_true rfl) (by decide) (by decide) (hb hby at_57)
        obtain ⟨rfl, Nq68, q68⟩ := Q68
        replace e68 := e68.trans q68
        have N68 := Fr.app N67 Nq68
        refine own_of st68 ?_
        show own_Ends _ _ _ _ _ _ (T68.setTop (mkF m 60 #[.val (.int p1), .val (.int p2), .val (.int kx), .val .null, .val (.ref wE)] [(.int (0 : Int32))]))
        refine own_of (fun tt_ kk_ => XS.ifNo X68.here hx rfl (hb hby at_60) rfl ((if0 _ _).trans (teq (by decide : ((0 : Int32) = (0 : Int32)))).2) kk_) ?_
        show own_Ends _ _ _ _ _ _ (T68.setTop (mkF m 63 #[.val (.int p1), .val (.int p2), .val (.int kx), .val .null, .val (.ref wE)] []))
        refine own_of (fun tt_ kk_ => XS.iconst X68.here hx rfl (hb hby at_63) kk_) ?_
        show own_Ends _ _ _ _ _ _ (T68.setTop (mkF m 64 #[.val (.int p1), .val (.int p2), .val (.int kx), .val .null, .val (.ref wE)] [(.int (1 : Int32))]))
        refine own_of (fun tt_ kk_ => XS.goto X68.here hx rfl (pc0 := 64) (pc' := 68) rfl (hb hby at_64) (by decide) (by decide) kk_) ?_
        show own_Ends _ _ _ _ _ _ (T68.setTop (mkF m 68 #[.val (.int p1), .val (.int p2), .val (.int kx), .val .null, .val (.ref wE)] [(.int (1 : Int32))]))
        refine own_retN X68 hx hlk e68 (t := .boolean) hret (by simp) (z' := (1 : Int32)) rfl (hb hby at_68) (by decide) (by decide) ?_
        exact ⟨rfl, N68⟩
theorem own_eq_ref {args : Array Value} {s : State} {t u : Jvm.Term} {a : Addr} (h : (Jvm.Cond.eq t u).value args s none s [] = some true) (hu : u.eval args s none [] s = some (.ref a)) : t.eval args s none [] s = some (.ref a) := by
  simp only [Cond.value, hu] at h
  cases ht : t.eval args s none [] s with
  | none => simp [ht] at h
  | some v => cases v <;> simp [ht] at h; rw [h]
set_option maxRecDepth 65536 in
set_option maxHeartbeats 40000000 in
theorem comes_1 {Post : Tables → Env → Array Value → State → Outcome → State → Prop} (hpost : ∀ tb e args s v u, (limb_1_1.after args s (.returned v) u = true ∧ limb_1_2.after args s (.returned v) u = true ∧ True) → FrameEnd s (.returned v) u (Jvm.fieldLocs frame_1_writes args s ++ Jvm.arrayLocs frame_1_arrays args s ++ Jvm.staticLocs frame_1_statics s) 16 128 → Post tb e args s (.returned v) u) :
    ArmFor flags0 classFile x code maxLocals ret World_1 tables_1 room_1 Calls_1 rest_1 Pre_1 Post := by
  intro l hfl _ _ p e ha hc hk s m args below hf hA hF happ hP
  obtain ⟨hcalls, hrest, hpre⟩ := hP
  obtain ⟨-, -, -, hnamed, -, -, -, hat⟩ := (Spec.applies_iff hf).mp happ
  obtain ⟨hg, hn⟩ := and_e (Cond.before_iff.mp (show (Jvm.Cond.and given_1 narrow_1).before args s = true from hpre))
  obtain ⟨hcount, hg⟩ := and_e hg
  obtain ⟨hgi0, hg⟩ := and_e hg
  have hgi1 := hg
  obtain ⟨w0, w1, rfl⟩ : ∃ w0 w1 : Value, args = #[w0, w1] := by
    have hs : args.size = 2 := by simpa [Cond.value, given_1] using hcount
    obtain ⟨L⟩ := args
    match L, hs with
    | [w0, w1], _ => exact ⟨w0, w1, rfl⟩
  have hw := fun d (hd : d ∈ tables_1) => atoms_spec (ws := Jvm.Cond.code x code maxLocals ret :: tables_1) hat d (List.mem_cons_of_mem _ hd)
  have hfit : Fit s := fun {y c} hc i hi => by
    obtain ⟨ha, rfl⟩ := Array.getElem?_eq_some_iff.mp hc
    have q := List.all_eq_true.mp ((Array.all_eq_true_iff_forall_mem.mp hF) _ (Array.getElem_mem ha)) i (List.mem_range.mpr hi)
    simpa [Array.getElem?_eq_getElem hi] using q
  obtain ⟨hsets, hown0⟩ := atoms_of _ (rest_1_c_eq ▸ (show rest_1_c.before _ s = true from hrest))
  have hr0 := Cond.before_iff.mp hown0
  obtain ⟨i0, ei0⟩ := is_v hgi0
  obtain rfl : w0 = (.int i0) := Option.some.inj ei0
  obtain ⟨i1, ei1⟩ := is_v hgi1
  obtain rfl : w1 = (.int i1) := Option.some.inj ei1
  obtain ⟨n1, hn⟩ := and_e hn
  obtain ⟨n2, hn⟩ := and_e hn
  obtain ⟨n3, hn⟩ := and_e hn
  obtain ⟨n4, hn⟩ := and_e hn
  obtain ⟨n5, hn⟩ := and_e hn
  obtain ⟨n6, hn⟩ := and_e hn
  obtain ⟨n7, hn⟩ := and_e hn
  obtain ⟨n8, hn⟩ := and_e hn
  obtain ⟨n9, hn⟩ := and_e hn
  obtain ⟨n10, hn⟩ := and_e hn
  obtain ⟨n11, hn⟩ := and_e hn
  have n12 := hn
  obtain ⟨wV, evV⟩ := exa_v n2
  have SV := Sta.start evV (Or.inr ⟨(hw _ (List.mem_of_getElem? (i := 7) rfl)), (hw _ (List.mem_of_getElem? (i := 13) rfl))⟩)
  have EV := Exa.start evV n2
  obtain ⟨clV, arV⟩ := Arr.start evV n1
  obtain ⟨wC, ev_wC⟩ := exa_v n4
  have S_wC := Sta.start ev_wC (Or.inr ⟨(hw _ (List.mem_of_getElem? (i := 7) rfl)), (hw _ (List.mem_of_getElem? (i := 21) rfl))⟩)
  have F_wC : Fld s s.heap wC "com/example/drayage/drayage/DropAction" "mask" "I" (.int (1 : Int32)) := Fld.start ((fld_at ev_wC).symm.trans (own_eq_int n10))
  obtain ⟨wM, ev_wM⟩ := exa_v n6
  have S_wM := Sta.start ev_wM (Or.inr ⟨(hw _ (List.mem_of_getElem? (i := 7) rfl)), (hw _ (List.mem_of_getElem? (i := 22) rfl))⟩)
  have F_wM : Fld s s.heap wM "com/example/drayage/drayage/DropAction" "mask" "I" (.int (2 : Int32)) := Fld.start ((fld_at ev_wM).symm.trans (own_eq_int n11))
  obtain ⟨wL, ev_wL⟩ := exa_v n8
  have S_wL := Sta.start ev_wL (Or.inr ⟨(hw _ (List.mem_of_getElem? (i := 7) rfl)), (hw _ (List.mem_of_getElem? (i := 23) rfl))⟩)
  have F_wL : Fld s s.heap wL "com/example/drayage/drayage/DropAction" "mask" "I" (.int (1073741824 : Int32)) := Fld.start ((fld_at ev_wL).symm.trans (own_eq_int n12))
  have elV := own_eq_int n3
  have hszV : clV.slots.size < 2 ^ 31 := by
    have q := SBG.length_lt evV (arV.fin (Vm.Alike.refl _)) elV
    exact q
  have elV2 : clV.slots.size.toInt32 = (3 : Int32) := by
    have q := len_f (t := Jvm.Term.static "com/example/drayage/drayage/DropAction" "$VALUES" "[Lcom/example/drayage/drayage/DropAction;") evV (arV.fin (Vm.Alike.refl _)) hszV
    exact Value.int.inj (Option.some.inj (q.symm.trans elV))
  have at_wC : clV.slots[0]? = some (.ref wC) := (elem_in (own_eq_ref n5 ev_wC) evV (Term.int_eval (0)) arV.1).2
  have at_wM : clV.slots[1]? = some (.ref wM) := (elem_in (own_eq_ref n7 ev_wM) evV (Term.int_eval (1)) arV.1).2
  have at_wL : clV.slots[2]? = some (.ref wL) := (elem_in (own_eq_ref n9 ev_wL) evV (Term.int_eval (2)) arV.1).2
  have VV : Arv s s.heap wV clV.cls (.object "com/example/drayage/drayage/DropAction") (3 : Int32) [(.ref wC), (.ref wM), (.ref wL)] .null := Arv.start hfit arV hszV elV2 (by decide) rfl ⟨at_wC, at_wM, at_wL, trivial⟩
  obtain ⟨wE, evE⟩ := exa_v (Cond.before_iff.mp (hsets _ (List.mem_of_getElem? (i := 2) rfl)))
  have SE := Sta.start evE (Or.inl (hsets _ (List.mem_of_getElem? (i := 1) rfl)))
  have EE := Exa.start evE (Cond.before_iff.mp (hsets _ (List.mem_of_getElem? (i := 2) rfl)))
  have FE : Fld s s.heap wE "java/util/Optional" "value" "Ljava/lang/Object;" .null := Fld.start ((fld_at evE).symm.trans (null_v (Cond.before_iff.mp (hsets _ (List.mem_of_getElem? (i := 3) rfl)))))
  obtain ⟨n, o, h1, h2, h3, _, L, rfl, ⟨rfl, N⟩, hq⟩ := rm0 l s _ hw i0 i1 wV wC wM wL wE clV.cls s.heap s.heap.size (Nat.le_refl _) SV VV EV (Old.start s) SE F_wC F_wM F_wL S_wC S_wM S_wL EE FE tables_1 p e ha hc hk s m _ below hf ((Spec.applies_iff_loose hf).mp happ).1 ⟨rfl, State.Warmed39.refl s, rfl⟩ trivial
  refine ⟨n, _, h1, h2, h3, hpost _ _ _ _ _ _ ⟨Cond.after_iff.mpr rfl, Cond.after_iff.mpr (eq_i res_at (Term.int_eval (1)) rfl), trivial⟩ ⟨hq.1, hq.2.1, (hq.2.2.sift fun y hy => Or.inr (N y hy)).mono (by decide) (by decide)⟩⟩
theorem main_1_1 : Claimed_1_1 := comes_1 fun _ _ _ _ _ _ h hF => ⟨h.1, hF⟩
theorem main_1_2 : Claimed_1_2 := comes_1 fun _ _ _ _ _ _ h hF => ⟨h.2.1, hF⟩
end Jvm.Pilot.@@N@@
namespace Jvm.Pilot.@@N@@
open Jvm Jvm.ClassFile Sem Op Lib Jvm.Free Jvm.Stand Jvm.Pilot.@@N@@.Jvm.D
/-! MADE BY PROGRAM (witnessworld.py) out of the Statement's table words and the real class files: 15 classes; the members and pool entries that the words name. The judged class is class 1, her method 2. -/
namespace start1
open Jvm.ClassFile
def u (s : String) : CpInfo := .utf8 (stringToUtf16 s)
/-- a pool by its gaps: so many unusable entries, then the entry; so many at the end -/
def gap : Nat → List CpInfo → List CpInfo
  | 0, r => r
  | n + 1, r => .unusable :: gap n r
def poolList (es : List (Nat × CpInfo)) (last : Nat) : List CpInfo := es.foldr (fun e r => gap e.1 (e.2 :: r)) (gap last [])
def pool (es : List (Nat × CpInfo)) (last : Nat) : Array CpInfo := ⟨poolList es last⟩
def fileOf (pool : Array CpInfo) (this : Nat) (attrs : Array Attribute := #[]) (ms : Array MethodInfo := #[]) (fl : Nat := 33) (sup : Nat := 0) (ifs : Array Nat := #[]) (fds : Array FieldInfo := #[]) : ClassFile where
  minorVersion := 0
  majorVersion := 65
  constantPool := pool
  accessFlags := fl
  thisClass := this
  superClass := sup
  interfaces := ifs
  fields := fds
  methods := ms
  attributes := attrs
def plain (name : String) (sup : Option ClassId) : Class where
  name := name
  kind := .ordinary
  loader := none
  accessFlags := 33
  super := sup
  interfaces := #[]
  cf := none
  fields := #[]
  methods := #[]
  instanceTypes := #[]
  staticTypes := #[]
  resolved := #[]
  callSites := []
  init := .initialized
  statics := none
  mirror := none

def pool0 : Array CpInfo := pool [(5, u "<init>"), (0, u "()V"), (1, .class_ 10), (1, u "java/lang/Object"), (85, u "clone"), (0, u "()Ljava/lang/Object;")] 26

def k0c0 : Code := { maxStack := 0, maxLocals := 1, code := object_method_1_code, exceptionTable := #[], attributes := #[] }
def k0m0 : Method := { name := "<init>", desc := "()V", sig := { parameters := [], returnType := none }, accessFlags := 1, code := some k0c0 }
def k0m1 : Method := { name := "clone", desc := "()Ljava/lang/Object;", sig := { parameters := [], returnType := some (.object "java/lang/Object") }, accessFlags := 260, code := none }
/-- java/lang/Object -/
def k0 : Class := { plain "java/lang/Object" none with
  accessFlags := 33
  interfaces := #[]
  cf := some (fileOf pool0 8 #[] #[{ accessFlags := 1, nameIndex := 5, descriptorIndex := 6, attributes := #[] }, { accessFlags := 260, nameIndex := 96, descriptorIndex := 97, attributes := #[] }] 33 0 #[] #[])
  fields := #[]
  methods := #[k0m0, k0m1]
  instanceTypes := #[]
  staticTypes := #[]
  resolved := Array.replicate 124 none
  statics := none }

def pool1 : Array CpInfo := pool [(2, .class_ 4), (1, u "java/lang/Object"), (0, u "<init>"), (0, u "()V"), (0, .integer 1073741824), (0, .integer 1073741827), (0, .methodref 10 11), (0, .class_ 12), (0, .nameAndType 13 14), (0, u "com/example/drayage/drayage/DropActionOfMaskPinLaw"), (0, u "pick"), (0, u "(II)I"), (0, .fieldref 16 17), (0, .class_ 18), (0, .nameAndType 19 20), (0, u "com/example/drayage/drayage/DropAction"), (0, u "COPY"), (0, u "Lcom/example/drayage/drayage/DropAction;"), (0, .fieldref 16 22), (0, .nameAndType 23 20), (0, u "MOVE"), (0, .fieldref 16 25), (0, .nameAndType 26 20), (0, u "LINK"), (0, .methodref 16 28), (0, .nameAndType 29 30), (0, u "ofMask"), (0, u "(I)Ljava/util/Optional;"), (0, .methodref 32 33), (0, .class_ 34), (0, .nameAndType 35 36), (0, u "java/util/Optional"), (0, u "isPresent"), (0, u "()Z"), (0, .methodref 32 38), (0, .nameAndType 39 40), (0, u "get"), (0, u "()Ljava/lang/Object;"), (3, u "law"), (0, u "(II)Z")] 2

def k1m0 : Method := { name := "<init>", desc := "()V", sig := { parameters := [], returnType := none }, accessFlags := 2, code := none }
def k1c1 : Code := { maxStack := 2, maxLocals := 2, code := method_2_code, exceptionTable := #[], attributes := #[] }
def k1m1 : Method := { name := "pick", desc := "(II)I", sig := { parameters := [.int, .int], returnType := some .int }, accessFlags := 10, code := some k1c1 }
def k1c2 : Code := { maxStack := 2, maxLocals := 5, code := code, exceptionTable := #[], attributes := #[] }
def k1m2 : Method := { name := "law", desc := "(II)Z", sig := { parameters := [.int, .int], returnType := some .boolean }, accessFlags := 9, code := some k1c2 }
/-- com/example/drayage/drayage/DropActionOfMaskPinLaw -/
def k1 : Class := { plain "com/example/drayage/drayage/DropActionOfMaskPinLaw" (some 0) with
  accessFlags := 49
  interfaces := #[]
  cf := some (fileOf pool1 10 #[] #[{ accessFlags := 2, nameIndex := 5, descriptorIndex := 6, attributes := #[] }, { accessFlags := 10, nameIndex := 13, descriptorIndex := 14, attributes := #[] }, { accessFlags := 9, nameIndex := 44, descriptorIndex := 45, attributes := #[] }] 49 2 #[] #[])
  fields := #[]
  methods := #[k1m0, k1m1, k1m2]
  instanceTypes := #[]
  staticTypes := #[]
  resolved := Array.replicate 48 none
  statics := none }

def pool2 : Array CpInfo := pool [(1, .class_ 2), (0, u "java/lang/constant/Constable"), (0, .class_ 4), (0, u "java/lang/Object")] 6

/-- java/lang/constant/Constable -/
def k2 : Class := { plain "java/lang/constant/Constable" (some 0) with
  accessFlags := 1537
  interfaces := #[]
  cf := some (fileOf pool2 1 #[] #[] 1537 3 #[] #[])
  fields := #[]
  methods := #[]
  instanceTypes := #[]
  staticTypes := #[]
  resolved := Array.replicate 11 none
  statics := none }

def pool3 : Array CpInfo := pool [(1, .class_ 2), (0, u "java/lang/Comparable"), (0, .class_ 4), (0, u "java/lang/Object")] 7

/-- java/lang/Comparable -/
def k3 : Class := { plain "java/lang/Comparable" (some 0) with
  accessFlags := 1537
  interfaces := #[]
  cf := some (fileOf pool3 1 #[] #[] 1537 3 #[] #[])
  fields := #[]
  methods := #[]
  instanceTypes := #[]
  staticTypes := #[]
  resolved := Array.replicate 12 none
  statics := none }

def pool4 : Array CpInfo := pool [(1, .class_ 2), (0, u "java/io/Serializable"), (0, .class_ 4), (0, u "java/lang/Object")] 2

/-- java/io/Serializable -/
def k4 : Class := { plain "java/io/Serializable" (some 0) with
  accessFlags := 1537
  interfaces := #[]
  cf := some (fileOf pool4 1 #[] #[] 1537 3 #[] #[])
  fields := #[]
  methods := #[]
  instanceTypes := #[]
  staticTypes := #[]
  resolved := Array.replicate 7 none
  statics := none }

def pool5 : Array CpInfo := pool [(2, .class_ 4), (1, u "java/lang/Enum"), (0, u "name"), (0, u "Ljava/lang/String;"), (2, u "ordinal"), (0, u "I"), (1, .class_ 14), (1, u "java/lang/Object"), (4, u "hash"), (86, .class_ 108), (1, u "java/lang/Enum$EnumDesc"), (2, .class_ 112), (0, u "java/lang/constant/Constable"), (0, .class_ 114), (0, u "java/lang/Comparable"), (0, .class_ 116), (0, u "java/io/Serializable")] 87

/-- java/lang/Enum -/
def k5 : Class := { plain "java/lang/Enum" (some 0) with
  accessFlags := 1057
  interfaces := #[2, 3, 4]
  cf := some (fileOf pool5 2 #[.nestMembers #[106]] #[] 1057 12 #[111, 113, 115] #[{ accessFlags := 18, nameIndex := 5, descriptorIndex := 6, attributes := #[] }, { accessFlags := 18, nameIndex := 9, descriptorIndex := 10, attributes := #[] }, { accessFlags := 2, nameIndex := 19, descriptorIndex := 10, attributes := #[] }])
  fields := #[{ name := "name", type := (.object "java/lang/String"), accessFlags := 18, slot := 0, constantValue := 0 }, { name := "ordinal", type := .int, accessFlags := 18, slot := 1, constantValue := 0 }, { name := "hash", type := .int, accessFlags := 2, slot := 2, constantValue := 0 }]
  methods := #[]
  instanceTypes := #[(.object "java/lang/String"), .int, .int]
  staticTypes := #[]
  resolved := Array.replicate 204 none
  statics := none }

def pool6 : Array CpInfo := pool [(3, .class_ 4), (0, u "com/example/drayage/drayage/DropAction"), (2, u "COPY"), (0, u "Lcom/example/drayage/drayage/DropAction;"), (2, u "MOVE"), (2, u "LINK"), (0, .fieldref 3 16), (0, .nameAndType 17 18), (0, u "$VALUES"), (0, u "[Lcom/example/drayage/drayage/DropAction;"), (0, .methodref 20 21), (0, .class_ 18), (0, .nameAndType 22 23), (0, u "clone"), (0, u "()Ljava/lang/Object;"), (1, .class_ 27), (1, u "java/lang/Enum"), (6, .fieldref 3 35), (0, .nameAndType 36 37), (0, u "mask"), (0, u "I"), (18, .methodref 57 58), (0, .class_ 59), (0, .nameAndType 60 61), (0, u "java/util/Optional"), (0, u "of"), (0, u "(Ljava/lang/Object;)Ljava/util/Optional;"), (0, .methodref 57 63), (0, .nameAndType 64 65), (0, u "empty"), (0, u "()Ljava/util/Optional;"), (13, u "FALLBACK_ORDER"), (0, u "Ljava/util/List;"), (10, u "ofMask"), (0, u "(I)Ljava/util/Optional;"), (22, .methodref 3 116), (0, .nameAndType 117 118), (0, u "values"), (0, u "()[Lcom/example/drayage/drayage/DropAction;"), (2, u "TOOLKIT_DEFAULT_ORDER"), (55, u "CHOOSING_MODIFIERS")] 45

def k6c0 : Code := { maxStack := 1, maxLocals := 0, code := prog_19_method_1_code, exceptionTable := #[], attributes := #[] }
def k6m0 : Method := { name := "values", desc := "()[Lcom/example/drayage/drayage/DropAction;", sig := { parameters := [], returnType := some (.array (.object "com/example/drayage/drayage/DropAction")) }, accessFlags := 9, code := some k6c0 }
def k6c1 : Code := { maxStack := 2, maxLocals := 5, code := prog_19_method_8_code, exceptionTable := #[], attributes := #[] }
def k6m1 : Method := { name := "ofMask", desc := "(I)Ljava/util/Optional;", sig := { parameters := [.int], returnType := some (.object "java/util/Optional") }, accessFlags := 8, code := some k6c1 }
/-- com/example/drayage/drayage/DropAction -/
def k6 : Class := { plain "com/example/drayage/drayage/DropAction" (some 5) with
  accessFlags := 16433
  interfaces := #[]
  cf := some (fileOf pool6 3 #[] #[{ accessFlags := 9, nameIndex := 117, descriptorIndex := 118, attributes := #[] }, { accessFlags := 8, nameIndex := 91, descriptorIndex := 92, attributes := #[] }] 16433 25 #[] #[{ accessFlags := 16409, nameIndex := 7, descriptorIndex := 8, attributes := #[] }, { accessFlags := 16409, nameIndex := 11, descriptorIndex := 8, attributes := #[] }, { accessFlags := 16409, nameIndex := 14, descriptorIndex := 8, attributes := #[] }, { accessFlags := 26, nameIndex := 121, descriptorIndex := 80, attributes := #[] }, { accessFlags := 26, nameIndex := 79, descriptorIndex := 80, attributes := #[] }, { accessFlags := 26, nameIndex := 177, descriptorIndex := 37, attributes := #[] }, { accessFlags := 18, nameIndex := 36, descriptorIndex := 37, attributes := #[] }, { accessFlags := 4122, nameIndex := 17, descriptorIndex := 18, attributes := #[] }])
  fields := #[{ name := "COPY", type := (.object "com/example/drayage/drayage/DropAction"), accessFlags := 16409, slot := 0, constantValue := 0 }, { name := "MOVE", type := (.object "com/example/drayage/drayage/DropAction"), accessFlags := 16409, slot := 1, constantValue := 0 }, { name := "LINK", type := (.object "com/example/drayage/drayage/DropAction"), accessFlags := 16409, slot := 2, constantValue := 0 }, { name := "TOOLKIT_DEFAULT_ORDER", type := (.object "java/util/List"), accessFlags := 26, slot := 3, constantValue := 0 }, { name := "FALLBACK_ORDER", type := (.object "java/util/List"), accessFlags := 26, slot := 4, constantValue := 0 }, { name := "CHOOSING_MODIFIERS", type := .int, accessFlags := 26, slot := 5, constantValue := 0 }, { name := "mask", type := .int, accessFlags := 18, slot := 3, constantValue := 0 }, { name := "$VALUES", type := (.array (.object "com/example/drayage/drayage/DropAction")), accessFlags := 4122, slot := 6, constantValue := 0 }]
  methods := #[k6m0, k6m1]
  instanceTypes := #[(.object "java/lang/String"), .int, .int, .int]
  staticTypes := #[(.object "com/example/drayage/drayage/DropAction"), (.object "com/example/drayage/drayage/DropAction"), (.object "com/example/drayage/drayage/DropAction"), (.object "java/util/List"), (.object "java/util/List"), .int, (.array (.object "com/example/drayage/drayage/DropAction"))]
  resolved := Array.replicate 223 none
  statics := some 0 }

def pool7 : Array CpInfo := pool [(1, .class_ 2), (0, u "java/lang/Cloneable"), (0, .class_ 4), (0, u "java/lang/Object")] 2

/-- java/lang/Cloneable -/
def k7 : Class := { plain "java/lang/Cloneable" (some 0) with
  accessFlags := 1537
  interfaces := #[]
  cf := some (fileOf pool7 1 #[] #[] 1537 3 #[] #[])
  fields := #[]
  methods := #[]
  instanceTypes := #[]
  staticTypes := #[]
  resolved := Array.replicate 7 none
  statics := none }

def pool8 : Array CpInfo := pool [(1, .fieldref 2 3), (0, .class_ 4), (0, .nameAndType 5 6), (0, u "java/util/Optional"), (0, u "EMPTY"), (0, u "Ljava/util/Optional;"), (0, .methodref 8 9), (0, .class_ 10), (0, .nameAndType 11 12), (0, u "java/lang/Object"), (0, u "<init>"), (0, u "()V"), (0, .fieldref 2 14), (0, .nameAndType 15 16), (0, u "value"), (0, u "Ljava/lang/Object;"), (0, .methodref 18 19), (0, .class_ 20), (0, .nameAndType 21 22), (0, u "java/util/Objects"), (0, u "requireNonNull"), (0, u "(Ljava/lang/Object;)Ljava/lang/Object;"), (0, .methodref 2 24), (0, .nameAndType 11 25), (0, u "(Ljava/lang/Object;)V"), (20, u "()Z"), (8, u "empty"), (0, u "()Ljava/util/Optional;"), (8, u "(Ljava/lang/Object;)Ljava/util/Optional;"), (2, u "isPresent"), (4, u "get"), (0, u "()Ljava/lang/Object;"), (7, u "of")] 104

def k8c0 : Code := { maxStack := 1, maxLocals := 1, code := jdk_32_method_1_code, exceptionTable := #[], attributes := #[] }
def k8m0 : Method := { name := "empty", desc := "()Ljava/util/Optional;", sig := { parameters := [], returnType := some (.object "java/util/Optional") }, accessFlags := 9, code := some k8c0 }
def k8c1 : Code := { maxStack := 2, maxLocals := 2, code := jdk_32_method_2_code, exceptionTable := #[], attributes := #[] }
def k8m1 : Method := { name := "<init>", desc := "(Ljava/lang/Object;)V", sig := { parameters := [(.object "java/lang/Object")], returnType := none }, accessFlags := 2, code := some k8c1 }
def k8c2 : Code := { maxStack := 3, maxLocals := 1, code := jdk_32_method_3_code, exceptionTable := #[], attributes := #[] }
def k8m2 : Method := { name := "of", desc := "(Ljava/lang/Object;)Ljava/util/Optional;", sig := { parameters := [(.object "java/lang/Object")], returnType := some (.object "java/util/Optional") }, accessFlags := 9, code := some k8c2 }
def k8c3 : Code := { maxStack := 3, maxLocals := 1, code := jdk_32_method_5_code, exceptionTable := #[], attributes := #[] }
def k8m3 : Method := { name := "get", desc := "()Ljava/lang/Object;", sig := { parameters := [], returnType := some (.object "java/lang/Object") }, accessFlags := 1, code := some k8c3 }
def k8c4 : Code := { maxStack := 1, maxLocals := 1, code := jdk_32_method_6_code, exceptionTable := #[], attributes := #[] }
def k8m4 : Method := { name := "isPresent", desc := "()Z", sig := { parameters := [], returnType := some .boolean }, accessFlags := 1, code := some k8c4 }
/-- java/util/Optional -/
def k8 : Class := { plain "java/util/Optional" (some 0) with
  accessFlags := 49
  interfaces := #[]
  cf := some (fileOf pool8 2 #[] #[{ accessFlags := 9, nameIndex := 55, descriptorIndex := 56, attributes := #[] }, { accessFlags := 2, nameIndex := 11, descriptorIndex := 25, attributes := #[] }, { accessFlags := 9, nameIndex := 82, descriptorIndex := 65, attributes := #[] }, { accessFlags := 1, nameIndex := 73, descriptorIndex := 74, attributes := #[] }, { accessFlags := 1, nameIndex := 68, descriptorIndex := 46, attributes := #[] }] 49 8 #[] #[{ accessFlags := 26, nameIndex := 5, descriptorIndex := 6, attributes := #[] }, { accessFlags := 18, nameIndex := 15, descriptorIndex := 16, attributes := #[] }])
  fields := #[{ name := "EMPTY", type := (.object "java/util/Optional"), accessFlags := 26, slot := 0, constantValue := 0 }, { name := "value", type := (.object "java/lang/Object"), accessFlags := 18, slot := 0, constantValue := 0 }]
  methods := #[k8m0, k8m1, k8m2, k8m3, k8m4]
  instanceTypes := #[(.object "java/lang/Object")]
  staticTypes := #[(.object "java/util/Optional")]
  resolved := Array.replicate 187 none
  statics := some 1 }

def pool9 : Array CpInfo := pool [(2, .class_ 4), (1, u "java/lang/Object"), (0, u "<init>"), (0, u "()V"), (35, .class_ 44), (1, u "java/util/Objects"), (0, u "requireNonNull"), (0, u "(Ljava/lang/Object;)Ljava/lang/Object;")] 137

def k9m0 : Method := { name := "<init>", desc := "()V", sig := { parameters := [], returnType := none }, accessFlags := 2, code := none }
def k9c1 : Code := { maxStack := 2, maxLocals := 1, code := jdk_31_method_10_code, exceptionTable := #[], attributes := #[] }
def k9m1 : Method := { name := "requireNonNull", desc := "(Ljava/lang/Object;)Ljava/lang/Object;", sig := { parameters := [(.object "java/lang/Object")], returnType := some (.object "java/lang/Object") }, accessFlags := 9, code := some k9c1 }
/-- java/util/Objects -/
def k9 : Class := { plain "java/util/Objects" (some 0) with
  accessFlags := 49
  interfaces := #[]
  cf := some (fileOf pool9 42 #[] #[{ accessFlags := 2, nameIndex := 5, descriptorIndex := 6, attributes := #[] }, { accessFlags := 9, nameIndex := 45, descriptorIndex := 46, attributes := #[] }] 49 2 #[] #[])
  fields := #[]
  methods := #[k9m0, k9m1]
  instanceTypes := #[]
  staticTypes := #[]
  resolved := Array.replicate 184 none
  statics := none }

/-- the primitive byte -/
def k10 : Class := { plain "byte" none with kind := .primitive 'B', accessFlags := 0x411 }
/-- [B -/
def k11 : Class := { plain "[B" (some 0) with kind := .array 10 .byte, interfaces := #[7, 4], accessFlags := 1041 }

/-- the primitive int -/
def k12 : Class := { plain "int" none with kind := .primitive 'I', accessFlags := 0x411 }
/-- [I -/
def k13 : Class := { plain "[I" (some 0) with kind := .array 12 .int, interfaces := #[7, 4], accessFlags := 1041 }

/-- [Lcom/example/drayage/drayage/DropAction; -/
def k14 : Class := { plain "[Lcom/example/drayage/drayage/DropAction;" (some 0) with kind := .array 6 (.object "com/example/drayage/drayage/DropAction"), interfaces := #[7, 4], accessFlags := 1041 }

def heap : Heap := #[{ cls := 6, slots := #[.ref 3, .ref 4, .ref 5, .null, .null, .int 0, .ref 2], vm := .statics 6 },
  { cls := 8, slots := #[.ref 6], vm := .statics 8 },
  { cls := 14, slots := #[.ref 3, .ref 4, .ref 5], vm := .none },
  { cls := 6, slots := #[.null, .int 0, .int 0, .int 1], vm := .none },
  { cls := 6, slots := #[.null, .int 1, .int 0, .int 2], vm := .none },
  { cls := 6, slots := #[.null, .int 2, .int 0, .int 1073741824], vm := .none },
  { cls := 8, slots := #[.null], vm := .none }]
def classes : Array Class := #[k0, k1, k2, k3, k4, k5, k6, k7, k8, k9, k10, k11, k12, k13, k14]
def interned : List (Array UInt16 × Addr) := []
def slotsUsed : Nat := 24
def theMethod : MethodId := ⟨1, 2⟩
def args0 : Array Value := #[.int 1, .int 3]
def aboutOver (below : List Frame) : State where
  vm := { classes := classes, interned := interned.toArray }
  heap := heap
  slotsUsed := slotsUsed
  threads := #[{ frames := .invoking theMethod args0 :: below }]
def below0 : List Frame := [.native { method := ⟨0, 0⟩, args := #[] }]
def about1 : State := aboutOver below0
def p0 : Program := .bare "" "" ""
def e0 : Env := launch0.env 0 0 0
theorem w_frames : about1.frames = Frame.invoking theMethod args0 :: below0 := rfl
set_option maxRecDepth 65536 in
theorem w_args : argsFit about1.vm theMethod args0 = true := by decide +kernel
set_option maxRecDepth 65536 in
theorem w_heap : heapFits about1 = true := by decide +kernel
set_option maxRecDepth 65536 in
theorem w_runnable : about1.curStatus? = some .runnable := by decide +kernel
set_option maxRecDepth 65536 in
theorem w_alone : about1.alone = true := by decide +kernel
set_option maxRecDepth 65536 in
theorem w_named : about1.methodNamed? x = some theMethod := by decide +kernel
set_option maxRecDepth 65536 in
theorem w_hears : about1.hears theMethod below0 = true := by decide +kernel
set_option maxRecDepth 65536 in
theorem w_ripe : about1.ripe theMethod args0 below0 = true := by decide +kernel
theorem w_running : about1.status = .running := rfl
set_option maxRecDepth 65536 in
theorem w_room : about1.hasRoom e0.platform room_1 = true :=
  launch0.hasRoom_least _ room_1 (by decide +kernel) (by decide +kernel) (by decide +kernel) (by decide +kernel) (by decide +kernel) (by decide +kernel)
theorem allAtoms_all (ts : List Jvm.Cond) (a : Array Jvm.Value) (st : Jvm.State) : (allAtoms ts).before a st = ts.all (fun c => c.before a st) := by
  induction ts with
  | nil => rfl
  | cons c t ih =>
    show (Jvm.Cond.and c (allAtoms t)).before a st = _
    rw [Jvm.Cond.before_and, ih, List.all_cons]
def words1 : List Jvm.Cond := Jvm.Cond.code x code maxLocals ret :: tables_1
/-- a 'code' word, met by the world's own term for the bytes: nothing is compared byte by byte -/
theorem code_word {y : MethodName} {bytes : ByteArray} {mx : Nat} {rt : Option FieldType} {a : Array Value} {s : State} {m : MethodId} {meth : Method} {c : Code} (h1 : s.methodNamed? y = some m) (h2 : s.vm.method? m = some meth) (h3 : meth.code = some c) (h4 : c.code = bytes)
    (h5 : (c.maxLocals == mx && c.exceptionTable.isEmpty && decide (c.maxStack ≤ mostOperands) && decide (meth.sig.returnType = rt) && !meth.locks && decide (parseMethodDescriptor y.desc = some meth.sig)) = true) : (Jvm.Cond.code y bytes mx rt).before a s = true := by
  simp only [Bool.and_eq_true, beq_iff_eq, Bool.not_eq_true', decide_eq_true_eq] at h5
  obtain ⟨⟨⟨⟨⟨g1, g2⟩, g3⟩, g4⟩, g5⟩, g6⟩ := h5
  simp [Cond.before, Cond.holds, Cond.value, h1, h2, h3, h4, g1, g2, g3, g4, g5, g6]
def isCode : Jvm.Cond → Bool
  | .code _ _ _ _ => true
  | _ => false
theorem all_split {L : List Jvm.Cond} {P : Jvm.Cond → Bool} (h1 : L.all (fun c => isCode c || P c) = true) (h2 : ∀ c ∈ L.filter isCode, P c = true) : L.all P = true := by
  refine List.all_eq_true.mpr fun c hc => ?_
  have h := List.all_eq_true.mp h1 c hc
  rcases Bool.eq_false_or_eq_true (isCode c) with hi | hi
  · exact h2 c (List.mem_filter.mpr ⟨hc, hi⟩)
  · simpa [hi] using h
set_option maxRecDepth 65536 in
theorem w_c0 : (Jvm.Cond.code x code maxLocals ret).before args0 about1 = true := code_word (m := ⟨1, 2⟩) (meth := k1m2) (c := k1c2) (by decide +kernel) rfl rfl rfl (by decide +kernel)
set_option maxRecDepth 65536 in
theorem w_c1 : (Jvm.Cond.code ({ cls := "com/example/drayage/drayage/DropActionOfMaskPinLaw", name := "pick", desc := "(II)I" } : Jvm.MethodName) method_2_code (2 : Nat) (Option.some Jvm.ClassFile.FieldType.int)).before args0 about1 = true := code_word (m := ⟨1, 1⟩) (meth := k1m1) (c := k1c1) (by decide +kernel) rfl rfl rfl (by decide +kernel)
set_option maxRecDepth 65536 in
theorem w_c2 : (Jvm.Cond.code ({ cls := "com/example/drayage/drayage/DropAction", name := "ofMask", desc := "(I)Ljava/util/Optional;" } : Jvm.MethodName) prog_19_method_8_code (5 : Nat) (Option.some (Jvm.ClassFile.FieldType.object "java/util/Optional"))).before args0 about1 = true := code_word (m := ⟨6, 1⟩) (meth := k6m1) (c := k6c1) (by decide +kernel) rfl rfl rfl (by decide +kernel)
set_option maxRecDepth 65536 in
theorem w_c3 : (Jvm.Cond.code ({ cls := "com/example/drayage/drayage/DropAction", name := "values", desc := "()[Lcom/example/drayage/drayage/DropAction;" } : Jvm.MethodName) prog_19_method_1_code (0 : Nat) (Option.some (Jvm.ClassFile.FieldType.array (Jvm.ClassFile.FieldType.object "com/example/drayage/drayage/DropAction")))).before args0 about1 = true := code_word (m := ⟨6, 0⟩) (meth := k6m0) (c := k6c0) (by decide +kernel) rfl rfl rfl (by decide +kernel)
set_option maxRecDepth 65536 in
theorem w_c4 : (Jvm.Cond.code ({ cls := "java/util/Optional", name := "empty", desc := "()Ljava/util/Optional;" } : Jvm.MethodName) jdk_32_method_1_code (1 : Nat) (Option.some (Jvm.ClassFile.FieldType.object "java/util/Optional"))).before args0 about1 = true := code_word (m := ⟨8, 0⟩) (meth := k8m0) (c := k8c0) (by decide +kernel) rfl rfl rfl (by decide +kernel)
set_option maxRecDepth 65536 in
theorem w_c5 : (Jvm.Cond.code ({ cls := "java/util/Optional", name := "isPresent", desc := "()Z" } : Jvm.MethodName) jdk_32_method_6_code (1 : Nat) (Option.some Jvm.ClassFile.FieldType.boolean)).before args0 about1 = true := code_word (m := ⟨8, 4⟩) (meth := k8m4) (c := k8c4) (by decide +kernel) rfl rfl rfl (by decide +kernel)
set_option maxRecDepth 65536 in
theorem w_c6 : (Jvm.Cond.code ({ cls := "java/util/Optional", name := "of", desc := "(Ljava/lang/Object;)Ljava/util/Optional;" } : Jvm.MethodName) jdk_32_method_3_code (1 : Nat) (Option.some (Jvm.ClassFile.FieldType.object "java/util/Optional"))).before args0 about1 = true := code_word (m := ⟨8, 2⟩) (meth := k8m2) (c := k8c2) (by decide +kernel) rfl rfl rfl (by decide +kernel)
set_option maxRecDepth 65536 in
theorem w_c7 : (Jvm.Cond.code ({ cls := "java/util/Objects", name := "requireNonNull", desc := "(Ljava/lang/Object;)Ljava/lang/Object;" } : Jvm.MethodName) jdk_31_method_10_code (1 : Nat) (Option.some (Jvm.ClassFile.FieldType.object "java/lang/Object"))).before args0 about1 = true := code_word (m := ⟨9, 1⟩) (meth := k9m1) (c := k9c1) (by decide +kernel) rfl rfl rfl (by decide +kernel)
set_option maxRecDepth 65536 in
theorem w_c8 : (Jvm.Cond.code ({ cls := "java/util/Optional", name := "<init>", desc := "(Ljava/lang/Object;)V" } : Jvm.MethodName) jdk_32_method_2_code (2 : Nat) (Option.none : Option Jvm.ClassFile.FieldType)).before args0 about1 = true := code_word (m := ⟨8, 1⟩) (meth := k8m1) (c := k8c1) (by decide +kernel) rfl rfl rfl (by decide +kernel)
set_option maxRecDepth 65536 in
theorem w_c9 : (Jvm.Cond.code ({ cls := "java/lang/Object", name := "<init>", desc := "()V" } : Jvm.MethodName) object_method_1_code (1 : Nat) (Option.none : Option Jvm.ClassFile.FieldType)).before args0 about1 = true := code_word (m := ⟨0, 0⟩) (meth := k0m0) (c := k0c0) (by decide +kernel) rfl rfl rfl (by decide +kernel)
set_option maxRecDepth 65536 in
theorem w_c10 : (Jvm.Cond.code ({ cls := "java/util/Optional", name := "get", desc := "()Ljava/lang/Object;" } : Jvm.MethodName) jdk_32_method_5_code (1 : Nat) (Option.some (Jvm.ClassFile.FieldType.object "java/lang/Object"))).before args0 about1 = true := code_word (m := ⟨8, 3⟩) (meth := k8m3) (c := k8c3) (by decide +kernel) rfl rfl rfl (by decide +kernel)
def codes1 : List Jvm.Cond := [Jvm.Cond.code x code maxLocals ret, Jvm.Cond.code ({ cls := "com/example/drayage/drayage/DropActionOfMaskPinLaw", name := "pick", desc := "(II)I" } : Jvm.MethodName) method_2_code (2 : Nat) (Option.some Jvm.ClassFile.FieldType.int), Jvm.Cond.code ({ cls := "com/example/drayage/drayage/DropAction", name := "ofMask", desc := "(I)Ljava/util/Optional;" } : Jvm.MethodName) prog_19_method_8_code (5 : Nat) (Option.some (Jvm.ClassFile.FieldType.object "java/util/Optional")), Jvm.Cond.code ({ cls := "com/example/drayage/drayage/DropAction", name := "values", desc := "()[Lcom/example/drayage/drayage/DropAction;" } : Jvm.MethodName) prog_19_method_1_code (0 : Nat) (Option.some (Jvm.ClassFile.FieldType.array (Jvm.ClassFile.FieldType.object "com/example/drayage/drayage/DropAction"))), Jvm.Cond.code ({ cls := "java/util/Optional", name := "empty", desc := "()Ljava/util/Optional;" } : Jvm.MethodName) jdk_32_method_1_code (1 : Nat) (Option.some (Jvm.ClassFile.FieldType.object "java/util/Optional")), Jvm.Cond.code ({ cls := "java/util/Optional", name := "isPresent", desc := "()Z" } : Jvm.MethodName) jdk_32_method_6_code (1 : Nat) (Option.some Jvm.ClassFile.FieldType.boolean), Jvm.Cond.code ({ cls := "java/util/Optional", name := "of", desc := "(Ljava/lang/Object;)Ljava/util/Optional;" } : Jvm.MethodName) jdk_32_method_3_code (1 : Nat) (Option.some (Jvm.ClassFile.FieldType.object "java/util/Optional")), Jvm.Cond.code ({ cls := "java/util/Objects", name := "requireNonNull", desc := "(Ljava/lang/Object;)Ljava/lang/Object;" } : Jvm.MethodName) jdk_31_method_10_code (1 : Nat) (Option.some (Jvm.ClassFile.FieldType.object "java/lang/Object")), Jvm.Cond.code ({ cls := "java/util/Optional", name := "<init>", desc := "(Ljava/lang/Object;)V" } : Jvm.MethodName) jdk_32_method_2_code (2 : Nat) (Option.none : Option Jvm.ClassFile.FieldType), Jvm.Cond.code ({ cls := "java/lang/Object", name := "<init>", desc := "()V" } : Jvm.MethodName) object_method_1_code (1 : Nat) (Option.none : Option Jvm.ClassFile.FieldType), Jvm.Cond.code ({ cls := "java/util/Optional", name := "get", desc := "()Ljava/lang/Object;" } : Jvm.MethodName) jdk_32_method_5_code (1 : Nat) (Option.some (Jvm.ClassFile.FieldType.object "java/lang/Object"))]
set_option maxRecDepth 65536 in
theorem codes_eq : words1.filter isCode = codes1 := rfl
theorem w_codes : ∀ c ∈ words1.filter isCode, c.before args0 about1 = true := by
  rw [codes_eq]
  intro c hc
  simp only [codes1, List.mem_cons, List.not_mem_nil, or_false] at hc
  rcases hc with rfl | rfl | rfl | rfl | rfl | rfl | rfl | rfl | rfl | rfl | rfl
  · exact w_c0
  · exact w_c1
  · exact w_c2
  · exact w_c3
  · exact w_c4
  · exact w_c5
  · exact w_c6
  · exact w_c7
  · exact w_c8
  · exact w_c9
  · exact w_c10
set_option maxRecDepth 65536 in
theorem w_t1 : (words1.take 24).all (fun c => isCode c || c.before args0 about1) = true := by decide +kernel
set_option maxRecDepth 65536 in
theorem w_t2 : ((words1.drop 24).take 24).all (fun c => isCode c || c.before args0 about1) = true := by decide +kernel
set_option maxRecDepth 65536 in
theorem w_t3 : ((words1.drop 24).drop 24).all (fun c => isCode c || c.before args0 about1) = true := by decide +kernel
theorem w_tables : (allAtoms (Jvm.Cond.code x code maxLocals ret :: tables_1)).before args0 about1 = true := by
  rw [allAtoms_all]
  show words1.all (fun c => c.before args0 about1) = true
  refine all_split ?_ w_codes
  rw [← List.take_append_drop 24 words1, List.all_append, w_t1, ← List.take_append_drop 24 (words1.drop 24), List.all_append, w_t2, w_t3]
  rfl
set_option maxRecDepth 65536 in
theorem w_rest : rest_1_c.before args0 about1 = true := by decide +kernel
set_option maxRecDepth 65536 in
theorem w_case : (Jvm.Cond.and given_1 narrow_1).before args0 about1 = true := by decide +kernel
theorem w_applies : (headSpec (Jvm.Cond.code x code maxLocals ret :: tables_1) room_1).applies x e0.platform about1 = true :=
  (Spec.applies_iff w_frames).mpr ⟨w_running, w_runnable, w_alone, w_named, w_hears, w_ripe, w_room, w_tables⟩
theorem atStart : AtStart classFile x code maxLocals ret World_1 tables_1 room_1 Calls_1 rest_1 Pre_1 launch0 p0 e0 about1 theMethod args0 below0 :=
  ⟨lists_1, trivial, launch0.admits_env _ _ _, launch0.least_env, fairChoices_fair.cas, fairChoices_fair.clock, w_frames, w_args, w_heap, w_applies, trivial, w_rest, w_case⟩
end start1
theorem witness_1 : WitnessClaimed_1 := ⟨start1.p0, start1.e0, start1.about1, start1.theMethod, start1.args0, start1.below0, start1.atStart⟩
end Jvm.Pilot.@@N@@
