import JvmDerived
import JvmDerived.Pilot.@@N@@Statement
import JvmDerived.Pilot.@@N@@Code
set_option linter.unusedVariables false
set_option linter.unusedSimpArgs false
namespace Jvm.Pilot.@@N@@
open Jvm Jvm.ClassFile Sem Op Lib Jvm.Free Jvm.Stand Jvm.LawKit Jvm.RoadKit Bundle Jvm.Pilot.@@N@@.Jvm.D
section Own
variable {p : Program} {l : Launch} {e : Env} {R : Room} {s : State} {m : MethodId} {args : Array Value} {below : List Frame} {meth : Method} {c : Code} {T : State} {locs : List Loc} {cells slots : Nat} {Z : State} {a0 : Array Value} {h h0 : Heap} {Q : Option Value → Heap → List Loc → Prop} {S S' : State}
/-- a body's contract: from the heap h0 with the arguments as' it returns, and Q says of the value, the heap and the places written -/
def own_Met (l : Launch) (Z : State) (y : MethodName) (bytes : ByteArray) (maxL : Nat) (rt : Option FieldType) (rm : Room) (as' : Array Value) (h0 : Heap) (Q : Option Value → Heap → List Loc → Prop) : Prop :=
  ∀ ws : List Jvm.Cond, MetFree l y (head1 (Jvm.Cond.code y bytes maxL rt :: ws) rm) (fun a U => a = as' ∧ Z.Warmed39 U.vm ∧ U.heap = h0) (fun _ _ _ _ _ => True) (fun _ U o U' => ∃ v L, o = .returned v ∧ Q v U'.heap L ∧ FrameEnd U o U' L rm.cells rm.slots)
/-- from S the body comes to its end, and Q holds there -/
def own_Ends (p : Program) (e : Env) (below : List Frame) (s : State) (rm : Room) (Q : Option Value → Heap → List Loc → Prop) (S : State) : Prop :=
  ∃ s₂ o, Steps p.tables e below S s₂ ∧ s₂.status = .running ∧ Ended s₂ below o ∧ ∃ v L, o = .returned v ∧ Q v s₂.heap L ∧ FrameEnd s o s₂ L rm.cells rm.slots
theorem own_of (hs : ∀ t, Steps p.tables e below S' t → Steps p.tables e below S t) (k : own_Ends p e below s R Q S') : own_Ends p e below s R Q S := by
  obtain ⟨s₂, o, h1, h2⟩ := k; exact ⟨s₂, o, hs _ h1, h2⟩
theorem own_tr (hs : Steps p.tables e below S S') (k : own_Ends p e below s R Q S') : own_Ends p e below s R Q S := by
  obtain ⟨s₂, o, h1, h2⟩ := k; exact ⟨s₂, o, hs.trans h1, h2⟩
theorem own_ends_mono {Q' : Option Value → Heap → List Loc → Prop} (hq : ∀ v h L, Q v h L → Q' v h L) (k : own_Ends p e below s R Q S) : own_Ends p e below s R Q' S := by
  obtain ⟨s₂, o, h1, h2, h3, v, L, h4, h5, h6⟩ := k; exact ⟨s₂, o, h1, h2, h3, v, L, h4, hq _ _ _ h5, h6⟩
theorem own_met_mono {y : MethodName} {bytes : ByteArray} {maxL : Nat} {rt : Option FieldType} {rm : Room} {as' : Array Value} {Q' : Option Value → Heap → List Loc → Prop} (k : own_Met l Z y bytes maxL rt rm as' h0 Q) (hq : ∀ v h L, Q v h L → Q' v h L) : own_Met l Z y bytes maxL rt rm as' h0 Q' := by
  intro ws p e ha hc hk s m args below hf happ hP hK
  obtain ⟨n, o, g1, g2, g3, v, L, g4, g5, g6⟩ := k ws p e ha hc hk s m args below hf happ hP hK
  exact ⟨n, o, g1, g2, g3, v, L, g4, hq _ _ _ g5, g6⟩
theorem own_body {y : MethodName} {bytes : ByteArray} {maxL : Nat} {rt : Option FieldType} {rm : Room} {as' : Array Value} (hpl : plainFor y = true)
    (body : ∀ (p : Program) (e : Env) (s : State) (m : MethodId) (below : List Frame) (meth : Method) (c : Code) (T : State), Stand p l e rm s m as' below meth c T [] 0 0 → T.heap = h0 → p.tables.exec = Jvm.exec → c.code = bytes → c.maxLocals = maxL → s.vm.findClass y.cls = some m.cls → meth.name = y.name → meth.sig.returnType = rt → meth.locks = false → Z.Warmed39 s.vm → own_Ends p e below s rm Q (T.setTop (entryFrame m as' maxL))) :
    own_Met l Z y bytes maxL rt rm as' h0 Q := by
  intro ws
  refine MetFree.of_bodySF hpl hisR ?_
  intro p e s m args below meth c s₁ Bd hml0 hP hK
  obtain ⟨rfl, hZ, hh⟩ := hP
  exact body p e s m below meth c s₁ (Stand.of_body Bd) (by rw [← hh, Bd.state]; rfl) Bd.exec Bd.bytes hml0 (findClass_of_methodNamed Bd.named) (name_of_methodNamed Bd.named Bd.method).1 Bd.returns Bd.notSynchronized hZ
theorem own_ret (X : Stand p l e R s m args below meth c T locs cells slots) (hlk : meth.locks = false) {v : Option Value} (hv : meth.sig.returnType = none → v = none) (eT : T.heap = h) (hc : cells ≤ R.cells) (hs : slots ≤ R.slots) (hq : Q v h locs)
    (st : ∀ fs : List Frame, (∀ (f : JFrame) (acts : List Action), f.method = m → f.locked = none → f.entered = [] → (doReturn e (T.setTop f) acts v).1 = T.setFrames fs) → Steps p.tables e below S (T.setFrames fs)) : own_Ends p e below s R Q S := by
  subst eT
  obtain ⟨fs, hr, hrun, hended, hW, hsame⟩ := X.leave hv hlk
  exact ⟨_, _, st fs hr, hrun, hended, _, _, rfl, hq, ⟨_, rfl⟩, hW, hsame.mono hc hs⟩
theorem own_retI (X : Stand p l e R s m args below meth c T locs cells slots) (hx : p.tables.exec = Jvm.exec) (hlk : meth.locks = false) (eT : T.heap = h) {pc : Nat} {Ls : Array Slot} {z : Int32} {rest : List Value} (hret : meth.sig.returnType = some .int) (hd : decode c.code pc = .ok (.ireturn, 1))
    (hc : cells ≤ R.cells) (hs : slots ≤ R.slots) (hq : Q (some (.int z)) h locs) : own_Ends p e below s R Q (T.setTop (mkF m pc Ls (.int z :: rest))) :=
  own_ret X hlk (fun q => by rw [hret] at q; cases q) eT hc hs hq fun fs hr => retOut X hx hret rfl (Or.inl ⟨rfl, Or.inl rfl, z, rfl⟩) hd hr
theorem own_retN (X : Stand p l e R s m args below meth c T locs cells slots) (hx : p.tables.exec = Jvm.exec) (hlk : meth.locks = false) (eT : T.heap = h) {pc : Nat} {Ls : Array Slot} {z z' : Int32} {rest : List Value} {t : FieldType} (hret : meth.sig.returnType = some t) (ht : t = .boolean ∨ t = .byte ∨ t = .char ∨ t = .short) (hz : nar t z = z') (hd : decode c.code pc = .ok (.ireturn, 1))
    (hc : cells ≤ R.cells) (hs : slots ≤ R.slots) (hq : Q (some (.int z')) h locs) : own_Ends p e below s R Q (T.setTop (mkF m pc Ls (.int z :: rest))) := by
  subst hz
  exact own_ret X hlk (fun q => by rw [hret] at q; cases q) eT hc hs hq fun fs hr => retN X hx hret ht hd hr
theorem own_retJ (X : Stand p l e R s m args below meth c T locs cells slots) (hx : p.tables.exec = Jvm.exec) (hlk : meth.locks = false) (eT : T.heap = h) {pc : Nat} {Ls : Array Slot} {z : Int64} {rest : List Value} (hret : meth.sig.returnType = some .long) (hd : decode c.code pc = .ok (.lreturn, 1))
    (hc : cells ≤ R.cells) (hs : slots ≤ R.slots) (hq : Q (some (.long z)) h locs) : own_Ends p e below s R Q (T.setTop (mkF m pc Ls (.long z :: rest))) :=
  own_ret X hlk (fun q => by rw [hret] at q; cases q) eT hc hs hq fun fs hr => retOut X hx hret rfl (Or.inr (Or.inl ⟨rfl, rfl, z, rfl⟩)) hd hr
theorem own_retA (X : Stand p l e R s m args below meth c T locs cells slots) (hx : p.tables.exec = Jvm.exec) (hlk : meth.locks = false) (eT : T.heap = h) {pc : Nat} {Ls : Array Slot} {w : Value} {rest : List Value} {t : FieldType} (hret : meth.sig.returnType = some t) (ht : t.isReference = true) (hw : w.isRef = true) (hd : decode c.code pc = .ok (.areturn, 1))
    (hc : cells ≤ R.cells) (hs : slots ≤ R.slots) (hq : Q (some w) h locs) : own_Ends p e below s R Q (T.setTop (mkF m pc Ls (w :: rest))) :=
  own_ret X hlk (fun q => by rw [hret] at q; cases q) eT hc hs hq fun fs hr => retOut X hx hret (by rcases ref_cases hw with rfl | ⟨z, rfl⟩ <;> cases t <;> first | rfl | (simp [FieldType.isReference] at ht)) (Or.inr (Or.inr (Or.inr (Or.inr ⟨rfl, ht, hw⟩)))) hd hr
theorem own_retV (X : Stand p l e R s m args below meth c T locs cells slots) (hx : p.tables.exec = Jvm.exec) (hlk : meth.locks = false) (eT : T.heap = h) {pc : Nat} {Ls : Array Slot} (hret : meth.sig.returnType = none) (hd : decode c.code pc = .ok (.return_, 1))
    (hc : cells ≤ R.cells) (hs : slots ≤ R.slots) (hq : Q none h locs) : own_Ends p e below s R Q (T.setTop (mkF m pc Ls [])) :=
  own_ret X hlk (fun _ => rfl) eT hc hs hq fun fs hr => X.returnOut hx hret hd hr
/-! calls by the callee's contract -/
variable {y z : MethodName} {bytes : ByteArray} {maxL : Nat} {rt : Option FieldType} {rm : Room} {Qc : Option Value → Heap → List Loc → Prop} {own C : String} {index : Nat} {g : JFrame} {argsL rest : List Value} {b : Addr}
theorem own_static (X : Stand p l e R s m args below meth c T locs cells slots) (hx : p.tables.exec = Jvm.exec) (hZ : Z.Warmed39 s.vm) (hown : s.vm.findClass own = some m.cls) (eT : T.heap = h)
    (w1 : (Jvm.Cond.methodLink own index y).before a0 Z = true) (w2 : (Jvm.Cond.static y).before a0 Z = true) (w3 : (Jvm.Cond.initialized y.cls).before a0 Z = true) (w4 : (Jvm.Cond.code y bytes maxL rt).before a0 Z = true)
    (hy : y.cls ≠ "java/lang/invoke/MethodHandle" ∧ y.cls ≠ "java/lang/invoke/VarHandle") (hM : own_Met l Z y bytes maxL rt rm argsL.toArray h Qc)
    (hg : g.method = m) (hsz : g.locals.size = c.maxLocals) (hlen : ∀ sig, parseMethodDescriptor y.desc = some sig → argsL.length = sig.parameters.length) (hst : g.stack = argsL.reverse ++ rest)
    (hf : rm.frames + 1 ≤ R.frames) (hl : (2 * g.monitorRoom + (rest.map fun v => v.category).sum) + (maxL + 11) + rm.locals ≤ R.locals) (hc : cells + rm.cells ≤ R.cells) (hs : slots + rm.slots ≤ R.slots)
    (hd : decode c.code g.pc = .ok (.invokestatic index, 3)) :
    ∃ (v : Option Value) (T' : State) (L : List Loc) (h' : Heap), Stand p l e R s m args below meth c T' (locs ++ L) (cells + rm.cells) (slots + rm.slots) ∧ T'.heap = h' ∧ Qc v h' L ∧ ∀ t, Steps p.tables e below (T'.setTop { g with pc := g.pc + 3, stack := v.toList ++ rest }) t → Steps p.tables e below (T.setTop g) t := by
  obtain ⟨v, _, ⟨T', L', k', n'⟩, -, X', ⟨Lc, hQ, e1, e2, e3⟩, st⟩ := Jvm.LawKit.callS X hx hown (mvT hZ w1) (mvT hZ w2) (mvT hZ w3) (mvT hZ w4) hy (backOf (hM []) hZ w4 w3 hf hl) hg hsz hlen hst (Nat.le_refl _) hd (fun _ _ => ⟨rfl, eT, hc, hs⟩)
  dsimp only [Pt.U, Pt.locs, Pt.cells, Pt.slots] at X' e1 e2 e3 st hQ
  subst e1 e2 e3
  exact ⟨v, T', Lc, _, X', rfl, hQ, st⟩
theorem own_special (X : Stand p l e R s m args below meth c T locs cells slots) (hx : p.tables.exec = Jvm.exec) (hZ : Z.Warmed39 s.vm) (hown : s.vm.findClass own = some m.cls) (eT : T.heap = h) (hy1 : y.name = "<init>")
    (w1 : (Jvm.Cond.methodLink own index y).before a0 Z = true) (w2 : (Jvm.Cond.instanceMethod y).before a0 Z = true) (w3 : (Jvm.Cond.initialized y.cls).before a0 Z = true) (w4 : (Jvm.Cond.code y bytes maxL none).before a0 Z = true)
    (hy : y.cls ≠ "java/lang/invoke/MethodHandle" ∧ y.cls ≠ "java/lang/invoke/VarHandle") (hM : own_Met l Z y bytes maxL none rm (.ref b :: argsL).toArray h Qc)
    (hg : g.method = m) (hsz : g.locals.size = c.maxLocals) (hlen : ∀ sig, parseMethodDescriptor y.desc = some sig → argsL.length = sig.parameters.length) (hst : g.stack = argsL.reverse ++ .ref b :: rest)
    (hf : rm.frames + 1 ≤ R.frames) (hl : (2 * g.monitorRoom + (rest.map fun v => v.category).sum) + (maxL + 11) + rm.locals ≤ R.locals) (hc : cells + rm.cells ≤ R.cells) (hs : slots + rm.slots ≤ R.slots)
    (hd : decode c.code g.pc = .ok (.invokespecial index, 3)) :
    ∃ (v : Option Value) (T' : State) (L : List Loc) (h' : Heap), Stand p l e R s m args below meth c T' (locs ++ L) (cells + rm.cells) (slots + rm.slots) ∧ T'.heap = h' ∧ Qc v h' L ∧ ∀ t, Steps p.tables e below (T'.setTop { g with pc := g.pc + 3, stack := v.toList ++ rest }) t → Steps p.tables e below (T.setTop g) t := by
  obtain ⟨v, _, ⟨T', L', k', n'⟩, -, X', ⟨Lc, hQ, e1, e2, e3⟩, st⟩ := X.specialBack hx hy1 hown (mvT hZ w1) (mvT hZ w2) (mvT hZ w4) hy (backOf (hM []) hZ w4 w3 hf hl) hg hsz (Steps.refl _) hlen hst (Nat.le_refl _) hd (fun _ _ => ⟨rfl, eT, hc, hs⟩)
  dsimp only [Pt.U, Pt.locs, Pt.cells, Pt.slots] at X' e1 e2 e3 st hQ
  subst e1 e2 e3
  exact ⟨v, T', Lc, _, X', rfl, hQ, fun t k => st.trans k⟩
theorem own_virtual (X : Stand p l e R s m args below meth c T locs cells slots) (hx : p.tables.exec = Jvm.exec) (hZ : Z.Warmed39 s.vm) (hown : s.vm.findClass own = some m.cls) (eT : T.heap = h) (E : Exa Z h b C)
    (w1 : (Jvm.Cond.methodLink own index y).before a0 Z = true) (w2 : (Jvm.Cond.declares y).before a0 Z = true) (hnf : NotFace s y) (w5 : (Jvm.Cond.selects C y z).before a0 Z = true) (w6 : (Jvm.Cond.instanceMethod z).before a0 Z = true) (w3 : (Jvm.Cond.initialized z.cls).before a0 Z = true) (w4 : (Jvm.Cond.code z bytes maxL rt).before a0 Z = true)
    (hy : y.cls ≠ "java/lang/invoke/MethodHandle" ∧ y.cls ≠ "java/lang/invoke/VarHandle") (hM : own_Met l Z z bytes maxL rt rm (.ref b :: argsL).toArray h Qc)
    (hg : g.method = m) (hsz : g.locals.size = c.maxLocals) (hlen : ∀ sig, parseMethodDescriptor y.desc = some sig → argsL.length = sig.parameters.length) (hst : g.stack = argsL.reverse ++ .ref b :: rest)
    (hf : rm.frames + 1 ≤ R.frames) (hl : (2 * g.monitorRoom + (rest.map fun v => v.category).sum) + (maxL + 11) + rm.locals ≤ R.locals) (hc : cells + rm.cells ≤ R.cells) (hs : slots + rm.slots ≤ R.slots)
    (hd : decode c.code g.pc = .ok (.invokevirtual index, 3)) :
    ∃ (v : Option Value) (T' : State) (L : List Loc) (h' : Heap), Stand p l e R s m args below meth c T' (locs ++ L) (cells + rm.cells) (slots + rm.slots) ∧ T'.heap = h' ∧ Qc v h' L ∧ ∀ t, Steps p.tables e below (T'.setTop { g with pc := g.pc + 3, stack := v.toList ++ rest }) t → Steps p.tables e below (T.setTop g) t := by
  obtain ⟨cq, kq, qa, qb, qc⟩ := isOf hZ eT E
  obtain ⟨v, _, ⟨T', L', k', n'⟩, -, X', ⟨Lc, hQ, e1, e2, e3⟩, st⟩ := X.virtualBack hx hown (mvT hZ w1) (mvT hZ w2) hnf (mvT hZ w5) (mvT hZ w6) hy (backOf (hM []) hZ w4 w3 hf hl) qa qc hg hsz (Steps.refl _) hlen hst (Nat.le_refl _) hd (fun _ _ => ⟨rfl, eT, hc, hs⟩)
  dsimp only [Pt.U, Pt.locs, Pt.cells, Pt.slots] at X' e1 e2 e3 st hQ
  subst e1 e2 e3
  exact ⟨v, T', Lc, _, X', rfl, hQ, fun t k => st.trans k⟩
theorem own_virtualUp {owner : String} (X : Stand p l e R s m args below meth c T locs cells slots) (hx : p.tables.exec = Jvm.exec) (hZ : Z.Warmed39 s.vm) (hown : s.vm.findClass own = some m.cls) (eT : T.heap = h) (E : Exa Z h b C)
    (w1 : (Jvm.Cond.methodLink own index y).before a0 Z = true) (w7 : (Jvm.Cond.sameMethod y.cls owner y.name y.desc).before a0 Z = true) (w2 : (Jvm.Cond.declares ⟨owner, y.name, y.desc⟩).before a0 Z = true) (w5 : (Jvm.Cond.selects C y z).before a0 Z = true) (w6 : (Jvm.Cond.instanceMethod z).before a0 Z = true) (w3 : (Jvm.Cond.initialized z.cls).before a0 Z = true) (w4 : (Jvm.Cond.code z bytes maxL rt).before a0 Z = true)
    (hy : owner ≠ "java/lang/invoke/MethodHandle" ∧ owner ≠ "java/lang/invoke/VarHandle") (hM : own_Met l Z z bytes maxL rt rm (.ref b :: argsL).toArray h Qc)
    (hg : g.method = m) (hsz : g.locals.size = c.maxLocals) (hlen : ∀ sig, parseMethodDescriptor y.desc = some sig → argsL.length = sig.parameters.length) (hst : g.stack = argsL.reverse ++ .ref b :: rest)
    (hf : rm.frames + 1 ≤ R.frames) (hl : (2 * g.monitorRoom + (rest.map fun v => v.category).sum) + (maxL + 11) + rm.locals ≤ R.locals) (hc : cells + rm.cells ≤ R.cells) (hs : slots + rm.slots ≤ R.slots)
    (hd : decode c.code g.pc = .ok (.invokevirtual index, 3)) :
    ∃ (v : Option Value) (T' : State) (L : List Loc) (h' : Heap), Stand p l e R s m args below meth c T' (locs ++ L) (cells + rm.cells) (slots + rm.slots) ∧ T'.heap = h' ∧ Qc v h' L ∧ ∀ t, Steps p.tables e below (T'.setTop { g with pc := g.pc + 3, stack := v.toList ++ rest }) t → Steps p.tables e below (T.setTop g) t := by
  obtain ⟨cq, kq, qa, qb, qc⟩ := isOf hZ eT E
  obtain ⟨v, _, ⟨T', L', k', n'⟩, -, X', ⟨Lc, hQ, e1, e2, e3⟩, st⟩ := X.virtualBackUp hx hown (mvT hZ w1) (mvT hZ w7) (mvT hZ w2) hy (mvT hZ w5) (mvT hZ w6) (backOf (hM []) hZ w4 w3 hf hl) qa qc hg hsz (Steps.refl _) hlen hst (Nat.le_refl _) hd (fun _ _ => ⟨rfl, eT, hc, hs⟩)
  dsimp only [Pt.U, Pt.locs, Pt.cells, Pt.slots] at X' e1 e2 e3 st hQ
  subst e1 e2 e3
  exact ⟨v, T', Lc, _, X', rfl, hQ, fun t k => st.trans k⟩
end Own
theorem own_eq_int {args : Array Value} {s : State} {t : Jvm.Term} {k : Int32} (h : (Jvm.Cond.eq t (.int k)).value args s none s [] = some true) : t.eval args s none [] s = some (.int k) := by
  simp only [Cond.value, Term.eval] at h
  cases ht : t.eval args s none [] s with
  | none => simp [ht] at h
  | some v => cases v <;> simp [ht] at h; rw [h]
theorem pn_java_lang_Record : plainName "java/lang/Record" = true := by first | (simp [plainName, overriddenIn]; done) | decide +kernel
theorem ef_jdk_30_method_1_codeR (m : MethodId) (z0 : Addr) : entryFrame m #[(.ref z0)] 1 = mkF m 0 #[.val (.ref z0)] [] := by first | (simp [entryFrame, mkF, argsToLocals, Value.category]; done) | rfl
theorem d_jdk_30_method_1_code_0 : decode jdk_30_method_1_code 0 = .ok (.aload_n 0, 1) := by decide +kernel
theorem d_jdk_30_method_1_code_1 : decode jdk_30_method_1_code 1 = .ok (.invokespecial 1, 3) := by decide +kernel
theorem d_jdk_30_method_1_code_4 : decode jdk_30_method_1_code 4 = .ok (.return_, 1) := by decide +kernel
set_option maxRecDepth 65536 in
set_option maxHeartbeats 40000000 in
theorem rm_rec (l : Launch) (Z : State) (a0 : Array Value) (hw : ∀ d ∈ tables_1, d.before a0 Z = true) (a : Addr) (h0 : Heap) (n0 : Nat) (Z0 : n0 ≤ h0.size) :
    own_Met l Z (⟨"java/lang/Record", "<init>", "()V"⟩ : MethodName) jdk_30_method_1_code 1 none ({ frames := 1, cells := 0, slots := 0, locals := 12 } : Room) #[(.ref a)] h0 (fun v h L => v = none ∧ Fr n0 L ∧ h = h0) := by
  refine own_body (plainFor_of_name pn_java_lang_Record) ?_
  intro p e s m below meth c T0 X0 e0 hx hby hml hown hnm hret hlk hZ
  replace hown : s.vm.findClass "java/lang/Record" = some m.cls := hown
  have N0 := Fr.nil n0
  refine own_of (fun t k => castTop (ef_jdk_30_method_1_codeR m a) k) ?_
  show own_Ends _ _ _ _ _ _ (T0.setTop (mkF m 0 #[.val (.ref a)] []))
  refine own_of (fun t k => XS.aloadN X0.here hx rfl (hb hby d_jdk_30_method_1_code_0) rfl rfl k) ?_
  show own_Ends _ _ _ _ _ _ (T0.setTop (mkF m 1 #[.val (.ref a)] [(.ref a)]))
  obtain ⟨T1, X1, e1, st1⟩ := initO X0 hx hZ hown (hw _ (List.mem_of_getElem? (i := 13) rfl)) (hw _ (List.mem_of_getElem? (i := 14) rfl)) (hw _ (List.mem_of_getElem? (i := 15) rfl)) e0 (g := (mkF m 1 #[.val (.ref a)] [(.ref a)])) rfl (by rw [hml]; rfl) rfl (hb hby d_jdk_30_method_1_code_1) (by decide) (W := 0) (by show 2 * 0 + _ ≤ _; exact Nat.le_of_eq rfl) (by decide)
  refine own_of st1 ?_
  show own_Ends _ _ _ _ _ _ (T1.setTop (mkF m 4 #[.val (.ref a)] []))
  refine own_retV X1 hx hlk e1 hret (hb hby d_jdk_30_method_1_code_4) (by decide) (by decide) ?_
  exact ⟨rfl, N0, rfl⟩
theorem pn_com_example_tiered_accord_tieredaccord_server_Link : plainName "com/example/tiered_accord/tieredaccord/server/Link" = true := by first | (simp [plainName, overriddenIn]; done) | decide +kernel
theorem ef_prog_166_method_1_codeRDJ (m : MethodId) (z0 : Addr) (z1 : UInt64) (z2 : Int64) : entryFrame m #[(.ref z0), (.double z1), (.long z2)] 5 = mkF m 0 #[.val (.ref z0), .val (.double z1), .second, .val (.long z2), .second] [] := by first | (simp [entryFrame, mkF, argsToLocals, Value.category]; done) | rfl
theorem d_prog_166_method_1_code_0 : decode prog_166_method_1_code 0 = .ok (.aload_n 0, 1) := by decide +kernel
theorem pd___r_V : parseMethodDescriptor "()V" = some ⟨[], none⟩ := by decide +kernel
theorem d_prog_166_method_1_code_1 : decode prog_166_method_1_code 1 = .ok (.invokespecial 1, 3) := by decide +kernel
theorem d_prog_166_method_1_code_4 : decode prog_166_method_1_code 4 = .ok (.aload_n 0, 1) := by decide +kernel
theorem d_prog_166_method_1_code_5 : decode prog_166_method_1_code 5 = .ok (.dload_n 1, 1) := by decide +kernel
theorem d_prog_166_method_1_code_6 : decode prog_166_method_1_code 6 = .ok (.putfield 7, 3) := by decide +kernel
theorem d_prog_166_method_1_code_9 : decode prog_166_method_1_code 9 = .ok (.aload_n 0, 1) := by decide +kernel
theorem d_prog_166_method_1_code_10 : decode prog_166_method_1_code 10 = .ok (.lload_n 3, 1) := by decide +kernel
theorem d_prog_166_method_1_code_11 : decode prog_166_method_1_code 11 = .ok (.putfield 13, 3) := by decide +kernel
theorem d_prog_166_method_1_code_14 : decode prog_166_method_1_code 14 = .ok (.return_, 1) := by decide +kernel
set_option maxRecDepth 65536 in
set_option maxHeartbeats 40000000 in
theorem rm_init (l : Launch) (Z : State) (a0 : Array Value) (hw : ∀ d ∈ tables_1, d.before a0 Z = true) (a : Addr) (d1 : UInt64) (q1 : Int64) (h0 : Heap) (n0 : Nat) (Z0 : n0 ≤ h0.size) (E : Exa Z h0 a "com/example/tiered_accord/tieredaccord/server/Link") (FD : Fld Z h0 a "com/example/tiered_accord/tieredaccord/server/Link" "delayMillis" "D" (.double (0 : UInt64))) (FB : Fld Z h0 a "com/example/tiered_accord/tieredaccord/server/Link" "bytesPerSecond" "J" (.long (0 : Int64))) (g_a : n0 ≤ a) :
    own_Met l Z (⟨"com/example/tiered_accord/tieredaccord/server/Link", "<init>", "(DJ)V"⟩ : MethodName) prog_166_method_1_code 5 none ({ frames := 2, cells := 0, slots := 0, locals := 24 } : Room) #[(.ref a), (.double d1), (.long q1)] h0 (fun v h L => v = none ∧ Fr n0 L ∧ Keep h0 h [a] ∧ Exa Z h a "com/example/tiered_accord/tieredaccord/server/Link" ∧ Fld Z h a "com/example/tiered_accord/tieredaccord/server/Link" "bytesPerSecond" "J" (.long q1)) := by
  refine own_body (plainFor_of_name pn_com_example_tiered_accord_tieredaccord_server_Link) ?_
  intro p e s m below meth c T0 X0 e0 hx hby hml hown hnm hret hlk hZ
  replace hown : s.vm.findClass "com/example/tiered_accord/tieredaccord/server/Link" = some m.cls := hown
  have N0 := Fr.nil n0
  refine own_of (fun t k => castTop (ef_prog_166_method_1_codeRDJ m a d1 q1) k) ?_
  have K := Keep.refl h0 [a]
  show own_Ends _ _ _ _ _ _ (T0.setTop (mkF m 0 #[.val (.ref a), .val (.double d1), .second, .val (.long q1), .second] []))
  refine own_of (fun t k => XS.aloadN X0.here hx rfl (hb hby d_prog_166_method_1_code_0) rfl rfl k) ?_
  show own_Ends _ _ _ _ _ _ (T0.setTop (mkF m 1 #[.val (.ref a), .val (.double d1), .second, .val (.long q1), .second] [(.ref a)]))
  obtain ⟨v2, T2, L2, h2, X2, e2, Q2, st2⟩ := own_special X0 hx hZ hown e0 (b := a) rfl (hw _ (List.mem_of_getElem? (i := 8) rfl)) (hw _ (List.mem_of_getElem? (i := 9) rfl)) (hw _ (List.mem_of_getElem? (i := 11) rfl)) (hw _ (List.mem_of_getElem? (i := 12) rfl)) (by decide) (argsL := []) (rest := []) (rm_rec l Z a0 hw a h0 n0 Z0) (g := (mkF m 1 #[.val (.ref a), .val (.double d1), .second, .val (.long q1), .second] [(.ref a)])) rfl (by rw [hml]; rfl) (lenOf pd___r_V rfl) rfl (by decide) (Nat.le_of_ble_eq_true rfl) (by decide) (by decide) (hb hby d_prog_166_method_1_code_1)
  obtain ⟨rfl, Nq2, q2⟩ := Q2
  replace e2 := e2.trans q2
  have N2 := Fr.app N0 Nq2
  refine own_of st2 ?_
  show own_Ends _ _ _ _ _ _ (T2.setTop (mkF m 4 #[.val (.ref a), .val (.double d1), .second, .val (.long q1), .second] []))
  refine own_of (fun t k => XS.aloadN X2.here hx rfl (hb hby d_prog_166_method_1_code_4) rfl rfl k) ?_
  show own_Ends _ _ _ _ _ _ (T2.setTop (mkF m 5 #[.val (.ref a), .val (.double d1), .second, .val (.long q1), .second] [(.ref a)]))
  refine own_of (fun t k => XS.dloadN X2.here hx rfl (hb hby d_prog_166_method_1_code_5) rfl  k) ?_
  show own_Ends _ _ _ _ _ _ (T2.setTop (mkF m 6 #[.val (.ref a), .val (.double d1), .second, .val (.long q1), .second] [(.double d1), (.ref a)]))
  obtain ⟨T3, h3, X3, e3, W3, st3⟩ := putF X2 hx hZ hown (host := "") (Or.inl (hw _ (List.mem_of_getElem? (i := 16) rfl))) Via.refl e2 FD E (Or.inr ⟨(hw _ (List.mem_of_getElem? (i := 17) rfl)), rfl, hnm⟩) (hw _ (List.mem_of_getElem? (i := 3) rfl)) (ty := .double) (by decide) rfl rfl (g := (mkF m 6 #[.val (.ref a), .val (.double d1), .second, .val (.long q1), .second] [(.double d1), (.ref a)])) rfl rfl (hb hby d_prog_166_method_1_code_6)
  replace FD := FD.same W3
  replace E := E.wr W3
  replace FB := FB.other W3 (Or.inr (slot_ne (Or.inr (hw _ (List.mem_of_getElem? (i := 19) rfl))) (Or.inr (hw _ (List.mem_of_getElem? (i := 17) rfl))) (by decide) (t := .long) (t' := .double) (by decide) (by decide)))
  have N3 := Fr.snoc X3 N2 g_a
  replace K := K.wr W3 (Or.inl (List.mem_of_getElem? (i := 0) rfl))
  refine own_of st3 ?_
  show own_Ends _ _ _ _ _ _ (T3.setTop (mkF m 9 #[.val (.ref a), .val (.double d1), .second, .val (.long q1), .second] []))
  refine own_of (fun t k => XS.aloadN X3.here hx rfl (hb hby d_prog_166_method_1_code_9) rfl rfl k) ?_
  show own_Ends _ _ _ _ _ _ (T3.setTop (mkF m 10 #[.val (.ref a), .val (.double d1), .second, .val (.long q1), .second] [(.ref a)]))
  refine own_of (fun t k => XS.lloadN X3.here hx rfl (hb hby d_prog_166_method_1_code_10) rfl  k) ?_
  show own_Ends _ _ _ _ _ _ (T3.setTop (mkF m 11 #[.val (.ref a), .val (.double d1), .second, .val (.long q1), .second] [(.long q1), (.ref a)]))
  obtain ⟨T4, h4, X4, e4, W4, st4⟩ := putF X3 hx hZ hown (host := "") (Or.inl (hw _ (List.mem_of_getElem? (i := 18) rfl))) Via.refl e3 FB E (Or.inr ⟨(hw _ (List.mem_of_getElem? (i := 19) rfl)), rfl, hnm⟩) (hw _ (List.mem_of_getElem? (i := 3) rfl)) (ty := .long) (by decide) rfl rfl (g := (mkF m 11 #[.val (.ref a), .val (.double d1), .second, .val (.long q1), .second] [(.long q1), (.ref a)])) rfl rfl (hb hby d_prog_166_method_1_code_11)
  replace FB := FB.same W4
  replace E := E.wr W4
  replace FD := FD.other W4 (Or.inr (slot_ne (Or.inr (hw _ (List.mem_of_getElem? (i := 17) rfl))) (Or.inr (hw _ (List.mem_of_getElem? (i := 19) rfl))) (by decide) (t := .double) (t' := .long) (by decide) (by decide)))
  have N4 := Fr.snoc X4 N3 g_a
  replace K := K.wr W4 (Or.inl (List.mem_of_getElem? (i := 0) rfl))
  refine own_of st4 ?_
  show own_Ends _ _ _ _ _ _ (T4.setTop (mkF m 14 #[.val (.ref a), .val (.double d1), .second, .val (.long q1), .second] []))
  refine own_retV X4 hx hlk e4 hret (hb hby d_prog_166_method_1_code_14) (by decide) (by decide) ?_
  exact ⟨rfl, N4, K, E, FB⟩
theorem ef_prog_166_method_4_codeRJ (m : MethodId) (z0 : Addr) (z1 : Int64) : entryFrame m #[(.ref z0), (.long z1)] 3 = mkF m 0 #[.val (.ref z0), .val (.long z1), .second] [] := by first | (simp [entryFrame, mkF, argsToLocals, Value.category]; done) | rfl
theorem d_prog_166_method_4_code_0 : decode prog_166_method_4_code 0 = .ok (.lload_n 1, 1) := by decide +kernel
theorem d_prog_166_method_4_code_1 : decode prog_166_method_4_code 1 = .ok (.ldc2_w 64, 3) := by decide +kernel
theorem d_prog_166_method_4_code_4 : decode prog_166_method_4_code 4 = .ok (.lmul, 1) := by decide +kernel
theorem d_prog_166_method_4_code_5 : decode prog_166_method_4_code 5 = .ok (.aload_n 0, 1) := by decide +kernel
theorem d_prog_166_method_4_code_6 : decode prog_166_method_4_code 6 = .ok (.getfield 13, 3) := by decide +kernel
theorem d_prog_166_method_4_code_9 : decode prog_166_method_4_code 9 = .ok (.ladd, 1) := by decide +kernel
theorem d_prog_166_method_4_code_10 : decode prog_166_method_4_code 10 = .ok (.lconst 1, 1) := by decide +kernel
theorem d_prog_166_method_4_code_11 : decode prog_166_method_4_code 11 = .ok (.lsub, 1) := by decide +kernel
theorem d_prog_166_method_4_code_12 : decode prog_166_method_4_code 12 = .ok (.aload_n 0, 1) := by decide +kernel
theorem d_prog_166_method_4_code_13 : decode prog_166_method_4_code 13 = .ok (.getfield 13, 3) := by decide +kernel
theorem d_prog_166_method_4_code_16 : decode prog_166_method_4_code 16 = .ok (.ldiv, 1) := by decide +kernel
theorem d_prog_166_method_4_code_17 : decode prog_166_method_4_code 17 = .ok (.lreturn, 1) := by decide +kernel
set_option maxRecDepth 65536 in
set_option maxHeartbeats 40000000 in
theorem rm_cross (l : Launch) (Z : State) (a0 : Array Value) (hw : ∀ d ∈ tables_1, d.before a0 Z = true) (a : Addr) (q1 q2 : Int64) (h0 : Heap) (n0 : Nat) (Z0 : n0 ≤ h0.size) (FB : Fld Z h0 a "com/example/tiered_accord/tieredaccord/server/Link" "bytesPerSecond" "J" (.long q2)) (hnz : ¬ q2 = (0 : Int64)) :
    own_Met l Z (⟨"com/example/tiered_accord/tieredaccord/server/Link", "crossingNanos", "(J)J"⟩ : MethodName) prog_166_method_4_code 3 (some .long) ({ frames := 0, cells := 0, slots := 0, locals := 0 } : Room) #[(.ref a), (.long q1)] h0 (fun v h L => v = some (.long ((((q1 * (1000000000 : Int64)) + q2) - (1 : Int64)) / q2)) ∧ Fr n0 L ∧ h = h0) := by
  refine own_body (plainFor_of_name pn_com_example_tiered_accord_tieredaccord_server_Link) ?_
  intro p e s m below meth c T0 X0 e0 hx hby hml hown hnm hret hlk hZ
  replace hown : s.vm.findClass "com/example/tiered_accord/tieredaccord/server/Link" = some m.cls := hown
  have N0 := Fr.nil n0
  refine own_of (fun t k => castTop (ef_prog_166_method_4_codeRJ m a q1) k) ?_
  show own_Ends _ _ _ _ _ _ (T0.setTop (mkF m 0 #[.val (.ref a), .val (.long q1), .second] []))
  refine own_of (fun t k => XS.lloadN X0.here hx rfl (hb hby d_prog_166_method_4_code_0) rfl  k) ?_
  show own_Ends _ _ _ _ _ _ (T0.setTop (mkF m 1 #[.val (.ref a), .val (.long q1), .second] [(.long q1)]))
  refine own_of (fun t k => X0.ldc2J hx hown (mvT hZ (hw _ (List.mem_of_getElem? (i := 25) rfl))) (g := (mkF m 1 #[.val (.ref a), .val (.long q1), .second] [(.long q1)])) rfl (hb hby d_prog_166_method_4_code_1) k) ?_
  show own_Ends _ _ _ _ _ _ (T0.setTop (mkF m 4 #[.val (.ref a), .val (.long q1), .second] [(.long (1000000000 : Int64)), (.long q1)]))
  refine own_of (fun t k => XS.lmul X0.here hx rfl (hb hby d_prog_166_method_4_code_4) rfl k) ?_
  show own_Ends _ _ _ _ _ _ (T0.setTop (mkF m 5 #[.val (.ref a), .val (.long q1), .second] [(.long (q1 * (1000000000 : Int64)))]))
  refine own_of (fun t k => XS.aloadN X0.here hx rfl (hb hby d_prog_166_method_4_code_5) rfl rfl k) ?_
  show own_Ends _ _ _ _ _ _ (T0.setTop (mkF m 6 #[.val (.ref a), .val (.long q1), .second] [(.ref a), (.long (q1 * (1000000000 : Int64)))]))
  obtain ⟨T5, X5, e5, st5⟩ := getF X0 hx hZ hown (host := "") (Or.inl (hw _ (List.mem_of_getElem? (i := 18) rfl))) Via.refl e0 FB (g := (mkF m 6 #[.val (.ref a), .val (.long q1), .second] [(.ref a), (.long (q1 * (1000000000 : Int64)))])) rfl rfl (hb hby d_prog_166_method_4_code_6)
  refine own_of st5 ?_
  show own_Ends _ _ _ _ _ _ (T5.setTop (mkF m 9 #[.val (.ref a), .val (.long q1), .second] [(.long q2), (.long (q1 * (1000000000 : Int64)))]))
  refine own_of (fun t k => XS.ladd X5.here hx rfl (hb hby d_prog_166_method_4_code_9) rfl k) ?_
  show own_Ends _ _ _ _ _ _ (T5.setTop (mkF m 10 #[.val (.ref a), .val (.long q1), .second] [(.long ((q1 * (1000000000 : Int64)) + q2))]))
  refine own_of (fun t k => XS.lconst X5.here hx rfl (hb hby d_prog_166_method_4_code_10) k) ?_
  show own_Ends _ _ _ _ _ _ (T5.setTop (mkF m 11 #[.val (.ref a), .val (.long q1), .second] [(.long (1 : Int64)), (.long ((q1 * (1000000000 : Int64)) + q2))]))
  refine own_of (fun t k => XS.lsub X5.here hx rfl (hb hby d_prog_166_method_4_code_11) rfl k) ?_
  show own_Ends _ _ _ _ _ _ (T5.setTop (mkF m 12 #[.val (.ref a), .val (.long q1), .second] [(.long (((q1 * (1000000000 : Int64)) + q2) - (1 : Int64)))]))
  refine own_of (fun t k => XS.aloadN X5.here hx rfl (hb hby d_prog_166_method_4_code_12) rfl rfl k) ?_
  show own_Ends _ _ _ _ _ _ (T5.setTop (mkF m 13 #[.val (.ref a), .val (.long q1), .second] [(.ref a), (.long (((q1 * (1000000000 : Int64)) + q2) - (1 : Int64)))]))
  obtain ⟨T6, X6, e6, st6⟩ := getF X5 hx hZ hown (host := "") (Or.inl (hw _ (List.mem_of_getElem? (i := 18) rfl))) Via.refl e5 FB (g := (mkF m 13 #[.val (.ref a), .val (.long q1), .second] [(.ref a), (.long (((q1 * (1000000000 : Int64)) + q2) - (1 : Int64)))])) rfl rfl (hb hby d_prog_166_method_4_code_13)
  refine own_of st6 ?_
  show own_Ends _ _ _ _ _ _ (T6.setTop (mkF m 16 #[.val (.ref a), .val (.long q1), .second] [(.long q2), (.long (((q1 * (1000000000 : Int64)) + q2) - (1 : Int64)))]))
  refine own_of (fun t k => XS.ldiv X6.here hx rfl (hb hby d_prog_166_method_4_code_16) rfl hnz k) ?_
  show own_Ends _ _ _ _ _ _ (T6.setTop (mkF m 17 #[.val (.ref a), .val (.long q1), .second] [(.long ((((q1 * (1000000000 : Int64)) + q2) - (1 : Int64)) / q2))]))
  refine own_retJ X6 hx hlk e6 hret (hb hby d_prog_166_method_4_code_17) (by decide) (by decide) ?_
  exact ⟨rfl, N0, rfl⟩
theorem own_mask (p : Int64) : 0 ≤ (p &&& (2147483647 : Int64)).toInt ∧ (p &&& (2147483647 : Int64)).toInt ≤ 2147483647 := by
  have h : (p &&& (2147483647 : Int64)).toInt = p.toInt % 2147483648 := c_maskL p (2147483647 : Int64) 31 (by decide) (by decide)
  omega
theorem own_bps1 (p : Int64) : 1 ≤ ((1 : Int64) + (p &&& (65535 : Int64))).toInt ∧ ((1 : Int64) + (p &&& (65535 : Int64))).toInt ≤ 1000000000000000000 := by
  have h : (p &&& (65535 : Int64)).toInt = p.toInt % 65536 := c_maskL p (65535 : Int64) 16 (by decide) (by decide)
  have e : (1 : Int64).toInt = 1 := rfl
  rw [Jvm.Free.XT.add64 (by rw [e]; constructor <;> omega), e]; omega
theorem own_bps2 (p : Int64) : 1 ≤ ((1 : Int64) + ((p &&& (9223372036854775807 : Int64)) - (p &&& (9223372036854775807 : Int64)) / (999999999999999999 : Int64) * (999999999999999999 : Int64))).toInt ∧ ((1 : Int64) + ((p &&& (9223372036854775807 : Int64)) - (p &&& (9223372036854775807 : Int64)) / (999999999999999999 : Int64) * (999999999999999999 : Int64))).toInt ≤ 1000000000000000000 := by
  have h : 0 ≤ (p &&& (9223372036854775807 : Int64)).toInt := (c_andSL p (9223372036854775807 : Int64)).2.2 (by decide)
  have h2 := (c_lrem (p &&& (9223372036854775807 : Int64)) (999999999999999999 : Int64) 999999999999999999 rfl).1 h
  have e : (1 : Int64).toInt = 1 := rfl
  rw [Jvm.Free.XT.add64 (by rw [e, h2]; constructor <;> omega), e, h2]; omega
theorem own_nz {q : Int64} (h : 1 ≤ q.toInt) : ¬ q = (0 : Int64) := fun e => by rw [e] at h; exact absurd h (by decide)
theorem own_ceil {b q : Int64} (hb : 0 ≤ b.toInt ∧ b.toInt ≤ 2147483647) (hq : 1 ≤ q.toInt ∧ q.toInt ≤ 1000000000000000000) :
    ((b * (1000000000 : Int64)) - (b * (1000000000 : Int64)) / q * q = (0 : Int64) → (((b * (1000000000 : Int64)) + q) - (1 : Int64)) / q = (b * (1000000000 : Int64)) / q) ∧
    (¬ (b * (1000000000 : Int64)) - (b * (1000000000 : Int64)) / q * q = (0 : Int64) → (((b * (1000000000 : Int64)) + q) - (1 : Int64)) / q = (b * (1000000000 : Int64)) / q + (1 : Int64)) := by
  have e1 : (1 : Int64).toInt = 1 := rfl
  have e9 : (1000000000 : Int64).toInt = 1000000000 := rfl
  have e0 : (0 : Int64).toInt = 0 := rfl
  have em : (b * (1000000000 : Int64)).toInt = b.toInt * 1000000000 := by rw [Jvm.Free.XT.mul64 (by rw [e9]; constructor <;> omega), e9]
  generalize (b * (1000000000 : Int64)) = n at *
  have hn : 0 ≤ n.toInt ∧ n.toInt ≤ 2147483647000000000 := by omega
  have ea : (n + q).toInt = n.toInt + q.toInt := Jvm.Free.XT.add64 (by constructor <;> omega)
  have es : ((n + q) - (1 : Int64)).toInt = n.toInt + q.toInt - 1 := by rw [Jvm.Free.XT.sub64 (by rw [ea, e1]; constructor <;> omega), ea, e1]
  have hm1 : q ≠ -1 := fun e => by rw [e] at hq; exact absurd hq.1 (by decide)
  have d1 := (c_ldiv ((n + q) - (1 : Int64)) q q.toInt rfl hm1).1 (by rw [es]; omega)
  have d2 := (c_ldiv n q q.toInt rfl hm1).1 hn.1
  have r1 := (c_lrem n q q.toInt rfl).1 hn.1
  have hB : 0 < q.toInt := by omega
  have k1 := Int.mul_ediv_add_emod n.toInt q.toInt
  have k2 := Int.emod_nonneg n.toInt (show q.toInt ≠ 0 by omega)
  have k3 := Int.emod_lt_of_pos n.toInt hB
  rw [es] at d1
  have kd : n.toInt / q.toInt ≤ n.toInt := Int.ediv_le_self _ hn.1
  have kn : 0 ≤ n.toInt / q.toInt := Int.ediv_nonneg hn.1 (by omega)
  refine ⟨fun h => ?_, fun h => ?_⟩
  · have h' := congrArg Int64.toInt h
    rw [r1, e0] at h'
    apply Int64.toInt_inj.mp
    rw [d1, d2]
    refine ((Int.ediv_emod_unique (r := q.toInt - 1) hB).mpr ⟨?_, by omega, by omega⟩).1
    omega
  · have h' : n.toInt % q.toInt ≠ 0 := fun z => h (Int64.toInt_inj.mp (by rw [r1, e0]; exact z))
    apply Int64.toInt_inj.mp
    rw [d1, Jvm.Free.XT.add64 (by rw [d2, e1]; constructor <;> omega), d2, e1]
    refine ((Int.ediv_emod_unique (r := n.toInt % q.toInt - 1) hB).mpr ⟨?_, by omega, by omega⟩).1
    rw [Int.mul_add, Int.mul_one]
    omega
theorem pn_com_example_tiered_accord_tieredaccord_server_LinkCrossingNanosPinLaw : plainName "com/example/tiered_accord/tieredaccord/server/LinkCrossingNanosPinLaw" = true := by first | (simp [plainName, overriddenIn]; done) | decide +kernel
theorem ef_codeJJII (m : MethodId) (z0 : Int64) (z1 : Int64) (z2 : Int32) (z3 : Int32) : entryFrame m #[(.long z0), (.long z1), (.int z2), (.int z3)] maxLocals = mkF m 0 #[.val (.long z0), .second, .val (.long z1), .second, .val (.int z2), .val (.int z3), .unset, .unset, .unset, .unset, .unset, .unset, .unset, .unset, .unset, .unset, .unset, .unset, .unset, .unset, .unset, .unset, .unset] [] := by first | (simp [entryFrame, mkF, argsToLocals, Value.category, maxLocals]; done) | rfl
theorem pd__DJ_r_V : parseMethodDescriptor "(DJ)V" = some ⟨[.double, .long], none⟩ := by decide +kernel
theorem pd__J_r_J : parseMethodDescriptor "(J)J" = some ⟨[.long], some .long⟩ := by decide +kernel
set_option maxRecDepth 65536 in
set_option maxHeartbeats 40000000 in
theorem rm0 (l : Launch) (Z : State) (a0 : Array Value) (hw : ∀ d ∈ tables_1, d.before a0 Z = true) (p1 p2 : Int64) (p3 p4 : Int32) (h0 : Heap) (n0 : Nat) (Z0 : n0 ≤ h0.size) :
    own_Met l Z x code maxLocals ret room_1 #[(.long p1), (.long p2), (.int p3), (.int p4)] h0 (fun v h L => v = some (.int 1) ∧ Fr n0 L) := by
  refine own_body (plainFor_of_name pn_com_example_tiered_accord_tieredaccord_server_LinkCrossingNanosPinLaw) ?_
  intro p e s m below meth c T0 X0 e0 hx hby hml hown hnm hret hlk hZ
  replace hown : s.vm.findClass "com/example/tiered_accord/tieredaccord/server/LinkCrossingNanosPinLaw" = some m.cls := hown
  have N0 := Fr.nil n0
  refine own_of (fun t k => castTop (ef_codeJJII m p1 p2 p3 p4) k) ?_
  have K := Keep.refl h0 []
  show own_Ends _ _ _ _ _ _ (T0.setTop (mkF m 0 #[.val (.long p1), .second, .val (.long p2), .second, .val (.int p3), .val (.int p4), .unset, .unset, .unset, .unset, .unset, .unset, .unset, .unset, .unset, .unset, .unset, .unset, .unset, .unset, .unset, .unset, .unset] []))
  refine own_of (fun t k => XS.lloadN X0.here hx rfl (hb hby at_0) rfl  k) ?_
  show own_Ends _ _ _ _ _ _ (T0.setTop (mkF m 1 #[.val (.long p1), .second, .val (.long p2), .second, .val (.int p3), .val (.int p4), .unset, .unset, .unset, .unset, .unset, .unset, .unset, .unset, .unset, .unset, .unset, .unset, .unset, .unset, .unset, .unset, .unset] [(.long p1)]))
  refine own_of (fun t k => X0.ldc2J hx hown (mvT hZ (hw _ (List.mem_of_getElem? (i := 0) rfl))) (g := (mkF m 1 #[.val (.long p1), .second, .val (.long p2), .second, .val (.int p3), .val (.int p4), .unset, .unset, .unset, .unset, .unset, .unset, .unset, .unset, .unset, .unset, .unset, .unset, .unset, .unset, .unset, .unset, .unset] [(.long p1)])) rfl (hb hby at_1) k) ?_
  show own_Ends _ _ _ _ _ _ (T0.setTop (mkF m 4 #[.val (.long p1), .second, .val (.long p2), .second, .val (.int p3), .val (.int p4), .unset, .unset, .unset, .unset, .unset, .unset, .unset, .unset, .unset, .unset, .unset, .unset, .unset, .unset, .unset, .unset, .unset] [(.long (2147483647 : Int64)), (.long p1)]))
  refine own_of (fun t k => XS.land X0.here hx rfl (hb hby at_4) rfl k) ?_
  show own_Ends _ _ _ _ _ _ (T0.setTop (mkF m 5 #[.val (.long p1), .second, .val (.long p2), .second, .val (.int p3), .val (.int p4), .unset, .unset, .unset, .unset, .unset, .unset, .unset, .unset, .unset, .unset, .unset, .unset, .unset, .unset, .unset, .unset, .unset] [(.long (p1 &&& (2147483647 : Int64)))]))
  refine own_of (fun t k => XS.lstore X0.here hx rfl (hb hby at_5) rfl (l' := #[.val (.long p1), .second, .val (.long p2), .second, .val (.int p3), .val (.int p4), .val (.long (p1 &&& (2147483647 : Int64))), .second, .unset, .unset, .unset, .unset, .unset, .unset, .unset, .unset, .unset, .unset, .unset, .unset, .unset, .unset, .unset]) rfl k) ?_
  show own_Ends _ _ _ _ _ _ (T0.setTop (mkF m 7 #[.val (.long p1), .second, .val (.long p2), .second, .val (.int p3), .val (.int p4), .val (.long (p1 &&& (2147483647 : Int64))), .second, .unset, .unset, .unset, .unset, .unset, .unset, .unset, .unset, .unset, .unset, .unset, .unset, .unset, .unset, .unset] []))
  obtain ⟨q6, hq6⟩ : ∃ z : Int64, z = (p1 &&& (2147483647 : Int64)) := ⟨_, rfl⟩
  rw [← hq6]
  have hb6 := own_mask p1
  rw [← hq6] at hb6
  show own_Ends _ _ _ _ _ _ (T0.setTop (mkF m 7 #[.val (.long p1), .second, .val (.long p2), .second, .val (.int p3), .val (.int p4), .val (.long q6), .second, .unset, .unset, .unset, .unset, .unset, .unset, .unset, .unset, .unset, .unset, .unset, .unset, .unset, .unset, .unset] []))
  refine own_of (fun t k => XS.iload X0.here hx rfl (hb hby at_7) rfl  k) ?_
  show own_Ends _ _ _ _ _ _ (T0.setTop (mkF m 9 #[.val (.long p1), .second, .val (.long p2), .second, .val (.int p3), .val (.int p4), .val (.long q6), .second, .unset, .unset, .unset, .unset, .unset, .unset, .unset, .unset, .unset, .unset, .unset, .unset, .unset, .unset, .unset] [(.int p4)]))
  refine own_of (fun t k => XS.iconst X0.here hx rfl (hb hby at_9) k) ?_
  show own_Ends _ _ _ _ _ _ (T0.setTop (mkF m 10 #[.val (.long p1), .second, .val (.long p2), .second, .val (.int p3), .val (.int p4), .val (.long q6), .second, .unset, .unset, .unset, .unset, .unset, .unset, .unset, .unset, .unset, .unset, .unset, .unset, .unset, .unset, .unset] [(.int (1 : Int32)), (.int p4)]))
  refine own_of (fun t k => XS.iand X0.here hx rfl (hb hby at_10) rfl k) ?_
  show own_Ends _ _ _ _ _ _ (T0.setTop (mkF m 11 #[.val (.long p1), .second, .val (.long p2), .second, .val (.int p3), .val (.int p4), .val (.long q6), .second, .unset, .unset, .unset, .unset, .unset, .unset, .unset, .unset, .unset, .unset, .unset, .unset, .unset, .unset, .unset] [(.int (p4 &&& (1 : Int32)))]))
  by_cases hc7 : (p4 &&& (1 : Int32)) = (0 : Int32)
  · refine own_of (fun t k => XS.ifYes X0.here hx rfl (pc0 := 11) (pc' := 26) rfl (hb hby at_11) rfl ((if0 _ _).trans (teq hc7).1) (by decide) (by decide) k) ?_
    show own_Ends _ _ _ _ _ _ (T0.setTop (mkF m 26 #[.val (.long p1), .second, .val (.long p2), .second, .val (.int p3), .val (.int p4), .val (.long q6), .second, .unset, .unset, .unset, .unset, .unset, .unset, .unset, .unset, .unset, .unset, .unset, .unset, .unset, .unset, .unset] []))
    refine own_of (fun t k => XS.lconst X0.here hx rfl (hb hby at_26) k) ?_
    show own_Ends _ _ _ _ _ _ (T0.setTop (mkF m 27 #[.val (.long p1), .second, .val (.long p2), .second, .val (.int p3), .val (.int p4), .val (.long q6), .second, .unset, .unset, .unset, .unset, .unset, .unset, .unset, .unset, .unset, .unset, .unset, .unset, .unset, .unset, .unset] [(.long (1 : Int64))]))
    refine own_of (fun t k => XS.lloadN X0.here hx rfl (hb hby at_27) rfl  k) ?_
    show own_Ends _ _ _ _ _ _ (T0.setTop (mkF m 28 #[.val (.long p1), .second, .val (.long p2), .second, .val (.int p3), .val (.int p4), .val (.long q6), .second, .unset, .unset, .unset, .unset, .unset, .unset, .unset, .unset, .unset, .unset, .unset, .unset, .unset, .unset, .unset] [(.long p2), (.long (1 : Int64))]))
    refine own_of (fun t k => X0.ldc2J hx hown (mvT hZ (hw _ (List.mem_of_getElem? (i := 27) rfl))) (g := (mkF m 28 #[.val (.long p1), .second, .val (.long p2), .second, .val (.int p3), .val (.int p4), .val (.long q6), .second, .unset, .unset, .unset, .unset, .unset, .unset, .unset, .unset, .unset, .unset, .unset, .unset, .unset, .unset, .unset] [(.long p2), (.long (1 : Int64))])) rfl (hb hby at_28) k) ?_
    show own_Ends _ _ _ _ _ _ (T0.setTop (mkF m 31 #[.val (.long p1), .second, .val (.long p2), .second, .val (.int p3), .val (.int p4), .val (.long q6), .second, .unset, .unset, .unset, .unset, .unset, .unset, .unset, .unset, .unset, .unset, .unset, .unset, .unset, .unset, .unset] [(.long (9223372036854775807 : Int64)), (.long p2), (.long (1 : Int64))]))
    refine own_of (fun t k => XS.land X0.here hx rfl (hb hby at_31) rfl k) ?_
    show own_Ends _ _ _ _ _ _ (T0.setTop (mkF m 32 #[.val (.long p1), .second, .val (.long p2), .second, .val (.int p3), .val (.int p4), .val (.long q6), .second, .unset, .unset, .unset, .unset, .unset, .unset, .unset, .unset, .unset, .unset, .unset, .unset, .unset, .unset, .unset] [(.long (p2 &&& (9223372036854775807 : Int64))), (.long (1 : Int64))]))
    refine own_of (fun t k => X0.ldc2J hx hown (mvT hZ (hw _ (List.mem_of_getElem? (i := 28) rfl))) (g := (mkF m 32 #[.val (.long p1), .second, .val (.long p2), .second, .val (.int p3), .val (.int p4), .val (.long q6), .second, .unset, .unset, .unset, .unset, .unset, .unset, .unset, .unset, .unset, .unset, .unset, .unset, .unset, .unset, .unset] [(.long (p2 &&& (9223372036854775807 : Int64))), (.long (1 : Int64))])) rfl (hb hby at_32) k) ?_
    show own_Ends _ _ _ _ _ _ (T0.setTop (mkF m 35 #[.val (.long p1), .second, .val (.long p2), .second, .val (.int p3), .val (.int p4), .val (.long q6), .second, .unset, .unset, .unset, .unset, .unset, .unset, .unset, .unset, .unset, .unset, .unset, .unset, .unset, .unset, .unset] [(.long (999999999999999999 : Int64)), (.long (p2 &&& (9223372036854775807 : Int64))), (.long (1 : Int64))]))
    refine own_of (fun t k => XS.lrem X0.here hx rfl (hb hby at_35) rfl (by decide) k) ?_
    show own_Ends _ _ _ _ _ _ (T0.setTop (mkF m 36 #[.val (.long p1), .second, .val (.long p2), .second, .val (.int p3), .val (.int p4), .val (.long q6), .second, .unset, .unset, .unset, .unset, .unset, .unset, .unset, .unset, .unset, .unset, .unset, .unset, .unset, .unset, .unset] [(.long ((p2 &&& (9223372036854775807 : Int64)) - (p2 &&& (9223372036854775807 : Int64)) / (999999999999999999 : Int64) * (999999999999999999 : Int64))), (.long (1 : Int64))]))
    refine own_of (fun t k => XS.ladd X0.here hx rfl (hb hby at_36) rfl k) ?_
    show own_Ends _ _ _ _ _ _ (T0.setTop (mkF m 37 #[.val (.long p1), .second, .val (.long p2), .second, .val (.int p3), .val (.int p4), .val (.long q6), .second, .unset, .unset, .unset, .unset, .unset, .unset, .unset, .unset, .unset, .unset, .unset, .unset, .unset, .unset, .unset] [(.long ((1 : Int64) + ((p2 &&& (9223372036854775807 : Int64)) - (p2 &&& (9223372036854775807 : Int64)) / (999999999999999999 : Int64) * (999999999999999999 : Int64))))]))
    refine own_of (fun t k => XS.lstore X0.here hx rfl (hb hby at_37) rfl (l' := #[.val (.long p1), .second, .val (.long p2), .second, .val (.int p3), .val (.int p4), .val (.long q6), .second, .val (.long ((1 : Int64) + ((p2 &&& (9223372036854775807 : Int64)) - (p2 &&& (9223372036854775807 : Int64)) / (999999999999999999 : Int64) * (999999999999999999 : Int64)))), .second, .unset, .unset, .unset, .unset, .unset, .unset, .unset, .unset, .unset, .unset, .unset, .unset, .unset]) rfl k) ?_
    show own_Ends _ _ _ _ _ _ (T0.setTop (mkF m 39 #[.val (.long p1), .second, .val (.long p2), .second, .val (.int p3), .val (.int p4), .val (.long q6), .second, .val (.long ((1 : Int64) + ((p2 &&& (9223372036854775807 : Int64)) - (p2 &&& (9223372036854775807 : Int64)) / (999999999999999999 : Int64) * (999999999999999999 : Int64)))), .second, .unset, .unset, .unset, .unset, .unset, .unset, .unset, .unset, .unset, .unset, .unset, .unset, .unset] []))
    obtain ⟨q8, hq8⟩ : ∃ z : Int64, z = ((1 : Int64) + ((p2 &&& (9223372036854775807 : Int64)) - (p2 &&& (9223372036854775807 : Int64)) / (999999999999999999 : Int64) * (999999999999999999 : Int64))) := ⟨_, rfl⟩
    rw [← hq8]
    have hq := own_bps2 p2
    rw [← hq8] at hq
    have hnz := own_nz hq.1
    show own_Ends _ _ _ _ _ _ (T0.setTop (mkF m 39 #[.val (.long p1), .second, .val (.long p2), .second, .val (.int p3), .val (.int p4), .val (.long q6), .second, .val (.long q8), .second, .unset, .unset, .unset, .unset, .unset, .unset, .unset, .unset, .unset, .unset, .unset, .unset, .unset] []))
    refine own_of (fun t k => XS.iload X0.here hx rfl (hb hby at_39) rfl  k) ?_
    show own_Ends _ _ _ _ _ _ (T0.setTop (mkF m 41 #[.val (.long p1), .second, .val (.long p2), .second, .val (.int p3), .val (.int p4), .val (.long q6), .second, .val (.long q8), .second, .unset, .unset, .unset, .unset, .unset, .unset, .unset, .unset, .unset, .unset, .unset, .unset, .unset] [(.int p3)]))
    refine own_of (fun t k => XS.sipush X0.here hx rfl (hb hby at_41) k) ?_
    show own_Ends _ _ _ _ _ _ (T0.setTop (mkF m 44 #[.val (.long p1), .second, .val (.long p2), .second, .val (.int p3), .val (.int p4), .val (.long q6), .second, .val (.long q8), .second, .unset, .unset, .unset, .unset, .unset, .unset, .unset, .unset, .unset, .unset, .unset, .unset, .unset] [(.int (1023 : Int32)), (.int p3)]))
    refine own_of (fun t k => XS.iand X0.here hx rfl (hb hby at_44) rfl k) ?_
    show own_Ends _ _ _ _ _ _ (T0.setTop (mkF m 45 #[.val (.long p1), .second, .val (.long p2), .second, .val (.int p3), .val (.int p4), .val (.long q6), .second, .val (.long q8), .second, .unset, .unset, .unset, .unset, .unset, .unset, .unset, .unset, .unset, .unset, .unset, .unset, .unset] [(.int (p3 &&& (1023 : Int32)))]))
    obtain ⟨dv8, hdv8⟩ : ∃ z, FP.i2d (p3 &&& (1023 : Int32)) = z := ⟨_, rfl⟩
    refine own_of (fun t k => XS.i2dS X0.here hx rfl (hb hby at_45) rfl hdv8 k) ?_
    show own_Ends _ _ _ _ _ _ (T0.setTop (mkF m 46 #[.val (.long p1), .second, .val (.long p2), .second, .val (.int p3), .val (.int p4), .val (.long q6), .second, .val (.long q8), .second, .unset, .unset, .unset, .unset, .unset, .unset, .unset, .unset, .unset, .unset, .unset, .unset, .unset] [(.double dv8)]))
    refine own_of (fun t k => XS.dstore X0.here hx rfl (hb hby at_46) rfl (l' := #[.val (.long p1), .second, .val (.long p2), .second, .val (.int p3), .val (.int p4), .val (.long q6), .second, .val (.long q8), .second, .val (.double dv8), .second, .unset, .unset, .unset, .unset, .unset, .unset, .unset, .unset, .unset, .unset, .unset]) rfl k) ?_
    show own_Ends _ _ _ _ _ _ (T0.setTop (mkF m 48 #[.val (.long p1), .second, .val (.long p2), .second, .val (.int p3), .val (.int p4), .val (.long q6), .second, .val (.long q8), .second, .val (.double dv8), .second, .unset, .unset, .unset, .unset, .unset, .unset, .unset, .unset, .unset, .unset, .unset] []))
    obtain ⟨T9, h9, X9, e9, E9, A9, D9, -, st9⟩ := newO X0 hx hZ hown (hw _ (List.mem_of_getElem? (i := 2) rfl)) (hw _ (List.mem_of_getElem? (i := 3) rfl)) (hw _ (List.mem_of_getElem? (i := 4) rfl)) e0 (g := (mkF m 48 #[.val (.long p1), .second, .val (.long p2), .second, .val (.int p3), .val (.int p4), .val (.long q6), .second, .val (.long q8), .second, .val (.double dv8), .second, .unset, .unset, .unset, .unset, .unset, .unset, .unset, .unset, .unset, .unset, .unset] [])) rfl (hb hby at_48) (by decide) (by decide)
    obtain ⟨b9, g9⟩ : ∃ z, z = h0.size := ⟨_, rfl⟩
    rw [← g9] at A9 D9 st9
    have sz_b9 : h0.size ≤ b9 := Nat.le_trans K.1 (Nat.le_of_eq g9.symm)
    have g_b9 : n0 ≤ b9 := Nat.le_trans Z0 sz_b9
    have F_delayMillis_b9 : Fld Z h9 b9 "com/example/tiered_accord/tieredaccord/server/Link" "delayMillis" "D" (.double (0 : UInt64)) := D9 (Or.inr (hw _ (List.mem_of_getElem? (i := 17) rfl))) (ty := .double) (by decide)
    have F_bytesPerSecond_b9 : Fld Z h9 b9 "com/example/tiered_accord/tieredaccord/server/Link" "bytesPerSecond" "J" (.long (0 : Int64)) := D9 (Or.inr (hw _ (List.mem_of_getElem? (i := 19) rfl))) (ty := .long) (by decide)
    replace K := K.ext E9
    refine own_of st9 ?_
    show own_Ends _ _ _ _ _ _ (T9.setTop (mkF m 51 #[.val (.long p1), .second, .val (.long p2), .second, .val (.int p3), .val (.int p4), .val (.long q6), .second, .val (.long q8), .second, .val (.double dv8), .second, .unset, .unset, .unset, .unset, .unset, .unset, .unset, .unset, .unset, .unset, .unset] [(.ref b9)]))
    refine own_of (fun t k => XS.dup X9.here hx rfl (hb hby at_51) rfl rfl k) ?_
    show own_Ends _ _ _ _ _ _ (T9.setTop (mkF m 52 #[.val (.long p1), .second, .val (.long p2), .second, .val (.int p3), .val (.int p4), .val (.long q6), .second, .val (.long q8), .second, .val (.double dv8), .second, .unset, .unset, .unset, .unset, .unset, .unset, .unset, .unset, .unset, .unset, .unset] [(.ref b9), (.ref b9)]))
    refine own_of (fun t k => XS.dload X9.here hx rfl (hb hby at_52) rfl  k) ?_
    show own_Ends _ _ _ _ _ _ (T9.setTop (mkF m 54 #[.val (.long p1), .second, .val (.long p2), .second, .val (.int p3), .val (.int p4), .val (.long q6), .second, .val (.long q8), .second, .val (.double dv8), .second, .unset, .unset, .unset, .unset, .unset, .unset, .unset, .unset, .unset, .unset, .unset] [(.double dv8), (.ref b9), (.ref b9)]))
    refine own_of (fun t k => XS.lload X9.here hx rfl (hb hby at_54) rfl  k) ?_
    show own_Ends _ _ _ _ _ _ (T9.setTop (mkF m 56 #[.val (.long p1), .second, .val (.long p2), .second, .val (.int p3), .val (.int p4), .val (.long q6), .second, .val (.long q8), .second, .val (.double dv8), .second, .unset, .unset, .unset, .unset, .unset, .unset, .unset, .unset, .unset, .unset, .unset] [(.long q8), (.double dv8), (.ref b9), (.ref b9)]))
    obtain ⟨v10, T10, L10, h10, X10, e10, Q10, st10⟩ := own_special X9 hx hZ hown e9 (b := b9) rfl (hw _ (List.mem_of_getElem? (i := 5) rfl)) (hw _ (List.mem_of_getElem? (i := 6) rfl)) (hw _ (List.mem_of_getElem? (i := 4) rfl)) (hw _ (List.mem_of_getElem? (i := 7) rfl)) (by decide) (argsL := [(.double dv8), (.long q8)]) (rest := [(.ref b9)]) (rm_init l Z a0 hw b9 dv8 q8 h9 n0 (Nat.le_trans Z0 K.1) A9 F_delayMillis_b9 F_bytesPerSecond_b9 g_b9) (g := (mkF m 56 #[.val (.long p1), .second, .val (.long p2), .second, .val (.int p3), .val (.int p4), .val (.long q6), .second, .val (.long q8), .second, .val (.double dv8), .second, .unset, .unset, .unset, .unset, .unset, .unset, .unset, .unset, .unset, .unset, .unset] [(.long q8), (.double dv8), (.ref b9), (.ref b9)])) rfl (by rw [hml]; rfl) (lenOf pd__DJ_r_V rfl) rfl (by decide) (Nat.le_of_ble_eq_true rfl) (by decide) (by decide) (hb hby at_56)
    obtain ⟨rfl, Nq10, Kq10, A9', F_bytesPerSecond_b9'⟩ := Q10
    replace A9 := A9.keep Kq10
    clear A9
    have A9 := A9'
    have F_bytesPerSecond_b9 := F_bytesPerSecond_b9'
    replace K := K.trans Kq10 (allS (Or.inr sz_b9) all0)
    have N10 := Fr.app N0 Nq10
    refine own_of st10 ?_
    show own_Ends _ _ _ _ _ _ (T10.setTop (mkF m 59 #[.val (.long p1), .second, .val (.long p2), .second, .val (.int p3), .val (.int p4), .val (.long q6), .second, .val (.long q8), .second, .val (.double dv8), .second, .unset, .unset, .unset, .unset, .unset, .unset, .unset, .unset, .unset, .unset, .unset] [(.ref b9)]))
    refine own_of (fun t k => XS.astore X10.here hx rfl (hb hby at_59) rfl rfl (l' := #[.val (.long p1), .second, .val (.long p2), .second, .val (.int p3), .val (.int p4), .val (.long q6), .second, .val (.long q8), .second, .val (.double dv8), .second, .val (.ref b9), .unset, .unset, .unset, .unset, .unset, .unset, .unset, .unset, .unset, .unset]) rfl k) ?_
    show own_Ends _ _ _ _ _ _ (T10.setTop (mkF m 61 #[.val (.long p1), .second, .val (.long p2), .second, .val (.int p3), .val (.int p4), .val (.long q6), .second, .val (.long q8), .second, .val (.double dv8), .second, .val (.ref b9), .unset, .unset, .unset, .unset, .unset, .unset, .unset, .unset, .unset, .unset] []))
    refine own_of (fun t k => XS.aload X10.here hx rfl (hb hby at_61) rfl rfl k) ?_
    show own_Ends _ _ _ _ _ _ (T10.setTop (mkF m 63 #[.val (.long p1), .second, .val (.long p2), .second, .val (.int p3), .val (.int p4), .val (.long q6), .second, .val (.long q8), .second, .val (.double dv8), .second, .val (.ref b9), .unset, .unset, .unset, .unset, .unset, .unset, .unset, .unset, .unset, .unset] [(.ref b9)]))
    refine own_of (fun t k => XS.lload X10.here hx rfl (hb hby at_63) rfl  k) ?_
    show own_Ends _ _ _ _ _ _ (T10.setTop (mkF m 65 #[.val (.long p1), .second, .val (.long p2), .second, .val (.int p3), .val (.int p4), .val (.long q6), .second, .val (.long q8), .second, .val (.double dv8), .second, .val (.ref b9), .unset, .unset, .unset, .unset, .unset, .unset, .unset, .unset, .unset, .unset] [(.long q6), (.ref b9)]))
    obtain ⟨v11, T11, L11, h11, X11, e11, Q11, st11⟩ := own_virtual X10 hx hZ hown e10 A9 (hw _ (List.mem_of_getElem? (i := 20) rfl)) (hw _ (List.mem_of_getElem? (i := 21) rfl)) (notFace_of_selects (args := #[]) (mvT hZ (hw _ (List.mem_of_getElem? (i := 23) rfl)))) (hw _ (List.mem_of_getElem? (i := 23) rfl)) (hw _ (List.mem_of_getElem? (i := 22) rfl)) (hw _ (List.mem_of_getElem? (i := 4) rfl)) (hw _ (List.mem_of_getElem? (i := 24) rfl)) (by decide) (argsL := [(.long q6)]) (rest := []) (rm_cross l Z a0 hw b9 q6 q8 h10 n0 (Nat.le_trans Z0 K.1) F_bytesPerSecond_b9 hnz) (g := (mkF m 65 #[.val (.long p1), .second, .val (.long p2), .second, .val (.int p3), .val (.int p4), .val (.long q6), .second, .val (.long q8), .second, .val (.double dv8), .second, .val (.ref b9), .unset, .unset, .unset, .unset, .unset, .unset, .unset, .unset, .unset, .unset] [(.long q6), (.ref b9)])) rfl (by rw [hml]; rfl) (lenOf pd__J_r_J rfl) rfl (by decide) (Nat.le_of_ble_eq_true rfl) (by decide) (by decide) (hb hby at_65)
    obtain ⟨rfl, Nq11, q11⟩ := Q11
    replace e11 := e11.trans q11
    have N11 := Fr.app N10 Nq11
    refine own_of st11 ?_
    show own_Ends _ _ _ _ _ _ (T11.setTop (mkF m 68 #[.val (.long p1), .second, .val (.long p2), .second, .val (.int p3), .val (.int p4), .val (.long q6), .second, .val (.long q8), .second, .val (.double dv8), .second, .val (.ref b9), .unset, .unset, .unset, .unset, .unset, .unset, .unset, .unset, .unset, .unset] [(.long ((((q6 * (1000000000 : Int64)) + q8) - (1 : Int64)) / q8))]))
    refine own_of (fun t k => XS.lstore X11.here hx rfl (hb hby at_68) rfl (l' := #[.val (.long p1), .second, .val (.long p2), .second, .val (.int p3), .val (.int p4), .val (.long q6), .second, .val (.long q8), .second, .val (.double dv8), .second, .val (.ref b9), .val (.long ((((q6 * (1000000000 : Int64)) + q8) - (1 : Int64)) / q8)), .second, .unset, .unset, .unset, .unset, .unset, .unset, .unset, .unset]) rfl k) ?_
    show own_Ends _ _ _ _ _ _ (T11.setTop (mkF m 70 #[.val (.long p1), .second, .val (.long p2), .second, .val (.int p3), .val (.int p4), .val (.long q6), .second, .val (.long q8), .second, .val (.double dv8), .second, .val (.ref b9), .val (.long ((((q6 * (1000000000 : Int64)) + q8) - (1 : Int64)) / q8)), .second, .unset, .unset, .unset, .unset, .unset, .unset, .unset, .unset] []))
    refine own_of (fun t k => XS.lload X11.here hx rfl (hb hby at_70) rfl  k) ?_
    show own_Ends _ _ _ _ _ _ (T11.setTop (mkF m 72 #[.val (.long p1), .second, .val (.long p2), .second, .val (.int p3), .val (.int p4), .val (.long q6), .second, .val (.long q8), .second, .val (.double dv8), .second, .val (.ref b9), .val (.long ((((q6 * (1000000000 : Int64)) + q8) - (1 : Int64)) / q8)), .second, .unset, .unset, .unset, .unset, .unset, .unset, .unset, .unset] [(.long q6)]))
    refine own_of (fun t k => X11.ldc2J hx hown (mvT hZ (hw _ (List.mem_of_getElem? (i := 26) rfl))) (g := (mkF m 72 #[.val (.long p1), .second, .val (.long p2), .second, .val (.int p3), .val (.int p4), .val (.long q6), .second, .val (.long q8), .second, .val (.double dv8), .second, .val (.ref b9), .val (.long ((((q6 * (1000000000 : Int64)) + q8) - (1 : Int64)) / q8)), .second, .unset, .unset, .unset, .unset, .unset, .unset, .unset, .unset] [(.long q6)])) rfl (hb hby at_72) k) ?_
    show own_Ends _ _ _ _ _ _ (T11.setTop (mkF m 75 #[.val (.long p1), .second, .val (.long p2), .second, .val (.int p3), .val (.int p4), .val (.long q6), .second, .val (.long q8), .second, .val (.double dv8), .second, .val (.ref b9), .val (.long ((((q6 * (1000000000 : Int64)) + q8) - (1 : Int64)) / q8)), .second, .unset, .unset, .unset, .unset, .unset, .unset, .unset, .unset] [(.long (1000000000 : Int64)), (.long q6)]))
    refine own_of (fun t k => XS.lmul X11.here hx rfl (hb hby at_75) rfl k) ?_
    show own_Ends _ _ _ _ _ _ (T11.setTop (mkF m 76 #[.val (.long p1), .second, .val (.long p2), .second, .val (.int p3), .val (.int p4), .val (.long q6), .second, .val (.long q8), .second, .val (.double dv8), .second, .val (.ref b9), .val (.long ((((q6 * (1000000000 : Int64)) + q8) - (1 : Int64)) / q8)), .second, .unset, .unset, .unset, .unset, .unset, .unset, .unset, .unset] [(.long (q6 * (1000000000 : Int64)))]))
    refine own_of (fun t k => XS.lstore X11.here hx rfl (hb hby at_76) rfl (l' := #[.val (.long p1), .second, .val (.long p2), .second, .val (.int p3), .val (.int p4), .val (.long q6), .second, .val (.long q8), .second, .val (.double dv8), .second, .val (.ref b9), .val (.long ((((q6 * (1000000000 : Int64)) + q8) - (1 : Int64)) / q8)), .second, .val (.long (q6 * (1000000000 : Int64))), .second, .unset, .unset, .unset, .unset, .unset, .unset]) rfl k) ?_
    show own_Ends _ _ _ _ _ _ (T11.setTop (mkF m 78 #[.val (.long p1), .second, .val (.long p2), .second, .val (.int p3), .val (.int p4), .val (.long q6), .second, .val (.long q8), .second, .val (.double dv8), .second, .val (.ref b9), .val (.long ((((q6 * (1000000000 : Int64)) + q8) - (1 : Int64)) / q8)), .second, .val (.long (q6 * (1000000000 : Int64))), .second, .unset, .unset, .unset, .unset, .unset, .unset] []))
    refine own_of (fun t k => XS.lload X11.here hx rfl (hb hby at_78) rfl  k) ?_
    show own_Ends _ _ _ _ _ _ (T11.setTop (mkF m 80 #[.val (.long p1), .second, .val (.long p2), .second, .val (.int p3), .val (.int p4), .val (.long q6), .second, .val (.long q8), .second, .val (.double dv8), .second, .val (.ref b9), .val (.long ((((q6 * (1000000000 : Int64)) + q8) - (1 : Int64)) / q8)), .second, .val (.long (q6 * (1000000000 : Int64))), .second, .unset, .unset, .unset, .unset, .unset, .unset] [(.long (q6 * (1000000000 : Int64)))]))
    refine own_of (fun t k => XS.lload X11.here hx rfl (hb hby at_80) rfl  k) ?_
    show own_Ends _ _ _ _ _ _ (T11.setTop (mkF m 82 #[.val (.long p1), .second, .val (.long p2), .second, .val (.int p3), .val (.int p4), .val (.long q6), .second, .val (.long q8), .second, .val (.double dv8), .second, .val (.ref b9), .val (.long ((((q6 * (1000000000 : Int64)) + q8) - (1 : Int64)) / q8)), .second, .val (.long (q6 * (1000000000 : Int64))), .second, .unset, .unset, .unset, .unset, .unset, .unset] [(.long q8), (.long (q6 * (1000000000 : Int64)))]))
    refine own_of (fun t k => XS.ldiv X11.here hx rfl (hb hby at_82) rfl hnz k) ?_
    show own_Ends _ _ _ _ _ _ (T11.setTop (mkF m 83 #[.val (.long p1), .second, .val (.long p2), .second, .val (.int p3), .val (.int p4), .val (.long q6), .second, .val (.long q8), .second, .val (.double dv8), .second, .val (.ref b9), .val (.long ((((q6 * (1000000000 : Int64)) + q8) - (1 : Int64)) / q8)), .second, .val (.long (q6 * (1000000000 : Int64))), .second, .unset, .unset, .unset, .unset, .unset, .unset] [(.long ((q6 * (1000000000 : Int64)) / q8))]))
    refine own_of (fun t k => XS.lstore X11.here hx rfl (hb hby at_83) rfl (l' := #[.val (.long p1), .second, .val (.long p2), .second, .val (.int p3), .val (.int p4), .val (.long q6), .second, .val (.long q8), .second, .val (.double dv8), .second, .val (.ref b9), .val (.long ((((q6 * (1000000000 : Int64)) + q8) - (1 : Int64)) / q8)), .second, .val (.long (q6 * (1000000000 : Int64))), .second, .val (.long ((q6 * (1000000000 : Int64)) / q8)), .second, .unset, .unset, .unset, .unset]) rfl k) ?_
    show own_Ends _ _ _ _ _ _ (T11.setTop (mkF m 85 #[.val (.long p1), .second, .val (.long p2), .second, .val (.int p3), .val (.int p4), .val (.long q6), .second, .val (.long q8), .second, .val (.double dv8), .second, .val (.ref b9), .val (.long ((((q6 * (1000000000 : Int64)) + q8) - (1 : Int64)) / q8)), .second, .val (.long (q6 * (1000000000 : Int64))), .second, .val (.long ((q6 * (1000000000 : Int64)) / q8)), .second, .unset, .unset, .unset, .unset] []))
    refine own_of (fun t k => XS.lload X11.here hx rfl (hb hby at_85) rfl  k) ?_
    show own_Ends _ _ _ _ _ _ (T11.setTop (mkF m 87 #[.val (.long p1), .second, .val (.long p2), .second, .val (.int p3), .val (.int p4), .val (.long q6), .second, .val (.long q8), .second, .val (.double dv8), .second, .val (.ref b9), .val (.long ((((q6 * (1000000000 : Int64)) + q8) - (1 : Int64)) / q8)), .second, .val (.long (q6 * (1000000000 : Int64))), .second, .val (.long ((q6 * (1000000000 : Int64)) / q8)), .second, .unset, .unset, .unset, .unset] [(.long (q6 * (1000000000 : Int64)))]))
    refine own_of (fun t k => XS.lload X11.here hx rfl (hb hby at_87) rfl  k) ?_
    show own_Ends _ _ _ _ _ _ (T11.setTop (mkF m 89 #[.val (.long p1), .second, .val (.long p2), .second, .val (.int p3), .val (.int p4), .val (.long q6), .second, .val (.long q8), .second, .val (.double dv8), .second, .val (.ref b9), .val (.long ((((q6 * (1000000000 : Int64)) + q8) - (1 : Int64)) / q8)), .second, .val (.long (q6 * (1000000000 : Int64))), .second, .val (.long ((q6 * (1000000000 : Int64)) / q8)), .second, .unset, .unset, .unset, .unset] [(.long q8), (.long (q6 * (1000000000 : Int64)))]))
    refine own_of (fun t k => XS.lrem X11.here hx rfl (hb hby at_89) rfl hnz k) ?_
    show own_Ends _ _ _ _ _ _ (T11.setTop (mkF m 90 #[.val (.long p1), .second, .val (.long p2), .second, .val (.int p3), .val (.int p4), .val (.long q6), .second, .val (.long q8), .second, .val (.double dv8), .second, .val (.ref b9), .val (.long ((((q6 * (1000000000 : Int64)) + q8) - (1 : Int64)) / q8)), .second, .val (.long (q6 * (1000000000 : Int64))), .second, .val (.long ((q6 * (1000000000 : Int64)) / q8)), .second, .unset, .unset, .unset, .unset] [(.long ((q6 * (1000000000 : Int64)) - (q6 * (1000000000 : Int64)) / q8 * q8))]))
    refine own_of (fun t k => XS.lstore X11.here hx rfl (hb hby at_90) rfl (l' := #[.val (.long p1), .second, .val (.long p2), .second, .val (.int p3), .val (.int p4), .val (.long q6), .second, .val (.long q8), .second, .val (.double dv8), .second, .val (.ref b9), .val (.long ((((q6 * (1000000000 : Int64)) + q8) - (1 : Int64)) / q8)), .second, .val (.long (q6 * (1000000000 : Int64))), .second, .val (.long ((q6 * (1000000000 : Int64)) / q8)), .second, .val (.long ((q6 * (1000000000 : Int64)) - (q6 * (1000000000 : Int64)) / q8 * q8)), .second, .unset, .unset]) rfl k) ?_
    show own_Ends _ _ _ _ _ _ (T11.setTop (mkF m 92 #[.val (.long p1), .second, .val (.long p2), .second, .val (.int p3), .val (.int p4), .val (.long q6), .second, .val (.long q8), .second, .val (.double dv8), .second, .val (.ref b9), .val (.long ((((q6 * (1000000000 : Int64)) + q8) - (1 : Int64)) / q8)), .second, .val (.long (q6 * (1000000000 : Int64))), .second, .val (.long ((q6 * (1000000000 : Int64)) / q8)), .second, .val (.long ((q6 * (1000000000 : Int64)) - (q6 * (1000000000 : Int64)) / q8 * q8)), .second, .unset, .unset] []))
    refine own_of (fun t k => XS.lload X11.here hx rfl (hb hby at_92) rfl  k) ?_
    show own_Ends _ _ _ _ _ _ (T11.setTop (mkF m 94 #[.val (.long p1), .second, .val (.long p2), .second, .val (.int p3), .val (.int p4), .val (.long q6), .second, .val (.long q8), .second, .val (.double dv8), .second, .val (.ref b9), .val (.long ((((q6 * (1000000000 : Int64)) + q8) - (1 : Int64)) / q8)), .second, .val (.long (q6 * (1000000000 : Int64))), .second, .val (.long ((q6 * (1000000000 : Int64)) / q8)), .second, .val (.long ((q6 * (1000000000 : Int64)) - (q6 * (1000000000 : Int64)) / q8 * q8)), .second, .unset, .unset] [(.long ((q6 * (1000000000 : Int64)) / q8))]))
    refine own_of (fun t k => XS.lstore X11.here hx rfl (hb hby at_94) rfl (l' := #[.val (.long p1), .second, .val (.long p2), .second, .val (.int p3), .val (.int p4), .val (.long q6), .second, .val (.long q8), .second, .val (.double dv8), .second, .val (.ref b9), .val (.long ((((q6 * (1000000000 : Int64)) + q8) - (1 : Int64)) / q8)), .second, .val (.long (q6 * (1000000000 : Int64))), .second, .val (.long ((q6 * (1000000000 : Int64)) / q8)), .second, .val (.long ((q6 * (1000000000 : Int64)) - (q6 * (1000000000 : Int64)) / q8 * q8)), .second, .val (.long ((q6 * (1000000000 : Int64)) / q8)), .second]) rfl k) ?_
    show own_Ends _ _ _ _ _ _ (T11.setTop (mkF m 96 #[.val (.long p1), .second, .val (.long p2), .second, .val (.int p3), .val (.int p4), .val (.long q6), .second, .val (.long q8), .second, .val (.double dv8), .second, .val (.ref b9), .val (.long ((((q6 * (1000000000 : Int64)) + q8) - (1 : Int64)) / q8)), .second, .val (.long (q6 * (1000000000 : Int64))), .second, .val (.long ((q6 * (1000000000 : Int64)) / q8)), .second, .val (.long ((q6 * (1000000000 : Int64)) - (q6 * (1000000000 : Int64)) / q8 * q8)), .second, .val (.long ((q6 * (1000000000 : Int64)) / q8)), .second] []))
    refine own_of (fun t k => XS.lload X11.here hx rfl (hb hby at_96) rfl  k) ?_
    show own_Ends _ _ _ _ _ _ (T11.setTop (mkF m 98 #[.val (.long p1), .second, .val (.long p2), .second, .val (.int p3), .val (.int p4), .val (.long q6), .second, .val (.long q8), .second, .val (.double dv8), .second, .val (.ref b9), .val (.long ((((q6 * (1000000000 : Int64)) + q8) - (1 : Int64)) / q8)), .second, .val (.long (q6 * (1000000000 : Int64))), .second, .val (.long ((q6 * (1000000000 : Int64)) / q8)), .second, .val (.long ((q6 * (1000000000 : Int64)) - (q6 * (1000000000 : Int64)) / q8 * q8)), .second, .val (.long ((q6 * (1000000000 : Int64)) / q8)), .second] [(.long ((q6 * (1000000000 : Int64)) - (q6 * (1000000000 : Int64)) / q8 * q8))]))
    refine own_of (fun t k => XS.lconst X11.here hx rfl (hb hby at_98) k) ?_
    show own_Ends _ _ _ _ _ _ (T11.setTop (mkF m 99 #[.val (.long p1), .second, .val (.long p2), .second, .val (.int p3), .val (.int p4), .val (.long q6), .second, .val (.long q8), .second, .val (.double dv8), .second, .val (.ref b9), .val (.long ((((q6 * (1000000000 : Int64)) + q8) - (1 : Int64)) / q8)), .second, .val (.long (q6 * (1000000000 : Int64))), .second, .val (.long ((q6 * (1000000000 : Int64)) / q8)), .second, .val (.long ((q6 * (1000000000 : Int64)) - (q6 * (1000000000 : Int64)) / q8 * q8)), .second, .val (.long ((q6 * (1000000000 : Int64)) / q8)), .second] [(.long (0 : Int64)), (.long ((q6 * (1000000000 : Int64)) - (q6 * (1000000000 : Int64)) / q8 * q8))]))
    refine own_of (fun t k => XS.lcmp X11.here hx rfl (hb hby at_99) rfl k) ?_
    show own_Ends _ _ _ _ _ _ (T11.setTop (mkF m 100 #[.val (.long p1), .second, .val (.long p2), .second, .val (.int p3), .val (.int p4), .val (.long q6), .second, .val (.long q8), .second, .val (.double dv8), .second, .val (.ref b9), .val (.long ((((q6 * (1000000000 : Int64)) + q8) - (1 : Int64)) / q8)), .second, .val (.long (q6 * (1000000000 : Int64))), .second, .val (.long ((q6 * (1000000000 : Int64)) / q8)), .second, .val (.long ((q6 * (1000000000 : Int64)) - (q6 * (1000000000 : Int64)) / q8 * q8)), .second, .val (.long ((q6 * (1000000000 : Int64)) / q8)), .second] [(.int (lcmpW ((q6 * (1000000000 : Int64)) - (q6 * (1000000000 : Int64)) / q8 * q8) (0 : Int64)))]))
    by_cases hc12 : (lcmpW ((q6 * (1000000000 : Int64)) - (q6 * (1000000000 : Int64)) / q8 * q8) (0 : Int64)) = (0 : Int32)
    · refine own_of (fun t k => XS.ifYes X11.here hx rfl (pc0 := 100) (pc' := 109) rfl (hb hby at_100) rfl ((if0 _ _).trans (teq hc12).1) (by decide) (by decide) k) ?_
      show own_Ends _ _ _ _ _ _ (T11.setTop (mkF m 109 #[.val (.long p1), .second, .val (.long p2), .second, .val (.int p3), .val (.int p4), .val (.long q6), .second, .val (.long q8), .second, .val (.double dv8), .second, .val (.ref b9), .val (.long ((((q6 * (1000000000 : Int64)) + q8) - (1 : Int64)) / q8)), .second, .val (.long (q6 * (1000000000 : Int64))), .second, .val (.long ((q6 * (1000000000 : Int64)) / q8)), .second, .val (.long ((q6 * (1000000000 : Int64)) - (q6 * (1000000000 : Int64)) / q8 * q8)), .second, .val (.long ((q6 * (1000000000 : Int64)) / q8)), .second] []))
      refine own_of (fun t k => XS.lload X11.here hx rfl (hb hby at_109) rfl  k) ?_
      show own_Ends _ _ _ _ _ _ (T11.setTop (mkF m 111 #[.val (.long p1), .second, .val (.long p2), .second, .val (.int p3), .val (.int p4), .val (.long q6), .second, .val (.long q8), .second, .val (.double dv8), .second, .val (.ref b9), .val (.long ((((q6 * (1000000000 : Int64)) + q8) - (1 : Int64)) / q8)), .second, .val (.long (q6 * (1000000000 : Int64))), .second, .val (.long ((q6 * (1000000000 : Int64)) / q8)), .second, .val (.long ((q6 * (1000000000 : Int64)) - (q6 * (1000000000 : Int64)) / q8 * q8)), .second, .val (.long ((q6 * (1000000000 : Int64)) / q8)), .second] [(.long ((((q6 * (1000000000 : Int64)) + q8) - (1 : Int64)) / q8))]))
      refine own_of (fun t k => XS.lload X11.here hx rfl (hb hby at_111) rfl  k) ?_
      show own_Ends _ _ _ _ _ _ (T11.setTop (mkF m 113 #[.val (.long p1), .second, .val (.long p2), .second, .val (.int p3), .val (.int p4), .val (.long q6), .second, .val (.long q8), .second, .val (.double dv8), .second, .val (.ref b9), .val (.long ((((q6 * (1000000000 : Int64)) + q8) - (1 : Int64)) / q8)), .second, .val (.long (q6 * (1000000000 : Int64))), .second, .val (.long ((q6 * (1000000000 : Int64)) / q8)), .second, .val (.long ((q6 * (1000000000 : Int64)) - (q6 * (1000000000 : Int64)) / q8 * q8)), .second, .val (.long ((q6 * (1000000000 : Int64)) / q8)), .second] [(.long ((q6 * (1000000000 : Int64)) / q8)), (.long ((((q6 * (1000000000 : Int64)) + q8) - (1 : Int64)) / q8))]))
      refine own_of (fun t k => XS.lcmp X11.here hx rfl (hb hby at_113) rfl k) ?_
      show own_Ends _ _ _ _ _ _ (T11.setTop (mkF m 114 #[.val (.long p1), .second, .val (.long p2), .second, .val (.int p3), .val (.int p4), .val (.long q6), .second, .val (.long q8), .second, .val (.double dv8), .second, .val (.ref b9), .val (.long ((((q6 * (1000000000 : Int64)) + q8) - (1 : Int64)) / q8)), .second, .val (.long (q6 * (1000000000 : Int64))), .second, .val (.long ((q6 * (1000000000 : Int64)) / q8)), .second, .val (.long ((q6 * (1000000000 : Int64)) - (q6 * (1000000000 : Int64)) / q8 * q8)), .second, .val (.long ((q6 * (1000000000 : Int64)) / q8)), .second] [(.int (lcmpW ((((q6 * (1000000000 : Int64)) + q8) - (1 : Int64)) / q8) ((q6 * (1000000000 : Int64)) / q8)))]))
      have d114 := (lw_eq _ _).mpr ((own_ceil hb6 hq).1 ((lw_eq _ _).mp hc12))
      refine own_of (fun t k => XS.ifNo X11.here hx rfl (hb hby at_114) rfl ((if0 _ _).trans (teq d114).2) k) ?_
      show own_Ends _ _ _ _ _ _ (T11.setTop (mkF m 117 #[.val (.long p1), .second, .val (.long p2), .second, .val (.int p3), .val (.int p4), .val (.long q6), .second, .val (.long q8), .second, .val (.double dv8), .second, .val (.ref b9), .val (.long ((((q6 * (1000000000 : Int64)) + q8) - (1 : Int64)) / q8)), .second, .val (.long (q6 * (1000000000 : Int64))), .second, .val (.long ((q6 * (1000000000 : Int64)) / q8)), .second, .val (.long ((q6 * (1000000000 : Int64)) - (q6 * (1000000000 : Int64)) / q8 * q8)), .second, .val (.long ((q6 * (1000000000 : Int64)) / q8)), .second] []))
      refine own_of (fun t k => XS.iconst X11.here hx rfl (hb hby at_117) k) ?_
      show own_Ends _ _ _ _ _ _ (T11.setTop (mkF m 118 #[.val (.long p1), .second, .val (.long p2), .second, .val (.int p3), .val (.int p4), .val (.long q6), .second, .val (.long q8), .second, .val (.double dv8), .second, .val (.ref b9), .val (.long ((((q6 * (1000000000 : Int64)) + q8) - (1 : Int64)) / q8)), .second, .val (.long (q6 * (1000000000 : Int64))), .second, .val (.long ((q6 * (1000000000 : Int64)) / q8)), .second, .val (.long ((q6 * (1000000000 : Int64)) - (q6 * (1000000000 : Int64)) / q8 * q8)), .second, .val (.long ((q6 * (1000000000 : Int64)) / q8)), .second] [(.int (1 : Int32))]))
      refine own_of (fun t k => XS.goto X11.here hx rfl (pc0 := 118) (pc' := 122) rfl (hb hby at_118) (by decide) (by decide) k) ?_
      show own_Ends _ _ _ _ _ _ (T11.setTop (mkF m 122 #[.val (.long p1), .second, .val (.long p2), .second, .val (.int p3), .val (.int p4), .val (.long q6), .second, .val (.long q8), .second, .val (.double dv8), .second, .val (.ref b9), .val (.long ((((q6 * (1000000000 : Int64)) + q8) - (1 : Int64)) / q8)), .second, .val (.long (q6 * (1000000000 : Int64))), .second, .val (.long ((q6 * (1000000000 : Int64)) / q8)), .second, .val (.long ((q6 * (1000000000 : Int64)) - (q6 * (1000000000 : Int64)) / q8 * q8)), .second, .val (.long ((q6 * (1000000000 : Int64)) / q8)), .second] [(.int (1 : Int32))]))
      refine own_retN X11 hx hlk e11 (t := .boolean) hret (by simp) (z' := (1 : Int32)) rfl (hb hby at_122) (by decide) (by decide) ?_
      exact ⟨rfl, N11⟩
    · refine own_of (fun t k => XS.ifNo X11.here hx rfl (hb hby at_100) rfl ((if0 _ _).trans (feq hc12).1) k) ?_
      show own_Ends _ _ _ _ _ _ (T11.setTop (mkF m 103 #[.val (.long p1), .second, .val (.long p2), .second, .val (.int p3), .val (.int p4), .val (.long q6), .second, .val (.long q8), .second, .val (.double dv8), .second, .val (.ref b9), .val (.long ((((q6 * (1000000000 : Int64)) + q8) - (1 : Int64)) / q8)), .second, .val (.long (q6 * (1000000000 : Int64))), .second, .val (.long ((q6 * (1000000000 : Int64)) / q8)), .second, .val (.long ((q6 * (1000000000 : Int64)) - (q6 * (1000000000 : Int64)) / q8 * q8)), .second, .val (.long ((q6 * (1000000000 : Int64)) / q8)), .second] []))
      refine own_of (fun t k => XS.lload X11.here hx rfl (hb hby at_103) rfl  k) ?_
      show own_Ends _ _ _ _ _ _ (T11.setTop (mkF m 105 #[.val (.long p1), .second, .val (.long p2), .second, .val (.int p3), .val (.int p4), .val (.long q6), .second, .val (.long q8), .second, .val (.double dv8), .second, .val (.ref b9), .val (.long ((((q6 * (1000000000 : Int64)) + q8) - (1 : Int64)) / q8)), .second, .val (.long (q6 * (1000000000 : Int64))), .second, .val (.long ((q6 * (1000000000 : Int64)) / q8)), .second, .val (.long ((q6 * (1000000000 : Int64)) - (q6 * (1000000000 : Int64)) / q8 * q8)), .second, .val (.long ((q6 * (1000000000 : Int64)) / q8)), .second] [(.long ((q6 * (1000000000 : Int64)) / q8))]))
      refine own_of (fun t k => XS.lconst X11.here hx rfl (hb hby at_105) k) ?_
      show own_Ends _ _ _ _ _ _ (T11.setTop (mkF m 106 #[.val (.long p1), .second, .val (.long p2), .second, .val (.int p3), .val (.int p4), .val (.long q6), .second, .val (.long q8), .second, .val (.double dv8), .second, .val (.ref b9), .val (.long ((((q6 * (1000000000 : Int64)) + q8) - (1 : Int64)) / q8)), .second, .val (.long (q6 * (1000000000 : Int64))), .second, .val (.long ((q6 * (1000000000 : Int64)) / q8)), .second, .val (.long ((q6 * (1000000000 : Int64)) - (q6 * (1000000000 : Int64)) / q8 * q8)), .second, .val (.long ((q6 * (1000000000 : Int64)) / q8)), .second] [(.long (1 : Int64)), (.long ((q6 * (1000000000 : Int64)) / q8))]))
      refine own_of (fun t k => XS.ladd X11.here hx rfl (hb hby at_106) rfl k) ?_
      show own_Ends _ _ _ _ _ _ (T11.setTop (mkF m 107 #[.val (.long p1), .second, .val (.long p2), .second, .val (.int p3), .val (.int p4), .val (.long q6), .second, .val (.long q8), .second, .val (.double dv8), .second, .val (.ref b9), .val (.long ((((q6 * (1000000000 : Int64)) + q8) - (1 : Int64)) / q8)), .second, .val (.long (q6 * (1000000000 : Int64))), .second, .val (.long ((q6 * (1000000000 : Int64)) / q8)), .second, .val (.long ((q6 * (1000000000 : Int64)) - (q6 * (1000000000 : Int64)) / q8 * q8)), .second, .val (.long ((q6 * (1000000000 : Int64)) / q8)), .second] [(.long (((q6 * (1000000000 : Int64)) / q8) + (1 : Int64)))]))
      refine own_of (fun t k => XS.lstore X11.here hx rfl (hb hby at_107) rfl (l' := #[.val (.long p1), .second, .val (.long p2), .second, .val (.int p3), .val (.int p4), .val (.long q6), .second, .val (.long q8), .second, .val (.double dv8), .second, .val (.ref b9), .val (.long ((((q6 * (1000000000 : Int64)) + q8) - (1 : Int64)) / q8)), .second, .val (.long (q6 * (1000000000 : Int64))), .second, .val (.long ((q6 * (1000000000 : Int64)) / q8)), .second, .val (.long ((q6 * (1000000000 : Int64)) - (q6 * (1000000000 : Int64)) / q8 * q8)), .second, .val (.long (((q6 * (1000000000 : Int64)) / q8) + (1 : Int64))), .second]) rfl k) ?_
      show own_Ends _ _ _ _ _ _ (T11.setTop (mkF m 109 #[.val (.long p1), .second, .val (.long p2), .second, .val (.int p3), .val (.int p4), .val (.long q6), .second, .val (.long q8), .second, .val (.double dv8), .second, .val (.ref b9), .val (.long ((((q6 * (1000000000 : Int64)) + q8) - (1 : Int64)) / q8)), .second, .val (.long (q6 * (1000000000 : Int64))), .second, .val (.long ((q6 * (1000000000 : Int64)) / q8)), .second, .val (.long ((q6 * (1000000000 : Int64)) - (q6 * (1000000000 : Int64)) / q8 * q8)), .second, .val (.long (((q6 * (1000000000 : Int64)) / q8) + (1 : Int64))), .second] []))
      refine own_of (fun t k => XS.lload X11.here hx rfl (hb hby at_109) rfl  k) ?_
      show own_Ends _ _ _ _ _ _ (T11.setTop (mkF m 111 #[.val (.long p1), .second, .val (.long p2), .second, .val (.int p3), .val (.int p4), .val (.long q6), .second, .val (.long q8), .second, .val (.double dv8), .second, .val (.ref b9), .val (.long ((((q6 * (1000000000 : Int64)) + q8) - (1 : Int64)) / q8)), .second, .val (.long (q6 * (1000000000 : Int64))), .second, .val (.long ((q6 * (1000000000 : Int64)) / q8)), .second, .val (.long ((q6 * (1000000000 : Int64)) - (q6 * (1000000000 : Int64)) / q8 * q8)), .second, .val (.long (((q6 * (1000000000 : Int64)) / q8) + (1 : Int64))), .second] [(.long ((((q6 * (1000000000 : Int64)) + q8) - (1 : Int64)) / q8))]))
      refine own_of (fun t k => XS.lload X11.here hx rfl (hb hby at_111) rfl  k) ?_
      show own_Ends _ _ _ _ _ _ (T11.setTop (mkF m 113 #[.val (.long p1), .second, .val (.long p2), .second, .val (.int p3), .val (.int p4), .val (.long q6), .second, .val (.long q8), .second, .val (.double dv8), .second, .val (.ref b9), .val (.long ((((q6 * (1000000000 : Int64)) + q8) - (1 : Int64)) / q8)), .second, .val (.long (q6 * (1000000000 : Int64))), .second, .val (.long ((q6 * (1000000000 : Int64)) / q8)), .second, .val (.long ((q6 * (1000000000 : Int64)) - (q6 * (1000000000 : Int64)) / q8 * q8)), .second, .val (.long (((q6 * (1000000000 : Int64)) / q8) + (1 : Int64))), .second] [(.long (((q6 * (1000000000 : Int64)) / q8) + (1 : Int64))), (.long ((((q6 * (1000000000 : Int64)) + q8) - (1 : Int64)) / q8))]))
      refine own_of (fun t k => XS.lcmp X11.here hx rfl (hb hby at_113) rfl k) ?_
      show own_Ends _ _ _ _ _ _ (T11.setTop (mkF m 114 #[.val (.long p1), .second, .val (.long p2), .second, .val (.int p3), .val (.int p4), .val (.long q6), .second, .val (.long q8), .second, .val (.double dv8), .second, .val (.ref b9), .val (.long ((((q6 * (1000000000 : Int64)) + q8) - (1 : Int64)) / q8)), .second, .val (.long (q6 * (1000000000 : Int64))), .second, .val (.long ((q6 * (1000000000 : Int64)) / q8)), .second, .val (.long ((q6 * (1000000000 : Int64)) - (q6 * (1000000000 : Int64)) / q8 * q8)), .second, .val (.long (((q6 * (1000000000 : Int64)) / q8) + (1 : Int64))), .second] [(.int (lcmpW ((((q6 * (1000000000 : Int64)) + q8) - (1 : Int64)) / q8) (((q6 * (1000000000 : Int64)) / q8) + (1 : Int64))))]))
      have d114 := (lw_eq _ _).mpr ((own_ceil hb6 hq).2 fun z => hc12 ((lw_eq _ _).mpr z))
      refine own_of (fun t k => XS.ifNo X11.here hx rfl (hb hby at_114) rfl ((if0 _ _).trans (teq d114).2) k) ?_
      show own_Ends _ _ _ _ _ _ (T11.setTop (mkF m 117 #[.val (.long p1), .second, .val (.long p2), .second, .val (.int p3), .val (.int p4), .val (.long q6), .second, .val (.long q8), .second, .val (.double dv8), .second, .val (.ref b9), .val (.long ((((q6 * (1000000000 : Int64)) + q8) - (1 : Int64)) / q8)), .second, .val (.long (q6 * (1000000000 : Int64))), .second, .val (.long ((q6 * (1000000000 : Int64)) / q8)), .second, .val (.long ((q6 * (1000000000 : Int64)) - (q6 * (1000000000 : Int64)) / q8 * q8)), .second, .val (.long (((q6 * (1000000000 : Int64)) / q8) + (1 : Int64))), .second] []))
      refine own_of (fun t k => XS.iconst X11.here hx rfl (hb hby at_117) k) ?_
      show own_Ends _ _ _ _ _ _ (T11.setTop (mkF m 118 #[.val (.long p1), .second, .val (.long p2), .second, .val (.int p3), .val (.int p4), .val (.long q6), .second, .val (.long q8), .second, .val (.double dv8), .second, .val (.ref b9), .val (.long ((((q6 * (1000000000 : Int64)) + q8) - (1 : Int64)) / q8)), .second, .val (.long (q6 * (1000000000 : Int64))), .second, .val (.long ((q6 * (1000000000 : Int64)) / q8)), .second, .val (.long ((q6 * (1000000000 : Int64)) - (q6 * (1000000000 : Int64)) / q8 * q8)), .second, .val (.long (((q6 * (1000000000 : Int64)) / q8) + (1 : Int64))), .second] [(.int (1 : Int32))]))
      refine own_of (fun t k => XS.goto X11.here hx rfl (pc0 := 118) (pc' := 122) rfl (hb hby at_118) (by decide) (by decide) k) ?_
      show own_Ends _ _ _ _ _ _ (T11.setTop (mkF m 122 #[.val (.long p1), .second, .val (.long p2), .second, .val (.int p3), .val (.int p4), .val (.long q6), .second, .val (.long q8), .second, .val (.double dv8), .second, .val (.ref b9), .val (.long ((((q6 * (1000000000 : Int64)) + q8) - (1 : Int64)) / q8)), .second, .val (.long (q6 * (1000000000 : Int64))), .second, .val (.long ((q6 * (1000000000 : Int64)) / q8)), .second, .val (.long ((q6 * (1000000000 : Int64)) - (q6 * (1000000000 : Int64)) / q8 * q8)), .second, .val (.long (((q6 * (1000000000 : Int64)) / q8) + (1 : Int64))), .second] [(.int (1 : Int32))]))
      refine own_retN X11 hx hlk e11 (t := .boolean) hret (by simp) (z' := (1 : Int32)) rfl (hb hby at_122) (by decide) (by decide) ?_
      exact ⟨rfl, N11⟩
  · refine own_of (fun t k => XS.ifNo X0.here hx rfl (hb hby at_11) rfl ((if0 _ _).trans (feq hc7).1) k) ?_
    show own_Ends _ _ _ _ _ _ (T0.setTop (mkF m 14 #[.val (.long p1), .second, .val (.long p2), .second, .val (.int p3), .val (.int p4), .val (.long q6), .second, .unset, .unset, .unset, .unset, .unset, .unset, .unset, .unset, .unset, .unset, .unset, .unset, .unset, .unset, .unset] []))
    refine own_of (fun t k => XS.lconst X0.here hx rfl (hb hby at_14) k) ?_
    show own_Ends _ _ _ _ _ _ (T0.setTop (mkF m 15 #[.val (.long p1), .second, .val (.long p2), .second, .val (.int p3), .val (.int p4), .val (.long q6), .second, .unset, .unset, .unset, .unset, .unset, .unset, .unset, .unset, .unset, .unset, .unset, .unset, .unset, .unset, .unset] [(.long (1 : Int64))]))
    refine own_of (fun t k => XS.lloadN X0.here hx rfl (hb hby at_15) rfl  k) ?_
    show own_Ends _ _ _ _ _ _ (T0.setTop (mkF m 16 #[.val (.long p1), .second, .val (.long p2), .second, .val (.int p3), .val (.int p4), .val (.long q6), .second, .unset, .unset, .unset, .unset, .unset, .unset, .unset, .unset, .unset, .unset, .unset, .unset, .unset, .unset, .unset] [(.long p2), (.long (1 : Int64))]))
    refine own_of (fun t k => X0.ldc2J hx hown (mvT hZ (hw _ (List.mem_of_getElem? (i := 1) rfl))) (g := (mkF m 16 #[.val (.long p1), .second, .val (.long p2), .second, .val (.int p3), .val (.int p4), .val (.long q6), .second, .unset, .unset, .unset, .unset, .unset, .unset, .unset, .unset, .unset, .unset, .unset, .unset, .unset, .unset, .unset] [(.long p2), (.long (1 : Int64))])) rfl (hb hby at_16) k) ?_
    show own_Ends _ _ _ _ _ _ (T0.setTop (mkF m 19 #[.val (.long p1), .second, .val (.long p2), .second, .val (.int p3), .val (.int p4), .val (.long q6), .second, .unset, .unset, .unset, .unset, .unset, .unset, .unset, .unset, .unset, .unset, .unset, .unset, .unset, .unset, .unset] [(.long (65535 : Int64)), (.long p2), (.long (1 : Int64))]))
    refine own_of (fun t k => XS.land X0.here hx rfl (hb hby at_19) rfl k) ?_
    show own_Ends _ _ _ _ _ _ (T0.setTop (mkF m 20 #[.val (.long p1), .second, .val (.long p2), .second, .val (.int p3), .val (.int p4), .val (.long q6), .second, .unset, .unset, .unset, .unset, .unset, .unset, .unset, .unset, .unset, .unset, .unset, .unset, .unset, .unset, .unset] [(.long (p2 &&& (65535 : Int64))), (.long (1 : Int64))]))
    refine own_of (fun t k => XS.ladd X0.here hx rfl (hb hby at_20) rfl k) ?_
    show own_Ends _ _ _ _ _ _ (T0.setTop (mkF m 21 #[.val (.long p1), .second, .val (.long p2), .second, .val (.int p3), .val (.int p4), .val (.long q6), .second, .unset, .unset, .unset, .unset, .unset, .unset, .unset, .unset, .unset, .unset, .unset, .unset, .unset, .unset, .unset] [(.long ((1 : Int64) + (p2 &&& (65535 : Int64))))]))
    refine own_of (fun t k => XS.lstore X0.here hx rfl (hb hby at_21) rfl (l' := #[.val (.long p1), .second, .val (.long p2), .second, .val (.int p3), .val (.int p4), .val (.long q6), .second, .val (.long ((1 : Int64) + (p2 &&& (65535 : Int64)))), .second, .unset, .unset, .unset, .unset, .unset, .unset, .unset, .unset, .unset, .unset, .unset, .unset, .unset]) rfl k) ?_
    show own_Ends _ _ _ _ _ _ (T0.setTop (mkF m 23 #[.val (.long p1), .second, .val (.long p2), .second, .val (.int p3), .val (.int p4), .val (.long q6), .second, .val (.long ((1 : Int64) + (p2 &&& (65535 : Int64)))), .second, .unset, .unset, .unset, .unset, .unset, .unset, .unset, .unset, .unset, .unset, .unset, .unset, .unset] []))
    refine own_of (fun t k => XS.goto X0.here hx rfl (pc0 := 23) (pc' := 39) rfl (hb hby at_23) (by decide) (by decide) k) ?_
    show own_Ends _ _ _ _ _ _ (T0.setTop (mkF m 39 #[.val (.long p1), .second, .val (.long p2), .second, .val (.int p3), .val (.int p4), .val (.long q6), .second, .val (.long ((1 : Int64) + (p2 &&& (65535 : Int64)))), .second, .unset, .unset, .unset, .unset, .unset, .unset, .unset, .unset, .unset, .unset, .unset, .unset, .unset] []))
    obtain ⟨q8, hq8⟩ : ∃ z : Int64, z = ((1 : Int64) + (p2 &&& (65535 : Int64))) := ⟨_, rfl⟩
    rw [← hq8]
    have hq := own_bps1 p2
    rw [← hq8] at hq
    have hnz := own_nz hq.1
    show own_Ends _ _ _ _ _ _ (T0.setTop (mkF m 39 #[.val (.long p1), .second, .val (.long p2), .second, .val (.int p3), .val (.int p4), .val (.long q6), .second, .val (.long q8), .second, .unset, .unset, .unset, .unset, .unset, .unset, .unset, .unset, .unset, .unset, .unset, .unset, .unset] []))
    refine own_of (fun t k => XS.iload X0.here hx rfl (hb hby at_39) rfl  k) ?_
    show own_Ends _ _ _ _ _ _ (T0.setTop (mkF m 41 #[.val (.long p1), .second, .val (.long p2), .second, .val (.int p3), .val (.int p4), .val (.long q6), .second, .val (.long q8), .second, .unset, .unset, .unset, .unset, .unset, .unset, .unset, .unset, .unset, .unset, .unset, .unset, .unset] [(.int p3)]))
    refine own_of (fun t k => XS.sipush X0.here hx rfl (hb hby at_41) k) ?_
    show own_Ends _ _ _ _ _ _ (T0.setTop (mkF m 44 #[.val (.long p1), .second, .val (.long p2), .second, .val (.int p3), .val (.int p4), .val (.long q6), .second, .val (.long q8), .second, .unset, .unset, .unset, .unset, .unset, .unset, .unset, .unset, .unset, .unset, .unset, .unset, .unset] [(.int (1023 : Int32)), (.int p3)]))
    refine own_of (fun t k => XS.iand X0.here hx rfl (hb hby at_44) rfl k) ?_
    show own_Ends _ _ _ _ _ _ (T0.setTop (mkF m 45 #[.val (.long p1), .second, .val (.long p2), .second, .val (.int p3), .val (.int p4), .val (.long q6), .second, .val (.long q8), .second, .unset, .unset, .unset, .unset, .unset, .unset, .unset, .unset, .unset, .unset, .unset, .unset, .unset] [(.int (p3 &&& (1023 : Int32)))]))
    obtain ⟨dv13, hdv13⟩ : ∃ z, FP.i2d (p3 &&& (1023 : Int32)) = z := ⟨_, rfl⟩
    refine own_of (fun t k => XS.i2dS X0.here hx rfl (hb hby at_45) rfl hdv13 k) ?_
    show own_Ends _ _ _ _ _ _ (T0.setTop (mkF m 46 #[.val (.long p1), .second, .val (.long p2), .second, .val (.int p3), .val (.int p4), .val (.long q6), .second, .val (.long q8), .second, .unset, .unset, .unset, .unset, .unset, .unset, .unset, .unset, .unset, .unset, .unset, .unset, .unset] [(.double dv13)]))
    refine own_of (fun t k => XS.dstore X0.here hx rfl (hb hby at_46) rfl (l' := #[.val (.long p1), .second, .val (.long p2), .second, .val (.int p3), .val (.int p4), .val (.long q6), .second, .val (.long q8), .second, .val (.double dv13), .second, .unset, .unset, .unset, .unset, .unset, .unset, .unset, .unset, .unset, .unset, .unset]) rfl k) ?_
    show own_Ends _ _ _ _ _ _ (T0.setTop (mkF m 48 #[.val (.long p1), .second, .val (.long p2), .second, .val (.int p3), .val (.int p4), .val (.long q6), .second, .val (.long q8), .second, .val (.double dv13), .second, .unset, .unset, .unset, .unset, .unset, .unset, .unset, .unset, .unset, .unset, .unset] []))
    obtain ⟨T14, h14, X14, e14, E14, A14, D14, -, st14⟩ := newO X0 hx hZ hown (hw _ (List.mem_of_getElem? (i := 2) rfl)) (hw _ (List.mem_of_getElem? (i := 3) rfl)) (hw _ (List.mem_of_getElem? (i := 4) rfl)) e0 (g := (mkF m 48 #[.val (.long p1), .second, .val (.long p2), .second, .val (.int p3), .val (.int p4), .val (.long q6), .second, .val (.long q8), .second, .val (.double dv13), .second, .unset, .unset, .unset, .unset, .unset, .unset, .unset, .unset, .unset, .unset, .unset] [])) rfl (hb hby at_48) (by decide) (by decide)
    obtain ⟨b14, g14⟩ : ∃ z, z = h0.size := ⟨_, rfl⟩
    rw [← g14] at A14 D14 st14
    have sz_b14 : h0.size ≤ b14 := Nat.le_trans K.1 (Nat.le_of_eq g14.symm)
    have g_b14 : n0 ≤ b14 := Nat.le_trans Z0 sz_b14
    have F_delayMillis_b14 : Fld Z h14 b14 "com/example/tiered_accord/tieredaccord/server/Link" "delayMillis" "D" (.double (0 : UInt64)) := D14 (Or.inr (hw _ (List.mem_of_getElem? (i := 17) rfl))) (ty := .double) (by decide)
    have F_bytesPerSecond_b14 : Fld Z h14 b14 "com/example/tiered_accord/tieredaccord/server/Link" "bytesPerSecond" "J" (.long (0 : Int64)) := D14 (Or.inr (hw _ (List.mem_of_getElem? (i := 19) rfl))) (ty := .long) (by decide)
    replace K := K.ext E14
    refine own_of st14 ?_
    show own_Ends _ _ _ _ _ _ (T14.setTop (mkF m 51 #[.val (.long p1), .second, .val (.long p2), .second, .val (.int p3), .val (.int p4), .val (.long q6), .second, .val (.long q8), .second, .val (.double dv13), .second, .unset, .unset, .unset, .unset, .unset, .unset, .unset, .unset, .unset, .unset, .unset] [(.ref b14)]))
    refine own_of (fun t k => XS.dup X14.here hx rfl (hb hby at_51) rfl rfl k) ?_
    show own_Ends _ _ _ _ _ _ (T14.setTop (mkF m 52 #[.val (.long p1), .second, .val (.long p2), .second, .val (.int p3), .val (.int p4), .val (.long q6), .second, .val (.long q8), .second, .val (.double dv13), .second, .unset, .unset, .unset, .unset, .unset, .unset, .unset, .unset, .unset, .unset, .unset] [(.ref b14), (.ref b14)]))
    refine own_of (fun t k => XS.dload X14.here hx rfl (hb hby at_52) rfl  k) ?_
    show own_Ends _ _ _ _ _ _ (T14.setTop (mkF m 54 #[.val (.long p1), .second, .val (.long p2), .second, .val (.int p3), .val (.int p4), .val (.long q6), .second, .val (.long q8), .second, .val (.double dv13), .second, .unset, .unset, .unset, .unset, .unset, .unset, .unset, .unset, .unset, .unset, .unset] [(.double dv13), (.ref b14), (.ref b14)]))
    refine own_of (fun t k => XS.lload X14.here hx rfl (hb hby at_54) rfl  k) ?_
    show own_Ends _ _ _ _ _ _ (T14.setTop (mkF m 56 #[.val (.long p1), .second, .val (.long p2), .second, .val (.int p3), .val (.int p4), .val (.long q6), .second, .val (.long q8), .second, .val (.double dv13), .second, .unset, .unset, .unset, .unset, .unset, .unset, .unset, .unset, .unset, .unset, .unset] [(.long q8), (.double dv13), (.ref b14), (.ref b14)]))
    obtain ⟨v15, T15, L15, h15, X15, e15, Q15, st15⟩ := own_special X14 hx hZ hown e14 (b := b14) rfl (hw _ (List.mem_of_getElem? (i := 5) rfl)) (hw _ (List.mem_of_getElem? (i := 6) rfl)) (hw _ (List.mem_of_getElem? (i := 4) rfl)) (hw _ (List.mem_of_getElem? (i := 7) rfl)) (by decide) (argsL := [(.double dv13), (.long q8)]) (rest := [(.ref b14)]) (rm_init l Z a0 hw b14 dv13 q8 h14 n0 (Nat.le_trans Z0 K.1) A14 F_delayMillis_b14 F_bytesPerSecond_b14 g_b14) (g := (mkF m 56 #[.val (.long p1), .second, .val (.long p2), .second, .val (.int p3), .val (.int p4), .val (.long q6), .second, .val (.long q8), .second, .val (.double dv13), .second, .unset, .unset, .unset, .unset, .unset, .unset, .unset, .unset, .unset, .unset, .unset] [(.long q8), (.double dv13), (.ref b14), (.ref b14)])) rfl (by rw [hml]; rfl) (lenOf pd__DJ_r_V rfl) rfl (by decide) (Nat.le_of_ble_eq_true rfl) (by decide) (by decide) (hb hby at_56)
    obtain ⟨rfl, Nq15, Kq15, A14', F_bytesPerSecond_b14'⟩ := Q15
    replace A14 := A14.keep Kq15
    clear A14
    have A14 := A14'
    have F_bytesPerSecond_b14 := F_bytesPerSecond_b14'
    replace K := K.trans Kq15 (allS (Or.inr sz_b14) all0)
    have N15 := Fr.app N0 Nq15
    refine own_of st15 ?_
    show own_Ends _ _ _ _ _ _ (T15.setTop (mkF m 59 #[.val (.long p1), .second, .val (.long p2), .second, .val (.int p3), .val (.int p4), .val (.long q6), .second, .val (.long q8), .second, .val (.double dv13), .second, .unset, .unset, .unset, .unset, .unset, .unset, .unset, .unset, .unset, .unset, .unset] [(.ref b14)]))
    refine own_of (fun t k => XS.astore X15.here hx rfl (hb hby at_59) rfl rfl (l' := #[.val (.long p1), .second, .val (.long p2), .second, .val (.int p3), .val (.int p4), .val (.long q6), .second, .val (.long q8), .second, .val (.double dv13), .second, .val (.ref b14), .unset, .unset, .unset, .unset, .unset, .unset, .unset, .unset, .unset, .unset]) rfl k) ?_
    show own_Ends _ _ _ _ _ _ (T15.setTop (mkF m 61 #[.val (.long p1), .second, .val (.long p2), .second, .val (.int p3), .val (.int p4), .val (.long q6), .second, .val (.long q8), .second, .val (.double dv13), .second, .val (.ref b14), .unset, .unset, .unset, .unset, .unset, .unset, .unset, .unset, .unset, .unset] []))
    refine own_of (fun t k => XS.aload X15.here hx rfl (hb hby at_61) rfl rfl k) ?_
    show own_Ends _ _ _ _ _ _ (T15.setTop (mkF m 63 #[.val (.long p1), .second, .val (.long p2), .second, .val (.int p3), .val (.int p4), .val (.long q6), .second, .val (.long q8), .second, .val (.double dv13), .second, .val (.ref b14), .unset, .unset, .unset, .unset, .unset, .unset, .unset, .unset, .unset, .unset] [(.ref b14)]))
    refine own_of (fun t k => XS.lload X15.here hx rfl (hb hby at_63) rfl  k) ?_
    show own_Ends _ _ _ _ _ _ (T15.setTop (mkF m 65 #[.val (.long p1), .second, .val (.long p2), .second, .val (.int p3), .val (.int p4), .val (.long q6), .second, .val (.long q8), .second, .val (.double dv13), .second, .val (.ref b14), .unset, .unset, .unset, .unset, .unset, .unset, .unset, .unset, .unset, .unset] [(.long q6), (.ref b14)]))
    obtain ⟨v16, T16, L16, h16, X16, e16, Q16, st16⟩ := own_virtual X15 hx hZ hown e15 A14 (hw _ (List.mem_of_getElem? (i := 20) rfl)) (hw _ (List.mem_of_getElem? (i := 21) rfl)) (notFace_of_selects (args := #[]) (mvT hZ (hw _ (List.mem_of_getElem? (i := 23) rfl)))) (hw _ (List.mem_of_getElem? (i := 23) rfl)) (hw _ (List.mem_of_getElem? (i := 22) rfl)) (hw _ (List.mem_of_getElem? (i := 4) rfl)) (hw _ (List.mem_of_getElem? (i := 24) rfl)) (by decide) (argsL := [(.long q6)]) (rest := []) (rm_cross l Z a0 hw b14 q6 q8 h15 n0 (Nat.le_trans Z0 K.1) F_bytesPerSecond_b14 hnz) (g := (mkF m 65 #[.val (.long p1), .second, .val (.long p2), .second, .val (.int p3), .val (.int p4), .val (.long q6), .second, .val (.long q8), .second, .val (.double dv13), .second, .val (.ref b14), .unset, .unset, .unset, .unset, .unset, .unset, .unset, .unset, .unset, .unset] [(.long q6), (.ref b14)])) rfl (by rw [hml]; rfl) (lenOf pd__J_r_J rfl) rfl (by decide) (Nat.le_of_ble_eq_true rfl) (by decide) (by decide) (hb hby at_65)
    obtain ⟨rfl, Nq16, q16⟩ := Q16
    replace e16 := e16.trans q16
    have N16 := Fr.app N15 Nq16
    refine own_of st16 ?_
    show own_Ends _ _ _ _ _ _ (T16.setTop (mkF m 68 #[.val (.long p1), .second, .val (.long p2), .second, .val (.int p3), .val (.int p4), .val (.long q6), .second, .val (.long q8), .second, .val (.double dv13), .second, .val (.ref b14), .unset, .unset, .unset, .unset, .unset, .unset, .unset, .unset, .unset, .unset] [(.long ((((q6 * (1000000000 : Int64)) + q8) - (1 : Int64)) / q8))]))
    refine own_of (fun t k => XS.lstore X16.here hx rfl (hb hby at_68) rfl (l' := #[.val (.long p1), .second, .val (.long p2), .second, .val (.int p3), .val (.int p4), .val (.long q6), .second, .val (.long q8), .second, .val (.double dv13), .second, .val (.ref b14), .val (.long ((((q6 * (1000000000 : Int64)) + q8) - (1 : Int64)) / q8)), .second, .unset, .unset, .unset, .unset, .unset, .unset, .unset, .unset]) rfl k) ?_
    show own_Ends _ _ _ _ _ _ (T16.setTop (mkF m 70 #[.val (.long p1), .second, .val (.long p2), .second, .val (.int p3), .val (.int p4), .val (.long q6), .second, .val (.long q8), .second, .val (.double dv13), .second, .val (.ref b14), .val (.long ((((q6 * (1000000000 : Int64)) + q8) - (1 : Int64)) / q8)), .second, .unset, .unset, .unset, .unset, .unset, .unset, .unset, .unset] []))
    refine own_of (fun t k => XS.lload X16.here hx rfl (hb hby at_70) rfl  k) ?_
    show own_Ends _ _ _ _ _ _ (T16.setTop (mkF m 72 #[.val (.long p1), .second, .val (.long p2), .second, .val (.int p3), .val (.int p4), .val (.long q6), .second, .val (.long q8), .second, .val (.double dv13), .second, .val (.ref b14), .val (.long ((((q6 * (1000000000 : Int64)) + q8) - (1 : Int64)) / q8)), .second, .unset, .unset, .unset, .unset, .unset, .unset, .unset, .unset] [(.long q6)]))
    refine own_of (fun t k => X16.ldc2J hx hown (mvT hZ (hw _ (List.mem_of_getElem? (i := 26) rfl))) (g := (mkF m 72 #[.val (.long p1), .second, .val (.long p2), .second, .val (.int p3), .val (.int p4), .val (.long q6), .second, .val (.long q8), .second, .val (.double dv13), .second, .val (.ref b14), .val (.long ((((q6 * (1000000000 : Int64)) + q8) - (1 : Int64)) / q8)), .second, .unset, .unset, .unset, .unset, .unset, .unset, .unset, .unset] [(.long q6)])) rfl (hb hby at_72) k) ?_
    show own_Ends _ _ _ _ _ _ (T16.setTop (mkF m 75 #[.val (.long p1), .second, .val (.long p2), .second, .val (.int p3), .val (.int p4), .val (.long q6), .second, .val (.long q8), .second, .val (.double dv13), .second, .val (.ref b14), .val (.long ((((q6 * (1000000000 : Int64)) + q8) - (1 : Int64)) / q8)), .second, .unset, .unset, .unset, .unset, .unset, .unset, .unset, .unset] [(.long (1000000000 : Int64)), (.long q6)]))
    refine own_of (fun t k => XS.lmul X16.here hx rfl (hb hby at_75) rfl k) ?_
    show own_Ends _ _ _ _ _ _ (T16.setTop (mkF m 76 #[.val (.long p1), .second, .val (.long p2), .second, .val (.int p3), .val (.int p4), .val (.long q6), .second, .val (.long q8), .second, .val (.double dv13), .second, .val (.ref b14), .val (.long ((((q6 * (1000000000 : Int64)) + q8) - (1 : Int64)) / q8)), .second, .unset, .unset, .unset, .unset, .unset, .unset, .unset, .unset] [(.long (q6 * (1000000000 : Int64)))]))
    refine own_of (fun t k => XS.lstore X16.here hx rfl (hb hby at_76) rfl (l' := #[.val (.long p1), .second, .val (.long p2), .second, .val (.int p3), .val (.int p4), .val (.long q6), .second, .val (.long q8), .second, .val (.double dv13), .second, .val (.ref b14), .val (.long ((((q6 * (1000000000 : Int64)) + q8) - (1 : Int64)) / q8)), .second, .val (.long (q6 * (1000000000 : Int64))), .second, .unset, .unset, .unset, .unset, .unset, .unset]) rfl k) ?_
    show own_Ends _ _ _ _ _ _ (T16.setTop (mkF m 78 #[.val (.long p1), .second, .val (.long p2), .second, .val (.int p3), .val (.int p4), .val (.long q6), .second, .val (.long q8), .second, .val (.double dv13), .second, .val (.ref b14), .val (.long ((((q6 * (1000000000 : Int64)) + q8) - (1 : Int64)) / q8)), .second, .val (.long (q6 * (1000000000 : Int64))), .second, .unset, .unset, .unset, .unset, .unset, .unset] []))
    refine own_of (fun t k => XS.lload X16.here hx rfl (hb hby at_78) rfl  k) ?_
    show own_Ends _ _ _ _ _ _ (T16.setTop (mkF m 80 #[.val (.long p1), .second, .val (.long p2), .second, .val (.int p3), .val (.int p4), .val (.long q6), .second, .val (.long q8), .second, .val (.double dv13), .second, .val (.ref b14), .val (.long ((((q6 * (1000000000 : Int64)) + q8) - (1 : Int64)) / q8)), .second, .val (.long (q6 * (1000000000 : Int64))), .second, .unset, .unset, .unset, .unset, .unset, .unset] [(.long (q6 * (1000000000 : Int64)))]))
    refine own_of (fun t k => XS.lload X16.here hx rfl (hb hby at_80) rfl  k) ?_
    show own_Ends _ _ _ _ _ _ (T16.setTop (mkF m 82 #[.val (.long p1), .second, .val (.long p2), .second, .val (.int p3), .val (.int p4), .val (.long q6), .second, .val (.long q8), .second, .val (.double dv13), .second, .val (.ref b14), .val (.long ((((q6 * (1000000000 : Int64)) + q8) - (1 : Int64)) / q8)), .second, .val (.long (q6 * (1000000000 : Int64))), .second, .unset, .unset, .unset, .unset, .unset, .unset] [(.long q8), (.long (q6 * (1000000000 : Int64)))]))
    refine own_of (fun t k => XS.ldiv X16.here hx rfl (hb hby at_82) rfl hnz k) ?_
    show own_Ends _ _ _ _ _ _ (T16.setTop (mkF m 83 #[.val (.long p1), .second, .val (.long p2), .second, .val (.int p3), .val (.int p4), .val (.long q6), .second, .val (.long q8), .second, .val (.double dv13), .second, .val (.ref b14), .val (.long ((((q6 * (1000000000 : Int64)) + q8) - (1 : Int64)) / q8)), .second, .val (.long (q6 * (1000000000 : Int64))), .second, .unset, .unset, .unset, .unset, .unset, .unset] [(.long ((q6 * (1000000000 : Int64)) / q8))]))
    refine own_of (fun t k => XS.lstore X16.here hx rfl (hb hby at_83) rfl (l' := #[.val (.long p1), .second, .val (.long p2), .second, .val (.int p3), .val (.int p4), .val (.long q6), .second, .val (.long q8), .second, .val (.double dv13), .second, .val (.ref b14), .val (.long ((((q6 * (1000000000 : Int64)) + q8) - (1 : Int64)) / q8)), .second, .val (.long (q6 * (1000000000 : Int64))), .second, .val (.long ((q6 * (1000000000 : Int64)) / q8)), .second, .unset, .unset, .unset, .unset]) rfl k) ?_
    show own_Ends _ _ _ _ _ _ (T16.setTop (mkF m 85 #[.val (.long p1), .second, .val (.long p2), .second, .val (.int p3), .val (.int p4), .val (.long q6), .second, .val (.long q8), .second, .val (.double dv13), .second, .val (.ref b14), .val (.long ((((q6 * (1000000000 : Int64)) + q8) - (1 : Int64)) / q8)), .second, .val (.long (q6 * (1000000000 : Int64))), .second, .val (.long ((q6 * (1000000000 : Int64)) / q8)), .second, .unset, .unset, .unset, .unset] []))
    refine own_of (fun t k => XS.lload X16.here hx rfl (hb hby at_85) rfl  k) ?_
    show own_Ends _ _ _ _ _ _ (T16.setTop (mkF m 87 #[.val (.long p1), .second, .val (.long p2), .second, .val (.int p3), .val (.int p4), .val (.long q6), .second, .val (.long q8), .second, .val (.double dv13), .second, .val (.ref b14), .val (.long ((((q6 * (1000000000 : Int64)) + q8) - (1 : Int64)) / q8)), .second, .val (.long (q6 * (1000000000 : Int64))), .second, .val (.long ((q6 * (1000000000 : Int64)) / q8)), .second, .unset, .unset, .unset, .unset] [(.long (q6 * (1000000000 : Int64)))]))
    refine own_of (fun t k => XS.lload X16.here hx rfl (hb hby at_87) rfl  k) ?_
    show own_Ends _ _ _ _ _ _ (T16.setTop (mkF m 89 #[.val (.long p1), .second, .val (.long p2), .second, .val (.int p3), .val (.int p4), .val (.long q6), .second, .val (.long q8), .second, .val (.double dv13), .second, .val (.ref b14), .val (.long ((((q6 * (1000000000 : Int64)) + q8) - (1 : Int64)) / q8)), .second, .val (.long (q6 * (1000000000 : Int64))), .second, .val (.long ((q6 * (1000000000 : Int64)) / q8)), .second, .unset, .unset, .unset, .unset] [(.long q8), (.long (q6 * (1000000000 : Int64)))]))
    refine own_of (fun t k => XS.lrem X16.here hx rfl (hb hby at_89) rfl hnz k) ?_
    show own_Ends _ _ _ _ _ _ (T16.setTop (mkF m 90 #[.val (.long p1), .second, .val (.long p2), .second, .val (.int p3), .val (.int p4), .val (.long q6), .second, .val (.long q8), .second, .val (.double dv13), .second, .val (.ref b14), .val (.long ((((q6 * (1000000000 : Int64)) + q8) - (1 : Int64)) / q8)), .second, .val (.long (q6 * (1000000000 : Int64))), .second, .val (.long ((q6 * (1000000000 : Int64)) / q8)), .second, .unset, .unset, .unset, .unset] [(.long ((q6 * (1000000000 : Int64)) - (q6 * (1000000000 : Int64)) / q8 * q8))]))
    refine own_of (fun t k => XS.lstore X16.here hx rfl (hb hby at_90) rfl (l' := #[.val (.long p1), .second, .val (.long p2), .second, .val (.int p3), .val (.int p4), .val (.long q6), .second, .val (.long q8), .second, .val (.double dv13), .second, .val (.ref b14), .val (.long ((((q6 * (1000000000 : Int64)) + q8) - (1 : Int64)) / q8)), .second, .val (.long (q6 * (1000000000 : Int64))), .second, .val (.long ((q6 * (1000000000 : Int64)) / q8)), .second, .val (.long ((q6 * (1000000000 : Int64)) - (q6 * (1000000000 : Int64)) / q8 * q8)), .second, .unset, .unset]) rfl k) ?_
    show own_Ends _ _ _ _ _ _ (T16.setTop (mkF m 92 #[.val (.long p1), .second, .val (.long p2), .second, .val (.int p3), .val (.int p4), .val (.long q6), .second, .val (.long q8), .second, .val (.double dv13), .second, .val (.ref b14), .val (.long ((((q6 * (1000000000 : Int64)) + q8) - (1 : Int64)) / q8)), .second, .val (.long (q6 * (1000000000 : Int64))), .second, .val (.long ((q6 * (1000000000 : Int64)) / q8)), .second, .val (.long ((q6 * (1000000000 : Int64)) - (q6 * (1000000000 : Int64)) / q8 * q8)), .second, .unset, .unset] []))
    refine own_of (fun t k => XS.lload X16.here hx rfl (hb hby at_92) rfl  k) ?_
    show own_Ends _ _ _ _ _ _ (T16.setTop (mkF m 94 #[.val (.long p1), .second, .val (.long p2), .second, .val (.int p3), .val (.int p4), .val (.long q6), .second, .val (.long q8), .second, .val (.double dv13), .second, .val (.ref b14), .val (.long ((((q6 * (1000000000 : Int64)) + q8) - (1 : Int64)) / q8)), .second, .val (.long (q6 * (1000000000 : Int64))), .second, .val (.long ((q6 * (1000000000 : Int64)) / q8)), .second, .val (.long ((q6 * (1000000000 : Int64)) - (q6 * (1000000000 : Int64)) / q8 * q8)), .second, .unset, .unset] [(.long ((q6 * (1000000000 : Int64)) / q8))]))
    refine own_of (fun t k => XS.lstore X16.here hx rfl (hb hby at_94) rfl (l' := #[.val (.long p1), .second, .val (.long p2), .second, .val (.int p3), .val (.int p4), .val (.long q6), .second, .val (.long q8), .second, .val (.double dv13), .second, .val (.ref b14), .val (.long ((((q6 * (1000000000 : Int64)) + q8) - (1 : Int64)) / q8)), .second, .val (.long (q6 * (1000000000 : Int64))), .second, .val (.long ((q6 * (1000000000 : Int64)) / q8)), .second, .val (.long ((q6 * (1000000000 : Int64)) - (q6 * (1000000000 : Int64)) / q8 * q8)), .second, .val (.long ((q6 * (1000000000 : Int64)) / q8)), .second]) rfl k) ?_
    show own_Ends _ _ _ _ _ _ (T16.setTop (mkF m 96 #[.val (.long p1), .second, .val (.long p2), .second, .val (.int p3), .val (.int p4), .val (.long q6), .second, .val (.long q8), .second, .val (.double dv13), .second, .val (.ref b14), .val (.long ((((q6 * (1000000000 : Int64)) + q8) - (1 : Int64)) / q8)), .second, .val (.long (q6 * (1000000000 : Int64))), .second, .val (.long ((q6 * (1000000000 : Int64)) / q8)), .second, .val (.long ((q6 * (1000000000 : Int64)) - (q6 * (1000000000 : Int64)) / q8 * q8)), .second, .val (.long ((q6 * (1000000000 : Int64)) / q8)), .second] []))
    refine own_of (fun t k => XS.lload X16.here hx rfl (hb hby at_96) rfl  k) ?_
    show own_Ends _ _ _ _ _ _ (T16.setTop (mkF m 98 #[.val (.long p1), .second, .val (.long p2), .second, .val (.int p3), .val (.int p4), .val (.long q6), .second, .val (.long q8), .second, .val (.double dv13), .second, .val (.ref b14), .val (.long ((((q6 * (1000000000 : Int64)) + q8) - (1 : Int64)) / q8)), .second, .val (.long (q6 * (1000000000 : Int64))), .second, .val (.long ((q6 * (1000000000 : Int64)) / q8)), .second, .val (.long ((q6 * (1000000000 : Int64)) - (q6 * (1000000000 : Int64)) / q8 * q8)), .second, .val (.long ((q6 * (1000000000 : Int64)) / q8)), .second] [(.long ((q6 * (1000000000 : Int64)) - (q6 * (1000000000 : Int64)) / q8 * q8))]))
    refine own_of (fun t k => XS.lconst X16.here hx rfl (hb hby at_98) k) ?_
    show own_Ends _ _ _ _ _ _ (T16.setTop (mkF m 99 #[.val (.long p1), .second, .val (.long p2), .second, .val (.int p3), .val (.int p4), .val (.long q6), .second, .val (.long q8), .second, .val (.double dv13), .second, .val (.ref b14), .val (.long ((((q6 * (1000000000 : Int64)) + q8) - (1 : Int64)) / q8)), .second, .val (.long (q6 * (1000000000 : Int64))), .second, .val (.long ((q6 * (1000000000 : Int64)) / q8)), .second, .val (.long ((q6 * (1000000000 : Int64)) - (q6 * (1000000000 : Int64)) / q8 * q8)), .second, .val (.long ((q6 * (1000000000 : Int64)) / q8)), .second] [(.long (0 : Int64)), (.long ((q6 * (1000000000 : Int64)) - (q6 * (1000000000 : Int64)) / q8 * q8))]))
    refine own_of (fun t k => XS.lcmp X16.here hx rfl (hb hby at_99) rfl k) ?_
    show own_Ends _ _ _ _ _ _ (T16.setTop (mkF m 100 #[.val (.long p1), .second, .val (.long p2), .second, .val (.int p3), .val (.int p4), .val (.long q6), .second, .val (.long q8), .second, .val (.double dv13), .second, .val (.ref b14), .val (.long ((((q6 * (1000000000 : Int64)) + q8) - (1 : Int64)) / q8)), .second, .val (.long (q6 * (1000000000 : Int64))), .second, .val (.long ((q6 * (1000000000 : Int64)) / q8)), .second, .val (.long ((q6 * (1000000000 : Int64)) - (q6 * (1000000000 : Int64)) / q8 * q8)), .second, .val (.long ((q6 * (1000000000 : Int64)) / q8)), .second] [(.int (lcmpW ((q6 * (1000000000 : Int64)) - (q6 * (1000000000 : Int64)) / q8 * q8) (0 : Int64)))]))
    by_cases hc17 : (lcmpW ((q6 * (1000000000 : Int64)) - (q6 * (1000000000 : Int64)) / q8 * q8) (0 : Int64)) = (0 : Int32)
    · refine own_of (fun t k => XS.ifYes X16.here hx rfl (pc0 := 100) (pc' := 109) rfl (hb hby at_100) rfl ((if0 _ _).trans (teq hc17).1) (by decide) (by decide) k) ?_
      show own_Ends _ _ _ _ _ _ (T16.setTop (mkF m 109 #[.val (.long p1), .second, .val (.long p2), .second, .val (.int p3), .val (.int p4), .val (.long q6), .second, .val (.long q8), .second, .val (.double dv13), .second, .val (.ref b14), .val (.long ((((q6 * (1000000000 : Int64)) + q8) - (1 : Int64)) / q8)), .second, .val (.long (q6 * (1000000000 : Int64))), .second, .val (.long ((q6 * (1000000000 : Int64)) / q8)), .second, .val (.long ((q6 * (1000000000 : Int64)) - (q6 * (1000000000 : Int64)) / q8 * q8)), .second, .val (.long ((q6 * (1000000000 : Int64)) / q8)), .second] []))
      refine own_of (fun t k => XS.lload X16.here hx rfl (hb hby at_109) rfl  k) ?_
      show own_Ends _ _ _ _ _ _ (T16.setTop (mkF m 111 #[.val (.long p1), .second, .val (.long p2), .second, .val (.int p3), .val (.int p4), .val (.long q6), .second, .val (.long q8), .second, .val (.double dv13), .second, .val (.ref b14), .val (.long ((((q6 * (1000000000 : Int64)) + q8) - (1 : Int64)) / q8)), .second, .val (.long (q6 * (1000000000 : Int64))), .second, .val (.long ((q6 * (1000000000 : Int64)) / q8)), .second, .val (.long ((q6 * (1000000000 : Int64)) - (q6 * (1000000000 : Int64)) / q8 * q8)), .second, .val (.long ((q6 * (1000000000 : Int64)) / q8)), .second] [(.long ((((q6 * (1000000000 : Int64)) + q8) - (1 : Int64)) / q8))]))
      refine own_of (fun t k => XS.lload X16.here hx rfl (hb hby at_111) rfl  k) ?_
      show own_Ends _ _ _ _ _ _ (T16.setTop (mkF m 113 #[.val (.long p1), .second, .val (.long p2), .second, .val (.int p3), .val (.int p4), .val (.long q6), .second, .val (.long q8), .second, .val (.double dv13), .second, .val (.ref b14), .val (.long ((((q6 * (1000000000 : Int64)) + q8) - (1 : Int64)) / q8)), .second, .val (.long (q6 * (1000000000 : Int64))), .second, .val (.long ((q6 * (1000000000 : Int64)) / q8)), .second, .val (.long ((q6 * (1000000000 : Int64)) - (q6 * (1000000000 : Int64)) / q8 * q8)), .second, .val (.long ((q6 * (1000000000 : Int64)) / q8)), .second] [(.long ((q6 * (1000000000 : Int64)) / q8)), (.long ((((q6 * (1000000000 : Int64)) + q8) - (1 : Int64)) / q8))]))
      refine own_of (fun t k => XS.lcmp X16.here hx rfl (hb hby at_113) rfl k) ?_
      show own_Ends _ _ _ _ _ _ (T16.setTop (mkF m 114 #[.val (.long p1), .second, .val (.long p2), .second, .val (.int p3), .val (.int p4), .val (.long q6), .second, .val (.long q8), .second, .val (.double dv13), .second, .val (.ref b14), .val (.long ((((q6 * (1000000000 : Int64)) + q8) - (1 : Int64)) / q8)), .second, .val (.long (q6 * (1000000000 : Int64))), .second, .val (.long ((q6 * (1000000000 : Int64)) / q8)), .second, .val (.long ((q6 * (1000000000 : Int64)) - (q6 * (1000000000 : Int64)) / q8 * q8)), .second, .val (.long ((q6 * (1000000000 : Int64)) / q8)), .second] [(.int (lcmpW ((((q6 * (1000000000 : Int64)) + q8) - (1 : Int64)) / q8) ((q6 * (1000000000 : Int64)) / q8)))]))
      have d114 := (lw_eq _ _).mpr ((own_ceil hb6 hq).1 ((lw_eq _ _).mp hc17))
      refine own_of (fun t k => XS.ifNo X16.here hx rfl (hb hby at_114) rfl ((if0 _ _).trans (teq d114).2) k) ?_
      show own_Ends _ _ _ _ _ _ (T16.setTop (mkF m 117 #[.val (.long p1), .second, .val (.long p2), .second, .val (.int p3), .val (.int p4), .val (.long q6), .second, .val (.long q8), .second, .val (.double dv13), .second, .val (.ref b14), .val (.long ((((q6 * (1000000000 : Int64)) + q8) - (1 : Int64)) / q8)), .second, .val (.long (q6 * (1000000000 : Int64))), .second, .val (.long ((q6 * (1000000000 : Int64)) / q8)), .second, .val (.long ((q6 * (1000000000 : Int64)) - (q6 * (1000000000 : Int64)) / q8 * q8)), .second, .val (.long ((q6 * (1000000000 : Int64)) / q8)), .second] []))
      refine own_of (fun t k => XS.iconst X16.here hx rfl (hb hby at_117) k) ?_
      show own_Ends _ _ _ _ _ _ (T16.setTop (mkF m 118 #[.val (.long p1), .second, .val (.long p2), .second, .val (.int p3), .val (.int p4), .val (.long q6), .second, .val (.long q8), .second, .val (.double dv13), .second, .val (.ref b14), .val (.long ((((q6 * (1000000000 : Int64)) + q8) - (1 : Int64)) / q8)), .second, .val (.long (q6 * (1000000000 : Int64))), .second, .val (.long ((q6 * (1000000000 : Int64)) / q8)), .second, .val (.long ((q6 * (1000000000 : Int64)) - (q6 * (1000000000 : Int64)) / q8 * q8)), .second, .val (.long ((q6 * (1000000000 : Int64)) / q8)), .second] [(.int (1 : Int32))]))
      refine own_of (fun t k => XS.goto X16.here hx rfl (pc0 := 118) (pc' := 122) rfl (hb hby at_118) (by decide) (by decide) k) ?_
      show own_Ends _ _ _ _ _ _ (T16.setTop (mkF m 122 #[.val (.long p1), .second, .val (.long p2), .second, .val (.int p3), .val (.int p4), .val (.long q6), .second, .val (.long q8), .second, .val (.double dv13), .second, .val (.ref b14), .val (.long ((((q6 * (1000000000 : Int64)) + q8) - (1 : Int64)) / q8)), .second, .val (.long (q6 * (1000000000 : Int64))), .second, .val (.long ((q6 * (1000000000 : Int64)) / q8)), .second, .val (.long ((q6 * (1000000000 : Int64)) - (q6 * (1000000000 : Int64)) / q8 * q8)), .second, .val (.long ((q6 * (1000000000 : Int64)) / q8)), .second] [(.int (1 : Int32))]))
      refine own_retN X16 hx hlk e16 (t := .boolean) hret (by simp) (z' := (1 : Int32)) rfl (hb hby at_122) (by decide) (by decide) ?_
      exact ⟨rfl, N16⟩
    · refine own_of (fun t k => XS.ifNo X16.here hx rfl (hb hby at_100) rfl ((if0 _ _).trans (feq hc17).1) k) ?_
      show own_Ends _ _ _ _ _ _ (T16.setTop (mkF m 103 #[.val (.long p1), .second, .val (.long p2), .second, .val (.int p3), .val (.int p4), .val (.long q6), .second, .val (.long q8), .second, .val (.double dv13), .second, .val (.ref b14), .val (.long ((((q6 * (1000000000 : Int64)) + q8) - (1 : Int64)) / q8)), .second, .val (.long (q6 * (1000000000 : Int64))), .second, .val (.long ((q6 * (1000000000 : Int64)) / q8)), .second, .val (.long ((q6 * (1000000000 : Int64)) - (q6 * (1000000000 : Int64)) / q8 * q8)), .second, .val (.long ((q6 * (1000000000 : Int64)) / q8)), .second] []))
      refine own_of (fun t k => XS.lload X16.here hx rfl (hb hby at_103) rfl  k) ?_
      show own_Ends _ _ _ _ _ _ (T16.setTop (mkF m 105 #[.val (.long p1), .second, .val (.long p2), .second, .val (.int p3), .val (.int p4), .val (.long q6), .second, .val (.long q8), .second, .val (.double dv13), .second, .val (.ref b14), .val (.long ((((q6 * (1000000000 : Int64)) + q8) - (1 : Int64)) / q8)), .second, .val (.long (q6 * (1000000000 : Int64))), .second, .val (.long ((q6 * (1000000000 : Int64)) / q8)), .second, .val (.long ((q6 * (1000000000 : Int64)) - (q6 * (1000000000 : Int64)) / q8 * q8)), .second, .val (.long ((q6 * (1000000000 : Int64)) / q8)), .second] [(.long ((q6 * (1000000000 : Int64)) / q8))]))
      refine own_of (fun t k => XS.lconst X16.here hx rfl (hb hby at_105) k) ?_
      show own_Ends _ _ _ _ _ _ (T16.setTop (mkF m 106 #[.val (.long p1), .second, .val (.long p2), .second, .val (.int p3), .val (.int p4), .val (.long q6), .second, .val (.long q8), .second, .val (.double dv13), .second, .val (.ref b14), .val (.long ((((q6 * (1000000000 : Int64)) + q8) - (1 : Int64)) / q8)), .second, .val (.long (q6 * (1000000000 : Int64))), .second, .val (.long ((q6 * (1000000000 : Int64)) / q8)), .second, .val (.long ((q6 * (1000000000 : Int64)) - (q6 * (1000000000 : Int64)) / q8 * q8)), .second, .val (.long ((q6 * (1000000000 : Int64)) / q8)), .second] [(.long (1 : Int64)), (.long ((q6 * (1000000000 : Int64)) / q8))]))
      refine own_of (fun t k => XS.ladd X16.here hx rfl (hb hby at_106) rfl k) ?_
      show own_Ends _ _ _ _ _ _ (T16.setTop (mkF m 107 #[.val (.long p1), .second, .val (.long p2), .second, .val (.int p3), .val (.int p4), .val (.long q6), .second, .val (.long q8), .second, .val (.double dv13), .second, .val (.ref b14), .val (.long ((((q6 * (1000000000 : Int64)) + q8) - (1 : Int64)) / q8)), .second, .val (.long (q6 * (1000000000 : Int64))), .second, .val (.long ((q6 * (1000000000 : Int64)) / q8)), .second, .val (.long ((q6 * (1000000000 : Int64)) - (q6 * (1000000000 : Int64)) / q8 * q8)), .second, .val (.long ((q6 * (1000000000 : Int64)) / q8)), .second] [(.long (((q6 * (1000000000 : Int64)) / q8) + (1 : Int64)))]))
      refine own_of (fun t k => XS.lstore X16.here hx rfl (hb hby at_107) rfl (l' := #[.val (.long p1), .second, .val (.long p2), .second, .val (.int p3), .val (.int p4), .val (.long q6), .second, .val (.long q8), .second, .val (.double dv13), .second, .val (.ref b14), .val (.long ((((q6 * (1000000000 : Int64)) + q8) - (1 : Int64)) / q8)), .second, .val (.long (q6 * (1000000000 : Int64))), .second, .val (.long ((q6 * (1000000000 : Int64)) / q8)), .second, .val (.long ((q6 * (1000000000 : Int64)) - (q6 * (1000000000 : Int64)) / q8 * q8)), .second, .val (.long (((q6 * (1000000000 : Int64)) / q8) + (1 : Int64))), .second]) rfl k) ?_
      show own_Ends _ _ _ _ _ _ (T16.setTop (mkF m 109 #[.val (.long p1), .second, .val (.long p2), .second, .val (.int p3), .val (.int p4), .val (.long q6), .second, .val (.long q8), .second, .val (.double dv13), .second, .val (.ref b14), .val (.long ((((q6 * (1000000000 : Int64)) + q8) - (1 : Int64)) / q8)), .second, .val (.long (q6 * (1000000000 : Int64))), .second, .val (.long ((q6 * (1000000000 : Int64)) / q8)), .second, .val (.long ((q6 * (1000000000 : Int64)) - (q6 * (1000000000 : Int64)) / q8 * q8)), .second, .val (.long (((q6 * (1000000000 : Int64)) / q8) + (1 : Int64))), .second] []))
      refine own_of (fun t k => XS.lload X16.here hx rfl (hb hby at_109) rfl  k) ?_
      show own_Ends _ _ _ _ _ _ (T16.setTop (mkF m 111 #[.val (.long p1), .second, .val (.long p2), .second, .val (.int p3), .val (.int p4), .val (.long q6), .second, .val (.long q8), .second, .val (.double dv13), .second, .val (.ref b14), .val (.long ((((q6 * (1000000000 : Int64)) + q8) - (1 : Int64)) / q8)), .second, .val (.long (q6 * (1000000000 : Int64))), .second, .val (.long ((q6 * (1000000000 : Int64)) / q8)), .second, .val (.long ((q6 * (1000000000 : Int64)) - (q6 * (1000000000 : Int64)) / q8 * q8)), .second, .val (.long (((q6 * (1000000000 : Int64)) / q8) + (1 : Int64))), .second] [(.long ((((q6 * (1000000000 : Int64)) + q8) - (1 : Int64)) / q8))]))
      refine own_of (fun t k => XS.lload X16.here hx rfl (hb hby at_111) rfl  k) ?_
      show own_Ends _ _ _ _ _ _ (T16.setTop (mkF m 113 #[.val (.long p1), .second, .val (.long p2), .second, .val (.int p3), .val (.int p4), .val (.long q6), .second, .val (.long q8), .second, .val (.double dv13), .second, .val (.ref b14), .val (.long ((((q6 * (1000000000 : Int64)) + q8) - (1 : Int64)) / q8)), .second, .val (.long (q6 * (1000000000 : Int64))), .second, .val (.long ((q6 * (1000000000 : Int64)) / q8)), .second, .val (.long ((q6 * (1000000000 : Int64)) - (q6 * (1000000000 : Int64)) / q8 * q8)), .second, .val (.long (((q6 * (1000000000 : Int64)) / q8) + (1 : Int64))), .second] [(.long (((q6 * (1000000000 : Int64)) / q8) + (1 : Int64))), (.long ((((q6 * (1000000000 : Int64)) + q8) - (1 : Int64)) / q8))]))
      refine own_of (fun t k => XS.lcmp X16.here hx rfl (hb hby at_113) rfl k) ?_
      show own_Ends _ _ _ _ _ _ (T16.setTop (mkF m 114 #[.val (.long p1), .second, .val (.long p2), .second, .val (.int p3), .val (.int p4), .val (.long q6), .second, .val (.long q8), .second, .val (.double dv13), .second, .val (.ref b14), .val (.long ((((q6 * (1000000000 : Int64)) + q8) - (1 : Int64)) / q8)), .second, .val (.long (q6 * (1000000000 : Int64))), .second, .val (.long ((q6 * (1000000000 : Int64)) / q8)), .second, .val (.long ((q6 * (1000000000 : Int64)) - (q6 * (1000000000 : Int64)) / q8 * q8)), .second, .val (.long (((q6 * (1000000000 : Int64)) / q8) + (1 : Int64))), .second] [(.int (lcmpW ((((q6 * (1000000000 : Int64)) + q8) - (1 : Int64)) / q8) (((q6 * (1000000000 : Int64)) / q8) + (1 : Int64))))]))
      have d114 := (lw_eq _ _).mpr ((own_ceil hb6 hq).2 fun z => hc17 ((lw_eq _ _).mpr z))
      refine own_of (fun t k => XS.ifNo X16.here hx rfl (hb hby at_114) rfl ((if0 _ _).trans (teq d114).2) k) ?_
      show own_Ends _ _ _ _ _ _ (T16.setTop (mkF m 117 #[.val (.long p1), .second, .val (.long p2), .second, .val (.int p3), .val (.int p4), .val (.long q6), .second, .val (.long q8), .second, .val (.double dv13), .second, .val (.ref b14), .val (.long ((((q6 * (1000000000 : Int64)) + q8) - (1 : Int64)) / q8)), .second, .val (.long (q6 * (1000000000 : Int64))), .second, .val (.long ((q6 * (1000000000 : Int64)) / q8)), .second, .val (.long ((q6 * (1000000000 : Int64)) - (q6 * (1000000000 : Int64)) / q8 * q8)), .second, .val (.long (((q6 * (1000000000 : Int64)) / q8) + (1 : Int64))), .second] []))
      refine own_of (fun t k => XS.iconst X16.here hx rfl (hb hby at_117) k) ?_
      show own_Ends _ _ _ _ _ _ (T16.setTop (mkF m 118 #[.val (.long p1), .second, .val (.long p2), .second, .val (.int p3), .val (.int p4), .val (.long q6), .second, .val (.long q8), .second, .val (.double dv13), .second, .val (.ref b14), .val (.long ((((q6 * (1000000000 : Int64)) + q8) - (1 : Int64)) / q8)), .second, .val (.long (q6 * (1000000000 : Int64))), .second, .val (.long ((q6 * (1000000000 : Int64)) / q8)), .second, .val (.long ((q6 * (1000000000 : Int64)) - (q6 * (1000000000 : Int64)) / q8 * q8)), .second, .val (.long (((q6 * (1000000000 : Int64)) / q8) + (1 : Int64))), .second] [(.int (1 : Int32))]))
      refine own_of (fun t k => XS.goto X16.here hx rfl (pc0 := 118) (pc' := 122) rfl (hb hby at_118) (by decide) (by decide) k) ?_
      show own_Ends _ _ _ _ _ _ (T16.setTop (mkF m 122 #[.val (.long p1), .second, .val (.long p2), .second, .val (.int p3), .val (.int p4), .val (.long q6), .second, .val (.long q8), .second, .val (.double dv13), .second, .val (.ref b14), .val (.long ((((q6 * (1000000000 : Int64)) + q8) - (1 : Int64)) / q8)), .second, .val (.long (q6 * (1000000000 : Int64))), .second, .val (.long ((q6 * (1000000000 : Int64)) / q8)), .second, .val (.long ((q6 * (1000000000 : Int64)) - (q6 * (1000000000 : Int64)) / q8 * q8)), .second, .val (.long (((q6 * (1000000000 : Int64)) / q8) + (1 : Int64))), .second] [(.int (1 : Int32))]))
      refine own_retN X16 hx hlk e16 (t := .boolean) hret (by simp) (z' := (1 : Int32)) rfl (hb hby at_122) (by decide) (by decide) ?_
      exact ⟨rfl, N16⟩
set_option maxRecDepth 65536 in
set_option maxHeartbeats 40000000 in
theorem comes_1 {Post : Tables → Env → Array Value → State → Outcome → State → Prop} (hpost : ∀ tb e args s v u, (limb_1_1.after args s (.returned v) u = true ∧ limb_1_2.after args s (.returned v) u = true ∧ True) → FrameEnd s (.returned v) u (Jvm.fieldLocs frame_1_writes args s ++ Jvm.arrayLocs frame_1_arrays args s ++ Jvm.staticLocs frame_1_statics s) 16 128 → Post tb e args s (.returned v) u) :
    ArmFor flags0 classFile x code maxLocals ret World_1 tables_1 room_1 Calls_1 rest_1 Pre_1 Post := by
  intro l hfl _ _ p e ha hc hk s m args below hf hA hF happ hP
  obtain ⟨hcalls, hrest, hpre⟩ := hP
  obtain ⟨-, -, -, hnamed, -, -, -, hat⟩ := (Spec.applies_iff hf).mp happ
  obtain ⟨hg, hn⟩ := and_e (Cond.before_iff.mp (show (Jvm.Cond.and given_1 narrow_1).before args s = true from hpre))
  obtain ⟨hcount, hg⟩ := and_e hg
  obtain ⟨hgi0, hg⟩ := and_e hg
  obtain ⟨hgi1, hg⟩ := and_e hg
  obtain ⟨hgi2, hg⟩ := and_e hg
  have hgi3 := hg
  obtain ⟨w0, w1, w2, w3, rfl⟩ : ∃ w0 w1 w2 w3 : Value, args = #[w0, w1, w2, w3] := by
    have hs : args.size = 4 := by simpa [Cond.value, given_1] using hcount
    obtain ⟨L⟩ := args
    match L, hs with
    | [w0, w1, w2, w3], _ => exact ⟨w0, w1, w2, w3, rfl⟩
  have hw := fun d (hd : d ∈ tables_1) => atoms_spec (ws := Jvm.Cond.code x code maxLocals ret :: tables_1) hat d (List.mem_cons_of_mem _ hd)
  have hfit : Fit s := fun {y c} hc i hi => by
    obtain ⟨ha, rfl⟩ := Array.getElem?_eq_some_iff.mp hc
    have q := List.all_eq_true.mp ((Array.all_eq_true_iff_forall_mem.mp hF) _ (Array.getElem_mem ha)) i (List.mem_range.mpr hi)
    simpa [Array.getElem?_eq_getElem hi] using q
  obtain ⟨i0, ei0⟩ := isL_v hgi0
  obtain rfl : w0 = (.long i0) := Option.some.inj ei0
  obtain ⟨i1, ei1⟩ := isL_v hgi1
  obtain rfl : w1 = (.long i1) := Option.some.inj ei1
  obtain ⟨i2, ei2⟩ := is_v hgi2
  obtain rfl : w2 = (.int i2) := Option.some.inj ei2
  obtain ⟨i3, ei3⟩ := is_v hgi3
  obtain rfl : w3 = (.int i3) := Option.some.inj ei3
  obtain ⟨n, o, h1, h2, h3, _, L, rfl, ⟨rfl, N⟩, hq⟩ := rm0 l s _ hw i0 i1 i2 i3 s.heap s.heap.size (Nat.le_refl _) tables_1 p e ha hc hk s m _ below hf ((Spec.applies_iff_loose hf).mp happ).1 ⟨rfl, State.Warmed39.refl s, rfl⟩ trivial
  refine ⟨n, _, h1, h2, h3, hpost _ _ _ _ _ _ ⟨Cond.after_iff.mpr rfl, Cond.after_iff.mpr (eq_i res_at (Term.int_eval (1)) rfl), trivial⟩ ⟨hq.1, hq.2.1, (hq.2.2.sift fun y hy => Or.inr (N y hy)).mono (by decide) (by decide)⟩⟩
theorem main_1_1 : Claimed_1_1 := comes_1 fun _ _ _ _ _ _ h hF => ⟨h.1, hF⟩
theorem main_1_2 : Claimed_1_2 := comes_1 fun _ _ _ _ _ _ h hF => ⟨h.2.1, hF⟩
end Jvm.Pilot.@@N@@
namespace Jvm.Pilot.@@N@@
open Jvm Jvm.ClassFile Sem Op Lib Jvm.Free Jvm.Stand Jvm.Pilot.@@N@@.Jvm.D
/-! MADE BY PROGRAM (witnessworld.py) out of the Statement's table words and the real class files: 10 classes; the members and pool entries that the words name. The judged class is class 1, her method 1. -/
namespace start1
open Jvm.ClassFile
def u (s : String) : CpInfo := .utf8 (stringToUtf16 s)
/-- a pool by its gaps: so many unusable entries, then the entry; so many at the end -/
def gap : Nat → List CpInfo → List CpInfo
  | 0, r => r
  | n + 1, r => .unusable :: gap n r
def poolList (es : List (Nat × CpInfo)) (last : Nat) : List CpInfo := es.foldr (fun e r => gap e.1 (e.2 :: r)) (gap last [])
def pool (es : List (Nat × CpInfo)) (last : Nat) : Array CpInfo := ⟨poolList es last⟩
def fileOf (pool : Array CpInfo) (this : Nat) (attrs : Array Attribute := #[]) (ms : Array MethodInfo := #[]) (fl : Nat := 33) (sup : Nat := 0) (ifs : Array Nat := #[]) (fds : Array FieldInfo := #[]) : ClassFile where
  minorVersion := 0
  majorVersion := 65
  constantPool := pool
  accessFlags := fl
  thisClass := this
  superClass := sup
  interfaces := ifs
  fields := fds
  methods := ms
  attributes := attrs
def plain (name : String) (sup : Option ClassId) : Class where
  name := name
  kind := .ordinary
  loader := none
  accessFlags := 33
  super := sup
  interfaces := #[]
  cf := none
  fields := #[]
  methods := #[]
  instanceTypes := #[]
  staticTypes := #[]
  resolved := #[]
  callSites := []
  init := .initialized
  statics := none
  mirror := none

def pool0 : Array CpInfo := pool [(5, u "<init>"), (0, u "()V"), (1, .class_ 10), (1, u "java/lang/Object")] 113

def k0c0 : Code := { maxStack := 0, maxLocals := 1, code := object_method_1_code, exceptionTable := #[], attributes := #[] }
def k0m0 : Method := { name := "<init>", desc := "()V", sig := { parameters := [], returnType := none }, accessFlags := 1, code := some k0c0 }
/-- java/lang/Object -/
def k0 : Class := { plain "java/lang/Object" none with
  accessFlags := 33
  interfaces := #[]
  cf := some (fileOf pool0 8 #[] #[{ accessFlags := 1, nameIndex := 5, descriptorIndex := 6, attributes := #[] }] 33 0 #[] #[])
  fields := #[]
  methods := #[k0m0]
  instanceTypes := #[]
  staticTypes := #[]
  resolved := Array.replicate 124 none
  statics := none }

def pool1 : Array CpInfo := pool [(2, .class_ 4), (1, u "java/lang/Object"), (0, u "<init>"), (0, u "()V"), (0, .long 2147483647), (1, .long 65535), (3, .long 9223372036854775807), (1, .long 999999999999999999), (1, .class_ 18), (0, u "com/example/tiered_accord/tieredaccord/server/Link"), (0, .methodref 17 20), (0, .nameAndType 5 21), (0, u "(DJ)V"), (0, .methodref 17 23), (0, .nameAndType 24 25), (0, u "crossingNanos"), (0, u "(J)J"), (0, .long 1000000000), (1, .class_ 29), (0, u "com/example/tiered_accord/tieredaccord/server/LinkCrossingNanosPinLaw"), (2, u "law"), (0, u "(JJII)Z")] 3

def k1m0 : Method := { name := "<init>", desc := "()V", sig := { parameters := [], returnType := none }, accessFlags := 1, code := none }
def k1c1 : Code := { maxStack := 6, maxLocals := 23, code := code, exceptionTable := #[], attributes := #[] }
def k1m1 : Method := { name := "law", desc := "(JJII)Z", sig := { parameters := [.long, .long, .int, .int], returnType := some .boolean }, accessFlags := 9, code := some k1c1 }
/-- com/example/tiered_accord/tieredaccord/server/LinkCrossingNanosPinLaw -/
def k1 : Class := { plain "com/example/tiered_accord/tieredaccord/server/LinkCrossingNanosPinLaw" (some 0) with
  accessFlags := 49
  interfaces := #[]
  cf := some (fileOf pool1 28 #[] #[{ accessFlags := 1, nameIndex := 5, descriptorIndex := 6, attributes := #[] }, { accessFlags := 9, nameIndex := 32, descriptorIndex := 33, attributes := #[] }] 49 2 #[] #[])
  fields := #[]
  methods := #[k1m0, k1m1]
  instanceTypes := #[]
  staticTypes := #[]
  resolved := Array.replicate 37 none
  statics := none }

def pool2 : Array CpInfo := pool [(1, .methodref 2 3), (0, .class_ 4), (0, .nameAndType 5 6), (0, u "java/lang/Object"), (0, u "<init>"), (0, u "()V"), (0, .class_ 8), (0, u "java/lang/Record")] 13

def k2c0 : Code := { maxStack := 1, maxLocals := 1, code := jdk_30_method_1_code, exceptionTable := #[], attributes := #[] }
def k2m0 : Method := { name := "<init>", desc := "()V", sig := { parameters := [], returnType := none }, accessFlags := 4, code := some k2c0 }
/-- java/lang/Record -/
def k2 : Class := { plain "java/lang/Record" (some 0) with
  accessFlags := 1057
  interfaces := #[]
  cf := some (fileOf pool2 7 #[] #[{ accessFlags := 4, nameIndex := 5, descriptorIndex := 6, attributes := #[] }] 1057 2 #[] #[])
  fields := #[]
  methods := #[k2m0]
  instanceTypes := #[]
  staticTypes := #[]
  resolved := Array.replicate 22 none
  statics := none }

def pool3 : Array CpInfo := pool [(1, .methodref 2 3), (0, .class_ 4), (0, .nameAndType 5 6), (0, u "java/lang/Record"), (0, u "<init>"), (0, u "()V"), (0, .fieldref 8 9), (0, .class_ 10), (0, .nameAndType 11 12), (0, u "com/example/tiered_accord/tieredaccord/server/Link"), (0, u "delayMillis"), (0, u "D"), (0, .fieldref 8 14), (0, .nameAndType 15 16), (0, u "bytesPerSecond"), (0, u "J"), (2, u "DECIMAL"), (0, u "Ljava/util/regex/Pattern;"), (35, u "WHOLE"), (7, .long 1000000000), (20, u "(DJ)V"), (6, u "crossingNanos"), (0, u "(J)J")] 40

def k3c0 : Code := { maxStack := 3, maxLocals := 5, code := prog_166_method_1_code, exceptionTable := #[], attributes := #[] }
def k3m0 : Method := { name := "<init>", desc := "(DJ)V", sig := { parameters := [.double, .long], returnType := none }, accessFlags := 1, code := some k3c0 }
def k3c1 : Code := { maxStack := 4, maxLocals := 3, code := prog_166_method_4_code, exceptionTable := #[], attributes := #[] }
def k3m1 : Method := { name := "crossingNanos", desc := "(J)J", sig := { parameters := [.long], returnType := some .long }, accessFlags := 1, code := some k3c1 }
/-- com/example/tiered_accord/tieredaccord/server/Link -/
def k3 : Class := { plain "com/example/tiered_accord/tieredaccord/server/Link" (some 2) with
  accessFlags := 49
  interfaces := #[]
  cf := some (fileOf pool3 8 #[] #[{ accessFlags := 1, nameIndex := 5, descriptorIndex := 85, attributes := #[] }, { accessFlags := 1, nameIndex := 92, descriptorIndex := 93, attributes := #[] }] 49 2 #[] #[{ accessFlags := 18, nameIndex := 11, descriptorIndex := 12, attributes := #[] }, { accessFlags := 18, nameIndex := 15, descriptorIndex := 16, attributes := #[] }, { accessFlags := 26, nameIndex := 19, descriptorIndex := 20, attributes := #[] }, { accessFlags := 26, nameIndex := 56, descriptorIndex := 20, attributes := #[] }])
  fields := #[{ name := "delayMillis", type := .double, accessFlags := 18, slot := 0, constantValue := 0 }, { name := "bytesPerSecond", type := .long, accessFlags := 18, slot := 1, constantValue := 0 }, { name := "DECIMAL", type := (.object "java/util/regex/Pattern"), accessFlags := 26, slot := 0, constantValue := 0 }, { name := "WHOLE", type := (.object "java/util/regex/Pattern"), accessFlags := 26, slot := 1, constantValue := 0 }]
  methods := #[k3m0, k3m1]
  instanceTypes := #[.double, .long]
  staticTypes := #[(.object "java/util/regex/Pattern"), (.object "java/util/regex/Pattern")]
  resolved := Array.replicate 134 none
  statics := none }

def pool4 : Array CpInfo := pool [(1, u "java/lang/Cloneable"), (0, .class_ 1), (0, u "java/lang/Object"), (0, .class_ 3)] 3

/-- java/lang/Cloneable -/
def k4 : Class := { plain "java/lang/Cloneable" (some 0) with
  accessFlags := 1537
  interfaces := #[]
  cf := some (fileOf pool4 2 #[] #[] 1537 4 #[] #[])
  fields := #[]
  methods := #[]
  instanceTypes := #[]
  staticTypes := #[]
  resolved := Array.replicate 8 none
  statics := none }

def pool5 : Array CpInfo := pool [(1, u "java/io/Serializable"), (0, .class_ 1), (0, u "java/lang/Object"), (0, .class_ 3)] 3

/-- java/io/Serializable -/
def k5 : Class := { plain "java/io/Serializable" (some 0) with
  accessFlags := 1537
  interfaces := #[]
  cf := some (fileOf pool5 2 #[] #[] 1537 4 #[] #[])
  fields := #[]
  methods := #[]
  instanceTypes := #[]
  staticTypes := #[]
  resolved := Array.replicate 8 none
  statics := none }

/-- the primitive byte -/
def k6 : Class := { plain "byte" none with kind := .primitive 'B', accessFlags := 0x411 }
/-- [B -/
def k7 : Class := { plain "[B" (some 0) with kind := .array 6 .byte, interfaces := #[4, 5], accessFlags := 1041 }

/-- the primitive int -/
def k8 : Class := { plain "int" none with kind := .primitive 'I', accessFlags := 0x411 }
/-- [I -/
def k9 : Class := { plain "[I" (some 0) with kind := .array 8 .int, interfaces := #[4, 5], accessFlags := 1041 }

def heap : Heap := #[]
def classes : Array Class := #[k0, k1, k2, k3, k4, k5, k6, k7, k8, k9]
def interned : List (Array UInt16 × Addr) := []
def slotsUsed : Nat := 0
def theMethod : MethodId := ⟨1, 1⟩
def args0 : Array Value := #[.long 5, .long 7, .int 3, .int 1]
def aboutOver (below : List Frame) : State where
  vm := { classes := classes, interned := interned.toArray }
  heap := heap
  slotsUsed := slotsUsed
  threads := #[{ frames := .invoking theMethod args0 :: below }]
def below0 : List Frame := [.native { method := ⟨0, 0⟩, args := #[] }]
def about1 : State := aboutOver below0
def p0 : Program := .bare "" "" ""
def e0 : Env := launch0.env 0 0 0
theorem w_frames : about1.frames = Frame.invoking theMethod args0 :: below0 := rfl
set_option maxRecDepth 65536 in
theorem w_args : argsFit about1.vm theMethod args0 = true := by decide +kernel
set_option maxRecDepth 65536 in
theorem w_heap : heapFits about1 = true := by decide +kernel
set_option maxRecDepth 65536 in
theorem w_runnable : about1.curStatus? = some .runnable := by decide +kernel
set_option maxRecDepth 65536 in
theorem w_alone : about1.alone = true := by decide +kernel
set_option maxRecDepth 65536 in
theorem w_named : about1.methodNamed? x = some theMethod := by decide +kernel
set_option maxRecDepth 65536 in
theorem w_hears : about1.hears theMethod below0 = true := by decide +kernel
set_option maxRecDepth 65536 in
theorem w_ripe : about1.ripe theMethod args0 below0 = true := by decide +kernel
theorem w_running : about1.status = .running := rfl
set_option maxRecDepth 65536 in
theorem w_room : about1.hasRoom e0.platform room_1 = true :=
  launch0.hasRoom_least _ room_1 (by decide +kernel) (by decide +kernel) (by decide +kernel) (by decide +kernel) (by decide +kernel) (by decide +kernel)
theorem allAtoms_all (ts : List Jvm.Cond) (a : Array Jvm.Value) (st : Jvm.State) : (allAtoms ts).before a st = ts.all (fun c => c.before a st) := by
  induction ts with
  | nil => rfl
  | cons c t ih =>
    show (Jvm.Cond.and c (allAtoms t)).before a st = _
    rw [Jvm.Cond.before_and, ih, List.all_cons]
def words1 : List Jvm.Cond := Jvm.Cond.code x code maxLocals ret :: tables_1
/-- a 'code' word, met by the world's own term for the bytes: nothing is compared byte by byte -/
theorem code_word {y : MethodName} {bytes : ByteArray} {mx : Nat} {rt : Option FieldType} {a : Array Value} {s : State} {m : MethodId} {meth : Method} {c : Code} (h1 : s.methodNamed? y = some m) (h2 : s.vm.method? m = some meth) (h3 : meth.code = some c) (h4 : c.code = bytes)
    (h5 : (c.maxLocals == mx && c.exceptionTable.isEmpty && decide (c.maxStack ≤ mostOperands) && decide (meth.sig.returnType = rt) && !meth.locks && decide (parseMethodDescriptor y.desc = some meth.sig)) = true) : (Jvm.Cond.code y bytes mx rt).before a s = true := by
  simp only [Bool.and_eq_true, beq_iff_eq, Bool.not_eq_true', decide_eq_true_eq] at h5
  obtain ⟨⟨⟨⟨⟨g1, g2⟩, g3⟩, g4⟩, g5⟩, g6⟩ := h5
  simp [Cond.before, Cond.holds, Cond.value, h1, h2, h3, h4, g1, g2, g3, g4, g5, g6]
def isCode : Jvm.Cond → Bool
  | .code _ _ _ _ => true
  | _ => false
theorem all_split {L : List Jvm.Cond} {P : Jvm.Cond → Bool} (h1 : L.all (fun c => isCode c || P c) = true) (h2 : ∀ c ∈ L.filter isCode, P c = true) : L.all P = true := by
  refine List.all_eq_true.mpr fun c hc => ?_
  have h := List.all_eq_true.mp h1 c hc
  rcases Bool.eq_false_or_eq_true (isCode c) with hi | hi
  · exact h2 c (List.mem_filter.mpr ⟨hc, hi⟩)
  · simpa [hi] using h
set_option maxRecDepth 65536 in
theorem w_c0 : (Jvm.Cond.code x code maxLocals ret).before args0 about1 = true := code_word (m := ⟨1, 1⟩) (meth := k1m1) (c := k1c1) (by decide +kernel) rfl rfl rfl (by decide +kernel)
set_option maxRecDepth 65536 in
theorem w_c1 : (Jvm.Cond.code ({ cls := "com/example/tiered_accord/tieredaccord/server/Link", name := "<init>", desc := "(DJ)V" } : Jvm.MethodName) prog_166_method_1_code (5 : Nat) (Option.none : Option Jvm.ClassFile.FieldType)).before args0 about1 = true := code_word (m := ⟨3, 0⟩) (meth := k3m0) (c := k3c0) (by decide +kernel) rfl rfl rfl (by decide +kernel)
set_option maxRecDepth 65536 in
theorem w_c2 : (Jvm.Cond.code ({ cls := "java/lang/Record", name := "<init>", desc := "()V" } : Jvm.MethodName) jdk_30_method_1_code (1 : Nat) (Option.none : Option Jvm.ClassFile.FieldType)).before args0 about1 = true := code_word (m := ⟨2, 0⟩) (meth := k2m0) (c := k2c0) (by decide +kernel) rfl rfl rfl (by decide +kernel)
set_option maxRecDepth 65536 in
theorem w_c3 : (Jvm.Cond.code ({ cls := "java/lang/Object", name := "<init>", desc := "()V" } : Jvm.MethodName) object_method_1_code (1 : Nat) (Option.none : Option Jvm.ClassFile.FieldType)).before args0 about1 = true := code_word (m := ⟨0, 0⟩) (meth := k0m0) (c := k0c0) (by decide +kernel) rfl rfl rfl (by decide +kernel)
set_option maxRecDepth 65536 in
theorem w_c4 : (Jvm.Cond.code ({ cls := "com/example/tiered_accord/tieredaccord/server/Link", name := "crossingNanos", desc := "(J)J" } : Jvm.MethodName) prog_166_method_4_code (3 : Nat) (Option.some Jvm.ClassFile.FieldType.long)).before args0 about1 = true := code_word (m := ⟨3, 1⟩) (meth := k3m1) (c := k3c1) (by decide +kernel) rfl rfl rfl (by decide +kernel)
def codes1 : List Jvm.Cond := [Jvm.Cond.code x code maxLocals ret, Jvm.Cond.code ({ cls := "com/example/tiered_accord/tieredaccord/server/Link", name := "<init>", desc := "(DJ)V" } : Jvm.MethodName) prog_166_method_1_code (5 : Nat) (Option.none : Option Jvm.ClassFile.FieldType), Jvm.Cond.code ({ cls := "java/lang/Record", name := "<init>", desc := "()V" } : Jvm.MethodName) jdk_30_method_1_code (1 : Nat) (Option.none : Option Jvm.ClassFile.FieldType), Jvm.Cond.code ({ cls := "java/lang/Object", name := "<init>", desc := "()V" } : Jvm.MethodName) object_method_1_code (1 : Nat) (Option.none : Option Jvm.ClassFile.FieldType), Jvm.Cond.code ({ cls := "com/example/tiered_accord/tieredaccord/server/Link", name := "crossingNanos", desc := "(J)J" } : Jvm.MethodName) prog_166_method_4_code (3 : Nat) (Option.some Jvm.ClassFile.FieldType.long)]
set_option maxRecDepth 65536 in
theorem codes_eq : words1.filter isCode = codes1 := rfl
theorem w_codes : ∀ c ∈ words1.filter isCode, c.before args0 about1 = true := by
  rw [codes_eq]
  intro c hc
  simp only [codes1, List.mem_cons, List.not_mem_nil, or_false] at hc
  rcases hc with rfl | rfl | rfl | rfl | rfl
  · exact w_c0
  · exact w_c1
  · exact w_c2
  · exact w_c3
  · exact w_c4
set_option maxRecDepth 65536 in
theorem w_t1 : (words1.take 24).all (fun c => isCode c || c.before args0 about1) = true := by decide +kernel
set_option maxRecDepth 65536 in
theorem w_t2 : (words1.drop 24).all (fun c => isCode c || c.before args0 about1) = true := by decide +kernel
theorem w_tables : (allAtoms (Jvm.Cond.code x code maxLocals ret :: tables_1)).before args0 about1 = true := by
  rw [allAtoms_all]
  show words1.all (fun c => c.before args0 about1) = true
  refine all_split ?_ w_codes
  rw [← List.take_append_drop 24 words1, List.all_append, w_t1, w_t2]
  rfl
set_option maxRecDepth 65536 in
theorem w_case : (Jvm.Cond.and given_1 narrow_1).before args0 about1 = true := by decide +kernel
theorem w_applies : (headSpec (Jvm.Cond.code x code maxLocals ret :: tables_1) room_1).applies x e0.platform about1 = true :=
  (Spec.applies_iff w_frames).mpr ⟨w_running, w_runnable, w_alone, w_named, w_hears, w_ripe, w_room, w_tables⟩
theorem atStart : AtStart classFile x code maxLocals ret World_1 tables_1 room_1 Calls_1 rest_1 Pre_1 launch0 p0 e0 about1 theMethod args0 below0 :=
  ⟨lists_1, trivial, launch0.admits_env _ _ _, launch0.least_env, fairChoices_fair.cas, fairChoices_fair.clock, w_frames, w_args, w_heap, w_applies, trivial, trivial, w_case⟩
end start1
theorem witness_1 : WitnessClaimed_1 := ⟨start1.p0, start1.e0, start1.about1, start1.theMethod, start1.args0, start1.below0, start1.atStart⟩
end Jvm.Pilot.@@N@@
