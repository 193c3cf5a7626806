import JvmDerived
import JvmDerived.Pilot.@@N@@Statement
import JvmDerived.Pilot.@@N@@Code
set_option linter.unusedVariables false
set_option linter.unusedSimpArgs false
namespace Jvm.Pilot.@@N@@
open Jvm Jvm.ClassFile Sem Op Lib Jvm.Free Jvm.Stand Jvm.LawKit Jvm.RoadKit Bundle Jvm.Pilot.@@N@@.Jvm.D
section Own
variable {p : Program} {l : Launch} {e : Env} {R : Room} {s : State} {m : MethodId} {args : Array Value} {below : List Frame} {meth : Method} {c : Code} {T : State} {locs : List Loc} {cells slots : Nat} {Z : State} {a0 : Array Value} {h h0 : Heap} {Q : Option Value → Heap → List Loc → Prop} {S S' : State}
/-- a body's contract: from the heap h0 with the arguments as' it returns, and Q says of the value, the heap and the places written -/
def own_Met (l : Launch) (Z : State) (y : MethodName) (bytes : ByteArray) (maxL : Nat) (rt : Option FieldType) (rm : Room) (as' : Array Value) (h0 : Heap) (Q : Option Value → Heap → List Loc → Prop) : Prop :=
  ∀ ws : List Jvm.Cond, MetFree l y (head1 (Jvm.Cond.code y bytes maxL rt :: ws) rm) (fun a U => a = as' ∧ Z.Warmed39 U.vm ∧ U.heap = h0) (fun _ _ _ _ _ => True) (fun _ U o U' => ∃ v L, o = .returned v ∧ Q v U'.heap L ∧ FrameEnd U o U' L rm.cells rm.slots)
/-- from S the body comes to its end, and Q holds there -/
def own_Ends (p : Program) (e : Env) (below : List Frame) (s : State) (rm : Room) (Q : Option Value → Heap → List Loc → Prop) (S : State) : Prop :=
  ∃ s₂ o, Steps p.tables e below S s₂ ∧ s₂.status = .running ∧ Ended s₂ below o ∧ ∃ v L, o = .returned v ∧ Q v s₂.heap L ∧ FrameEnd s o s₂ L rm.cells rm.slots
theorem own_of (hs : ∀ t, Steps p.tables e below S' t → Steps p.tables e below S t) (k : own_Ends p e below s R Q S') : own_Ends p e below s R Q S := by
  obtain ⟨s₂, o, h1, h2⟩ := k; exact ⟨s₂, o, hs _ h1, h2⟩
theorem own_tr (hs : Steps p.tables e below S S') (k : own_Ends p e below s R Q S') : own_Ends p e below s R Q S := by
  obtain ⟨s₂, o, h1, h2⟩ := k; exact ⟨s₂, o, hs.trans h1, h2⟩
theorem own_ends_mono {Q' : Option Value → Heap → List Loc → Prop} (hq : ∀ v h L, Q v h L → Q' v h L) (k : own_Ends p e below s R Q S) : own_Ends p e below s R Q' S := by
  obtain ⟨s₂, o, h1, h2, h3, v, L, h4, h5, h6⟩ := k; exact ⟨s₂, o, h1, h2, h3, v, L, h4, hq _ _ _ h5, h6⟩
theorem own_met_mono {y : MethodName} {bytes : ByteArray} {maxL : Nat} {rt : Option FieldType} {rm : Room} {as' : Array Value} {Q' : Option Value → Heap → List Loc → Prop} (k : own_Met l Z y bytes maxL rt rm as' h0 Q) (hq : ∀ v h L, Q v h L → Q' v h L) : own_Met l Z y bytes maxL rt rm as' h0 Q' := by
  intro ws p e ha hc hk s m args below hf happ hP hK
  obtain ⟨n, o, g1, g2, g3, v, L, g4, g5, g6⟩ := k ws p e ha hc hk s m args below hf happ hP hK
  exact ⟨n, o, g1, g2, g3, v, L, g4, hq _ _ _ g5, g6⟩
theorem own_body {y : MethodName} {bytes : ByteArray} {maxL : Nat} {rt : Option FieldType} {rm : Room} {as' : Array Value} (hpl : plainFor y = true)
    (body : ∀ (p : Program) (e : Env) (s : State) (m : MethodId) (below : List Frame) (meth : Method) (c : Code) (T : State), Stand p l e rm s m as' below meth c T [] 0 0 → T.heap = h0 → p.tables.exec = Jvm.exec → c.code = bytes → c.maxLocals = maxL → s.vm.findClass y.cls = some m.cls → meth.name = y.name → meth.sig.returnType = rt → meth.locks = false → Z.Warmed39 s.vm → own_Ends p e below s rm Q (T.setTop (entryFrame m as' maxL))) :
    own_Met l Z y bytes maxL rt rm as' h0 Q := by
  intro ws
  refine MetFree.of_bodySF hpl hisR ?_
  intro p e s m args below meth c s₁ Bd hml0 hP hK
  obtain ⟨rfl, hZ, hh⟩ := hP
  exact body p e s m below meth c s₁ (Stand.of_body Bd) (by rw [← hh, Bd.state]; rfl) Bd.exec Bd.bytes hml0 (findClass_of_methodNamed Bd.named) (name_of_methodNamed Bd.named Bd.method).1 Bd.returns Bd.notSynchronized hZ
theorem own_ret (X : Stand p l e R s m args below meth c T locs cells slots) (hlk : meth.locks = false) {v : Option Value} (hv : meth.sig.returnType = none → v = none) (eT : T.heap = h) (hc : cells ≤ R.cells) (hs : slots ≤ R.slots) (hq : Q v h locs)
    (st : ∀ fs : List Frame, (∀ (f : JFrame) (acts : List Action), f.method = m → f.locked = none → f.entered = [] → (doReturn e (T.setTop f) acts v).1 = T.setFrames fs) → Steps p.tables e below S (T.setFrames fs)) : own_Ends p e below s R Q S := by
  subst eT
  obtain ⟨fs, hr, hrun, hended, hW, hsame⟩ := X.leave hv hlk
  exact ⟨_, _, st fs hr, hrun, hended, _, _, rfl, hq, ⟨_, rfl⟩, hW, hsame.mono hc hs⟩
theorem own_retI (X : Stand p l e R s m args below meth c T locs cells slots) (hx : p.tables.exec = Jvm.exec) (hlk : meth.locks = false) (eT : T.heap = h) {pc : Nat} {Ls : Array Slot} {z : Int32} {rest : List Value} (hret : meth.sig.returnType = some .int) (hd : decode c.code pc = .ok (.ireturn, 1))
    (hc : cells ≤ R.cells) (hs : slots ≤ R.slots) (hq : Q (some (.int z)) h locs) : own_Ends p e below s R Q (T.setTop (mkF m pc Ls (.int z :: rest))) :=
  own_ret X hlk (fun q => by rw [hret] at q; cases q) eT hc hs hq fun fs hr => retOut X hx hret rfl (Or.inl ⟨rfl, Or.inl rfl, z, rfl⟩) hd hr
theorem own_retN (X : Stand p l e R s m args below meth c T locs cells slots) (hx : p.tables.exec = Jvm.exec) (hlk : meth.locks = false) (eT : T.heap = h) {pc : Nat} {Ls : Array Slot} {z z' : Int32} {rest : List Value} {t : FieldType} (hret : meth.sig.returnType = some t) (ht : t = .boolean ∨ t = .byte ∨ t = .char ∨ t = .short) (hz : nar t z = z') (hd : decode c.code pc = .ok (.ireturn, 1))
    (hc : cells ≤ R.cells) (hs : slots ≤ R.slots) (hq : Q (some (.int z')) h locs) : own_Ends p e below s R Q (T.setTop (mkF m pc Ls (.int z :: rest))) := by
  subst hz
  exact own_ret X hlk (fun q => by rw [hret] at q; cases q) eT hc hs hq fun fs hr => retN X hx hret ht hd hr
theorem own_retJ (X : Stand p l e R s m args below meth c T locs cells slots) (hx : p.tables.exec = Jvm.exec) (hlk : meth.locks = false) (eT : T.heap = h) {pc : Nat} {Ls : Array Slot} {z : Int64} {rest : List Value} (hret : meth.sig.returnType = some .long) (hd : decode c.code pc = .ok (.lreturn, 1))
    (hc : cells ≤ R.cells) (hs : slots ≤ R.slots) (hq : Q (some (.long z)) h locs) : own_Ends p e below s R Q (T.setTop (mkF m pc Ls (.long z :: rest))) :=
  own_ret X hlk (fun q => by rw [hret] at q; cases q) eT hc hs hq fun fs hr => retOut X hx hret rfl (Or.inr (Or.inl ⟨rfl, rfl, z, rfl⟩)) hd hr
theorem own_retA (X : Stand p l e R s m args below meth c T locs cells slots) (hx : p.tables.exec = Jvm.exec) (hlk : meth.locks = false) (eT : T.heap = h) {pc : Nat} {Ls : Array Slot} {w : Value} {rest : List Value} {t : FieldType} (hret : meth.sig.returnType = some t) (ht : t.isReference = true) (hw : w.isRef = true) (hd : decode c.code pc = .ok (.areturn, 1))
    (hc : cells ≤ R.cells) (hs : slots ≤ R.slots) (hq : Q (some w) h locs) : own_Ends p e below s R Q (T.setTop (mkF m pc Ls (w :: rest))) :=
  own_ret X hlk (fun q => by rw [hret] at q; cases q) eT hc hs hq fun fs hr => retOut X hx hret (by rcases ref_cases hw with rfl | ⟨z, rfl⟩ <;> cases t <;> first | rfl | (simp [FieldType.isReference] at ht)) (Or.inr (Or.inr (Or.inr (Or.inr ⟨rfl, ht, hw⟩)))) hd hr
theorem own_retV (X : Stand p l e R s m args below meth c T locs cells slots) (hx : p.tables.exec = Jvm.exec) (hlk : meth.locks = false) (eT : T.heap = h) {pc : Nat} {Ls : Array Slot} (hret : meth.sig.returnType = none) (hd : decode c.code pc = .ok (.return_, 1))
    (hc : cells ≤ R.cells) (hs : slots ≤ R.slots) (hq : Q none h locs) : own_Ends p e below s R Q (T.setTop (mkF m pc Ls [])) :=
  own_ret X hlk (fun _ => rfl) eT hc hs hq fun fs hr => X.returnOut hx hret hd hr
/-! calls by the callee's contract -/
variable {y z : MethodName} {bytes : ByteArray} {maxL : Nat} {rt : Option FieldType} {rm : Room} {Qc : Option Value → Heap → List Loc → Prop} {own C : String} {index : Nat} {g : JFrame} {argsL rest : List Value} {b : Addr}
theorem own_static (X : Stand p l e R s m args below meth c T locs cells slots) (hx : p.tables.exec = Jvm.exec) (hZ : Z.Warmed39 s.vm) (hown : s.vm.findClass own = some m.cls) (eT : T.heap = h)
    (w1 : (Jvm.Cond.methodLink own index y).before a0 Z = true) (w2 : (Jvm.Cond.static y).before a0 Z = true) (w3 : (Jvm.Cond.initialized y.cls).before a0 Z = true) (w4 : (Jvm.Cond.code y bytes maxL rt).before a0 Z = true)
    (hy : y.cls ≠ "java/lang/invoke/MethodHandle" ∧ y.cls ≠ "java/lang/invoke/VarHandle") (hM : own_Met l Z y bytes maxL rt rm argsL.toArray h Qc)
    (hg : g.method = m) (hsz : g.locals.size = c.maxLocals) (hlen : ∀ sig, parseMethodDescriptor y.desc = some sig → argsL.length = sig.parameters.length) (hst : g.stack = argsL.reverse ++ rest)
    (hf : rm.frames + 1 ≤ R.frames) (hl : (2 * g.monitorRoom + (rest.map fun v => v.category).sum) + (maxL + 11) + rm.locals ≤ R.locals) (hc : cells + rm.cells ≤ R.cells) (hs : slots + rm.slots ≤ R.slots)
    (hd : decode c.code g.pc = .ok (.invokestatic index, 3)) :
    ∃ (v : Option Value) (T' : State) (L : List Loc) (h' : Heap), Stand p l e R s m args below meth c T' (locs ++ L) (cells + rm.cells) (slots + rm.slots) ∧ T'.heap = h' ∧ Qc v h' L ∧ ∀ t, Steps p.tables e below (T'.setTop { g with pc := g.pc + 3, stack := v.toList ++ rest }) t → Steps p.tables e below (T.setTop g) t := by
  obtain ⟨v, _, ⟨T', L', k', n'⟩, -, X', ⟨Lc, hQ, e1, e2, e3⟩, st⟩ := Jvm.LawKit.callS X hx hown (mvT hZ w1) (mvT hZ w2) (mvT hZ w3) (mvT hZ w4) hy (backOf (hM []) hZ w4 w3 hf hl) hg hsz hlen hst (Nat.le_refl _) hd (fun _ _ => ⟨rfl, eT, hc, hs⟩)
  dsimp only [Pt.U, Pt.locs, Pt.cells, Pt.slots] at X' e1 e2 e3 st hQ
  subst e1 e2 e3
  exact ⟨v, T', Lc, _, X', rfl, hQ, st⟩
theorem own_special (X : Stand p l e R s m args below meth c T locs cells slots) (hx : p.tables.exec = Jvm.exec) (hZ : Z.Warmed39 s.vm) (hown : s.vm.findClass own = some m.cls) (eT : T.heap = h) (hy1 : y.name = "<init>")
    (w1 : (Jvm.Cond.methodLink own index y).before a0 Z = true) (w2 : (Jvm.Cond.instanceMethod y).before a0 Z = true) (w3 : (Jvm.Cond.initialized y.cls).before a0 Z = true) (w4 : (Jvm.Cond.code y bytes maxL none).before a0 Z = true)
    (hy : y.cls ≠ "java/lang/invoke/MethodHandle" ∧ y.cls ≠ "java/lang/invoke/VarHandle") (hM : own_Met l Z y bytes maxL none rm (.ref b :: argsL).toArray h Qc)
    (hg : g.method = m) (hsz : g.locals.size = c.maxLocals) (hlen : ∀ sig, parseMethodDescriptor y.desc = some sig → argsL.length = sig.parameters.length) (hst : g.stack = argsL.reverse ++ .ref b :: rest)
    (hf : rm.frames + 1 ≤ R.frames) (hl : (2 * g.monitorRoom + (rest.map fun v => v.category).sum) + (maxL + 11) + rm.locals ≤ R.locals) (hc : cells + rm.cells ≤ R.cells) (hs : slots + rm.slots ≤ R.slots)
    (hd : decode c.code g.pc = .ok (.invokespecial index, 3)) :
    ∃ (v : Option Value) (T' : State) (L : List Loc) (h' : Heap), Stand p l e R s m args below meth c T' (locs ++ L) (cells + rm.cells) (slots + rm.slots) ∧ T'.heap = h' ∧ Qc v h' L ∧ ∀ t, Steps p.tables e below (T'.setTop { g with pc := g.pc + 3, stack := v.toList ++ rest }) t → Steps p.tables e below (T.setTop g) t := by
  obtain ⟨v, _, ⟨T', L', k', n'⟩, -, X', ⟨Lc, hQ, e1, e2, e3⟩, st⟩ := X.specialBack hx hy1 hown (mvT hZ w1) (mvT hZ w2) (mvT hZ w4) hy (backOf (hM []) hZ w4 w3 hf hl) hg hsz (Steps.refl _) hlen hst (Nat.le_refl _) hd (fun _ _ => ⟨rfl, eT, hc, hs⟩)
  dsimp only [Pt.U, Pt.locs, Pt.cells, Pt.slots] at X' e1 e2 e3 st hQ
  subst e1 e2 e3
  exact ⟨v, T', Lc, _, X', rfl, hQ, fun t k => st.trans k⟩
theorem own_virtual (X : Stand p l e R s m args below meth c T locs cells slots) (hx : p.tables.exec = Jvm.exec) (hZ : Z.Warmed39 s.vm) (hown : s.vm.findClass own = some m.cls) (eT : T.heap = h) (E : Exa Z h b C)
    (w1 : (Jvm.Cond.methodLink own index y).before a0 Z = true) (w2 : (Jvm.Cond.declares y).before a0 Z = true) (hnf : NotFace s y) (w5 : (Jvm.Cond.selects C y z).before a0 Z = true) (w6 : (Jvm.Cond.instanceMethod z).before a0 Z = true) (w3 : (Jvm.Cond.initialized z.cls).before a0 Z = true) (w4 : (Jvm.Cond.code z bytes maxL rt).before a0 Z = true)
    (hy : y.cls ≠ "java/lang/invoke/MethodHandle" ∧ y.cls ≠ "java/lang/invoke/VarHandle") (hM : own_Met l Z z bytes maxL rt rm (.ref b :: argsL).toArray h Qc)
    (hg : g.method = m) (hsz : g.locals.size = c.maxLocals) (hlen : ∀ sig, parseMethodDescriptor y.desc = some sig → argsL.length = sig.parameters.length) (hst : g.stack = argsL.reverse ++ .ref b :: rest)
    (hf : rm.frames + 1 ≤ R.frames) (hl : (2 * g.monitorRoom + (rest.map fun v => v.category).sum) + (maxL + 11) + rm.locals ≤ R.locals) (hc : cells + rm.cells ≤ R.cells) (hs : slots + rm.slots ≤ R.slots)
    (hd : decode c.code g.pc = .ok (.invokevirtual index, 3)) :
    ∃ (v : Option Value) (T' : State) (L : List Loc) (h' : Heap), Stand p l e R s m args below meth c T' (locs ++ L) (cells + rm.cells) (slots + rm.slots) ∧ T'.heap = h' ∧ Qc v h' L ∧ ∀ t, Steps p.tables e below (T'.setTop { g with pc := g.pc + 3, stack := v.toList ++ rest }) t → Steps p.tables e below (T.setTop g) t := by
  obtain ⟨cq, kq, qa, qb, qc⟩ := isOf hZ eT E
  obtain ⟨v, _, ⟨T', L', k', n'⟩, -, X', ⟨Lc, hQ, e1, e2, e3⟩, st⟩ := X.virtualBack hx hown (mvT hZ w1) (mvT hZ w2) hnf (mvT hZ w5) (mvT hZ w6) hy (backOf (hM []) hZ w4 w3 hf hl) qa qc hg hsz (Steps.refl _) hlen hst (Nat.le_refl _) hd (fun _ _ => ⟨rfl, eT, hc, hs⟩)
  dsimp only [Pt.U, Pt.locs, Pt.cells, Pt.slots] at X' e1 e2 e3 st hQ
  subst e1 e2 e3
  exact ⟨v, T', Lc, _, X', rfl, hQ, fun t k => st.trans k⟩
theorem own_virtualUp {owner : String} (X : Stand p l e R s m args below meth c T locs cells slots) (hx : p.tables.exec = Jvm.exec) (hZ : Z.Warmed39 s.vm) (hown : s.vm.findClass own = some m.cls) (eT : T.heap = h) (E : Exa Z h b C)
    (w1 : (Jvm.Cond.methodLink own index y).before a0 Z = true) (w7 : (Jvm.Cond.sameMethod y.cls owner y.name y.desc).before a0 Z = true) (w2 : (Jvm.Cond.declares ⟨owner, y.name, y.desc⟩).before a0 Z = true) (w5 : (Jvm.Cond.selects C y z).before a0 Z = true) (w6 : (Jvm.Cond.instanceMethod z).before a0 Z = true) (w3 : (Jvm.Cond.initialized z.cls).before a0 Z = true) (w4 : (Jvm.Cond.code z bytes maxL rt).before a0 Z = true)
    (hy : owner ≠ "java/lang/invoke/MethodHandle" ∧ owner ≠ "java/lang/invoke/VarHandle") (hM : own_Met l Z z bytes maxL rt rm (.ref b :: argsL).toArray h Qc)
    (hg : g.method = m) (hsz : g.locals.size = c.maxLocals) (hlen : ∀ sig, parseMethodDescriptor y.desc = some sig → argsL.length = sig.parameters.length) (hst : g.stack = argsL.reverse ++ .ref b :: rest)
    (hf : rm.frames + 1 ≤ R.frames) (hl : (2 * g.monitorRoom + (rest.map fun v => v.category).sum) + (maxL + 11) + rm.locals ≤ R.locals) (hc : cells + rm.cells ≤ R.cells) (hs : slots + rm.slots ≤ R.slots)
    (hd : decode c.code g.pc = .ok (.invokevirtual index, 3)) :
    ∃ (v : Option Value) (T' : State) (L : List Loc) (h' : Heap), Stand p l e R s m args below meth c T' (locs ++ L) (cells + rm.cells) (slots + rm.slots) ∧ T'.heap = h' ∧ Qc v h' L ∧ ∀ t, Steps p.tables e below (T'.setTop { g with pc := g.pc + 3, stack := v.toList ++ rest }) t → Steps p.tables e below (T.setTop g) t := by
  obtain ⟨cq, kq, qa, qb, qc⟩ := isOf hZ eT E
  obtain ⟨v, _, ⟨T', L', k', n'⟩, -, X', ⟨Lc, hQ, e1, e2, e3⟩, st⟩ := X.virtualBackUp hx hown (mvT hZ w1) (mvT hZ w7) (mvT hZ w2) hy (mvT hZ w5) (mvT hZ w6) (backOf (hM []) hZ w4 w3 hf hl) qa qc hg hsz (Steps.refl _) hlen hst (Nat.le_refl _) hd (fun _ _ => ⟨rfl, eT, hc, hs⟩)
  dsimp only [Pt.U, Pt.locs, Pt.cells, Pt.slots] at X' e1 e2 e3 st hQ
  subst e1 e2 e3
  exact ⟨v, T', Lc, _, X', rfl, hQ, fun t k => st.trans k⟩
end Own
theorem own_eq_int {args : Array Value} {s : State} {t : Jvm.Term} {k : Int32} (h : (Jvm.Cond.eq t (.int k)).value args s none s [] = some true) : t.eval args s none [] s = some (.int k) := by
  simp only [Cond.value, Term.eval] at h
  cases ht : t.eval args s none [] s with
  | none => simp [ht] at h
  | some v => cases v <;> simp [ht] at h; rw [h]
theorem pn_java_lang_Enum : plainName "java/lang/Enum" = true := by first | (simp [plainName, overriddenIn]; done) | decide +kernel
theorem ef_jdk_37_method_2_codeR (m : MethodId) (z0 : Addr) : entryFrame m #[(.ref z0)] 1 = mkF m 0 #[.val (.ref z0)] [] := by first | (simp [entryFrame, mkF, argsToLocals, Value.category]; done) | rfl
theorem d_jdk_37_method_2_code_0 : decode jdk_37_method_2_code 0 = .ok (.aload_n 0, 1) := by decide +kernel
theorem d_jdk_37_method_2_code_1 : decode jdk_37_method_2_code 1 = .ok (.getfield 7, 3) := by decide +kernel
theorem d_jdk_37_method_2_code_4 : decode jdk_37_method_2_code 4 = .ok (.ireturn, 1) := by decide +kernel
set_option maxRecDepth 65536 in
set_option maxHeartbeats 40000000 in
theorem rm_ord (l : Launch) (Z : State) (a0 : Array Value) (hw : ∀ d ∈ tables_1, d.before a0 Z = true) (a : Addr) (k : Int32) (h0 : Heap) (n0 : Nat) (Z0 : n0 ≤ h0.size) (F : Fld Z h0 a "java/lang/Enum" "ordinal" "I" (.int k)) :
    own_Met l Z (⟨"java/lang/Enum", "ordinal", "()I"⟩ : MethodName) jdk_37_method_2_code 1 (some .int) ({ frames := 0, cells := 0, slots := 0, locals := 0 } : Room) #[(.ref a)] h0 (fun v h L => v = some (.int k) ∧ Fr n0 L ∧ h = h0) := by
  refine own_body (plainFor_of_name pn_java_lang_Enum) ?_
  intro p e s m below meth c T0 X0 e0 hx hby hml hown hnm hret hlk hZ
  replace hown : s.vm.findClass "java/lang/Enum" = some m.cls := hown
  have N0 := Fr.nil n0
  refine own_of (fun t k => castTop (ef_jdk_37_method_2_codeR m a) k) ?_
  show own_Ends _ _ _ _ _ _ (T0.setTop (mkF m 0 #[.val (.ref a)] []))
  refine own_of (fun t k => XS.aloadN X0.here hx rfl (hb hby d_jdk_37_method_2_code_0) rfl rfl k) ?_
  show own_Ends _ _ _ _ _ _ (T0.setTop (mkF m 1 #[.val (.ref a)] [(.ref a)]))
  obtain ⟨T1, X1, e1, st1⟩ := getF X0 hx hZ hown (host := "") (Or.inl (hw _ (List.mem_of_getElem? (i := 15) rfl))) Via.refl e0 F (g := (mkF m 1 #[.val (.ref a)] [(.ref a)])) rfl rfl (hb hby d_jdk_37_method_2_code_1)
  refine own_of st1 ?_
  show own_Ends _ _ _ _ _ _ (T1.setTop (mkF m 4 #[.val (.ref a)] [(.int k)]))
  refine own_retI X1 hx hlk e1 hret (hb hby d_jdk_37_method_2_code_4) (by decide) (by decide) ?_
  exact ⟨rfl, N0, rfl⟩
theorem pn_com_example_casement_casement_widget_Alignment : plainName "com/example/casement/casement/widget/Alignment" = true := by first | (simp [plainName, overriddenIn]; done) | decide +kernel
theorem ef_prog_6_method_4_codeRI (m : MethodId) (z0 : Addr) (z1 : Int32) : entryFrame m #[(.ref z0), (.int z1)] 2 = mkF m 0 #[.val (.ref z0), .val (.int z1)] [] := by first | (simp [entryFrame, mkF, argsToLocals, Value.category]; done) | rfl
theorem d_prog_6_method_4_code_0 : decode prog_6_method_4_code 0 = .ok (.aload_n 0, 1) := by decide +kernel
theorem pd___r_I : parseMethodDescriptor "()I" = some ⟨[], some .int⟩ := by decide +kernel
theorem d_prog_6_method_4_code_1 : decode prog_6_method_4_code 1 = .ok (.invokevirtual 32, 3) := by decide +kernel
theorem d_prog_6_method_4_code_4 : decode prog_6_method_4_code 4 = .ok (.tableswitch 28 0 2 #[38, 42, 48], 28) := by decide +kernel
theorem d_prog_6_method_4_code_42 : decode prog_6_method_4_code 42 = .ok (.iconst 0, 1) := by decide +kernel
theorem d_prog_6_method_4_code_43 : decode prog_6_method_4_code 43 = .ok (.goto 10, 3) := by decide +kernel
theorem d_prog_6_method_4_code_53 : decode prog_6_method_4_code 53 = .ok (.ireturn, 1) := by decide +kernel
set_option maxRecDepth 65536 in
set_option maxHeartbeats 40000000 in
theorem rm_off0 (l : Launch) (Z : State) (a0 : Array Value) (hw : ∀ d ∈ tables_1, d.before a0 Z = true) (a : Addr) (p1 : Int32) (h0 : Heap) (n0 : Nat) (Z0 : n0 ≤ h0.size) (E : Exa Z h0 a "com/example/casement/casement/widget/Alignment") (F : Fld Z h0 a "java/lang/Enum" "ordinal" "I" (.int (0 : Int32))) :
    own_Met l Z (⟨"com/example/casement/casement/widget/Alignment", "offset", "(I)I"⟩ : MethodName) prog_6_method_4_code 2 (some .int) ({ frames := 1, cells := 0, slots := 0, locals := 12 } : Room) #[(.ref a), (.int p1)] h0 (fun v h L => v = some (.int (0 : Int32)) ∧ Fr n0 L ∧ h = h0) := by
  refine own_body (plainFor_of_name pn_com_example_casement_casement_widget_Alignment) ?_
  intro p e s m below meth c T0 X0 e0 hx hby hml hown hnm hret hlk hZ
  replace hown : s.vm.findClass "com/example/casement/casement/widget/Alignment" = some m.cls := hown
  have N0 := Fr.nil n0
  refine own_of (fun t k => castTop (ef_prog_6_method_4_codeRI m a p1) k) ?_
  show own_Ends _ _ _ _ _ _ (T0.setTop (mkF m 0 #[.val (.ref a), .val (.int p1)] []))
  refine own_of (fun t k => XS.aloadN X0.here hx rfl (hb hby d_prog_6_method_4_code_0) rfl rfl k) ?_
  show own_Ends _ _ _ _ _ _ (T0.setTop (mkF m 1 #[.val (.ref a), .val (.int p1)] [(.ref a)]))
  obtain ⟨v2, T2, L2, h2, X2, e2, Q2, st2⟩ := own_virtualUp X0 hx hZ hown e0 E (hw _ (List.mem_of_getElem? (i := 8) rfl)) (hw _ (List.mem_of_getElem? (i := 9) rfl)) (hw _ (List.mem_of_getElem? (i := 10) rfl)) (hw _ (List.mem_of_getElem? (i := 12) rfl)) (hw _ (List.mem_of_getElem? (i := 11) rfl)) (hw _ (List.mem_of_getElem? (i := 13) rfl)) (hw _ (List.mem_of_getElem? (i := 14) rfl)) (by decide) (argsL := []) (rest := []) (rm_ord l Z a0 hw a (0 : Int32) h0 n0 Z0 F) (g := (mkF m 1 #[.val (.ref a), .val (.int p1)] [(.ref a)])) rfl (by rw [hml]; rfl) (lenOf pd___r_I rfl) rfl (by decide) (Nat.le_of_ble_eq_true rfl) (by decide) (by decide) (hb hby d_prog_6_method_4_code_1)
  obtain ⟨rfl, Nq2, q2⟩ := Q2
  replace e2 := e2.trans q2
  have N2 := Fr.app N0 Nq2
  refine own_of st2 ?_
  show own_Ends _ _ _ _ _ _ (T2.setTop (mkF m 4 #[.val (.ref a), .val (.int p1)] [(.int (0 : Int32))]))
  refine own_of (fun t k => XS.tswIn X2.here hx rfl (pc0 := 4) (pc' := 42) (o := 38) rfl (hb hby d_prog_6_method_4_code_4) rfl (by decide) (by decide) (by decide) (by decide) k) ?_
  show own_Ends _ _ _ _ _ _ (T2.setTop (mkF m 42 #[.val (.ref a), .val (.int p1)] []))
  refine own_of (fun t k => XS.iconst X2.here hx rfl (hb hby d_prog_6_method_4_code_42) k) ?_
  show own_Ends _ _ _ _ _ _ (T2.setTop (mkF m 43 #[.val (.ref a), .val (.int p1)] [(.int (0 : Int32))]))
  refine own_of (fun t k => XS.goto X2.here hx rfl (pc0 := 43) (pc' := 53) rfl (hb hby d_prog_6_method_4_code_43) (by decide) (by decide) k) ?_
  show own_Ends _ _ _ _ _ _ (T2.setTop (mkF m 53 #[.val (.ref a), .val (.int p1)] [(.int (0 : Int32))]))
  refine own_retI X2 hx hlk e2 hret (hb hby d_prog_6_method_4_code_53) (by decide) (by decide) ?_
  exact ⟨rfl, N2, rfl⟩
theorem d_prog_6_method_4_code_46 : decode prog_6_method_4_code 46 = .ok (.iload_n 1, 1) := by decide +kernel
theorem d_prog_6_method_4_code_47 : decode prog_6_method_4_code 47 = .ok (.iconst 2, 1) := by decide +kernel
theorem d_prog_6_method_4_code_48 : decode prog_6_method_4_code 48 = .ok (.idiv, 1) := by decide +kernel
theorem d_prog_6_method_4_code_49 : decode prog_6_method_4_code 49 = .ok (.goto 4, 3) := by decide +kernel
set_option maxRecDepth 65536 in
set_option maxHeartbeats 40000000 in
theorem rm_off1 (l : Launch) (Z : State) (a0 : Array Value) (hw : ∀ d ∈ tables_1, d.before a0 Z = true) (a : Addr) (p1 : Int32) (h0 : Heap) (n0 : Nat) (Z0 : n0 ≤ h0.size) (E : Exa Z h0 a "com/example/casement/casement/widget/Alignment") (F : Fld Z h0 a "java/lang/Enum" "ordinal" "I" (.int (1 : Int32))) :
    own_Met l Z (⟨"com/example/casement/casement/widget/Alignment", "offset", "(I)I"⟩ : MethodName) prog_6_method_4_code 2 (some .int) ({ frames := 1, cells := 0, slots := 0, locals := 12 } : Room) #[(.ref a), (.int p1)] h0 (fun v h L => v = some (.int (p1 / (2 : Int32))) ∧ Fr n0 L ∧ h = h0) := by
  refine own_body (plainFor_of_name pn_com_example_casement_casement_widget_Alignment) ?_
  intro p e s m below meth c T0 X0 e0 hx hby hml hown hnm hret hlk hZ
  replace hown : s.vm.findClass "com/example/casement/casement/widget/Alignment" = some m.cls := hown
  have N0 := Fr.nil n0
  refine own_of (fun t k => castTop (ef_prog_6_method_4_codeRI m a p1) k) ?_
  show own_Ends _ _ _ _ _ _ (T0.setTop (mkF m 0 #[.val (.ref a), .val (.int p1)] []))
  refine own_of (fun t k => XS.aloadN X0.here hx rfl (hb hby d_prog_6_method_4_code_0) rfl rfl k) ?_
  show own_Ends _ _ _ _ _ _ (T0.setTop (mkF m 1 #[.val (.ref a), .val (.int p1)] [(.ref a)]))
  obtain ⟨v3, T3, L3, h3, X3, e3, Q3, st3⟩ := own_virtualUp X0 hx hZ hown e0 E (hw _ (List.mem_of_getElem? (i := 8) rfl)) (hw _ (List.mem_of_getElem? (i := 9) rfl)) (hw _ (List.mem_of_getElem? (i := 10) rfl)) (hw _ (List.mem_of_getElem? (i := 12) rfl)) (hw _ (List.mem_of_getElem? (i := 11) rfl)) (hw _ (List.mem_of_getElem? (i := 13) rfl)) (hw _ (List.mem_of_getElem? (i := 14) rfl)) (by decide) (argsL := []) (rest := []) (rm_ord l Z a0 hw a (1 : Int32) h0 n0 Z0 F) (g := (mkF m 1 #[.val (.ref a), .val (.int p1)] [(.ref a)])) rfl (by rw [hml]; rfl) (lenOf pd___r_I rfl) rfl (by decide) (Nat.le_of_ble_eq_true rfl) (by decide) (by decide) (hb hby d_prog_6_method_4_code_1)
  obtain ⟨rfl, Nq3, q3⟩ := Q3
  replace e3 := e3.trans q3
  have N3 := Fr.app N0 Nq3
  refine own_of st3 ?_
  show own_Ends _ _ _ _ _ _ (T3.setTop (mkF m 4 #[.val (.ref a), .val (.int p1)] [(.int (1 : Int32))]))
  refine own_of (fun t k => XS.tswIn X3.here hx rfl (pc0 := 4) (pc' := 46) (o := 42) rfl (hb hby d_prog_6_method_4_code_4) rfl (by decide) (by decide) (by decide) (by decide) k) ?_
  show own_Ends _ _ _ _ _ _ (T3.setTop (mkF m 46 #[.val (.ref a), .val (.int p1)] []))
  refine own_of (fun t k => XS.iloadN X3.here hx rfl (hb hby d_prog_6_method_4_code_46) rfl  k) ?_
  show own_Ends _ _ _ _ _ _ (T3.setTop (mkF m 47 #[.val (.ref a), .val (.int p1)] [(.int p1)]))
  refine own_of (fun t k => XS.iconst X3.here hx rfl (hb hby d_prog_6_method_4_code_47) k) ?_
  show own_Ends _ _ _ _ _ _ (T3.setTop (mkF m 48 #[.val (.ref a), .val (.int p1)] [(.int (2 : Int32)), (.int p1)]))
  refine own_of (fun t k => XS.idiv X3.here hx rfl (hb hby d_prog_6_method_4_code_48) rfl (by decide) k) ?_
  show own_Ends _ _ _ _ _ _ (T3.setTop (mkF m 49 #[.val (.ref a), .val (.int p1)] [(.int (p1 / (2 : Int32)))]))
  refine own_of (fun t k => XS.goto X3.here hx rfl (pc0 := 49) (pc' := 53) rfl (hb hby d_prog_6_method_4_code_49) (by decide) (by decide) k) ?_
  show own_Ends _ _ _ _ _ _ (T3.setTop (mkF m 53 #[.val (.ref a), .val (.int p1)] [(.int (p1 / (2 : Int32)))]))
  refine own_retI X3 hx hlk e3 hret (hb hby d_prog_6_method_4_code_53) (by decide) (by decide) ?_
  exact ⟨rfl, N3, rfl⟩
theorem d_prog_6_method_4_code_52 : decode prog_6_method_4_code 52 = .ok (.iload_n 1, 1) := by decide +kernel
set_option maxRecDepth 65536 in
set_option maxHeartbeats 40000000 in
theorem rm_off2 (l : Launch) (Z : State) (a0 : Array Value) (hw : ∀ d ∈ tables_1, d.before a0 Z = true) (a : Addr) (p1 : Int32) (h0 : Heap) (n0 : Nat) (Z0 : n0 ≤ h0.size) (E : Exa Z h0 a "com/example/casement/casement/widget/Alignment") (F : Fld Z h0 a "java/lang/Enum" "ordinal" "I" (.int (2 : Int32))) :
    own_Met l Z (⟨"com/example/casement/casement/widget/Alignment", "offset", "(I)I"⟩ : MethodName) prog_6_method_4_code 2 (some .int) ({ frames := 1, cells := 0, slots := 0, locals := 12 } : Room) #[(.ref a), (.int p1)] h0 (fun v h L => v = some (.int p1) ∧ Fr n0 L ∧ h = h0) := by
  refine own_body (plainFor_of_name pn_com_example_casement_casement_widget_Alignment) ?_
  intro p e s m below meth c T0 X0 e0 hx hby hml hown hnm hret hlk hZ
  replace hown : s.vm.findClass "com/example/casement/casement/widget/Alignment" = some m.cls := hown
  have N0 := Fr.nil n0
  refine own_of (fun t k => castTop (ef_prog_6_method_4_codeRI m a p1) k) ?_
  show own_Ends _ _ _ _ _ _ (T0.setTop (mkF m 0 #[.val (.ref a), .val (.int p1)] []))
  refine own_of (fun t k => XS.aloadN X0.here hx rfl (hb hby d_prog_6_method_4_code_0) rfl rfl k) ?_
  show own_Ends _ _ _ _ _ _ (T0.setTop (mkF m 1 #[.val (.ref a), .val (.int p1)] [(.ref a)]))
  obtain ⟨v4, T4, L4, h4, X4, e4, Q4, st4⟩ := own_virtualUp X0 hx hZ hown e0 E (hw _ (List.mem_of_getElem? (i := 8) rfl)) (hw _ (List.mem_of_getElem? (i := 9) rfl)) (hw _ (List.mem_of_getElem? (i := 10) rfl)) (hw _ (List.mem_of_getElem? (i := 12) rfl)) (hw _ (List.mem_of_getElem? (i := 11) rfl)) (hw _ (List.mem_of_getElem? (i := 13) rfl)) (hw _ (List.mem_of_getElem? (i := 14) rfl)) (by decide) (argsL := []) (rest := []) (rm_ord l Z a0 hw a (2 : Int32) h0 n0 Z0 F) (g := (mkF m 1 #[.val (.ref a), .val (.int p1)] [(.ref a)])) rfl (by rw [hml]; rfl) (lenOf pd___r_I rfl) rfl (by decide) (Nat.le_of_ble_eq_true rfl) (by decide) (by decide) (hb hby d_prog_6_method_4_code_1)
  obtain ⟨rfl, Nq4, q4⟩ := Q4
  replace e4 := e4.trans q4
  have N4 := Fr.app N0 Nq4
  refine own_of st4 ?_
  show own_Ends _ _ _ _ _ _ (T4.setTop (mkF m 4 #[.val (.ref a), .val (.int p1)] [(.int (2 : Int32))]))
  refine own_of (fun t k => XS.tswIn X4.here hx rfl (pc0 := 4) (pc' := 52) (o := 48) rfl (hb hby d_prog_6_method_4_code_4) rfl (by decide) (by decide) (by decide) (by decide) k) ?_
  show own_Ends _ _ _ _ _ _ (T4.setTop (mkF m 52 #[.val (.ref a), .val (.int p1)] []))
  refine own_of (fun t k => XS.iloadN X4.here hx rfl (hb hby d_prog_6_method_4_code_52) rfl  k) ?_
  show own_Ends _ _ _ _ _ _ (T4.setTop (mkF m 53 #[.val (.ref a), .val (.int p1)] [(.int p1)]))
  refine own_retI X4 hx hlk e4 hret (hb hby d_prog_6_method_4_code_53) (by decide) (by decide) ?_
  exact ⟨rfl, N4, rfl⟩
theorem own_half (a : Int32) : (a.toInt64 - (2 : Int64) * (a / (2 : Int32)).toInt64 = (0 : Int64)) ∨ ((0 : Int32) < a ∧ a.toInt64 - (2 : Int64) * (a / (2 : Int32)).toInt64 = (1 : Int64)) ∨ (a < (0 : Int32) ∧ a.toInt64 - (2 : Int64) * (a / (2 : Int32)).toInt64 = (-1 : Int64)) := by
  have h1 := a.toInt_lt; have h2 := a.le_toInt
  obtain ⟨c1, c2⟩ := c_idiv a (2 : Int32) 2 rfl (by decide)
  have hq : -1073741824 ≤ (a / (2 : Int32)).toInt ∧ (a / (2 : Int32)).toInt ≤ 1073741824 := by
    rcases Int.lt_or_le a.toInt 0 with h | h
    · rw [c2 h]; omega
    · rw [c1 h]; omega
  have e2 : (2 : Int64).toInt = 2 := rfl
  have em : ((2 : Int64) * (a / (2 : Int32)).toInt64).toInt = 2 * (a / (2 : Int32)).toInt := by
    rw [Jvm.Free.XT.mul64 (by rw [e2, Int32.toInt_toInt64]; constructor <;> omega), e2, Int32.toInt_toInt64]
  have es : (a.toInt64 - (2 : Int64) * (a / (2 : Int32)).toInt64).toInt = a.toInt - 2 * (a / (2 : Int32)).toInt := by
    rw [Jvm.Free.XT.sub64 (by rw [em, Int32.toInt_toInt64]; constructor <;> omega), em, Int32.toInt_toInt64]
  simp only [← Int64.toInt_inj, es, Int32.lt_iff_toInt_lt]
  have z0 : (0 : Int64).toInt = 0 := rfl
  have z1 : (1 : Int64).toInt = 1 := rfl
  have z2 : (-1 : Int64).toInt = -1 := rfl
  have z3 : (0 : Int32).toInt = 0 := rfl
  rw [z0, z1, z2, z3]
  rcases Int.lt_or_le a.toInt 0 with h | h
  · rw [c2 h]; omega
  · rw [c1 h]; omega
theorem own_half1 (p1 : Int32) (h : ¬ (lcmpW ((p1.toInt64) - ((2 : Int64) * ((p1 / (2 : Int32)).toInt64))) (0 : Int64)) = (0 : Int32)) (hp : (0 : Int32) < p1) : (lcmpW ((p1.toInt64) - ((2 : Int64) * ((p1 / (2 : Int32)).toInt64))) (1 : Int64)) = (0 : Int32) := by
  refine (lw_eq _ _).mpr ?_
  rcases own_half p1 with q | q | q
  · exact absurd ((lw_eq _ _).mpr q) h
  · exact q.2
  · exact absurd (Int32.lt_trans hp q.1) Int32.lt_irrefl
theorem own_half2 (p1 : Int32) (h : ¬ (lcmpW ((p1.toInt64) - ((2 : Int64) * ((p1 / (2 : Int32)).toInt64))) (0 : Int64)) = (0 : Int32)) (hp : p1 < (0 : Int32)) : (lcmpW ((p1.toInt64) - ((2 : Int64) * ((p1 / (2 : Int32)).toInt64))) (-1 : Int64)) = (0 : Int32) := by
  refine (lw_eq _ _).mpr ?_
  rcases own_half p1 with q | q | q
  · exact absurd ((lw_eq _ _).mpr q) h
  · exact absurd (Int32.lt_trans hp q.1) Int32.lt_irrefl
  · exact q.2
theorem own_half3 (p1 : Int32) (h : ¬ (lcmpW ((p1.toInt64) - ((2 : Int64) * ((p1 / (2 : Int32)).toInt64))) (0 : Int64)) = (0 : Int32)) (hp : ¬ (0 : Int32) < p1) (hn : ¬ p1 < (0 : Int32)) : (0 : Nat) ≠ 0 := by
  rcases own_half p1 with q | q | q
  · exact absurd ((lw_eq _ _).mpr q) h
  · exact absurd q.1 hp
  · exact absurd q.1 hn
theorem pn_com_example_casement_casement_widget_AlignmentOffsetPinLaw : plainName "com/example/casement/casement/widget/AlignmentOffsetPinLaw" = true := by first | (simp [plainName, overriddenIn]; done) | decide +kernel
theorem ef_method_2_codeII (m : MethodId) (z0 : Int32) (z1 : Int32) : entryFrame m #[(.int z0), (.int z1)] 4 = mkF m 0 #[.val (.int z0), .val (.int z1), .unset, .unset] [] := by first | (simp [entryFrame, mkF, argsToLocals, Value.category]; done) | rfl
theorem d_method_2_code_0 : decode method_2_code 0 = .ok (.iload_n 0, 1) := by decide +kernel
theorem d_method_2_code_1 : decode method_2_code 1 = .ok (.i2l, 1) := by decide +kernel
theorem d_method_2_code_2 : decode method_2_code 2 = .ok (.ldc2_w 7, 3) := by decide +kernel
theorem d_method_2_code_5 : decode method_2_code 5 = .ok (.iload_n 1, 1) := by decide +kernel
theorem d_method_2_code_6 : decode method_2_code 6 = .ok (.i2l, 1) := by decide +kernel
theorem d_method_2_code_7 : decode method_2_code 7 = .ok (.lmul, 1) := by decide +kernel
theorem d_method_2_code_8 : decode method_2_code 8 = .ok (.lsub, 1) := by decide +kernel
theorem d_method_2_code_9 : decode method_2_code 9 = .ok (.lstore_n 2, 1) := by decide +kernel
theorem d_method_2_code_10 : decode method_2_code 10 = .ok (.lload_n 2, 1) := by decide +kernel
theorem d_method_2_code_11 : decode method_2_code 11 = .ok (.lconst 0, 1) := by decide +kernel
theorem d_method_2_code_12 : decode method_2_code 12 = .ok (.lcmp, 1) := by decide +kernel
theorem d_method_2_code_13 : decode method_2_code 13 = .ok (.ifCond .ne 5, 3) := by decide +kernel
theorem d_method_2_code_16 : decode method_2_code 16 = .ok (.iconst 1, 1) := by decide +kernel
theorem d_method_2_code_17 : decode method_2_code 17 = .ok (.ireturn, 1) := by decide +kernel
theorem d_method_2_code_18 : decode method_2_code 18 = .ok (.iload_n 0, 1) := by decide +kernel
theorem d_method_2_code_19 : decode method_2_code 19 = .ok (.ifCond .le 15, 3) := by decide +kernel
theorem d_method_2_code_22 : decode method_2_code 22 = .ok (.lload_n 2, 1) := by decide +kernel
theorem d_method_2_code_23 : decode method_2_code 23 = .ok (.lconst 1, 1) := by decide +kernel
theorem d_method_2_code_24 : decode method_2_code 24 = .ok (.lcmp, 1) := by decide +kernel
theorem d_method_2_code_25 : decode method_2_code 25 = .ok (.ifCond .ne 7, 3) := by decide +kernel
theorem d_method_2_code_28 : decode method_2_code 28 = .ok (.iconst 1, 1) := by decide +kernel
theorem d_method_2_code_29 : decode method_2_code 29 = .ok (.goto 4, 3) := by decide +kernel
theorem d_method_2_code_33 : decode method_2_code 33 = .ok (.ireturn, 1) := by decide +kernel
theorem d_method_2_code_34 : decode method_2_code 34 = .ok (.iload_n 0, 1) := by decide +kernel
theorem d_method_2_code_35 : decode method_2_code 35 = .ok (.ifCond .ge 17, 3) := by decide +kernel
theorem d_method_2_code_38 : decode method_2_code 38 = .ok (.lload_n 2, 1) := by decide +kernel
theorem d_method_2_code_39 : decode method_2_code 39 = .ok (.ldc2_w 9, 3) := by decide +kernel
theorem d_method_2_code_42 : decode method_2_code 42 = .ok (.lcmp, 1) := by decide +kernel
theorem d_method_2_code_43 : decode method_2_code 43 = .ok (.ifCond .ne 7, 3) := by decide +kernel
theorem d_method_2_code_46 : decode method_2_code 46 = .ok (.iconst 1, 1) := by decide +kernel
theorem d_method_2_code_47 : decode method_2_code 47 = .ok (.goto 4, 3) := by decide +kernel
theorem d_method_2_code_51 : decode method_2_code 51 = .ok (.ireturn, 1) := by decide +kernel
set_option maxRecDepth 65536 in
set_option maxHeartbeats 40000000 in
theorem rm_half (l : Launch) (Z : State) (a0 : Array Value) (hw : ∀ d ∈ tables_1, d.before a0 Z = true) (p1 : Int32) (h0 : Heap) (n0 : Nat) (Z0 : n0 ≤ h0.size) :
    own_Met l Z (⟨"com/example/casement/casement/widget/AlignmentOffsetPinLaw", "isTruncatedHalf", "(II)Z"⟩ : MethodName) method_2_code 4 (some .boolean) ({ frames := 0, cells := 0, slots := 0, locals := 0 } : Room) #[(.int p1), (.int (p1 / (2 : Int32)))] h0 (fun v h L => v = some (.int (1 : Int32)) ∧ Fr n0 L ∧ h = h0) := by
  refine own_body (plainFor_of_name pn_com_example_casement_casement_widget_AlignmentOffsetPinLaw) ?_
  intro p e s m below meth c T0 X0 e0 hx hby hml hown hnm hret hlk hZ
  replace hown : s.vm.findClass "com/example/casement/casement/widget/AlignmentOffsetPinLaw" = some m.cls := hown
  have N0 := Fr.nil n0
  refine own_of (fun t k => castTop (ef_method_2_codeII m p1 (p1 / (2 : Int32))) k) ?_
  show own_Ends _ _ _ _ _ _ (T0.setTop (mkF m 0 #[.val (.int p1), .val (.int (p1 / (2 : Int32))), .unset, .unset] []))
  refine own_of (fun t k => XS.iloadN X0.here hx rfl (hb hby d_method_2_code_0) rfl  k) ?_
  show own_Ends _ _ _ _ _ _ (T0.setTop (mkF m 1 #[.val (.int p1), .val (.int (p1 / (2 : Int32))), .unset, .unset] [(.int p1)]))
  refine own_of (fun t k => XS.i2l X0.here hx rfl (hb hby d_method_2_code_1) rfl k) ?_
  show own_Ends _ _ _ _ _ _ (T0.setTop (mkF m 2 #[.val (.int p1), .val (.int (p1 / (2 : Int32))), .unset, .unset] [(.long (p1.toInt64))]))
  refine own_of (fun t k => X0.ldc2J hx hown (mvT hZ (hw _ (List.mem_of_getElem? (i := 25) rfl))) (g := (mkF m 2 #[.val (.int p1), .val (.int (p1 / (2 : Int32))), .unset, .unset] [(.long (p1.toInt64))])) rfl (hb hby d_method_2_code_2) k) ?_
  show own_Ends _ _ _ _ _ _ (T0.setTop (mkF m 5 #[.val (.int p1), .val (.int (p1 / (2 : Int32))), .unset, .unset] [(.long (2 : Int64)), (.long (p1.toInt64))]))
  refine own_of (fun t k => XS.iloadN X0.here hx rfl (hb hby d_method_2_code_5) rfl  k) ?_
  show own_Ends _ _ _ _ _ _ (T0.setTop (mkF m 6 #[.val (.int p1), .val (.int (p1 / (2 : Int32))), .unset, .unset] [(.int (p1 / (2 : Int32))), (.long (2 : Int64)), (.long (p1.toInt64))]))
  refine own_of (fun t k => XS.i2l X0.here hx rfl (hb hby d_method_2_code_6) rfl k) ?_
  show own_Ends _ _ _ _ _ _ (T0.setTop (mkF m 7 #[.val (.int p1), .val (.int (p1 / (2 : Int32))), .unset, .unset] [(.long ((p1 / (2 : Int32)).toInt64)), (.long (2 : Int64)), (.long (p1.toInt64))]))
  refine own_of (fun t k => XS.lmul X0.here hx rfl (hb hby d_method_2_code_7) rfl k) ?_
  show own_Ends _ _ _ _ _ _ (T0.setTop (mkF m 8 #[.val (.int p1), .val (.int (p1 / (2 : Int32))), .unset, .unset] [(.long ((2 : Int64) * ((p1 / (2 : Int32)).toInt64))), (.long (p1.toInt64))]))
  refine own_of (fun t k => XS.lsub X0.here hx rfl (hb hby d_method_2_code_8) rfl k) ?_
  show own_Ends _ _ _ _ _ _ (T0.setTop (mkF m 9 #[.val (.int p1), .val (.int (p1 / (2 : Int32))), .unset, .unset] [(.long ((p1.toInt64) - ((2 : Int64) * ((p1 / (2 : Int32)).toInt64))))]))
  refine own_of (fun t k => XS.lstoreN X0.here hx rfl (hb hby d_method_2_code_9) rfl (l' := #[.val (.int p1), .val (.int (p1 / (2 : Int32))), .val (.long ((p1.toInt64) - ((2 : Int64) * ((p1 / (2 : Int32)).toInt64)))), .second]) rfl k) ?_
  show own_Ends _ _ _ _ _ _ (T0.setTop (mkF m 10 #[.val (.int p1), .val (.int (p1 / (2 : Int32))), .val (.long ((p1.toInt64) - ((2 : Int64) * ((p1 / (2 : Int32)).toInt64)))), .second] []))
  refine own_of (fun t k => XS.lloadN X0.here hx rfl (hb hby d_method_2_code_10) rfl  k) ?_
  show own_Ends _ _ _ _ _ _ (T0.setTop (mkF m 11 #[.val (.int p1), .val (.int (p1 / (2 : Int32))), .val (.long ((p1.toInt64) - ((2 : Int64) * ((p1 / (2 : Int32)).toInt64)))), .second] [(.long ((p1.toInt64) - ((2 : Int64) * ((p1 / (2 : Int32)).toInt64))))]))
  refine own_of (fun t k => XS.lconst X0.here hx rfl (hb hby d_method_2_code_11) k) ?_
  show own_Ends _ _ _ _ _ _ (T0.setTop (mkF m 12 #[.val (.int p1), .val (.int (p1 / (2 : Int32))), .val (.long ((p1.toInt64) - ((2 : Int64) * ((p1 / (2 : Int32)).toInt64)))), .second] [(.long (0 : Int64)), (.long ((p1.toInt64) - ((2 : Int64) * ((p1 / (2 : Int32)).toInt64))))]))
  refine own_of (fun t k => XS.lcmp X0.here hx rfl (hb hby d_method_2_code_12) rfl k) ?_
  show own_Ends _ _ _ _ _ _ (T0.setTop (mkF m 13 #[.val (.int p1), .val (.int (p1 / (2 : Int32))), .val (.long ((p1.toInt64) - ((2 : Int64) * ((p1 / (2 : Int32)).toInt64)))), .second] [(.int (lcmpW ((p1.toInt64) - ((2 : Int64) * ((p1 / (2 : Int32)).toInt64))) (0 : Int64)))]))
  by_cases hc5 : (lcmpW ((p1.toInt64) - ((2 : Int64) * ((p1 / (2 : Int32)).toInt64))) (0 : Int64)) = (0 : Int32)
  · refine own_of (fun t k => XS.ifNo X0.here hx rfl (hb hby d_method_2_code_13) rfl ((if0 _ _).trans (teq hc5).2) k) ?_
    show own_Ends _ _ _ _ _ _ (T0.setTop (mkF m 16 #[.val (.int p1), .val (.int (p1 / (2 : Int32))), .val (.long ((p1.toInt64) - ((2 : Int64) * ((p1 / (2 : Int32)).toInt64)))), .second] []))
    refine own_of (fun t k => XS.iconst X0.here hx rfl (hb hby d_method_2_code_16) k) ?_
    show own_Ends _ _ _ _ _ _ (T0.setTop (mkF m 17 #[.val (.int p1), .val (.int (p1 / (2 : Int32))), .val (.long ((p1.toInt64) - ((2 : Int64) * ((p1 / (2 : Int32)).toInt64)))), .second] [(.int (1 : Int32))]))
    refine own_retN X0 hx hlk e0 (t := .boolean) hret (by simp) (z' := (1 : Int32)) rfl (hb hby d_method_2_code_17) (by decide) (by decide) ?_
    exact ⟨rfl, N0, rfl⟩
  · refine own_of (fun t k => XS.ifYes X0.here hx rfl (pc0 := 13) (pc' := 18) rfl (hb hby d_method_2_code_13) rfl ((if0 _ _).trans (feq hc5).2) (by decide) (by decide) k) ?_
    show own_Ends _ _ _ _ _ _ (T0.setTop (mkF m 18 #[.val (.int p1), .val (.int (p1 / (2 : Int32))), .val (.long ((p1.toInt64) - ((2 : Int64) * ((p1 / (2 : Int32)).toInt64)))), .second] []))
    refine own_of (fun t k => XS.iloadN X0.here hx rfl (hb hby d_method_2_code_18) rfl  k) ?_
    show own_Ends _ _ _ _ _ _ (T0.setTop (mkF m 19 #[.val (.int p1), .val (.int (p1 / (2 : Int32))), .val (.long ((p1.toInt64) - ((2 : Int64) * ((p1 / (2 : Int32)).toInt64)))), .second] [(.int p1)]))
    by_cases hc6 : (0 : Int32) < p1
    · refine own_of (fun t k => XS.ifNo X0.here hx rfl (hb hby d_method_2_code_19) rfl ((if0 _ _).trans (tlt hc6).2.2.2) k) ?_
      show own_Ends _ _ _ _ _ _ (T0.setTop (mkF m 22 #[.val (.int p1), .val (.int (p1 / (2 : Int32))), .val (.long ((p1.toInt64) - ((2 : Int64) * ((p1 / (2 : Int32)).toInt64)))), .second] []))
      refine own_of (fun t k => XS.lloadN X0.here hx rfl (hb hby d_method_2_code_22) rfl  k) ?_
      show own_Ends _ _ _ _ _ _ (T0.setTop (mkF m 23 #[.val (.int p1), .val (.int (p1 / (2 : Int32))), .val (.long ((p1.toInt64) - ((2 : Int64) * ((p1 / (2 : Int32)).toInt64)))), .second] [(.long ((p1.toInt64) - ((2 : Int64) * ((p1 / (2 : Int32)).toInt64))))]))
      refine own_of (fun t k => XS.lconst X0.here hx rfl (hb hby d_method_2_code_23) k) ?_
      show own_Ends _ _ _ _ _ _ (T0.setTop (mkF m 24 #[.val (.int p1), .val (.int (p1 / (2 : Int32))), .val (.long ((p1.toInt64) - ((2 : Int64) * ((p1 / (2 : Int32)).toInt64)))), .second] [(.long (1 : Int64)), (.long ((p1.toInt64) - ((2 : Int64) * ((p1 / (2 : Int32)).toInt64))))]))
      refine own_of (fun t k => XS.lcmp X0.here hx rfl (hb hby d_method_2_code_24) rfl k) ?_
      show own_Ends _ _ _ _ _ _ (T0.setTop (mkF m 25 #[.val (.int p1), .val (.int (p1 / (2 : Int32))), .val (.long ((p1.toInt64) - ((2 : Int64) * ((p1 / (2 : Int32)).toInt64)))), .second] [(.int (lcmpW ((p1.toInt64) - ((2 : Int64) * ((p1 / (2 : Int32)).toInt64))) (1 : Int64)))]))
      have d25 := own_half1 p1 hc5 hc6
      refine own_of (fun t k => XS.ifNo X0.here hx rfl (hb hby d_method_2_code_25) rfl ((if0 _ _).trans (teq d25).2) k) ?_
      show own_Ends _ _ _ _ _ _ (T0.setTop (mkF m 28 #[.val (.int p1), .val (.int (p1 / (2 : Int32))), .val (.long ((p1.toInt64) - ((2 : Int64) * ((p1 / (2 : Int32)).toInt64)))), .second] []))
      refine own_of (fun t k => XS.iconst X0.here hx rfl (hb hby d_method_2_code_28) k) ?_
      show own_Ends _ _ _ _ _ _ (T0.setTop (mkF m 29 #[.val (.int p1), .val (.int (p1 / (2 : Int32))), .val (.long ((p1.toInt64) - ((2 : Int64) * ((p1 / (2 : Int32)).toInt64)))), .second] [(.int (1 : Int32))]))
      refine own_of (fun t k => XS.goto X0.here hx rfl (pc0 := 29) (pc' := 33) rfl (hb hby d_method_2_code_29) (by decide) (by decide) k) ?_
      show own_Ends _ _ _ _ _ _ (T0.setTop (mkF m 33 #[.val (.int p1), .val (.int (p1 / (2 : Int32))), .val (.long ((p1.toInt64) - ((2 : Int64) * ((p1 / (2 : Int32)).toInt64)))), .second] [(.int (1 : Int32))]))
      refine own_retN X0 hx hlk e0 (t := .boolean) hret (by simp) (z' := (1 : Int32)) rfl (hb hby d_method_2_code_33) (by decide) (by decide) ?_
      exact ⟨rfl, N0, rfl⟩
    · refine own_of (fun t k => XS.ifYes X0.here hx rfl (pc0 := 19) (pc' := 34) rfl (hb hby d_method_2_code_19) rfl ((if0 _ _).trans (flt hc6).2.2.2) (by decide) (by decide) k) ?_
      show own_Ends _ _ _ _ _ _ (T0.setTop (mkF m 34 #[.val (.int p1), .val (.int (p1 / (2 : Int32))), .val (.long ((p1.toInt64) - ((2 : Int64) * ((p1 / (2 : Int32)).toInt64)))), .second] []))
      refine own_of (fun t k => XS.iloadN X0.here hx rfl (hb hby d_method_2_code_34) rfl  k) ?_
      show own_Ends _ _ _ _ _ _ (T0.setTop (mkF m 35 #[.val (.int p1), .val (.int (p1 / (2 : Int32))), .val (.long ((p1.toInt64) - ((2 : Int64) * ((p1 / (2 : Int32)).toInt64)))), .second] [(.int p1)]))
      by_cases hc7 : p1 < (0 : Int32)
      · refine own_of (fun t k => XS.ifNo X0.here hx rfl (hb hby d_method_2_code_35) rfl ((if0 _ _).trans (tlt hc7).2.1) k) ?_
        show own_Ends _ _ _ _ _ _ (T0.setTop (mkF m 38 #[.val (.int p1), .val (.int (p1 / (2 : Int32))), .val (.long ((p1.toInt64) - ((2 : Int64) * ((p1 / (2 : Int32)).toInt64)))), .second] []))
        refine own_of (fun t k => XS.lloadN X0.here hx rfl (hb hby d_method_2_code_38) rfl  k) ?_
        show own_Ends _ _ _ _ _ _ (T0.setTop (mkF m 39 #[.val (.int p1), .val (.int (p1 / (2 : Int32))), .val (.long ((p1.toInt64) - ((2 : Int64) * ((p1 / (2 : Int32)).toInt64)))), .second] [(.long ((p1.toInt64) - ((2 : Int64) * ((p1 / (2 : Int32)).toInt64))))]))
        refine own_of (fun t k => X0.ldc2J hx hown (mvT hZ (hw _ (List.mem_of_getElem? (i := 26) rfl))) (g := (mkF m 39 #[.val (.int p1), .val (.int (p1 / (2 : Int32))), .val (.long ((p1.toInt64) - ((2 : Int64) * ((p1 / (2 : Int32)).toInt64)))), .second] [(.long ((p1.toInt64) - ((2 : Int64) * ((p1 / (2 : Int32)).toInt64))))])) rfl (hb hby d_method_2_code_39) k) ?_
        show own_Ends _ _ _ _ _ _ (T0.setTop (mkF m 42 #[.val (.int p1), .val (.int (p1 / (2 : Int32))), .val (.long ((p1.toInt64) - ((2 : Int64) * ((p1 / (2 : Int32)).toInt64)))), .second] [(.long (-1 : Int64)), (.long ((p1.toInt64) - ((2 : Int64) * ((p1 / (2 : Int32)).toInt64))))]))
        refine own_of (fun t k => XS.lcmp X0.here hx rfl (hb hby d_method_2_code_42) rfl k) ?_
        show own_Ends _ _ _ _ _ _ (T0.setTop (mkF m 43 #[.val (.int p1), .val (.int (p1 / (2 : Int32))), .val (.long ((p1.toInt64) - ((2 : Int64) * ((p1 / (2 : Int32)).toInt64)))), .second] [(.int (lcmpW ((p1.toInt64) - ((2 : Int64) * ((p1 / (2 : Int32)).toInt64))) (-1 : Int64)))]))
        have d43 := own_half2 p1 hc5 hc7
        refine own_of (fun t k => XS.ifNo X0.here hx rfl (hb hby d_method_2_code_43) rfl ((if0 _ _).trans (teq d43).2) k) ?_
        show own_Ends _ _ _ _ _ _ (T0.setTop (mkF m 46 #[.val (.int p1), .val (.int (p1 / (2 : Int32))), .val (.long ((p1.toInt64) - ((2 : Int64) * ((p1 / (2 : Int32)).toInt64)))), .second] []))
        refine own_of (fun t k => XS.iconst X0.here hx rfl (hb hby d_method_2_code_46) k) ?_
        show own_Ends _ _ _ _ _ _ (T0.setTop (mkF m 47 #[.val (.int p1), .val (.int (p1 / (2 : Int32))), .val (.long ((p1.toInt64) - ((2 : Int64) * ((p1 / (2 : Int32)).toInt64)))), .second] [(.int (1 : Int32))]))
        refine own_of (fun t k => XS.goto X0.here hx rfl (pc0 := 47) (pc' := 51) rfl (hb hby d_method_2_code_47) (by decide) (by decide) k) ?_
        show own_Ends _ _ _ _ _ _ (T0.setTop (mkF m 51 #[.val (.int p1), .val (.int (p1 / (2 : Int32))), .val (.long ((p1.toInt64) - ((2 : Int64) * ((p1 / (2 : Int32)).toInt64)))), .second] [(.int (1 : Int32))]))
        refine own_retN X0 hx hlk e0 (t := .boolean) hret (by simp) (z' := (1 : Int32)) rfl (hb hby d_method_2_code_51) (by decide) (by decide) ?_
        exact ⟨rfl, N0, rfl⟩
      · refine own_of (fun t k => XS.ifYes X0.here hx rfl (pc0 := 35) (pc' := 52) rfl (hb hby d_method_2_code_35) rfl ((if0 _ _).trans (flt hc7).2.1) (by decide) (by decide) k) ?_
        show own_Ends _ _ _ _ _ _ (T0.setTop (mkF m 52 #[.val (.int p1), .val (.int (p1 / (2 : Int32))), .val (.long ((p1.toInt64) - ((2 : Int64) * ((p1 / (2 : Int32)).toInt64)))), .second] []))
        exact absurd rfl (own_half3 p1 hc5 hc6 hc7)
theorem ef_codeI (m : MethodId) (z0 : Int32) : entryFrame m #[(.int z0)] maxLocals = mkF m 0 #[.val (.int z0), .unset, .unset, .unset] [] := by first | (simp [entryFrame, mkF, argsToLocals, Value.category, maxLocals]; done) | rfl
theorem pd__I_r_I : parseMethodDescriptor "(I)I" = some ⟨[.int], some .int⟩ := by decide +kernel
theorem pd__II_r_Z : parseMethodDescriptor "(II)Z" = some ⟨[.int, .int], some .boolean⟩ := by decide +kernel
set_option maxRecDepth 65536 in
set_option maxHeartbeats 40000000 in
theorem rm0 (l : Launch) (Z : State) (a0 : Array Value) (hw : ∀ d ∈ tables_1, d.before a0 Z = true) (p1 : Int32) (wL wC wR : Addr) (h0 : Heap) (n0 : Nat) (Z0 : n0 ≤ h0.size) (SL : Sta Z h0 "com/example/casement/casement/widget/Alignment" "LEFT" "Lcom/example/casement/casement/widget/Alignment;" (.ref wL)) (EL : Exa Z h0 wL "com/example/casement/casement/widget/Alignment") (FL : Fld Z h0 wL "java/lang/Enum" "ordinal" "I" (.int (0 : Int32))) (SC : Sta Z h0 "com/example/casement/casement/widget/Alignment" "CENTER" "Lcom/example/casement/casement/widget/Alignment;" (.ref wC)) (EC : Exa Z h0 wC "com/example/casement/casement/widget/Alignment") (FC : Fld Z h0 wC "java/lang/Enum" "ordinal" "I" (.int (1 : Int32))) (SR : Sta Z h0 "com/example/casement/casement/widget/Alignment" "RIGHT" "Lcom/example/casement/casement/widget/Alignment;" (.ref wR)) (ER : Exa Z h0 wR "com/example/casement/casement/widget/Alignment") (FR : Fld Z h0 wR "java/lang/Enum" "ordinal" "I" (.int (2 : Int32))) :
    own_Met l Z x code maxLocals ret room_1 #[(.int p1)] h0 (fun v h L => v = some (.int 1) ∧ Fr n0 L) := by
  refine own_body (plainFor_of_name pn_com_example_casement_casement_widget_AlignmentOffsetPinLaw) ?_
  intro p e s m below meth c T0 X0 e0 hx hby hml hown hnm hret hlk hZ
  replace hown : s.vm.findClass "com/example/casement/casement/widget/AlignmentOffsetPinLaw" = some m.cls := hown
  have N0 := Fr.nil n0
  refine own_of (fun t k => castTop (ef_codeI m p1) k) ?_
  show own_Ends _ _ _ _ _ _ (T0.setTop (mkF m 0 #[.val (.int p1), .unset, .unset, .unset] []))
  obtain ⟨T8, X8, e8, st8⟩ := getS2 X0 hx hZ hown (host := "") (Or.inl (hw _ (List.mem_of_getElem? (i := 0) rfl))) Via.refl e0 SL (g := (mkF m 0 #[.val (.int p1), .unset, .unset, .unset] [])) rfl (hb hby at_0)
  refine own_of st8 ?_
  show own_Ends _ _ _ _ _ _ (T8.setTop (mkF m 3 #[.val (.int p1), .unset, .unset, .unset] [(.ref wL)]))
  refine own_of (fun t k => XS.iloadN X8.here hx rfl (hb hby at_3) rfl  k) ?_
  show own_Ends _ _ _ _ _ _ (T8.setTop (mkF m 4 #[.val (.int p1), .unset, .unset, .unset] [(.int p1), (.ref wL)]))
  obtain ⟨v9, T9, L9, h9, X9, e9, Q9, st9⟩ := own_virtual X8 hx hZ hown e8 EL (hw _ (List.mem_of_getElem? (i := 3) rfl)) (hw _ (List.mem_of_getElem? (i := 4) rfl)) (notFace_of_selects (args := #[]) (mvT hZ (hw _ (List.mem_of_getElem? (i := 6) rfl)))) (hw _ (List.mem_of_getElem? (i := 6) rfl)) (hw _ (List.mem_of_getElem? (i := 5) rfl)) (hw _ (List.mem_of_getElem? (i := 1) rfl)) (hw _ (List.mem_of_getElem? (i := 7) rfl)) (by decide) (argsL := [(.int p1)]) (rest := []) (rm_off0 l Z a0 hw wL p1 h0 n0 Z0 EL FL) (g := (mkF m 4 #[.val (.int p1), .unset, .unset, .unset] [(.int p1), (.ref wL)])) rfl (by rw [hml]; rfl) (lenOf pd__I_r_I rfl) rfl (by decide) (Nat.le_of_ble_eq_true rfl) (by decide) (by decide) (hb hby at_4)
  obtain ⟨rfl, Nq9, q9⟩ := Q9
  replace e9 := e9.trans q9
  have N9 := Fr.app N0 Nq9
  refine own_of st9 ?_
  show own_Ends _ _ _ _ _ _ (T9.setTop (mkF m 7 #[.val (.int p1), .unset, .unset, .unset] [(.int (0 : Int32))]))
  refine own_of (fun t k => XS.istoreN X9.here hx rfl (hb hby at_7) rfl (l' := #[.val (.int p1), .val (.int (0 : Int32)), .unset, .unset]) rfl k) ?_
  show own_Ends _ _ _ _ _ _ (T9.setTop (mkF m 8 #[.val (.int p1), .val (.int (0 : Int32)), .unset, .unset] []))
  obtain ⟨T10, X10, e10, st10⟩ := getS2 X9 hx hZ hown (host := "") (Or.inl (hw _ (List.mem_of_getElem? (i := 17) rfl))) Via.refl e9 SC (g := (mkF m 8 #[.val (.int p1), .val (.int (0 : Int32)), .unset, .unset] [])) rfl (hb hby at_8)
  refine own_of st10 ?_
  show own_Ends _ _ _ _ _ _ (T10.setTop (mkF m 11 #[.val (.int p1), .val (.int (0 : Int32)), .unset, .unset] [(.ref wC)]))
  refine own_of (fun t k => XS.iloadN X10.here hx rfl (hb hby at_11) rfl  k) ?_
  show own_Ends _ _ _ _ _ _ (T10.setTop (mkF m 12 #[.val (.int p1), .val (.int (0 : Int32)), .unset, .unset] [(.int p1), (.ref wC)]))
  obtain ⟨v11, T11, L11, h11, X11, e11, Q11, st11⟩ := own_virtual X10 hx hZ hown e10 EC (hw _ (List.mem_of_getElem? (i := 3) rfl)) (hw _ (List.mem_of_getElem? (i := 4) rfl)) (notFace_of_selects (args := #[]) (mvT hZ (hw _ (List.mem_of_getElem? (i := 6) rfl)))) (hw _ (List.mem_of_getElem? (i := 6) rfl)) (hw _ (List.mem_of_getElem? (i := 5) rfl)) (hw _ (List.mem_of_getElem? (i := 1) rfl)) (hw _ (List.mem_of_getElem? (i := 7) rfl)) (by decide) (argsL := [(.int p1)]) (rest := []) (rm_off1 l Z a0 hw wC p1 h0 n0 Z0 EC FC) (g := (mkF m 12 #[.val (.int p1), .val (.int (0 : Int32)), .unset, .unset] [(.int p1), (.ref wC)])) rfl (by rw [hml]; rfl) (lenOf pd__I_r_I rfl) rfl (by decide) (Nat.le_of_ble_eq_true rfl) (by decide) (by decide) (hb hby at_12)
  obtain ⟨rfl, Nq11, q11⟩ := Q11
  replace e11 := e11.trans q11
  have N11 := Fr.app N9 Nq11
  refine own_of st11 ?_
  show own_Ends _ _ _ _ _ _ (T11.setTop (mkF m 15 #[.val (.int p1), .val (.int (0 : Int32)), .unset, .unset] [(.int (p1 / (2 : Int32)))]))
  refine own_of (fun t k => XS.istoreN X11.here hx rfl (hb hby at_15) rfl (l' := #[.val (.int p1), .val (.int (0 : Int32)), .val (.int (p1 / (2 : Int32))), .unset]) rfl k) ?_
  show own_Ends _ _ _ _ _ _ (T11.setTop (mkF m 16 #[.val (.int p1), .val (.int (0 : Int32)), .val (.int (p1 / (2 : Int32))), .unset] []))
  obtain ⟨T12, X12, e12, st12⟩ := getS2 X11 hx hZ hown (host := "") (Or.inl (hw _ (List.mem_of_getElem? (i := 19) rfl))) Via.refl e11 SR (g := (mkF m 16 #[.val (.int p1), .val (.int (0 : Int32)), .val (.int (p1 / (2 : Int32))), .unset] [])) rfl (hb hby at_16)
  refine own_of st12 ?_
  show own_Ends _ _ _ _ _ _ (T12.setTop (mkF m 19 #[.val (.int p1), .val (.int (0 : Int32)), .val (.int (p1 / (2 : Int32))), .unset] [(.ref wR)]))
  refine own_of (fun t k => XS.iloadN X12.here hx rfl (hb hby at_19) rfl  k) ?_
  show own_Ends _ _ _ _ _ _ (T12.setTop (mkF m 20 #[.val (.int p1), .val (.int (0 : Int32)), .val (.int (p1 / (2 : Int32))), .unset] [(.int p1), (.ref wR)]))
  obtain ⟨v13, T13, L13, h13, X13, e13, Q13, st13⟩ := own_virtual X12 hx hZ hown e12 ER (hw _ (List.mem_of_getElem? (i := 3) rfl)) (hw _ (List.mem_of_getElem? (i := 4) rfl)) (notFace_of_selects (args := #[]) (mvT hZ (hw _ (List.mem_of_getElem? (i := 6) rfl)))) (hw _ (List.mem_of_getElem? (i := 6) rfl)) (hw _ (List.mem_of_getElem? (i := 5) rfl)) (hw _ (List.mem_of_getElem? (i := 1) rfl)) (hw _ (List.mem_of_getElem? (i := 7) rfl)) (by decide) (argsL := [(.int p1)]) (rest := []) (rm_off2 l Z a0 hw wR p1 h0 n0 Z0 ER FR) (g := (mkF m 20 #[.val (.int p1), .val (.int (0 : Int32)), .val (.int (p1 / (2 : Int32))), .unset] [(.int p1), (.ref wR)])) rfl (by rw [hml]; rfl) (lenOf pd__I_r_I rfl) rfl (by decide) (Nat.le_of_ble_eq_true rfl) (by decide) (by decide) (hb hby at_20)
  obtain ⟨rfl, Nq13, q13⟩ := Q13
  replace e13 := e13.trans q13
  have N13 := Fr.app N11 Nq13
  refine own_of st13 ?_
  show own_Ends _ _ _ _ _ _ (T13.setTop (mkF m 23 #[.val (.int p1), .val (.int (0 : Int32)), .val (.int (p1 / (2 : Int32))), .unset] [(.int p1)]))
  refine own_of (fun t k => XS.istoreN X13.here hx rfl (hb hby at_23) rfl (l' := #[.val (.int p1), .val (.int (0 : Int32)), .val (.int (p1 / (2 : Int32))), .val (.int p1)]) rfl k) ?_
  show own_Ends _ _ _ _ _ _ (T13.setTop (mkF m 24 #[.val (.int p1), .val (.int (0 : Int32)), .val (.int (p1 / (2 : Int32))), .val (.int p1)] []))
  refine own_of (fun t k => XS.iloadN X13.here hx rfl (hb hby at_24) rfl  k) ?_
  show own_Ends _ _ _ _ _ _ (T13.setTop (mkF m 25 #[.val (.int p1), .val (.int (0 : Int32)), .val (.int (p1 / (2 : Int32))), .val (.int p1)] [(.int (0 : Int32))]))
  refine own_of (fun t k => XS.ifYes X13.here hx rfl (pc0 := 25) (pc' := 30) rfl (hb hby at_25) rfl ((if0 _ _).trans (teq (by decide : ((0 : Int32) = (0 : Int32)))).1) (by decide) (by decide) k) ?_
  show own_Ends _ _ _ _ _ _ (T13.setTop (mkF m 30 #[.val (.int p1), .val (.int (0 : Int32)), .val (.int (p1 / (2 : Int32))), .val (.int p1)] []))
  refine own_of (fun t k => XS.iloadN X13.here hx rfl (hb hby at_30) rfl  k) ?_
  show own_Ends _ _ _ _ _ _ (T13.setTop (mkF m 31 #[.val (.int p1), .val (.int (0 : Int32)), .val (.int (p1 / (2 : Int32))), .val (.int p1)] [(.int p1)]))
  refine own_of (fun t k => XS.iloadN X13.here hx rfl (hb hby at_31) rfl  k) ?_
  show own_Ends _ _ _ _ _ _ (T13.setTop (mkF m 32 #[.val (.int p1), .val (.int (0 : Int32)), .val (.int (p1 / (2 : Int32))), .val (.int p1)] [(.int p1), (.int p1)]))
  refine own_of (fun t k => XS.icmpYes X13.here hx rfl (pc0 := 32) (pc' := 37) rfl (hb hby at_32) rfl (teq (rfl : p1 = p1)).1 (by decide) (by decide) k) ?_
  show own_Ends _ _ _ _ _ _ (T13.setTop (mkF m 37 #[.val (.int p1), .val (.int (0 : Int32)), .val (.int (p1 / (2 : Int32))), .val (.int p1)] []))
  refine own_of (fun t k => XS.iloadN X13.here hx rfl (hb hby at_37) rfl  k) ?_
  show own_Ends _ _ _ _ _ _ (T13.setTop (mkF m 38 #[.val (.int p1), .val (.int (0 : Int32)), .val (.int (p1 / (2 : Int32))), .val (.int p1)] [(.int p1)]))
  refine own_of (fun t k => XS.iloadN X13.here hx rfl (hb hby at_38) rfl  k) ?_
  show own_Ends _ _ _ _ _ _ (T13.setTop (mkF m 39 #[.val (.int p1), .val (.int (0 : Int32)), .val (.int (p1 / (2 : Int32))), .val (.int p1)] [(.int (p1 / (2 : Int32))), (.int p1)]))
  obtain ⟨v14, T14, L14, h14, X14, e14, Q14, st14⟩ := own_static X13 hx hZ hown e13 (hw _ (List.mem_of_getElem? (i := 21) rfl)) (hw _ (List.mem_of_getElem? (i := 22) rfl)) (hw _ (List.mem_of_getElem? (i := 23) rfl)) (hw _ (List.mem_of_getElem? (i := 24) rfl)) (by decide) (argsL := [(.int p1), (.int (p1 / (2 : Int32)))]) (rest := []) (rm_half l Z a0 hw p1 h0 n0 Z0) (g := (mkF m 39 #[.val (.int p1), .val (.int (0 : Int32)), .val (.int (p1 / (2 : Int32))), .val (.int p1)] [(.int (p1 / (2 : Int32))), (.int p1)])) rfl (by rw [hml]; rfl) (lenOf pd__II_r_Z rfl) rfl (by decide) (Nat.le_of_ble_eq_true rfl) (by decide) (by decide) (hb hby at_39)
  obtain ⟨rfl, Nq14, q14⟩ := Q14
  replace e14 := e14.trans q14
  have N14 := Fr.app N13 Nq14
  refine own_of st14 ?_
  show own_Ends _ _ _ _ _ _ (T14.setTop (mkF m 42 #[.val (.int p1), .val (.int (0 : Int32)), .val (.int (p1 / (2 : Int32))), .val (.int p1)] [(.int (1 : Int32))]))
  refine own_retN X14 hx hlk e14 (t := .boolean) hret (by simp) (z' := (1 : Int32)) rfl (hb hby at_42) (by decide) (by decide) ?_
  exact ⟨rfl, N14⟩
set_option maxRecDepth 65536 in
set_option maxHeartbeats 40000000 in
theorem comes_1 {Post : Tables → Env → Array Value → State → Outcome → State → Prop} (hpost : ∀ tb e args s v u, (limb_1_1.after args s (.returned v) u = true ∧ limb_1_2.after args s (.returned v) u = true ∧ True) → FrameEnd s (.returned v) u (Jvm.fieldLocs frame_1_writes args s ++ Jvm.arrayLocs frame_1_arrays args s ++ Jvm.staticLocs frame_1_statics s) 0 0 → Post tb e args s (.returned v) u) :
    ArmFor flags0 classFile x code maxLocals ret World_1 tables_1 room_1 Calls_1 rest_1 Pre_1 Post := by
  intro l hfl _ _ p e ha hc hk s m args below hf hA hF happ hP
  obtain ⟨hcalls, hrest, hpre⟩ := hP
  obtain ⟨-, -, -, hnamed, -, -, -, hat⟩ := (Spec.applies_iff hf).mp happ
  obtain ⟨hg, hn⟩ := and_e (Cond.before_iff.mp (show (Jvm.Cond.and given_1 narrow_1).before args s = true from hpre))
  obtain ⟨hcount, hg⟩ := and_e hg
  have hgi0 := hg
  obtain ⟨w0, rfl⟩ : ∃ w0 : Value, args = #[w0] := by
    have hs : args.size = 1 := by simpa [Cond.value, given_1] using hcount
    obtain ⟨L⟩ := args
    match L, hs with
    | [w0], _ => exact ⟨w0, rfl⟩
  have hw := fun d (hd : d ∈ tables_1) => atoms_spec (ws := Jvm.Cond.code x code maxLocals ret :: tables_1) hat d (List.mem_cons_of_mem _ hd)
  have hfit : Fit s := fun {y c} hc i hi => by
    obtain ⟨ha, rfl⟩ := Array.getElem?_eq_some_iff.mp hc
    have q := List.all_eq_true.mp ((Array.all_eq_true_iff_forall_mem.mp hF) _ (Array.getElem_mem ha)) i (List.mem_range.mpr hi)
    simpa [Array.getElem?_eq_getElem hi] using q
  obtain ⟨i0, ei0⟩ := is_v hgi0
  obtain rfl : w0 = (.int i0) := Option.some.inj ei0
  obtain ⟨n1, hn⟩ := and_e hn
  obtain ⟨n2, hn⟩ := and_e hn
  obtain ⟨n3, hn⟩ := and_e hn
  obtain ⟨n4, hn⟩ := and_e hn
  obtain ⟨n5, n6⟩ := and_e hn
  obtain ⟨wL, evL⟩ := exa_v n1
  have SL := Sta.start evL (Or.inr ⟨(hw _ (List.mem_of_getElem? (i := 1) rfl)), (hw _ (List.mem_of_getElem? (i := 2) rfl))⟩)
  have EL := Exa.start evL n1
  have FL : Fld s s.heap wL "java/lang/Enum" "ordinal" "I" (.int (0 : Int32)) := Fld.start ((fld_at evL).symm.trans (own_eq_int n2))
  obtain ⟨wC, evC⟩ := exa_v n3
  have SC := Sta.start evC (Or.inr ⟨(hw _ (List.mem_of_getElem? (i := 1) rfl)), (hw _ (List.mem_of_getElem? (i := 18) rfl))⟩)
  have EC := Exa.start evC n3
  have FC : Fld s s.heap wC "java/lang/Enum" "ordinal" "I" (.int (1 : Int32)) := Fld.start ((fld_at evC).symm.trans (own_eq_int n4))
  obtain ⟨wR, evR⟩ := exa_v n5
  have SR := Sta.start evR (Or.inr ⟨(hw _ (List.mem_of_getElem? (i := 1) rfl)), (hw _ (List.mem_of_getElem? (i := 20) rfl))⟩)
  have ER := Exa.start evR n5
  have FR : Fld s s.heap wR "java/lang/Enum" "ordinal" "I" (.int (2 : Int32)) := Fld.start ((fld_at evR).symm.trans (own_eq_int n6))
  obtain ⟨n, o, h1, h2, h3, _, L, rfl, ⟨rfl, N⟩, hq⟩ := rm0 l s _ hw i0 wL wC wR s.heap s.heap.size (Nat.le_refl _) SL EL FL SC EC FC SR ER FR tables_1 p e ha hc hk s m _ below hf ((Spec.applies_iff_loose hf).mp happ).1 ⟨rfl, State.Warmed39.refl s, rfl⟩ trivial
  refine ⟨n, _, h1, h2, h3, hpost _ _ _ _ _ _ ⟨Cond.after_iff.mpr rfl, Cond.after_iff.mpr (eq_i res_at (Term.int_eval (1)) rfl), trivial⟩ ⟨hq.1, hq.2.1, (hq.2.2.sift fun y hy => Or.inr (N y hy)).mono (by decide) (by decide)⟩⟩
theorem main_1_1 : Claimed_1_1 := comes_1 fun _ _ _ _ _ _ h hF => ⟨h.1, hF⟩
theorem main_1_2 : Claimed_1_2 := comes_1 fun _ _ _ _ _ _ h hF => ⟨h.2.1, hF⟩
end Jvm.Pilot.@@N@@
namespace Jvm.Pilot.@@N@@
open Jvm Jvm.ClassFile Sem Op Lib Jvm.Free Jvm.Stand Jvm.Pilot.@@N@@.Jvm.D
/-! MADE BY PROGRAM (witnessworld.py) out of the Statement's table words and the real class files: 12 classes; the members and pool entries that the words name. The judged class is class 1, her method 2. -/
namespace start1
open Jvm.ClassFile
def u (s : String) : CpInfo := .utf8 (stringToUtf16 s)
/-- a pool by its gaps: so many unusable entries, then the entry; so many at the end -/
def gap : Nat → List CpInfo → List CpInfo
  | 0, r => r
  | n + 1, r => .unusable :: gap n r
def poolList (es : List (Nat × CpInfo)) (last : Nat) : List CpInfo := es.foldr (fun e r => gap e.1 (e.2 :: r)) (gap last [])
def pool (es : List (Nat × CpInfo)) (last : Nat) : Array CpInfo := ⟨poolList es last⟩
def fileOf (pool : Array CpInfo) (this : Nat) (attrs : Array Attribute := #[]) (ms : Array MethodInfo := #[]) (fl : Nat := 33) (sup : Nat := 0) (ifs : Array Nat := #[]) (fds : Array FieldInfo := #[]) : ClassFile where
  minorVersion := 0
  majorVersion := 65
  constantPool := pool
  accessFlags := fl
  thisClass := this
  superClass := sup
  interfaces := ifs
  fields := fds
  methods := ms
  attributes := attrs
def plain (name : String) (sup : Option ClassId) : Class where
  name := name
  kind := .ordinary
  loader := none
  accessFlags := 33
  super := sup
  interfaces := #[]
  cf := none
  fields := #[]
  methods := #[]
  instanceTypes := #[]
  staticTypes := #[]
  resolved := #[]
  callSites := []
  init := .initialized
  statics := none
  mirror := none

def pool0 : Array CpInfo := pool [(5, u "<init>"), (0, u "()V"), (1, .class_ 10), (1, u "java/lang/Object")] 113

def k0m0 : Method := { name := "<init>", desc := "()V", sig := { parameters := [], returnType := none }, accessFlags := 1, code := none }
/-- java/lang/Object -/
def k0 : Class := { plain "java/lang/Object" none with
  accessFlags := 33
  interfaces := #[]
  cf := some (fileOf pool0 8 #[] #[{ accessFlags := 1, nameIndex := 5, descriptorIndex := 6, attributes := #[] }] 33 0 #[] #[])
  fields := #[]
  methods := #[k0m0]
  instanceTypes := #[]
  staticTypes := #[]
  resolved := Array.replicate 124 none
  statics := none }

def pool1 : Array CpInfo := pool [(2, .class_ 4), (1, u "java/lang/Object"), (0, u "<init>"), (0, u "()V"), (0, .long 2), (1, .long 18446744073709551615), (1, .fieldref 12 13), (0, .class_ 14), (0, .nameAndType 15 16), (0, u "com/example/casement/casement/widget/Alignment"), (0, u "LEFT"), (0, u "Lcom/example/casement/casement/widget/Alignment;"), (0, .methodref 12 18), (0, .nameAndType 19 20), (0, u "offset"), (0, u "(I)I"), (0, .fieldref 12 22), (0, .nameAndType 23 16), (0, u "CENTER"), (0, .fieldref 12 25), (0, .nameAndType 26 16), (0, u "RIGHT"), (0, .methodref 28 29), (0, .class_ 30), (0, .nameAndType 31 32), (0, u "com/example/casement/casement/widget/AlignmentOffsetPinLaw"), (0, u "isTruncatedHalf"), (0, u "(II)Z"), (3, u "law"), (0, u "(I)Z")] 2

def k1m0 : Method := { name := "<init>", desc := "()V", sig := { parameters := [], returnType := none }, accessFlags := 2, code := none }
def k1c1 : Code := { maxStack := 6, maxLocals := 4, code := method_2_code, exceptionTable := #[], attributes := #[] }
def k1m1 : Method := { name := "isTruncatedHalf", desc := "(II)Z", sig := { parameters := [.int, .int], returnType := some .boolean }, accessFlags := 10, code := some k1c1 }
def k1c2 : Code := { maxStack := 2, maxLocals := 4, code := code, exceptionTable := #[], attributes := #[] }
def k1m2 : Method := { name := "law", desc := "(I)Z", sig := { parameters := [.int], returnType := some .boolean }, accessFlags := 9, code := some k1c2 }
/-- com/example/casement/casement/widget/AlignmentOffsetPinLaw -/
def k1 : Class := { plain "com/example/casement/casement/widget/AlignmentOffsetPinLaw" (some 0) with
  accessFlags := 49
  interfaces := #[]
  cf := some (fileOf pool1 28 #[] #[{ accessFlags := 2, nameIndex := 5, descriptorIndex := 6, attributes := #[] }, { accessFlags := 10, nameIndex := 31, descriptorIndex := 32, attributes := #[] }, { accessFlags := 9, nameIndex := 36, descriptorIndex := 37, attributes := #[] }] 49 2 #[] #[])
  fields := #[]
  methods := #[k1m0, k1m1, k1m2]
  instanceTypes := #[]
  staticTypes := #[]
  resolved := Array.replicate 40 none
  statics := none }

def pool2 : Array CpInfo := pool [(1, .class_ 2), (0, u "java/lang/constant/Constable"), (0, .class_ 4), (0, u "java/lang/Object")] 6

/-- java/lang/constant/Constable -/
def k2 : Class := { plain "java/lang/constant/Constable" (some 0) with
  accessFlags := 1537
  interfaces := #[]
  cf := some (fileOf pool2 1 #[] #[] 1537 3 #[] #[])
  fields := #[]
  methods := #[]
  instanceTypes := #[]
  staticTypes := #[]
  resolved := Array.replicate 11 none
  statics := none }

def pool3 : Array CpInfo := pool [(1, .class_ 2), (0, u "java/lang/Comparable"), (0, .class_ 4), (0, u "java/lang/Object")] 7

/-- java/lang/Comparable -/
def k3 : Class := { plain "java/lang/Comparable" (some 0) with
  accessFlags := 1537
  interfaces := #[]
  cf := some (fileOf pool3 1 #[] #[] 1537 3 #[] #[])
  fields := #[]
  methods := #[]
  instanceTypes := #[]
  staticTypes := #[]
  resolved := Array.replicate 12 none
  statics := none }

def pool4 : Array CpInfo := pool [(1, .class_ 2), (0, u "java/io/Serializable"), (0, .class_ 4), (0, u "java/lang/Object")] 2

/-- java/io/Serializable -/
def k4 : Class := { plain "java/io/Serializable" (some 0) with
  accessFlags := 1537
  interfaces := #[]
  cf := some (fileOf pool4 1 #[] #[] 1537 3 #[] #[])
  fields := #[]
  methods := #[]
  instanceTypes := #[]
  staticTypes := #[]
  resolved := Array.replicate 7 none
  statics := none }

def pool5 : Array CpInfo := pool [(2, .class_ 4), (1, u "java/lang/Enum"), (0, u "name"), (0, u "Ljava/lang/String;"), (0, .fieldref 2 8), (0, .nameAndType 9 10), (0, u "ordinal"), (0, u "I"), (1, .class_ 14), (1, u "java/lang/Object"), (4, u "hash"), (86, .class_ 108), (1, u "java/lang/Enum$EnumDesc"), (2, .class_ 112), (0, u "java/lang/constant/Constable"), (0, .class_ 114), (0, u "java/lang/Comparable"), (0, .class_ 116), (0, u "java/io/Serializable"), (9, u "()I")] 77

def k5c0 : Code := { maxStack := 1, maxLocals := 1, code := jdk_37_method_2_code, exceptionTable := #[], attributes := #[] }
def k5m0 : Method := { name := "ordinal", desc := "()I", sig := { parameters := [], returnType := some .int }, accessFlags := 17, code := some k5c0 }
/-- java/lang/Enum -/
def k5 : Class := { plain "java/lang/Enum" (some 0) with
  accessFlags := 1057
  interfaces := #[2, 3, 4]
  cf := some (fileOf pool5 2 #[.nestMembers #[106]] #[{ accessFlags := 17, nameIndex := 9, descriptorIndex := 126, attributes := #[] }] 1057 12 #[111, 113, 115] #[{ accessFlags := 18, nameIndex := 5, descriptorIndex := 6, attributes := #[] }, { accessFlags := 18, nameIndex := 9, descriptorIndex := 10, attributes := #[] }, { accessFlags := 2, nameIndex := 19, descriptorIndex := 10, attributes := #[] }])
  fields := #[{ name := "name", type := (.object "java/lang/String"), accessFlags := 18, slot := 0, constantValue := 0 }, { name := "ordinal", type := .int, accessFlags := 18, slot := 1, constantValue := 0 }, { name := "hash", type := .int, accessFlags := 2, slot := 2, constantValue := 0 }]
  methods := #[k5m0]
  instanceTypes := #[(.object "java/lang/String"), .int, .int]
  staticTypes := #[]
  resolved := Array.replicate 204 none
  statics := none }

def pool6 : Array CpInfo := pool [(1, .class_ 2), (0, u "com/example/casement/casement/widget/Alignment"), (2, u "LEFT"), (0, u "Lcom/example/casement/casement/widget/Alignment;"), (2, u "CENTER"), (2, u "RIGHT"), (2, u "$VALUES"), (0, u "[Lcom/example/casement/casement/widget/Alignment;"), (6, .class_ 25), (1, u "java/lang/Enum"), (6, .methodref 1 33), (0, .nameAndType 34 35), (0, u "ordinal"), (0, u "()I"), (20, u "offset"), (0, u "(I)I")] 5

def k6c0 : Code := { maxStack := 4, maxLocals := 2, code := prog_6_method_4_code, exceptionTable := #[], attributes := #[] }
def k6m0 : Method := { name := "offset", desc := "(I)I", sig := { parameters := [.int], returnType := some .int }, accessFlags := 0, code := some k6c0 }
/-- com/example/casement/casement/widget/Alignment -/
def k6 : Class := { plain "com/example/casement/casement/widget/Alignment" (some 5) with
  accessFlags := 16433
  interfaces := #[]
  cf := some (fileOf pool6 1 #[] #[{ accessFlags := 0, nameIndex := 56, descriptorIndex := 57, attributes := #[] }] 16433 23 #[] #[{ accessFlags := 16409, nameIndex := 5, descriptorIndex := 6, attributes := #[] }, { accessFlags := 16409, nameIndex := 9, descriptorIndex := 6, attributes := #[] }, { accessFlags := 16409, nameIndex := 12, descriptorIndex := 6, attributes := #[] }, { accessFlags := 4122, nameIndex := 15, descriptorIndex := 16, attributes := #[] }])
  fields := #[{ name := "LEFT", type := (.object "com/example/casement/casement/widget/Alignment"), accessFlags := 16409, slot := 0, constantValue := 0 }, { name := "CENTER", type := (.object "com/example/casement/casement/widget/Alignment"), accessFlags := 16409, slot := 1, constantValue := 0 }, { name := "RIGHT", type := (.object "com/example/casement/casement/widget/Alignment"), accessFlags := 16409, slot := 2, constantValue := 0 }, { name := "$VALUES", type := (.array (.object "com/example/casement/casement/widget/Alignment")), accessFlags := 4122, slot := 3, constantValue := 0 }]
  methods := #[k6m0]
  instanceTypes := #[(.object "java/lang/String"), .int, .int]
  staticTypes := #[(.object "com/example/casement/casement/widget/Alignment"), (.object "com/example/casement/casement/widget/Alignment"), (.object "com/example/casement/casement/widget/Alignment"), (.array (.object "com/example/casement/casement/widget/Alignment"))]
  resolved := Array.replicate 63 none
  statics := some 0 }

def pool7 : Array CpInfo := pool [(1, u "java/lang/Cloneable"), (0, .class_ 1), (0, u "java/lang/Object"), (0, .class_ 3)] 3

/-- java/lang/Cloneable -/
def k7 : Class := { plain "java/lang/Cloneable" (some 0) with
  accessFlags := 1537
  interfaces := #[]
  cf := some (fileOf pool7 2 #[] #[] 1537 4 #[] #[])
  fields := #[]
  methods := #[]
  instanceTypes := #[]
  staticTypes := #[]
  resolved := Array.replicate 8 none
  statics := none }

/-- the primitive byte -/
def k8 : Class := { plain "byte" none with kind := .primitive 'B', accessFlags := 0x411 }
/-- [B -/
def k9 : Class := { plain "[B" (some 0) with kind := .array 8 .byte, interfaces := #[7, 4], accessFlags := 1041 }

/-- the primitive int -/
def k10 : Class := { plain "int" none with kind := .primitive 'I', accessFlags := 0x411 }
/-- [I -/
def k11 : Class := { plain "[I" (some 0) with kind := .array 10 .int, interfaces := #[7, 4], accessFlags := 1041 }

def heap : Heap := #[{ cls := 6, slots := #[.ref 1, .ref 2, .ref 3, .null], vm := .statics 6 },
  { cls := 6, slots := #[.null, .int 0, .int 0], vm := .none },
  { cls := 6, slots := #[.null, .int 1, .int 0], vm := .none },
  { cls := 6, slots := #[.null, .int 2, .int 0], vm := .none }]
def classes : Array Class := #[k0, k1, k2, k3, k4, k5, k6, k7, k8, k9, k10, k11]
def interned : List (Array UInt16 × Addr) := []
def slotsUsed : Nat := 13
def theMethod : MethodId := ⟨1, 2⟩
def args0 : Array Value := #[.int 5]
def aboutOver (below : List Frame) : State where
  vm := { classes := classes, interned := interned.toArray }
  heap := heap
  slotsUsed := slotsUsed
  threads := #[{ frames := .invoking theMethod args0 :: below }]
def below0 : List Frame := [.native { method := ⟨0, 0⟩, args := #[] }]
def about1 : State := aboutOver below0
def p0 : Program := .bare "" "" ""
def e0 : Env := launch0.env 0 0 0
theorem w_frames : about1.frames = Frame.invoking theMethod args0 :: below0 := rfl
set_option maxRecDepth 65536 in
theorem w_args : argsFit about1.vm theMethod args0 = true := by decide +kernel
set_option maxRecDepth 65536 in
theorem w_heap : heapFits about1 = true := by decide +kernel
set_option maxRecDepth 65536 in
theorem w_runnable : about1.curStatus? = some .runnable := by decide +kernel
set_option maxRecDepth 65536 in
theorem w_alone : about1.alone = true := by decide +kernel
set_option maxRecDepth 65536 in
theorem w_named : about1.methodNamed? x = some theMethod := by decide +kernel
set_option maxRecDepth 65536 in
theorem w_hears : about1.hears theMethod below0 = true := by decide +kernel
set_option maxRecDepth 65536 in
theorem w_ripe : about1.ripe theMethod args0 below0 = true := by decide +kernel
theorem w_running : about1.status = .running := rfl
set_option maxRecDepth 65536 in
theorem w_room : about1.hasRoom e0.platform room_1 = true :=
  launch0.hasRoom_least _ room_1 (by decide +kernel) (by decide +kernel) (by decide +kernel) (by decide +kernel) (by decide +kernel) (by decide +kernel)
theorem allAtoms_all (ts : List Jvm.Cond) (a : Array Jvm.Value) (st : Jvm.State) : (allAtoms ts).before a st = ts.all (fun c => c.before a st) := by
  induction ts with
  | nil => rfl
  | cons c t ih =>
    show (Jvm.Cond.and c (allAtoms t)).before a st = _
    rw [Jvm.Cond.before_and, ih, List.all_cons]
def words1 : List Jvm.Cond := Jvm.Cond.code x code maxLocals ret :: tables_1
/-- a 'code' word, met by the world's own term for the bytes: nothing is compared byte by byte -/
theorem code_word {y : MethodName} {bytes : ByteArray} {mx : Nat} {rt : Option FieldType} {a : Array Value} {s : State} {m : MethodId} {meth : Method} {c : Code} (h1 : s.methodNamed? y = some m) (h2 : s.vm.method? m = some meth) (h3 : meth.code = some c) (h4 : c.code = bytes)
    (h5 : (c.maxLocals == mx && c.exceptionTable.isEmpty && decide (c.maxStack ≤ mostOperands) && decide (meth.sig.returnType = rt) && !meth.locks && decide (parseMethodDescriptor y.desc = some meth.sig)) = true) : (Jvm.Cond.code y bytes mx rt).before a s = true := by
  simp only [Bool.and_eq_true, beq_iff_eq, Bool.not_eq_true', decide_eq_true_eq] at h5
  obtain ⟨⟨⟨⟨⟨g1, g2⟩, g3⟩, g4⟩, g5⟩, g6⟩ := h5
  simp [Cond.before, Cond.holds, Cond.value, h1, h2, h3, h4, g1, g2, g3, g4, g5, g6]
def isCode : Jvm.Cond → Bool
  | .code _ _ _ _ => true
  | _ => false
theorem all_split {L : List Jvm.Cond} {P : Jvm.Cond → Bool} (h1 : L.all (fun c => isCode c || P c) = true) (h2 : ∀ c ∈ L.filter isCode, P c = true) : L.all P = true := by
  refine List.all_eq_true.mpr fun c hc => ?_
  have h := List.all_eq_true.mp h1 c hc
  rcases Bool.eq_false_or_eq_true (isCode c) with hi | hi
  · exact h2 c (List.mem_filter.mpr ⟨hc, hi⟩)
  · simpa [hi] using h
set_option maxRecDepth 65536 in
theorem w_c0 : (Jvm.Cond.code x code maxLocals ret).before args0 about1 = true := code_word (m := ⟨1, 2⟩) (meth := k1m2) (c := k1c2) (by decide +kernel) rfl rfl rfl (by decide +kernel)
set_option maxRecDepth 65536 in
theorem w_c1 : (Jvm.Cond.code ({ cls := "com/example/casement/casement/widget/Alignment", name := "offset", desc := "(I)I" } : Jvm.MethodName) prog_6_method_4_code (2 : Nat) (Option.some Jvm.ClassFile.FieldType.int)).before args0 about1 = true := code_word (m := ⟨6, 0⟩) (meth := k6m0) (c := k6c0) (by decide +kernel) rfl rfl rfl (by decide +kernel)
set_option maxRecDepth 65536 in
theorem w_c2 : (Jvm.Cond.code ({ cls := "java/lang/Enum", name := "ordinal", desc := "()I" } : Jvm.MethodName) jdk_37_method_2_code (1 : Nat) (Option.some Jvm.ClassFile.FieldType.int)).before args0 about1 = true := code_word (m := ⟨5, 0⟩) (meth := k5m0) (c := k5c0) (by decide +kernel) rfl rfl rfl (by decide +kernel)
set_option maxRecDepth 65536 in
theorem w_c3 : (Jvm.Cond.code ({ cls := "com/example/casement/casement/widget/AlignmentOffsetPinLaw", name := "isTruncatedHalf", desc := "(II)Z" } : Jvm.MethodName) method_2_code (4 : Nat) (Option.some Jvm.ClassFile.FieldType.boolean)).before args0 about1 = true := code_word (m := ⟨1, 1⟩) (meth := k1m1) (c := k1c1) (by decide +kernel) rfl rfl rfl (by decide +kernel)
def codes1 : List Jvm.Cond := [Jvm.Cond.code x code maxLocals ret, Jvm.Cond.code ({ cls := "com/example/casement/casement/widget/Alignment", name := "offset", desc := "(I)I" } : Jvm.MethodName) prog_6_method_4_code (2 : Nat) (Option.some Jvm.ClassFile.FieldType.int), Jvm.Cond.code ({ cls := "java/lang/Enum", name := "ordinal", desc := "()I" } : Jvm.MethodName) jdk_37_method_2_code (1 : Nat) (Option.some Jvm.ClassFile.FieldType.int), Jvm.Cond.code ({ cls := "com/example/casement/casement/widget/AlignmentOffsetPinLaw", name := "isTruncatedHalf", desc := "(II)Z" } : Jvm.MethodName) method_2_code (4 : Nat) (Option.some Jvm.ClassFile.FieldType.boolean)]
set_option maxRecDepth 65536 in
theorem codes_eq : words1.filter isCode = codes1 := rfl
theorem w_codes : ∀ c ∈ words1.filter isCode, c.before args0 about1 = true := by
  rw [codes_eq]
  intro c hc
  simp only [codes1, List.mem_cons, List.not_mem_nil, or_false] at hc
  rcases hc with rfl | rfl | rfl | rfl
  · exact w_c0
  · exact w_c1
  · exact w_c2
  · exact w_c3
set_option maxRecDepth 65536 in
theorem w_t1 : (words1.take 24).all (fun c => isCode c || c.before args0 about1) = true := by decide +kernel
set_option maxRecDepth 65536 in
theorem w_t2 : (words1.drop 24).all (fun c => isCode c || c.before args0 about1) = true := by decide +kernel
theorem w_tables : (allAtoms (Jvm.Cond.code x code maxLocals ret :: tables_1)).before args0 about1 = true := by
  rw [allAtoms_all]
  show words1.all (fun c => c.before args0 about1) = true
  refine all_split ?_ w_codes
  rw [← List.take_append_drop 24 words1, List.all_append, w_t1, w_t2]
  rfl
set_option maxRecDepth 65536 in
theorem w_case : (Jvm.Cond.and given_1 narrow_1).before args0 about1 = true := by decide +kernel
theorem w_applies : (headSpec (Jvm.Cond.code x code maxLocals ret :: tables_1) room_1).applies x e0.platform about1 = true :=
  (Spec.applies_iff w_frames).mpr ⟨w_running, w_runnable, w_alone, w_named, w_hears, w_ripe, w_room, w_tables⟩
theorem atStart : AtStart classFile x code maxLocals ret World_1 tables_1 room_1 Calls_1 rest_1 Pre_1 launch0 p0 e0 about1 theMethod args0 below0 :=
  ⟨lists_1, trivial, launch0.admits_env _ _ _, launch0.least_env, fairChoices_fair.cas, fairChoices_fair.clock, w_frames, w_args, w_heap, w_applies, trivial, trivial, w_case⟩
end start1
theorem witness_1 : WitnessClaimed_1 := ⟨start1.p0, start1.e0, start1.about1, start1.theMethod, start1.args0, start1.below0, start1.atStart⟩
end Jvm.Pilot.@@N@@
