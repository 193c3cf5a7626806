import JvmDerived
import JvmDerived.Pilot.@@N@@Statement
import JvmDerived.Pilot.@@N@@Code
set_option linter.unusedVariables false
set_option linter.unusedSimpArgs false
namespace Jvm.Pilot.@@N@@
open Jvm Jvm.ClassFile Sem Op Lib Jvm.Free Jvm.Stand Jvm.LawKit Jvm.RoadKit Bundle Jvm.Pilot.@@N@@.Jvm.D
section Own
variable {p : Program} {l : Launch} {e : Env} {R : Room} {s : State} {m : MethodId} {args : Array Value} {below : List Frame} {meth : Method} {c : Code} {T : State} {locs : List Loc} {cells slots : Nat} {Z : State} {a0 : Array Value} {h h0 : Heap} {Q : Option Value → Heap → List Loc → Prop} {S S' : State}
/-- a body's contract: from the heap h0 with the arguments as' it returns, and Q says of the value, the heap and the places written -/
def own_Met (l : Launch) (Z : State) (y : MethodName) (bytes : ByteArray) (maxL : Nat) (rt : Option FieldType) (rm : Room) (as' : Array Value) (h0 : Heap) (Q : Option Value → Heap → List Loc → Prop) : Prop :=
  ∀ ws : List Jvm.Cond, MetFree l y (head1 (Jvm.Cond.code y bytes maxL rt :: ws) rm) (fun a U => a = as' ∧ Z.Warmed39 U.vm ∧ U.heap = h0) (fun _ _ _ _ _ => True) (fun _ U o U' => ∃ v L, o = .returned v ∧ Q v U'.heap L ∧ FrameEnd U o U' L rm.cells rm.slots)
/-- from S the body comes to its end, and Q holds there -/
def own_Ends (p : Program) (e : Env) (below : List Frame) (s : State) (rm : Room) (Q : Option Value → Heap → List Loc → Prop) (S : State) : Prop :=
  ∃ s₂ o, Steps p.tables e below S s₂ ∧ s₂.status = .running ∧ Ended s₂ below o ∧ ∃ v L, o = .returned v ∧ Q v s₂.heap L ∧ FrameEnd s o s₂ L rm.cells rm.slots
theorem own_of (hs : ∀ t, Steps p.tables e below S' t → Steps p.tables e below S t) (k : own_Ends p e below s R Q S') : own_Ends p e below s R Q S := by
  obtain ⟨s₂, o, h1, h2⟩ := k; exact ⟨s₂, o, hs _ h1, h2⟩
theorem own_tr (hs : Steps p.tables e below S S') (k : own_Ends p e below s R Q S') : own_Ends p e below s R Q S := by
  obtain ⟨s₂, o, h1, h2⟩ := k; exact ⟨s₂, o, hs.trans h1, h2⟩
theorem own_ends_mono {Q' : Option Value → Heap → List Loc → Prop} (hq : ∀ v h L, Q v h L → Q' v h L) (k : own_Ends p e below s R Q S) : own_Ends p e below s R Q' S := by
  obtain ⟨s₂, o, h1, h2, h3, v, L, h4, h5, h6⟩ := k; exact ⟨s₂, o, h1, h2, h3, v, L, h4, hq _ _ _ h5, h6⟩
theorem own_met_mono {y : MethodName} {bytes : ByteArray} {maxL : Nat} {rt : Option FieldType} {rm : Room} {as' : Array Value} {Q' : Option Value → Heap → List Loc → Prop} (k : own_Met l Z y bytes maxL rt rm as' h0 Q) (hq : ∀ v h L, Q v h L → Q' v h L) : own_Met l Z y bytes maxL rt rm as' h0 Q' := by
  intro ws p e ha hc hk s m args below hf happ hP hK
  obtain ⟨n, o, g1, g2, g3, v, L, g4, g5, g6⟩ := k ws p e ha hc hk s m args below hf happ hP hK
  exact ⟨n, o, g1, g2, g3, v, L, g4, hq _ _ _ g5, g6⟩
theorem own_body {y : MethodName} {bytes : ByteArray} {maxL : Nat} {rt : Option FieldType} {rm : Room} {as' : Array Value} (hpl : plainFor y = true)
    (body : ∀ (p : Program) (e : Env) (s : State) (m : MethodId) (below : List Frame) (meth : Method) (c : Code) (T : State), Stand p l e rm s m as' below meth c T [] 0 0 → T.heap = h0 → p.tables.exec = Jvm.exec → c.code = bytes → c.maxLocals = maxL → s.vm.findClass y.cls = some m.cls → meth.name = y.name → meth.sig.returnType = rt → meth.locks = false → Z.Warmed39 s.vm → own_Ends p e below s rm Q (T.setTop (entryFrame m as' maxL))) :
    own_Met l Z y bytes maxL rt rm as' h0 Q := by
  intro ws
  refine MetFree.of_bodySF hpl hisR ?_
  intro p e s m args below meth c s₁ Bd hml0 hP hK
  obtain ⟨rfl, hZ, hh⟩ := hP
  exact body p e s m below meth c s₁ (Stand.of_body Bd) (by rw [← hh, Bd.state]; rfl) Bd.exec Bd.bytes hml0 (findClass_of_methodNamed Bd.named) (name_of_methodNamed Bd.named Bd.method).1 Bd.returns Bd.notSynchronized hZ
theorem own_ret (X : Stand p l e R s m args below meth c T locs cells slots) (hlk : meth.locks = false) {v : Option Value} (hv : meth.sig.returnType = none → v = none) (eT : T.heap = h) (hc : cells ≤ R.cells) (hs : slots ≤ R.slots) (hq : Q v h locs)
    (st : ∀ fs : List Frame, (∀ (f : JFrame) (acts : List Action), f.method = m → f.locked = none → f.entered = [] → (doReturn e (T.setTop f) acts v).1 = T.setFrames fs) → Steps p.tables e below S (T.setFrames fs)) : own_Ends p e below s R Q S := by
  subst eT
  obtain ⟨fs, hr, hrun, hended, hW, hsame⟩ := X.leave hv hlk
  exact ⟨_, _, st fs hr, hrun, hended, _, _, rfl, hq, ⟨_, rfl⟩, hW, hsame.mono hc hs⟩
theorem own_retI (X : Stand p l e R s m args below meth c T locs cells slots) (hx : p.tables.exec = Jvm.exec) (hlk : meth.locks = false) (eT : T.heap = h) {pc : Nat} {Ls : Array Slot} {z : Int32} {rest : List Value} (hret : meth.sig.returnType = some .int) (hd : decode c.code pc = .ok (.ireturn, 1))
    (hc : cells ≤ R.cells) (hs : slots ≤ R.slots) (hq : Q (some (.int z)) h locs) : own_Ends p e below s R Q (T.setTop (mkF m pc Ls (.int z :: rest))) :=
  own_ret X hlk (fun q => by rw [hret] at q; cases q) eT hc hs hq fun fs hr => retOut X hx hret rfl (Or.inl ⟨rfl, Or.inl rfl, z, rfl⟩) hd hr
theorem own_retN (X : Stand p l e R s m args below meth c T locs cells slots) (hx : p.tables.exec = Jvm.exec) (hlk : meth.locks = false) (eT : T.heap = h) {pc : Nat} {Ls : Array Slot} {z z' : Int32} {rest : List Value} {t : FieldType} (hret : meth.sig.returnType = some t) (ht : t = .boolean ∨ t = .byte ∨ t = .char ∨ t = .short) (hz : nar t z = z') (hd : decode c.code pc = .ok (.ireturn, 1))
    (hc : cells ≤ R.cells) (hs : slots ≤ R.slots) (hq : Q (some (.int z')) h locs) : own_Ends p e below s R Q (T.setTop (mkF m pc Ls (.int z :: rest))) := by
  subst hz
  exact own_ret X hlk (fun q => by rw [hret] at q; cases q) eT hc hs hq fun fs hr => retN X hx hret ht hd hr
theorem own_retJ (X : Stand p l e R s m args below meth c T locs cells slots) (hx : p.tables.exec = Jvm.exec) (hlk : meth.locks = false) (eT : T.heap = h) {pc : Nat} {Ls : Array Slot} {z : Int64} {rest : List Value} (hret : meth.sig.returnType = some .long) (hd : decode c.code pc = .ok (.lreturn, 1))
    (hc : cells ≤ R.cells) (hs : slots ≤ R.slots) (hq : Q (some (.long z)) h locs) : own_Ends p e below s R Q (T.setTop (mkF m pc Ls (.long z :: rest))) :=
  own_ret X hlk (fun q => by rw [hret] at q; cases q) eT hc hs hq fun fs hr => retOut X hx hret rfl (Or.inr (Or.inl ⟨rfl, rfl, z, rfl⟩)) hd hr
theorem own_retA (X : Stand p l e R s m args below meth c T locs cells slots) (hx : p.tables.exec = Jvm.exec) (hlk : meth.locks = false) (eT : T.heap = h) {pc : Nat} {Ls : Array Slot} {w : Value} {rest : List Value} {t : FieldType} (hret : meth.sig.returnType = some t) (ht : t.isReference = true) (hw : w.isRef = true) (hd : decode c.code pc = .ok (.areturn, 1))
    (hc : cells ≤ R.cells) (hs : slots ≤ R.slots) (hq : Q (some w) h locs) : own_Ends p e below s R Q (T.setTop (mkF m pc Ls (w :: rest))) :=
  own_ret X hlk (fun q => by rw [hret] at q; cases q) eT hc hs hq fun fs hr => retOut X hx hret (by rcases ref_cases hw with rfl | ⟨z, rfl⟩ <;> cases t <;> first | rfl | (simp [FieldType.isReference] at ht)) (Or.inr (Or.inr (Or.inr (Or.inr ⟨rfl, ht, hw⟩)))) hd hr
theorem own_retV (X : Stand p l e R s m args below meth c T locs cells slots) (hx : p.tables.exec = Jvm.exec) (hlk : meth.locks = false) (eT : T.heap = h) {pc : Nat} {Ls : Array Slot} (hret : meth.sig.returnType = none) (hd : decode c.code pc = .ok (.return_, 1))
    (hc : cells ≤ R.cells) (hs : slots ≤ R.slots) (hq : Q none h locs) : own_Ends p e below s R Q (T.setTop (mkF m pc Ls [])) :=
  own_ret X hlk (fun _ => rfl) eT hc hs hq fun fs hr => X.returnOut hx hret hd hr
/-! calls by the callee's contract -/
variable {y z : MethodName} {bytes : ByteArray} {maxL : Nat} {rt : Option FieldType} {rm : Room} {Qc : Option Value → Heap → List Loc → Prop} {own C : String} {index : Nat} {g : JFrame} {argsL rest : List Value} {b : Addr}
theorem own_static (X : Stand p l e R s m args below meth c T locs cells slots) (hx : p.tables.exec = Jvm.exec) (hZ : Z.Warmed39 s.vm) (hown : s.vm.findClass own = some m.cls) (eT : T.heap = h)
    (w1 : (Jvm.Cond.methodLink own index y).before a0 Z = true) (w2 : (Jvm.Cond.static y).before a0 Z = true) (w3 : (Jvm.Cond.initialized y.cls).before a0 Z = true) (w4 : (Jvm.Cond.code y bytes maxL rt).before a0 Z = true)
    (hy : y.cls ≠ "java/lang/invoke/MethodHandle" ∧ y.cls ≠ "java/lang/invoke/VarHandle") (hM : own_Met l Z y bytes maxL rt rm argsL.toArray h Qc)
    (hg : g.method = m) (hsz : g.locals.size = c.maxLocals) (hlen : ∀ sig, parseMethodDescriptor y.desc = some sig → argsL.length = sig.parameters.length) (hst : g.stack = argsL.reverse ++ rest)
    (hf : rm.frames + 1 ≤ R.frames) (hl : (2 * g.monitorRoom + (rest.map fun v => v.category).sum) + (maxL + 11) + rm.locals ≤ R.locals) (hc : cells + rm.cells ≤ R.cells) (hs : slots + rm.slots ≤ R.slots)
    (hd : decode c.code g.pc = .ok (.invokestatic index, 3)) :
    ∃ (v : Option Value) (T' : State) (L : List Loc) (h' : Heap), Stand p l e R s m args below meth c T' (locs ++ L) (cells + rm.cells) (slots + rm.slots) ∧ T'.heap = h' ∧ Qc v h' L ∧ ∀ t, Steps p.tables e below (T'.setTop { g with pc := g.pc + 3, stack := v.toList ++ rest }) t → Steps p.tables e below (T.setTop g) t := by
  obtain ⟨v, _, ⟨T', L', k', n'⟩, -, X', ⟨Lc, hQ, e1, e2, e3⟩, st⟩ := Jvm.LawKit.callS X hx hown (mvT hZ w1) (mvT hZ w2) (mvT hZ w3) (mvT hZ w4) hy (backOf (hM []) hZ w4 w3 hf hl) hg hsz hlen hst (Nat.le_refl _) hd (fun _ _ => ⟨rfl, eT, hc, hs⟩)
  dsimp only [Pt.U, Pt.locs, Pt.cells, Pt.slots] at X' e1 e2 e3 st hQ
  subst e1 e2 e3
  exact ⟨v, T', Lc, _, X', rfl, hQ, st⟩
theorem own_special (X : Stand p l e R s m args below meth c T locs cells slots) (hx : p.tables.exec = Jvm.exec) (hZ : Z.Warmed39 s.vm) (hown : s.vm.findClass own = some m.cls) (eT : T.heap = h) (hy1 : y.name = "<init>")
    (w1 : (Jvm.Cond.methodLink own index y).before a0 Z = true) (w2 : (Jvm.Cond.instanceMethod y).before a0 Z = true) (w3 : (Jvm.Cond.initialized y.cls).before a0 Z = true) (w4 : (Jvm.Cond.code y bytes maxL none).before a0 Z = true)
    (hy : y.cls ≠ "java/lang/invoke/MethodHandle" ∧ y.cls ≠ "java/lang/invoke/VarHandle") (hM : own_Met l Z y bytes maxL none rm (.ref b :: argsL).toArray h Qc)
    (hg : g.method = m) (hsz : g.locals.size = c.maxLocals) (hlen : ∀ sig, parseMethodDescriptor y.desc = some sig → argsL.length = sig.parameters.length) (hst : g.stack = argsL.reverse ++ .ref b :: rest)
    (hf : rm.frames + 1 ≤ R.frames) (hl : (2 * g.monitorRoom + (rest.map fun v => v.category).sum) + (maxL + 11) + rm.locals ≤ R.locals) (hc : cells + rm.cells ≤ R.cells) (hs : slots + rm.slots ≤ R.slots)
    (hd : decode c.code g.pc = .ok (.invokespecial index, 3)) :
    ∃ (v : Option Value) (T' : State) (L : List Loc) (h' : Heap), Stand p l e R s m args below meth c T' (locs ++ L) (cells + rm.cells) (slots + rm.slots) ∧ T'.heap = h' ∧ Qc v h' L ∧ ∀ t, Steps p.tables e below (T'.setTop { g with pc := g.pc + 3, stack := v.toList ++ rest }) t → Steps p.tables e below (T.setTop g) t := by
  obtain ⟨v, _, ⟨T', L', k', n'⟩, -, X', ⟨Lc, hQ, e1, e2, e3⟩, st⟩ := X.specialBack hx hy1 hown (mvT hZ w1) (mvT hZ w2) (mvT hZ w4) hy (backOf (hM []) hZ w4 w3 hf hl) hg hsz (Steps.refl _) hlen hst (Nat.le_refl _) hd (fun _ _ => ⟨rfl, eT, hc, hs⟩)
  dsimp only [Pt.U, Pt.locs, Pt.cells, Pt.slots] at X' e1 e2 e3 st hQ
  subst e1 e2 e3
  exact ⟨v, T', Lc, _, X', rfl, hQ, fun t k => st.trans k⟩
theorem own_virtual (X : Stand p l e R s m args below meth c T locs cells slots) (hx : p.tables.exec = Jvm.exec) (hZ : Z.Warmed39 s.vm) (hown : s.vm.findClass own = some m.cls) (eT : T.heap = h) (E : Exa Z h b C)
    (w1 : (Jvm.Cond.methodLink own index y).before a0 Z = true) (w2 : (Jvm.Cond.declares y).before a0 Z = true) (hnf : NotFace s y) (w5 : (Jvm.Cond.selects C y z).before a0 Z = true) (w6 : (Jvm.Cond.instanceMethod z).before a0 Z = true) (w3 : (Jvm.Cond.initialized z.cls).before a0 Z = true) (w4 : (Jvm.Cond.code z bytes maxL rt).before a0 Z = true)
    (hy : y.cls ≠ "java/lang/invoke/MethodHandle" ∧ y.cls ≠ "java/lang/invoke/VarHandle") (hM : own_Met l Z z bytes maxL rt rm (.ref b :: argsL).toArray h Qc)
    (hg : g.method = m) (hsz : g.locals.size = c.maxLocals) (hlen : ∀ sig, parseMethodDescriptor y.desc = some sig → argsL.length = sig.parameters.length) (hst : g.stack = argsL.reverse ++ .ref b :: rest)
    (hf : rm.frames + 1 ≤ R.frames) (hl : (2 * g.monitorRoom + (rest.map fun v => v.category).sum) + (maxL + 11) + rm.locals ≤ R.locals) (hc : cells + rm.cells ≤ R.cells) (hs : slots + rm.slots ≤ R.slots)
    (hd : decode c.code g.pc = .ok (.invokevirtual index, 3)) :
    ∃ (v : Option Value) (T' : State) (L : List Loc) (h' : Heap), Stand p l e R s m args below meth c T' (locs ++ L) (cells + rm.cells) (slots + rm.slots) ∧ T'.heap = h' ∧ Qc v h' L ∧ ∀ t, Steps p.tables e below (T'.setTop { g with pc := g.pc + 3, stack := v.toList ++ rest }) t → Steps p.tables e below (T.setTop g) t := by
  obtain ⟨cq, kq, qa, qb, qc⟩ := isOf hZ eT E
  obtain ⟨v, _, ⟨T', L', k', n'⟩, -, X', ⟨Lc, hQ, e1, e2, e3⟩, st⟩ := X.virtualBack hx hown (mvT hZ w1) (mvT hZ w2) hnf (mvT hZ w5) (mvT hZ w6) hy (backOf (hM []) hZ w4 w3 hf hl) qa qc hg hsz (Steps.refl _) hlen hst (Nat.le_refl _) hd (fun _ _ => ⟨rfl, eT, hc, hs⟩)
  dsimp only [Pt.U, Pt.locs, Pt.cells, Pt.slots] at X' e1 e2 e3 st hQ
  subst e1 e2 e3
  exact ⟨v, T', Lc, _, X', rfl, hQ, fun t k => st.trans k⟩
theorem own_virtualUp {owner : String} (X : Stand p l e R s m args below meth c T locs cells slots) (hx : p.tables.exec = Jvm.exec) (hZ : Z.Warmed39 s.vm) (hown : s.vm.findClass own = some m.cls) (eT : T.heap = h) (E : Exa Z h b C)
    (w1 : (Jvm.Cond.methodLink own index y).before a0 Z = true) (w7 : (Jvm.Cond.sameMethod y.cls owner y.name y.desc).before a0 Z = true) (w2 : (Jvm.Cond.declares ⟨owner, y.name, y.desc⟩).before a0 Z = true) (w5 : (Jvm.Cond.selects C y z).before a0 Z = true) (w6 : (Jvm.Cond.instanceMethod z).before a0 Z = true) (w3 : (Jvm.Cond.initialized z.cls).before a0 Z = true) (w4 : (Jvm.Cond.code z bytes maxL rt).before a0 Z = true)
    (hy : owner ≠ "java/lang/invoke/MethodHandle" ∧ owner ≠ "java/lang/invoke/VarHandle") (hM : own_Met l Z z bytes maxL rt rm (.ref b :: argsL).toArray h Qc)
    (hg : g.method = m) (hsz : g.locals.size = c.maxLocals) (hlen : ∀ sig, parseMethodDescriptor y.desc = some sig → argsL.length = sig.parameters.length) (hst : g.stack = argsL.reverse ++ .ref b :: rest)
    (hf : rm.frames + 1 ≤ R.frames) (hl : (2 * g.monitorRoom + (rest.map fun v => v.category).sum) + (maxL + 11) + rm.locals ≤ R.locals) (hc : cells + rm.cells ≤ R.cells) (hs : slots + rm.slots ≤ R.slots)
    (hd : decode c.code g.pc = .ok (.invokevirtual index, 3)) :
    ∃ (v : Option Value) (T' : State) (L : List Loc) (h' : Heap), Stand p l e R s m args below meth c T' (locs ++ L) (cells + rm.cells) (slots + rm.slots) ∧ T'.heap = h' ∧ Qc v h' L ∧ ∀ t, Steps p.tables e below (T'.setTop { g with pc := g.pc + 3, stack := v.toList ++ rest }) t → Steps p.tables e below (T.setTop g) t := by
  obtain ⟨cq, kq, qa, qb, qc⟩ := isOf hZ eT E
  obtain ⟨v, _, ⟨T', L', k', n'⟩, -, X', ⟨Lc, hQ, e1, e2, e3⟩, st⟩ := X.virtualBackUp hx hown (mvT hZ w1) (mvT hZ w7) (mvT hZ w2) hy (mvT hZ w5) (mvT hZ w6) (backOf (hM []) hZ w4 w3 hf hl) qa qc hg hsz (Steps.refl _) hlen hst (Nat.le_refl _) hd (fun _ _ => ⟨rfl, eT, hc, hs⟩)
  dsimp only [Pt.U, Pt.locs, Pt.cells, Pt.slots] at X' e1 e2 e3 st hQ
  subst e1 e2 e3
  exact ⟨v, T', Lc, _, X', rfl, hQ, fun t k => st.trans k⟩
end Own
theorem own_eq_int {args : Array Value} {s : State} {t : Jvm.Term} {k : Int32} (h : (Jvm.Cond.eq t (.int k)).value args s none s [] = some true) : t.eval args s none [] s = some (.int k) := by
  simp only [Cond.value, Term.eval] at h
  cases ht : t.eval args s none [] s with
  | none => simp [ht] at h
  | some v => cases v <;> simp [ht] at h; rw [h]
def own_res (a wA wP : Addr) (p : Int32) : Int32 := if a = wA then 1 else if a = wP then (if (1 : Int32) = p then 1 else 0) else (if (0 : Int32) = p then 1 else 0)
theorem pn_com_example_tiered_accord_tieredaccord_core_Request_Condition : plainName "com/example/tiered_accord/tieredaccord/core/Request$Condition" = true := by first | (simp [plainName, overriddenIn]; done) | decide +kernel
theorem ef_prog_63_method_4_codeRI (m : MethodId) (z0 : Addr) (z1 : Int32) : entryFrame m #[(.ref z0), (.int z1)] 2 = mkF m 0 #[.val (.ref z0), .val (.int z1)] [] := by first | (simp [entryFrame, mkF, argsToLocals, Value.category]; done) | rfl
theorem d_prog_63_method_4_code_0 : decode prog_63_method_4_code 0 = .ok (.aload_n 0, 1) := by decide +kernel
theorem d_prog_63_method_4_code_1 : decode prog_63_method_4_code 1 = .ok (.getstatic 3, 3) := by decide +kernel
theorem d_prog_63_method_4_code_4 : decode prog_63_method_4_code 4 = .ok (.if_acmp .eq 19, 3) := by decide +kernel
theorem d_prog_63_method_4_code_23 : decode prog_63_method_4_code 23 = .ok (.iconst 1, 1) := by decide +kernel
theorem d_prog_63_method_4_code_24 : decode prog_63_method_4_code 24 = .ok (.goto 4, 3) := by decide +kernel
theorem d_prog_63_method_4_code_28 : decode prog_63_method_4_code 28 = .ok (.ireturn, 1) := by decide +kernel
theorem d_prog_63_method_4_code_7 : decode prog_63_method_4_code 7 = .ok (.aload_n 0, 1) := by decide +kernel
theorem d_prog_63_method_4_code_8 : decode prog_63_method_4_code 8 = .ok (.getstatic 10, 3) := by decide +kernel
theorem d_prog_63_method_4_code_11 : decode prog_63_method_4_code 11 = .ok (.if_acmp .ne 7, 3) := by decide +kernel
theorem d_prog_63_method_4_code_14 : decode prog_63_method_4_code 14 = .ok (.iconst 1, 1) := by decide +kernel
theorem d_prog_63_method_4_code_15 : decode prog_63_method_4_code 15 = .ok (.goto 4, 3) := by decide +kernel
theorem d_prog_63_method_4_code_19 : decode prog_63_method_4_code 19 = .ok (.iload_n 1, 1) := by decide +kernel
theorem d_prog_63_method_4_code_20 : decode prog_63_method_4_code 20 = .ok (.if_icmp .ne 7, 3) := by decide +kernel
theorem d_prog_63_method_4_code_27 : decode prog_63_method_4_code 27 = .ok (.iconst 0, 1) := by decide +kernel
theorem d_prog_63_method_4_code_18 : decode prog_63_method_4_code 18 = .ok (.iconst 0, 1) := by decide +kernel
set_option maxRecDepth 65536 in
set_option maxHeartbeats 40000000 in
theorem rm_allows (l : Launch) (Z : State) (a0 : Array Value) (hw : ∀ d ∈ tables_1, d.before a0 Z = true) (a wA wP : Addr) (p1 r : Int32) (h0 : Heap) (n0 : Nat) (Z0 : n0 ≤ h0.size) (SA : Sta Z h0 "com/example/tiered_accord/tieredaccord/core/Request$Condition" "ALWAYS" "Lcom/example/tiered_accord/tieredaccord/core/Request$Condition;" (.ref wA)) (SP : Sta Z h0 "com/example/tiered_accord/tieredaccord/core/Request$Condition" "IF_PRESENT" "Lcom/example/tiered_accord/tieredaccord/core/Request$Condition;" (.ref wP)) (hr : own_res a wA wP p1 = r) :
    own_Met l Z (⟨"com/example/tiered_accord/tieredaccord/core/Request$Condition", "allows", "(Z)Z"⟩ : MethodName) prog_63_method_4_code 2 (some .boolean) ({ frames := 0, cells := 0, slots := 0, locals := 0 } : Room) #[(.ref a), (.int p1)] h0 (fun v h L => v = some (.int r) ∧ Fr n0 L ∧ h = h0) := by
  refine own_body (plainFor_of_name pn_com_example_tiered_accord_tieredaccord_core_Request_Condition) ?_
  intro p e s m below meth c T0 X0 e0 hx hby hml hown hnm hret hlk hZ
  replace hown : s.vm.findClass "com/example/tiered_accord/tieredaccord/core/Request$Condition" = some m.cls := hown
  have N0 := Fr.nil n0
  refine own_of (fun t k => castTop (ef_prog_63_method_4_codeRI m a p1) k) ?_
  show own_Ends _ _ _ _ _ _ (T0.setTop (mkF m 0 #[.val (.ref a), .val (.int p1)] []))
  refine own_of (fun t k => XS.aloadN X0.here hx rfl (hb hby d_prog_63_method_4_code_0) rfl rfl k) ?_
  show own_Ends _ _ _ _ _ _ (T0.setTop (mkF m 1 #[.val (.ref a), .val (.int p1)] [(.ref a)]))
  obtain ⟨T1, X1, e1, st1⟩ := getS2 X0 hx hZ hown (host := "") (Or.inl (hw _ (List.mem_of_getElem? (i := 9) rfl))) Via.refl e0 SA (g := (mkF m 1 #[.val (.ref a), .val (.int p1)] [(.ref a)])) rfl (hb hby d_prog_63_method_4_code_1)
  refine own_of st1 ?_
  show own_Ends _ _ _ _ _ _ (T1.setTop (mkF m 4 #[.val (.ref a), .val (.int p1)] [(.ref wA), (.ref a)]))
  by_cases hc2 : a = wA
  · refine own_of (fun t k => Jvm.RoadKit.acmp (g := (mkF m 4 #[.val (.ref a), .val (.int p1)] [(.ref wA), (.ref a)])) X1 hx rfl rfl rfl (pc0 := 4) (pc' := 23) (same := true) rfl (hb hby d_prog_63_method_4_code_4) rfl (decide_eq_true (congrArg Value.ref hc2)) (by decide) (by decide) k) ?_
    show own_Ends _ _ _ _ _ _ (T1.setTop (mkF m 23 #[.val (.ref a), .val (.int p1)] []))
    refine own_of (fun t k => XS.iconst X1.here hx rfl (hb hby d_prog_63_method_4_code_23) k) ?_
    show own_Ends _ _ _ _ _ _ (T1.setTop (mkF m 24 #[.val (.ref a), .val (.int p1)] [(.int (1 : Int32))]))
    refine own_of (fun t k => XS.goto X1.here hx rfl (pc0 := 24) (pc' := 28) rfl (hb hby d_prog_63_method_4_code_24) (by decide) (by decide) k) ?_
    show own_Ends _ _ _ _ _ _ (T1.setTop (mkF m 28 #[.val (.ref a), .val (.int p1)] [(.int (1 : Int32))]))
    refine own_retN X1 hx hlk e1 (t := .boolean) hret (by simp) (z' := (1 : Int32)) rfl (hb hby d_prog_63_method_4_code_28) (by decide) (by decide) ?_
    exact ⟨by rw [← hr, own_res, if_pos hc2], N0, rfl⟩
  · refine own_of (fun t k => Jvm.RoadKit.acmp (g := (mkF m 4 #[.val (.ref a), .val (.int p1)] [(.ref wA), (.ref a)])) X1 hx rfl rfl rfl (pc0 := 4) (pc' := 7) (same := false) rfl (hb hby d_prog_63_method_4_code_4) rfl (decide_eq_false fun q => hc2 (Value.ref.inj q)) (by decide) (by decide) k) ?_
    show own_Ends _ _ _ _ _ _ (T1.setTop (mkF m 7 #[.val (.ref a), .val (.int p1)] []))
    refine own_of (fun t k => XS.aloadN X1.here hx rfl (hb hby d_prog_63_method_4_code_7) rfl rfl k) ?_
    show own_Ends _ _ _ _ _ _ (T1.setTop (mkF m 8 #[.val (.ref a), .val (.int p1)] [(.ref a)]))
    obtain ⟨T3, X3, e3, st3⟩ := getS2 X1 hx hZ hown (host := "") (Or.inl (hw _ (List.mem_of_getElem? (i := 12) rfl))) Via.refl e1 SP (g := (mkF m 8 #[.val (.ref a), .val (.int p1)] [(.ref a)])) rfl (hb hby d_prog_63_method_4_code_8)
    refine own_of st3 ?_
    show own_Ends _ _ _ _ _ _ (T3.setTop (mkF m 11 #[.val (.ref a), .val (.int p1)] [(.ref wP), (.ref a)]))
    by_cases hc4 : a = wP
    · refine own_of (fun t k => Jvm.RoadKit.acmp (g := (mkF m 11 #[.val (.ref a), .val (.int p1)] [(.ref wP), (.ref a)])) X3 hx rfl rfl rfl (pc0 := 11) (pc' := 14) (same := true) rfl (hb hby d_prog_63_method_4_code_11) rfl (decide_eq_true (congrArg Value.ref hc4)) (by decide) (by decide) k) ?_
      show own_Ends _ _ _ _ _ _ (T3.setTop (mkF m 14 #[.val (.ref a), .val (.int p1)] []))
      refine own_of (fun t k => XS.iconst X3.here hx rfl (hb hby d_prog_63_method_4_code_14) k) ?_
      show own_Ends _ _ _ _ _ _ (T3.setTop (mkF m 15 #[.val (.ref a), .val (.int p1)] [(.int (1 : Int32))]))
      refine own_of (fun t k => XS.goto X3.here hx rfl (pc0 := 15) (pc' := 19) rfl (hb hby d_prog_63_method_4_code_15) (by decide) (by decide) k) ?_
      show own_Ends _ _ _ _ _ _ (T3.setTop (mkF m 19 #[.val (.ref a), .val (.int p1)] [(.int (1 : Int32))]))
      refine own_of (fun t k => XS.iloadN X3.here hx rfl (hb hby d_prog_63_method_4_code_19) rfl  k) ?_
      show own_Ends _ _ _ _ _ _ (T3.setTop (mkF m 20 #[.val (.ref a), .val (.int p1)] [(.int p1), (.int (1 : Int32))]))
      by_cases hc5 : (1 : Int32) = p1
      · refine own_of (fun t k => XS.icmpNo X3.here hx rfl (hb hby d_prog_63_method_4_code_20) rfl (teq hc5).2 k) ?_
        show own_Ends _ _ _ _ _ _ (T3.setTop (mkF m 23 #[.val (.ref a), .val (.int p1)] []))
        refine own_of (fun t k => XS.iconst X3.here hx rfl (hb hby d_prog_63_method_4_code_23) k) ?_
        show own_Ends _ _ _ _ _ _ (T3.setTop (mkF m 24 #[.val (.ref a), .val (.int p1)] [(.int (1 : Int32))]))
        refine own_of (fun t k => XS.goto X3.here hx rfl (pc0 := 24) (pc' := 28) rfl (hb hby d_prog_63_method_4_code_24) (by decide) (by decide) k) ?_
        show own_Ends _ _ _ _ _ _ (T3.setTop (mkF m 28 #[.val (.ref a), .val (.int p1)] [(.int (1 : Int32))]))
        refine own_retN X3 hx hlk e3 (t := .boolean) hret (by simp) (z' := (1 : Int32)) rfl (hb hby d_prog_63_method_4_code_28) (by decide) (by decide) ?_
        exact ⟨by rw [← hr, own_res, if_neg hc2, if_pos hc4, if_pos hc5], N0, rfl⟩
      · refine own_of (fun t k => XS.icmpYes X3.here hx rfl (pc0 := 20) (pc' := 27) rfl (hb hby d_prog_63_method_4_code_20) rfl (feq hc5).2 (by decide) (by decide) k) ?_
        show own_Ends _ _ _ _ _ _ (T3.setTop (mkF m 27 #[.val (.ref a), .val (.int p1)] []))
        refine own_of (fun t k => XS.iconst X3.here hx rfl (hb hby d_prog_63_method_4_code_27) k) ?_
        show own_Ends _ _ _ _ _ _ (T3.setTop (mkF m 28 #[.val (.ref a), .val (.int p1)] [(.int (0 : Int32))]))
        refine own_retN X3 hx hlk e3 (t := .boolean) hret (by simp) (z' := (0 : Int32)) rfl (hb hby d_prog_63_method_4_code_28) (by decide) (by decide) ?_
        exact ⟨by rw [← hr, own_res, if_neg hc2, if_pos hc4, if_neg hc5], N0, rfl⟩
    · refine own_of (fun t k => Jvm.RoadKit.acmp (g := (mkF m 11 #[.val (.ref a), .val (.int p1)] [(.ref wP), (.ref a)])) X3 hx rfl rfl rfl (pc0 := 11) (pc' := 18) (same := false) rfl (hb hby d_prog_63_method_4_code_11) rfl (decide_eq_false fun q => hc4 (Value.ref.inj q)) (by decide) (by decide) k) ?_
      show own_Ends _ _ _ _ _ _ (T3.setTop (mkF m 18 #[.val (.ref a), .val (.int p1)] []))
      refine own_of (fun t k => XS.iconst X3.here hx rfl (hb hby d_prog_63_method_4_code_18) k) ?_
      show own_Ends _ _ _ _ _ _ (T3.setTop (mkF m 19 #[.val (.ref a), .val (.int p1)] [(.int (0 : Int32))]))
      refine own_of (fun t k => XS.iloadN X3.here hx rfl (hb hby d_prog_63_method_4_code_19) rfl  k) ?_
      show own_Ends _ _ _ _ _ _ (T3.setTop (mkF m 20 #[.val (.ref a), .val (.int p1)] [(.int p1), (.int (0 : Int32))]))
      by_cases hc6 : (0 : Int32) = p1
      · refine own_of (fun t k => XS.icmpNo X3.here hx rfl (hb hby d_prog_63_method_4_code_20) rfl (teq hc6).2 k) ?_
        show own_Ends _ _ _ _ _ _ (T3.setTop (mkF m 23 #[.val (.ref a), .val (.int p1)] []))
        refine own_of (fun t k => XS.iconst X3.here hx rfl (hb hby d_prog_63_method_4_code_23) k) ?_
        show own_Ends _ _ _ _ _ _ (T3.setTop (mkF m 24 #[.val (.ref a), .val (.int p1)] [(.int (1 : Int32))]))
        refine own_of (fun t k => XS.goto X3.here hx rfl (pc0 := 24) (pc' := 28) rfl (hb hby d_prog_63_method_4_code_24) (by decide) (by decide) k) ?_
        show own_Ends _ _ _ _ _ _ (T3.setTop (mkF m 28 #[.val (.ref a), .val (.int p1)] [(.int (1 : Int32))]))
        refine own_retN X3 hx hlk e3 (t := .boolean) hret (by simp) (z' := (1 : Int32)) rfl (hb hby d_prog_63_method_4_code_28) (by decide) (by decide) ?_
        exact ⟨by rw [← hr, own_res, if_neg hc2, if_neg hc4, if_pos hc6], N0, rfl⟩
      · refine own_of (fun t k => XS.icmpYes X3.here hx rfl (pc0 := 20) (pc' := 27) rfl (hb hby d_prog_63_method_4_code_20) rfl (feq hc6).2 (by decide) (by decide) k) ?_
        show own_Ends _ _ _ _ _ _ (T3.setTop (mkF m 27 #[.val (.ref a), .val (.int p1)] []))
        refine own_of (fun t k => XS.iconst X3.here hx rfl (hb hby d_prog_63_method_4_code_27) k) ?_
        show own_Ends _ _ _ _ _ _ (T3.setTop (mkF m 28 #[.val (.ref a), .val (.int p1)] [(.int (0 : Int32))]))
        refine own_retN X3 hx hlk e3 (t := .boolean) hret (by simp) (z' := (0 : Int32)) rfl (hb hby d_prog_63_method_4_code_28) (by decide) (by decide) ?_
        exact ⟨by rw [← hr, own_res, if_neg hc2, if_neg hc4, if_neg hc6], N0, rfl⟩
theorem pn_com_example_tiered_accord_tieredaccord_core_ConditionAllowsPinLaw : plainName "com/example/tiered_accord/tieredaccord/core/ConditionAllowsPinLaw" = true := by first | (simp [plainName, overriddenIn]; done) | decide +kernel
theorem ef_codeII (m : MethodId) (z0 : Int32) (z1 : Int32) : entryFrame m #[(.int z0), (.int z1)] maxLocals = mkF m 0 #[.val (.int z0), .val (.int z1), .unset, .unset, .unset, .unset] [] := by first | (simp [entryFrame, mkF, argsToLocals, Value.category, maxLocals]; done) | rfl
theorem pd__Z_r_Z : parseMethodDescriptor "(Z)Z" = some ⟨[.boolean], some .boolean⟩ := by decide +kernel
set_option maxRecDepth 65536 in
set_option maxHeartbeats 40000000 in
theorem rm0 (l : Launch) (Z : State) (a0 : Array Value) (hw : ∀ d ∈ tables_1, d.before a0 Z = true) (p1 p2 : Int32) (wA wP wB : Addr) (h0 : Heap) (n0 : Nat) (Z0 : n0 ≤ h0.size) (SA : Sta Z h0 "com/example/tiered_accord/tieredaccord/core/Request$Condition" "ALWAYS" "Lcom/example/tiered_accord/tieredaccord/core/Request$Condition;" (.ref wA)) (SP : Sta Z h0 "com/example/tiered_accord/tieredaccord/core/Request$Condition" "IF_PRESENT" "Lcom/example/tiered_accord/tieredaccord/core/Request$Condition;" (.ref wP)) (SB : Sta Z h0 "com/example/tiered_accord/tieredaccord/core/Request$Condition" "IF_ABSENT" "Lcom/example/tiered_accord/tieredaccord/core/Request$Condition;" (.ref wB)) (EA : Exa Z h0 wA "com/example/tiered_accord/tieredaccord/core/Request$Condition") (EP : Exa Z h0 wP "com/example/tiered_accord/tieredaccord/core/Request$Condition") (EB : Exa Z h0 wB "com/example/tiered_accord/tieredaccord/core/Request$Condition") (hAB : wA ≠ wB) (hAP : wA ≠ wP) (hBP : wB ≠ wP) :
    own_Met l Z x code maxLocals ret room_1 #[(.int p1), (.int p2)] h0 (fun v h L => v = some (.int 1) ∧ Fr n0 L) := by
  refine own_body (plainFor_of_name pn_com_example_tiered_accord_tieredaccord_core_ConditionAllowsPinLaw) ?_
  intro p e s m below meth c T0 X0 e0 hx hby hml hown hnm hret hlk hZ
  replace hown : s.vm.findClass "com/example/tiered_accord/tieredaccord/core/ConditionAllowsPinLaw" = some m.cls := hown
  have N0 := Fr.nil n0
  refine own_of (fun t k => castTop (ef_codeII m p1 p2) k) ?_
  have hPA : wP ≠ wA := hAP.symm
  have hBA : wB ≠ wA := hAB.symm
  show own_Ends _ _ _ _ _ _ (T0.setTop (mkF m 0 #[.val (.int p1), .val (.int p2), .unset, .unset, .unset, .unset] []))
  refine own_of (fun t k => XS.iloadN X0.here hx rfl (hb hby at_0) rfl  k) ?_
  show own_Ends _ _ _ _ _ _ (T0.setTop (mkF m 1 #[.val (.int p1), .val (.int p2), .unset, .unset, .unset, .unset] [(.int p1)]))
  refine own_of (fun t k => X0.ldcI hx hown (mvT hZ (hw _ (List.mem_of_getElem? (i := 0) rfl))) (g := (mkF m 1 #[.val (.int p1), .val (.int p2), .unset, .unset, .unset, .unset] [(.int p1)])) rfl (hb hby at_1) k) ?_
  show own_Ends _ _ _ _ _ _ (T0.setTop (mkF m 3 #[.val (.int p1), .val (.int p2), .unset, .unset, .unset, .unset] [(.int (2147483647 : Int32)), (.int p1)]))
  refine own_of (fun t k => XS.iand X0.here hx rfl (hb hby at_3) rfl k) ?_
  show own_Ends _ _ _ _ _ _ (T0.setTop (mkF m 4 #[.val (.int p1), .val (.int p2), .unset, .unset, .unset, .unset] [(.int (p1 &&& (2147483647 : Int32)))]))
  refine own_of (fun t k => XS.iconst X0.here hx rfl (hb hby at_4) k) ?_
  show own_Ends _ _ _ _ _ _ (T0.setTop (mkF m 5 #[.val (.int p1), .val (.int p2), .unset, .unset, .unset, .unset] [(.int (3 : Int32)), (.int (p1 &&& (2147483647 : Int32)))]))
  refine own_of (fun t k => iremM (g := (mkF m 5 #[.val (.int p1), .val (.int p2), .unset, .unset, .unset, .unset] [(.int (3 : Int32)), (.int (p1 &&& (2147483647 : Int32)))])) X0 hx rfl (hb hby at_5) rfl (by decide) k) ?_
  show own_Ends _ _ _ _ _ _ (T0.setTop (mkF m 6 #[.val (.int p1), .val (.int p2), .unset, .unset, .unset, .unset] [(.int ((p1 &&& (2147483647 : Int32)) % (3 : Int32)))]))
  refine own_of (fun t k => XS.istoreN X0.here hx rfl (hb hby at_6) rfl (l' := #[.val (.int p1), .val (.int p2), .val (.int ((p1 &&& (2147483647 : Int32)) % (3 : Int32))), .unset, .unset, .unset]) rfl k) ?_
  show own_Ends _ _ _ _ _ _ (T0.setTop (mkF m 7 #[.val (.int p1), .val (.int p2), .val (.int ((p1 &&& (2147483647 : Int32)) % (3 : Int32))), .unset, .unset, .unset] []))
  refine own_of (fun t k => XS.iloadN X0.here hx rfl (hb hby at_7) rfl  k) ?_
  show own_Ends _ _ _ _ _ _ (T0.setTop (mkF m 8 #[.val (.int p1), .val (.int p2), .val (.int ((p1 &&& (2147483647 : Int32)) % (3 : Int32))), .unset, .unset, .unset] [(.int p2)]))
  refine own_of (fun t k => XS.iconst X0.here hx rfl (hb hby at_8) k) ?_
  show own_Ends _ _ _ _ _ _ (T0.setTop (mkF m 9 #[.val (.int p1), .val (.int p2), .val (.int ((p1 &&& (2147483647 : Int32)) % (3 : Int32))), .unset, .unset, .unset] [(.int (1 : Int32)), (.int p2)]))
  refine own_of (fun t k => XS.iand X0.here hx rfl (hb hby at_9) rfl k) ?_
  show own_Ends _ _ _ _ _ _ (T0.setTop (mkF m 10 #[.val (.int p1), .val (.int p2), .val (.int ((p1 &&& (2147483647 : Int32)) % (3 : Int32))), .unset, .unset, .unset] [(.int (p2 &&& (1 : Int32)))]))
  by_cases hc7 : (p2 &&& (1 : Int32)) = (0 : Int32)
  · refine own_of (fun t k => XS.ifYes X0.here hx rfl (pc0 := 10) (pc' := 17) rfl (hb hby at_10) rfl ((if0 _ _).trans (teq hc7).1) (by decide) (by decide) k) ?_
    show own_Ends _ _ _ _ _ _ (T0.setTop (mkF m 17 #[.val (.int p1), .val (.int p2), .val (.int ((p1 &&& (2147483647 : Int32)) % (3 : Int32))), .unset, .unset, .unset] []))
    refine own_of (fun t k => XS.iconst X0.here hx rfl (hb hby at_17) k) ?_
    show own_Ends _ _ _ _ _ _ (T0.setTop (mkF m 18 #[.val (.int p1), .val (.int p2), .val (.int ((p1 &&& (2147483647 : Int32)) % (3 : Int32))), .unset, .unset, .unset] [(.int (0 : Int32))]))
    refine own_of (fun t k => XS.istoreN X0.here hx rfl (hb hby at_18) rfl (l' := #[.val (.int p1), .val (.int p2), .val (.int ((p1 &&& (2147483647 : Int32)) % (3 : Int32))), .val (.int (0 : Int32)), .unset, .unset]) rfl k) ?_
    show own_Ends _ _ _ _ _ _ (T0.setTop (mkF m 19 #[.val (.int p1), .val (.int p2), .val (.int ((p1 &&& (2147483647 : Int32)) % (3 : Int32))), .val (.int (0 : Int32)), .unset, .unset] []))
    refine own_of (fun t k => XS.iloadN X0.here hx rfl (hb hby at_19) rfl  k) ?_
    show own_Ends _ _ _ _ _ _ (T0.setTop (mkF m 20 #[.val (.int p1), .val (.int p2), .val (.int ((p1 &&& (2147483647 : Int32)) % (3 : Int32))), .val (.int (0 : Int32)), .unset, .unset] [(.int ((p1 &&& (2147483647 : Int32)) % (3 : Int32)))]))
    by_cases hc8 : ((p1 &&& (2147483647 : Int32)) % (3 : Int32)) = (0 : Int32)
    · refine own_of (fun t k => XS.ifNo X0.here hx rfl (hb hby at_20) rfl ((if0 _ _).trans (teq hc8).2) k) ?_
      show own_Ends _ _ _ _ _ _ (T0.setTop (mkF m 23 #[.val (.int p1), .val (.int p2), .val (.int ((p1 &&& (2147483647 : Int32)) % (3 : Int32))), .val (.int (0 : Int32)), .unset, .unset] []))
      obtain ⟨T9, X9, e9, st9⟩ := getS2 X0 hx hZ hown (host := "") (Or.inl (hw _ (List.mem_of_getElem? (i := 1) rfl))) Via.refl e0 SA (g := (mkF m 23 #[.val (.int p1), .val (.int p2), .val (.int ((p1 &&& (2147483647 : Int32)) % (3 : Int32))), .val (.int (0 : Int32)), .unset, .unset] [])) rfl (hb hby at_23)
      refine own_of st9 ?_
      show own_Ends _ _ _ _ _ _ (T9.setTop (mkF m 26 #[.val (.int p1), .val (.int p2), .val (.int ((p1 &&& (2147483647 : Int32)) % (3 : Int32))), .val (.int (0 : Int32)), .unset, .unset] [(.ref wA)]))
      refine own_of (fun t k => XS.astore X9.here hx rfl (hb hby at_26) rfl rfl (l' := #[.val (.int p1), .val (.int p2), .val (.int ((p1 &&& (2147483647 : Int32)) % (3 : Int32))), .val (.int (0 : Int32)), .val (.ref wA), .unset]) rfl k) ?_
      show own_Ends _ _ _ _ _ _ (T9.setTop (mkF m 28 #[.val (.int p1), .val (.int p2), .val (.int ((p1 &&& (2147483647 : Int32)) % (3 : Int32))), .val (.int (0 : Int32)), .val (.ref wA), .unset] []))
      refine own_of (fun t k => XS.iconst X9.here hx rfl (hb hby at_28) k) ?_
      show own_Ends _ _ _ _ _ _ (T9.setTop (mkF m 29 #[.val (.int p1), .val (.int p2), .val (.int ((p1 &&& (2147483647 : Int32)) % (3 : Int32))), .val (.int (0 : Int32)), .val (.ref wA), .unset] [(.int (1 : Int32))]))
      refine own_of (fun t k => XS.istore X9.here hx rfl (hb hby at_29) rfl (l' := #[.val (.int p1), .val (.int p2), .val (.int ((p1 &&& (2147483647 : Int32)) % (3 : Int32))), .val (.int (0 : Int32)), .val (.ref wA), .val (.int (1 : Int32))]) rfl k) ?_
      show own_Ends _ _ _ _ _ _ (T9.setTop (mkF m 31 #[.val (.int p1), .val (.int p2), .val (.int ((p1 &&& (2147483647 : Int32)) % (3 : Int32))), .val (.int (0 : Int32)), .val (.ref wA), .val (.int (1 : Int32))] []))
      refine own_of (fun t k => XS.goto X9.here hx rfl (pc0 := 31) (pc' := 66) rfl (hb hby at_31) (by decide) (by decide) k) ?_
      show own_Ends _ _ _ _ _ _ (T9.setTop (mkF m 66 #[.val (.int p1), .val (.int p2), .val (.int ((p1 &&& (2147483647 : Int32)) % (3 : Int32))), .val (.int (0 : Int32)), .val (.ref wA), .val (.int (1 : Int32))] []))
      refine own_of (fun t k => XS.aload X9.here hx rfl (hb hby at_66) rfl rfl k) ?_
      show own_Ends _ _ _ _ _ _ (T9.setTop (mkF m 68 #[.val (.int p1), .val (.int p2), .val (.int ((p1 &&& (2147483647 : Int32)) % (3 : Int32))), .val (.int (0 : Int32)), .val (.ref wA), .val (.int (1 : Int32))] [(.ref wA)]))
      refine own_of (fun t k => XS.iloadN X9.here hx rfl (hb hby at_68) rfl  k) ?_
      show own_Ends _ _ _ _ _ _ (T9.setTop (mkF m 69 #[.val (.int p1), .val (.int p2), .val (.int ((p1 &&& (2147483647 : Int32)) % (3 : Int32))), .val (.int (0 : Int32)), .val (.ref wA), .val (.int (1 : Int32))] [(.int (0 : Int32)), (.ref wA)]))
      obtain ⟨v10, T10, L10, h10, X10, e10, Q10, st10⟩ := own_virtual X9 hx hZ hown e9 EA (hw _ (List.mem_of_getElem? (i := 4) rfl)) (hw _ (List.mem_of_getElem? (i := 5) rfl)) (notFace_of_selects (args := #[]) (mvT hZ (hw _ (List.mem_of_getElem? (i := 7) rfl)))) (hw _ (List.mem_of_getElem? (i := 7) rfl)) (hw _ (List.mem_of_getElem? (i := 6) rfl)) (hw _ (List.mem_of_getElem? (i := 2) rfl)) (hw _ (List.mem_of_getElem? (i := 8) rfl)) (by decide) (argsL := [(.int (0 : Int32))]) (rest := []) (rm_allows l Z a0 hw wA wA wP (0 : Int32) (1 : Int32) h0 n0 Z0 SA SP (by simp [own_res, hAB, hAP, hPA, hBA, hBP])) (g := (mkF m 69 #[.val (.int p1), .val (.int p2), .val (.int ((p1 &&& (2147483647 : Int32)) % (3 : Int32))), .val (.int (0 : Int32)), .val (.ref wA), .val (.int (1 : Int32))] [(.int (0 : Int32)), (.ref wA)])) rfl (by rw [hml]; rfl) (lenOf pd__Z_r_Z rfl) rfl (by decide) (Nat.le_of_ble_eq_true rfl) (by decide) (by decide) (hb hby at_69)
      obtain ⟨rfl, Nq10, q10⟩ := Q10
      replace e10 := e10.trans q10
      have N10 := Fr.app N0 Nq10
      refine own_of st10 ?_
      show own_Ends _ _ _ _ _ _ (T10.setTop (mkF m 72 #[.val (.int p1), .val (.int p2), .val (.int ((p1 &&& (2147483647 : Int32)) % (3 : Int32))), .val (.int (0 : Int32)), .val (.ref wA), .val (.int (1 : Int32))] [(.int (1 : Int32))]))
      refine own_of (fun t k => XS.iload X10.here hx rfl (hb hby at_72) rfl  k) ?_
      show own_Ends _ _ _ _ _ _ (T10.setTop (mkF m 74 #[.val (.int p1), .val (.int p2), .val (.int ((p1 &&& (2147483647 : Int32)) % (3 : Int32))), .val (.int (0 : Int32)), .val (.ref wA), .val (.int (1 : Int32))] [(.int (1 : Int32)), (.int (1 : Int32))]))
      refine own_of (fun t k => XS.icmpNo X10.here hx rfl (hb hby at_74) rfl (teq (by decide : ((1 : Int32) = (1 : Int32)))).2 k) ?_
      show own_Ends _ _ _ _ _ _ (T10.setTop (mkF m 77 #[.val (.int p1), .val (.int p2), .val (.int ((p1 &&& (2147483647 : Int32)) % (3 : Int32))), .val (.int (0 : Int32)), .val (.ref wA), .val (.int (1 : Int32))] []))
      refine own_of (fun t k => XS.iconst X10.here hx rfl (hb hby at_77) k) ?_
      show own_Ends _ _ _ _ _ _ (T10.setTop (mkF m 78 #[.val (.int p1), .val (.int p2), .val (.int ((p1 &&& (2147483647 : Int32)) % (3 : Int32))), .val (.int (0 : Int32)), .val (.ref wA), .val (.int (1 : Int32))] [(.int (1 : Int32))]))
      refine own_of (fun t k => XS.goto X10.here hx rfl (pc0 := 78) (pc' := 82) rfl (hb hby at_78) (by decide) (by decide) k) ?_
      show own_Ends _ _ _ _ _ _ (T10.setTop (mkF m 82 #[.val (.int p1), .val (.int p2), .val (.int ((p1 &&& (2147483647 : Int32)) % (3 : Int32))), .val (.int (0 : Int32)), .val (.ref wA), .val (.int (1 : Int32))] [(.int (1 : Int32))]))
      refine own_retN X10 hx hlk e10 (t := .boolean) hret (by simp) (z' := (1 : Int32)) rfl (hb hby at_82) (by decide) (by decide) ?_
      exact ⟨rfl, N10⟩
    · refine own_of (fun t k => XS.ifYes X0.here hx rfl (pc0 := 20) (pc' := 34) rfl (hb hby at_20) rfl ((if0 _ _).trans (feq hc8).2) (by decide) (by decide) k) ?_
      show own_Ends _ _ _ _ _ _ (T0.setTop (mkF m 34 #[.val (.int p1), .val (.int p2), .val (.int ((p1 &&& (2147483647 : Int32)) % (3 : Int32))), .val (.int (0 : Int32)), .unset, .unset] []))
      refine own_of (fun t k => XS.iloadN X0.here hx rfl (hb hby at_34) rfl  k) ?_
      show own_Ends _ _ _ _ _ _ (T0.setTop (mkF m 35 #[.val (.int p1), .val (.int p2), .val (.int ((p1 &&& (2147483647 : Int32)) % (3 : Int32))), .val (.int (0 : Int32)), .unset, .unset] [(.int ((p1 &&& (2147483647 : Int32)) % (3 : Int32)))]))
      refine own_of (fun t k => XS.iconst X0.here hx rfl (hb hby at_35) k) ?_
      show own_Ends _ _ _ _ _ _ (T0.setTop (mkF m 36 #[.val (.int p1), .val (.int p2), .val (.int ((p1 &&& (2147483647 : Int32)) % (3 : Int32))), .val (.int (0 : Int32)), .unset, .unset] [(.int (1 : Int32)), (.int ((p1 &&& (2147483647 : Int32)) % (3 : Int32)))]))
      by_cases hc11 : ((p1 &&& (2147483647 : Int32)) % (3 : Int32)) = (1 : Int32)
      · refine own_of (fun t k => XS.icmpNo X0.here hx rfl (hb hby at_36) rfl (teq hc11).2 k) ?_
        show own_Ends _ _ _ _ _ _ (T0.setTop (mkF m 39 #[.val (.int p1), .val (.int p2), .val (.int ((p1 &&& (2147483647 : Int32)) % (3 : Int32))), .val (.int (0 : Int32)), .unset, .unset] []))
        obtain ⟨T12, X12, e12, st12⟩ := getS2 X0 hx hZ hown (host := "") (Or.inl (hw _ (List.mem_of_getElem? (i := 13) rfl))) Via.refl e0 SB (g := (mkF m 39 #[.val (.int p1), .val (.int p2), .val (.int ((p1 &&& (2147483647 : Int32)) % (3 : Int32))), .val (.int (0 : Int32)), .unset, .unset] [])) rfl (hb hby at_39)
        refine own_of st12 ?_
        show own_Ends _ _ _ _ _ _ (T12.setTop (mkF m 42 #[.val (.int p1), .val (.int p2), .val (.int ((p1 &&& (2147483647 : Int32)) % (3 : Int32))), .val (.int (0 : Int32)), .unset, .unset] [(.ref wB)]))
        refine own_of (fun t k => XS.astore X12.here hx rfl (hb hby at_42) rfl rfl (l' := #[.val (.int p1), .val (.int p2), .val (.int ((p1 &&& (2147483647 : Int32)) % (3 : Int32))), .val (.int (0 : Int32)), .val (.ref wB), .unset]) rfl k) ?_
        show own_Ends _ _ _ _ _ _ (T12.setTop (mkF m 44 #[.val (.int p1), .val (.int p2), .val (.int ((p1 &&& (2147483647 : Int32)) % (3 : Int32))), .val (.int (0 : Int32)), .val (.ref wB), .unset] []))
        refine own_of (fun t k => XS.iloadN X12.here hx rfl (hb hby at_44) rfl  k) ?_
        show own_Ends _ _ _ _ _ _ (T12.setTop (mkF m 45 #[.val (.int p1), .val (.int p2), .val (.int ((p1 &&& (2147483647 : Int32)) % (3 : Int32))), .val (.int (0 : Int32)), .val (.ref wB), .unset] [(.int (0 : Int32))]))
        refine own_of (fun t k => XS.ifNo X12.here hx rfl (hb hby at_45) rfl ((if0 _ _).trans (teq (by decide : ((0 : Int32) = (0 : Int32)))).2) k) ?_
        show own_Ends _ _ _ _ _ _ (T12.setTop (mkF m 48 #[.val (.int p1), .val (.int p2), .val (.int ((p1 &&& (2147483647 : Int32)) % (3 : Int32))), .val (.int (0 : Int32)), .val (.ref wB), .unset] []))
        refine own_of (fun t k => XS.iconst X12.here hx rfl (hb hby at_48) k) ?_
        show own_Ends _ _ _ _ _ _ (T12.setTop (mkF m 49 #[.val (.int p1), .val (.int p2), .val (.int ((p1 &&& (2147483647 : Int32)) % (3 : Int32))), .val (.int (0 : Int32)), .val (.ref wB), .unset] [(.int (1 : Int32))]))
        refine own_of (fun t k => XS.goto X12.here hx rfl (pc0 := 49) (pc' := 53) rfl (hb hby at_49) (by decide) (by decide) k) ?_
        show own_Ends _ _ _ _ _ _ (T12.setTop (mkF m 53 #[.val (.int p1), .val (.int p2), .val (.int ((p1 &&& (2147483647 : Int32)) % (3 : Int32))), .val (.int (0 : Int32)), .val (.ref wB), .unset] [(.int (1 : Int32))]))
        refine own_of (fun t k => XS.istore X12.here hx rfl (hb hby at_53) rfl (l' := #[.val (.int p1), .val (.int p2), .val (.int ((p1 &&& (2147483647 : Int32)) % (3 : Int32))), .val (.int (0 : Int32)), .val (.ref wB), .val (.int (1 : Int32))]) rfl k) ?_
        show own_Ends _ _ _ _ _ _ (T12.setTop (mkF m 55 #[.val (.int p1), .val (.int p2), .val (.int ((p1 &&& (2147483647 : Int32)) % (3 : Int32))), .val (.int (0 : Int32)), .val (.ref wB), .val (.int (1 : Int32))] []))
        refine own_of (fun t k => XS.goto X12.here hx rfl (pc0 := 55) (pc' := 66) rfl (hb hby at_55) (by decide) (by decide) k) ?_
        show own_Ends _ _ _ _ _ _ (T12.setTop (mkF m 66 #[.val (.int p1), .val (.int p2), .val (.int ((p1 &&& (2147483647 : Int32)) % (3 : Int32))), .val (.int (0 : Int32)), .val (.ref wB), .val (.int (1 : Int32))] []))
        refine own_of (fun t k => XS.aload X12.here hx rfl (hb hby at_66) rfl rfl k) ?_
        show own_Ends _ _ _ _ _ _ (T12.setTop (mkF m 68 #[.val (.int p1), .val (.int p2), .val (.int ((p1 &&& (2147483647 : Int32)) % (3 : Int32))), .val (.int (0 : Int32)), .val (.ref wB), .val (.int (1 : Int32))] [(.ref wB)]))
        refine own_of (fun t k => XS.iloadN X12.here hx rfl (hb hby at_68) rfl  k) ?_
        show own_Ends _ _ _ _ _ _ (T12.setTop (mkF m 69 #[.val (.int p1), .val (.int p2), .val (.int ((p1 &&& (2147483647 : Int32)) % (3 : Int32))), .val (.int (0 : Int32)), .val (.ref wB), .val (.int (1 : Int32))] [(.int (0 : Int32)), (.ref wB)]))
        obtain ⟨v13, T13, L13, h13, X13, e13, Q13, st13⟩ := own_virtual X12 hx hZ hown e12 EB (hw _ (List.mem_of_getElem? (i := 4) rfl)) (hw _ (List.mem_of_getElem? (i := 5) rfl)) (notFace_of_selects (args := #[]) (mvT hZ (hw _ (List.mem_of_getElem? (i := 7) rfl)))) (hw _ (List.mem_of_getElem? (i := 7) rfl)) (hw _ (List.mem_of_getElem? (i := 6) rfl)) (hw _ (List.mem_of_getElem? (i := 2) rfl)) (hw _ (List.mem_of_getElem? (i := 8) rfl)) (by decide) (argsL := [(.int (0 : Int32))]) (rest := []) (rm_allows l Z a0 hw wB wA wP (0 : Int32) (1 : Int32) h0 n0 Z0 SA SP (by simp [own_res, hAB, hAP, hPA, hBA, hBP])) (g := (mkF m 69 #[.val (.int p1), .val (.int p2), .val (.int ((p1 &&& (2147483647 : Int32)) % (3 : Int32))), .val (.int (0 : Int32)), .val (.ref wB), .val (.int (1 : Int32))] [(.int (0 : Int32)), (.ref wB)])) rfl (by rw [hml]; rfl) (lenOf pd__Z_r_Z rfl) rfl (by decide) (Nat.le_of_ble_eq_true rfl) (by decide) (by decide) (hb hby at_69)
        obtain ⟨rfl, Nq13, q13⟩ := Q13
        replace e13 := e13.trans q13
        have N13 := Fr.app N0 Nq13
        refine own_of st13 ?_
        show own_Ends _ _ _ _ _ _ (T13.setTop (mkF m 72 #[.val (.int p1), .val (.int p2), .val (.int ((p1 &&& (2147483647 : Int32)) % (3 : Int32))), .val (.int (0 : Int32)), .val (.ref wB), .val (.int (1 : Int32))] [(.int (1 : Int32))]))
        refine own_of (fun t k => XS.iload X13.here hx rfl (hb hby at_72) rfl  k) ?_
        show own_Ends _ _ _ _ _ _ (T13.setTop (mkF m 74 #[.val (.int p1), .val (.int p2), .val (.int ((p1 &&& (2147483647 : Int32)) % (3 : Int32))), .val (.int (0 : Int32)), .val (.ref wB), .val (.int (1 : Int32))] [(.int (1 : Int32)), (.int (1 : Int32))]))
        refine own_of (fun t k => XS.icmpNo X13.here hx rfl (hb hby at_74) rfl (teq (by decide : ((1 : Int32) = (1 : Int32)))).2 k) ?_
        show own_Ends _ _ _ _ _ _ (T13.setTop (mkF m 77 #[.val (.int p1), .val (.int p2), .val (.int ((p1 &&& (2147483647 : Int32)) % (3 : Int32))), .val (.int (0 : Int32)), .val (.ref wB), .val (.int (1 : Int32))] []))
        refine own_of (fun t k => XS.iconst X13.here hx rfl (hb hby at_77) k) ?_
        show own_Ends _ _ _ _ _ _ (T13.setTop (mkF m 78 #[.val (.int p1), .val (.int p2), .val (.int ((p1 &&& (2147483647 : Int32)) % (3 : Int32))), .val (.int (0 : Int32)), .val (.ref wB), .val (.int (1 : Int32))] [(.int (1 : Int32))]))
        refine own_of (fun t k => XS.goto X13.here hx rfl (pc0 := 78) (pc' := 82) rfl (hb hby at_78) (by decide) (by decide) k) ?_
        show own_Ends _ _ _ _ _ _ (T13.setTop (mkF m 82 #[.val (.int p1), .val (.int p2), .val (.int ((p1 &&& (2147483647 : Int32)) % (3 : Int32))), .val (.int (0 : Int32)), .val (.ref wB), .val (.int (1 : Int32))] [(.int (1 : Int32))]))
        refine own_retN X13 hx hlk e13 (t := .boolean) hret (by simp) (z' := (1 : Int32)) rfl (hb hby at_82) (by decide) (by decide) ?_
        exact ⟨rfl, N13⟩
      · refine own_of (fun t k => XS.icmpYes X0.here hx rfl (pc0 := 36) (pc' := 58) rfl (hb hby at_36) rfl (feq hc11).2 (by decide) (by decide) k) ?_
        show own_Ends _ _ _ _ _ _ (T0.setTop (mkF m 58 #[.val (.int p1), .val (.int p2), .val (.int ((p1 &&& (2147483647 : Int32)) % (3 : Int32))), .val (.int (0 : Int32)), .unset, .unset] []))
        obtain ⟨T14, X14, e14, st14⟩ := getS2 X0 hx hZ hown (host := "") (Or.inl (hw _ (List.mem_of_getElem? (i := 10) rfl))) Via.refl e0 SP (g := (mkF m 58 #[.val (.int p1), .val (.int p2), .val (.int ((p1 &&& (2147483647 : Int32)) % (3 : Int32))), .val (.int (0 : Int32)), .unset, .unset] [])) rfl (hb hby at_58)
        refine own_of st14 ?_
        show own_Ends _ _ _ _ _ _ (T14.setTop (mkF m 61 #[.val (.int p1), .val (.int p2), .val (.int ((p1 &&& (2147483647 : Int32)) % (3 : Int32))), .val (.int (0 : Int32)), .unset, .unset] [(.ref wP)]))
        refine own_of (fun t k => XS.astore X14.here hx rfl (hb hby at_61) rfl rfl (l' := #[.val (.int p1), .val (.int p2), .val (.int ((p1 &&& (2147483647 : Int32)) % (3 : Int32))), .val (.int (0 : Int32)), .val (.ref wP), .unset]) rfl k) ?_
        show own_Ends _ _ _ _ _ _ (T14.setTop (mkF m 63 #[.val (.int p1), .val (.int p2), .val (.int ((p1 &&& (2147483647 : Int32)) % (3 : Int32))), .val (.int (0 : Int32)), .val (.ref wP), .unset] []))
        refine own_of (fun t k => XS.iloadN X14.here hx rfl (hb hby at_63) rfl  k) ?_
        show own_Ends _ _ _ _ _ _ (T14.setTop (mkF m 64 #[.val (.int p1), .val (.int p2), .val (.int ((p1 &&& (2147483647 : Int32)) % (3 : Int32))), .val (.int (0 : Int32)), .val (.ref wP), .unset] [(.int (0 : Int32))]))
        refine own_of (fun t k => XS.istore X14.here hx rfl (hb hby at_64) rfl (l' := #[.val (.int p1), .val (.int p2), .val (.int ((p1 &&& (2147483647 : Int32)) % (3 : Int32))), .val (.int (0 : Int32)), .val (.ref wP), .val (.int (0 : Int32))]) rfl k) ?_
        show own_Ends _ _ _ _ _ _ (T14.setTop (mkF m 66 #[.val (.int p1), .val (.int p2), .val (.int ((p1 &&& (2147483647 : Int32)) % (3 : Int32))), .val (.int (0 : Int32)), .val (.ref wP), .val (.int (0 : Int32))] []))
        refine own_of (fun t k => XS.aload X14.here hx rfl (hb hby at_66) rfl rfl k) ?_
        show own_Ends _ _ _ _ _ _ (T14.setTop (mkF m 68 #[.val (.int p1), .val (.int p2), .val (.int ((p1 &&& (2147483647 : Int32)) % (3 : Int32))), .val (.int (0 : Int32)), .val (.ref wP), .val (.int (0 : Int32))] [(.ref wP)]))
        refine own_of (fun t k => XS.iloadN X14.here hx rfl (hb hby at_68) rfl  k) ?_
        show own_Ends _ _ _ _ _ _ (T14.setTop (mkF m 69 #[.val (.int p1), .val (.int p2), .val (.int ((p1 &&& (2147483647 : Int32)) % (3 : Int32))), .val (.int (0 : Int32)), .val (.ref wP), .val (.int (0 : Int32))] [(.int (0 : Int32)), (.ref wP)]))
        obtain ⟨v15, T15, L15, h15, X15, e15, Q15, st15⟩ := own_virtual X14 hx hZ hown e14 EP (hw _ (List.mem_of_getElem? (i := 4) rfl)) (hw _ (List.mem_of_getElem? (i := 5) rfl)) (notFace_of_selects (args := #[]) (mvT hZ (hw _ (List.mem_of_getElem? (i := 7) rfl)))) (hw _ (List.mem_of_getElem? (i := 7) rfl)) (hw _ (List.mem_of_getElem? (i := 6) rfl)) (hw _ (List.mem_of_getElem? (i := 2) rfl)) (hw _ (List.mem_of_getElem? (i := 8) rfl)) (by decide) (argsL := [(.int (0 : Int32))]) (rest := []) (rm_allows l Z a0 hw wP wA wP (0 : Int32) (0 : Int32) h0 n0 Z0 SA SP (by simp [own_res, hAB, hAP, hPA, hBA, hBP])) (g := (mkF m 69 #[.val (.int p1), .val (.int p2), .val (.int ((p1 &&& (2147483647 : Int32)) % (3 : Int32))), .val (.int (0 : Int32)), .val (.ref wP), .val (.int (0 : Int32))] [(.int (0 : Int32)), (.ref wP)])) rfl (by rw [hml]; rfl) (lenOf pd__Z_r_Z rfl) rfl (by decide) (Nat.le_of_ble_eq_true rfl) (by decide) (by decide) (hb hby at_69)
        obtain ⟨rfl, Nq15, q15⟩ := Q15
        replace e15 := e15.trans q15
        have N15 := Fr.app N0 Nq15
        refine own_of st15 ?_
        show own_Ends _ _ _ _ _ _ (T15.setTop (mkF m 72 #[.val (.int p1), .val (.int p2), .val (.int ((p1 &&& (2147483647 : Int32)) % (3 : Int32))), .val (.int (0 : Int32)), .val (.ref wP), .val (.int (0 : Int32))] [(.int (0 : Int32))]))
        refine own_of (fun t k => XS.iload X15.here hx rfl (hb hby at_72) rfl  k) ?_
        show own_Ends _ _ _ _ _ _ (T15.setTop (mkF m 74 #[.val (.int p1), .val (.int p2), .val (.int ((p1 &&& (2147483647 : Int32)) % (3 : Int32))), .val (.int (0 : Int32)), .val (.ref wP), .val (.int (0 : Int32))] [(.int (0 : Int32)), (.int (0 : Int32))]))
        refine own_of (fun t k => XS.icmpNo X15.here hx rfl (hb hby at_74) rfl (teq (by decide : ((0 : Int32) = (0 : Int32)))).2 k) ?_
        show own_Ends _ _ _ _ _ _ (T15.setTop (mkF m 77 #[.val (.int p1), .val (.int p2), .val (.int ((p1 &&& (2147483647 : Int32)) % (3 : Int32))), .val (.int (0 : Int32)), .val (.ref wP), .val (.int (0 : Int32))] []))
        refine own_of (fun t k => XS.iconst X15.here hx rfl (hb hby at_77) k) ?_
        show own_Ends _ _ _ _ _ _ (T15.setTop (mkF m 78 #[.val (.int p1), .val (.int p2), .val (.int ((p1 &&& (2147483647 : Int32)) % (3 : Int32))), .val (.int (0 : Int32)), .val (.ref wP), .val (.int (0 : Int32))] [(.int (1 : Int32))]))
        refine own_of (fun t k => XS.goto X15.here hx rfl (pc0 := 78) (pc' := 82) rfl (hb hby at_78) (by decide) (by decide) k) ?_
        show own_Ends _ _ _ _ _ _ (T15.setTop (mkF m 82 #[.val (.int p1), .val (.int p2), .val (.int ((p1 &&& (2147483647 : Int32)) % (3 : Int32))), .val (.int (0 : Int32)), .val (.ref wP), .val (.int (0 : Int32))] [(.int (1 : Int32))]))
        refine own_retN X15 hx hlk e15 (t := .boolean) hret (by simp) (z' := (1 : Int32)) rfl (hb hby at_82) (by decide) (by decide) ?_
        exact ⟨rfl, N15⟩
  · refine own_of (fun t k => XS.ifNo X0.here hx rfl (hb hby at_10) rfl ((if0 _ _).trans (feq hc7).1) k) ?_
    show own_Ends _ _ _ _ _ _ (T0.setTop (mkF m 13 #[.val (.int p1), .val (.int p2), .val (.int ((p1 &&& (2147483647 : Int32)) % (3 : Int32))), .unset, .unset, .unset] []))
    refine own_of (fun t k => XS.iconst X0.here hx rfl (hb hby at_13) k) ?_
    show own_Ends _ _ _ _ _ _ (T0.setTop (mkF m 14 #[.val (.int p1), .val (.int p2), .val (.int ((p1 &&& (2147483647 : Int32)) % (3 : Int32))), .unset, .unset, .unset] [(.int (1 : Int32))]))
    refine own_of (fun t k => XS.goto X0.here hx rfl (pc0 := 14) (pc' := 18) rfl (hb hby at_14) (by decide) (by decide) k) ?_
    show own_Ends _ _ _ _ _ _ (T0.setTop (mkF m 18 #[.val (.int p1), .val (.int p2), .val (.int ((p1 &&& (2147483647 : Int32)) % (3 : Int32))), .unset, .unset, .unset] [(.int (1 : Int32))]))
    refine own_of (fun t k => XS.istoreN X0.here hx rfl (hb hby at_18) rfl (l' := #[.val (.int p1), .val (.int p2), .val (.int ((p1 &&& (2147483647 : Int32)) % (3 : Int32))), .val (.int (1 : Int32)), .unset, .unset]) rfl k) ?_
    show own_Ends _ _ _ _ _ _ (T0.setTop (mkF m 19 #[.val (.int p1), .val (.int p2), .val (.int ((p1 &&& (2147483647 : Int32)) % (3 : Int32))), .val (.int (1 : Int32)), .unset, .unset] []))
    refine own_of (fun t k => XS.iloadN X0.here hx rfl (hb hby at_19) rfl  k) ?_
    show own_Ends _ _ _ _ _ _ (T0.setTop (mkF m 20 #[.val (.int p1), .val (.int p2), .val (.int ((p1 &&& (2147483647 : Int32)) % (3 : Int32))), .val (.int (1 : Int32)), .unset, .unset] [(.int ((p1 &&& (2147483647 : Int32)) % (3 : Int32)))]))
    by_cases hc16 : ((p1 &&& (2147483647 : Int32)) % (3 : Int32)) = (0 : Int32)
    · refine own_of (fun t k => XS.ifNo X0.here hx rfl (hb hby at_20) rfl ((if0 _ _).trans (teq hc16).2) k) ?_
      show own_Ends _ _ _ _ _ _ (T0.setTop (mkF m 23 #[.val (.int p1), .val (.int p2), .val (.int ((p1 &&& (2147483647 : Int32)) % (3 : Int32))), .val (.int (1 : Int32)), .unset, .unset] []))
      obtain ⟨T17, X17, e17, st17⟩ := getS2 X0 hx hZ hown (host := "") (Or.inl (hw _ (List.mem_of_getElem? (i := 1) rfl))) Via.refl e0 SA (g := (mkF m 23 #[.val (.int p1), .val (.int p2), .val (.int ((p1 &&& (2147483647 : Int32)) % (3 : Int32))), .val (.int (1 : Int32)), .unset, .unset] [])) rfl (hb hby at_23)
      refine own_of st17 ?_
      show own_Ends _ _ _ _ _ _ (T17.setTop (mkF m 26 #[.val (.int p1), .val (.int p2), .val (.int ((p1 &&& (2147483647 : Int32)) % (3 : Int32))), .val (.int (1 : Int32)), .unset, .unset] [(.ref wA)]))
      refine own_of (fun t k => XS.astore X17.here hx rfl (hb hby at_26) rfl rfl (l' := #[.val (.int p1), .val (.int p2), .val (.int ((p1 &&& (2147483647 : Int32)) % (3 : Int32))), .val (.int (1 : Int32)), .val (.ref wA), .unset]) rfl k) ?_
      show own_Ends _ _ _ _ _ _ (T17.setTop (mkF m 28 #[.val (.int p1), .val (.int p2), .val (.int ((p1 &&& (2147483647 : Int32)) % (3 : Int32))), .val (.int (1 : Int32)), .val (.ref wA), .unset] []))
      refine own_of (fun t k => XS.iconst X17.here hx rfl (hb hby at_28) k) ?_
      show own_Ends _ _ _ _ _ _ (T17.setTop (mkF m 29 #[.val (.int p1), .val (.int p2), .val (.int ((p1 &&& (2147483647 : Int32)) % (3 : Int32))), .val (.int (1 : Int32)), .val (.ref wA), .unset] [(.int (1 : Int32))]))
      refine own_of (fun t k => XS.istore X17.here hx rfl (hb hby at_29) rfl (l' := #[.val (.int p1), .val (.int p2), .val (.int ((p1 &&& (2147483647 : Int32)) % (3 : Int32))), .val (.int (1 : Int32)), .val (.ref wA), .val (.int (1 : Int32))]) rfl k) ?_
      show own_Ends _ _ _ _ _ _ (T17.setTop (mkF m 31 #[.val (.int p1), .val (.int p2), .val (.int ((p1 &&& (2147483647 : Int32)) % (3 : Int32))), .val (.int (1 : Int32)), .val (.ref wA), .val (.int (1 : Int32))] []))
      refine own_of (fun t k => XS.goto X17.here hx rfl (pc0 := 31) (pc' := 66) rfl (hb hby at_31) (by decide) (by decide) k) ?_
      show own_Ends _ _ _ _ _ _ (T17.setTop (mkF m 66 #[.val (.int p1), .val (.int p2), .val (.int ((p1 &&& (2147483647 : Int32)) % (3 : Int32))), .val (.int (1 : Int32)), .val (.ref wA), .val (.int (1 : Int32))] []))
      refine own_of (fun t k => XS.aload X17.here hx rfl (hb hby at_66) rfl rfl k) ?_
      show own_Ends _ _ _ _ _ _ (T17.setTop (mkF m 68 #[.val (.int p1), .val (.int p2), .val (.int ((p1 &&& (2147483647 : Int32)) % (3 : Int32))), .val (.int (1 : Int32)), .val (.ref wA), .val (.int (1 : Int32))] [(.ref wA)]))
      refine own_of (fun t k => XS.iloadN X17.here hx rfl (hb hby at_68) rfl  k) ?_
      show own_Ends _ _ _ _ _ _ (T17.setTop (mkF m 69 #[.val (.int p1), .val (.int p2), .val (.int ((p1 &&& (2147483647 : Int32)) % (3 : Int32))), .val (.int (1 : Int32)), .val (.ref wA), .val (.int (1 : Int32))] [(.int (1 : Int32)), (.ref wA)]))
      obtain ⟨v18, T18, L18, h18, X18, e18, Q18, st18⟩ := own_virtual X17 hx hZ hown e17 EA (hw _ (List.mem_of_getElem? (i := 4) rfl)) (hw _ (List.mem_of_getElem? (i := 5) rfl)) (notFace_of_selects (args := #[]) (mvT hZ (hw _ (List.mem_of_getElem? (i := 7) rfl)))) (hw _ (List.mem_of_getElem? (i := 7) rfl)) (hw _ (List.mem_of_getElem? (i := 6) rfl)) (hw _ (List.mem_of_getElem? (i := 2) rfl)) (hw _ (List.mem_of_getElem? (i := 8) rfl)) (by decide) (argsL := [(.int (1 : Int32))]) (rest := []) (rm_allows l Z a0 hw wA wA wP (1 : Int32) (1 : Int32) h0 n0 Z0 SA SP (by simp [own_res, hAB, hAP, hPA, hBA, hBP])) (g := (mkF m 69 #[.val (.int p1), .val (.int p2), .val (.int ((p1 &&& (2147483647 : Int32)) % (3 : Int32))), .val (.int (1 : Int32)), .val (.ref wA), .val (.int (1 : Int32))] [(.int (1 : Int32)), (.ref wA)])) rfl (by rw [hml]; rfl) (lenOf pd__Z_r_Z rfl) rfl (by decide) (Nat.le_of_ble_eq_true rfl) (by decide) (by decide) (hb hby at_69)
      obtain ⟨rfl, Nq18, q18⟩ := Q18
      replace e18 := e18.trans q18
      have N18 := Fr.app N0 Nq18
      refine own_of st18 ?_
      show own_Ends _ _ _ _ _ _ (T18.setTop (mkF m 72 #[.val (.int p1), .val (.int p2), .val (.int ((p1 &&& (2147483647 : Int32)) % (3 : Int32))), .val (.int (1 : Int32)), .val (.ref wA), .val (.int (1 : Int32))] [(.int (1 : Int32))]))
      refine own_of (fun t k => XS.iload X18.here hx rfl (hb hby at_72) rfl  k) ?_
      show own_Ends _ _ _ _ _ _ (T18.setTop (mkF m 74 #[.val (.int p1), .val (.int p2), .val (.int ((p1 &&& (2147483647 : Int32)) % (3 : Int32))), .val (.int (1 : Int32)), .val (.ref wA), .val (.int (1 : Int32))] [(.int (1 : Int32)), (.int (1 : Int32))]))
      refine own_of (fun t k => XS.icmpNo X18.here hx rfl (hb hby at_74) rfl (teq (by decide : ((1 : Int32) = (1 : Int32)))).2 k) ?_
      show own_Ends _ _ _ _ _ _ (T18.setTop (mkF m 77 #[.val (.int p1), .val (.int p2), .val (.int ((p1 &&& (2147483647 : Int32)) % (3 : Int32))), .val (.int (1 : Int32)), .val (.ref wA), .val (.int (1 : Int32))] []))
      refine own_of (fun t k => XS.iconst X18.here hx rfl (hb hby at_77) k) ?_
      show own_Ends _ _ _ _ _ _ (T18.setTop (mkF m 78 #[.val (.int p1), .val (.int p2), .val (.int ((p1 &&& (2147483647 : Int32)) % (3 : Int32))), .val (.int (1 : Int32)), .val (.ref wA), .val (.int (1 : Int32))] [(.int (1 : Int32))]))
      refine own_of (fun t k => XS.goto X18.here hx rfl (pc0 := 78) (pc' := 82) rfl (hb hby at_78) (by decide) (by decide) k) ?_
      show own_Ends _ _ _ _ _ _ (T18.setTop (mkF m 82 #[.val (.int p1), .val (.int p2), .val (.int ((p1 &&& (2147483647 : Int32)) % (3 : Int32))), .val (.int (1 : Int32)), .val (.ref wA), .val (.int (1 : Int32))] [(.int (1 : Int32))]))
      refine own_retN X18 hx hlk e18 (t := .boolean) hret (by simp) (z' := (1 : Int32)) rfl (hb hby at_82) (by decide) (by decide) ?_
      exact ⟨rfl, N18⟩
    · refine own_of (fun t k => XS.ifYes X0.here hx rfl (pc0 := 20) (pc' := 34) rfl (hb hby at_20) rfl ((if0 _ _).trans (feq hc16).2) (by decide) (by decide) k) ?_
      show own_Ends _ _ _ _ _ _ (T0.setTop (mkF m 34 #[.val (.int p1), .val (.int p2), .val (.int ((p1 &&& (2147483647 : Int32)) % (3 : Int32))), .val (.int (1 : Int32)), .unset, .unset] []))
      refine own_of (fun t k => XS.iloadN X0.here hx rfl (hb hby at_34) rfl  k) ?_
      show own_Ends _ _ _ _ _ _ (T0.setTop (mkF m 35 #[.val (.int p1), .val (.int p2), .val (.int ((p1 &&& (2147483647 : Int32)) % (3 : Int32))), .val (.int (1 : Int32)), .unset, .unset] [(.int ((p1 &&& (2147483647 : Int32)) % (3 : Int32)))]))
      refine own_of (fun t k => XS.iconst X0.here hx rfl (hb hby at_35) k) ?_
      show own_Ends _ _ _ _ _ _ (T0.setTop (mkF m 36 #[.val (.int p1), .val (.int p2), .val (.int ((p1 &&& (2147483647 : Int32)) % (3 : Int32))), .val (.int (1 : Int32)), .unset, .unset] [(.int (1 : Int32)), (.int ((p1 &&& (2147483647 : Int32)) % (3 : Int32)))]))
      by_cases hc19 : ((p1 &&& (2147483647 : Int32)) % (3 : Int32)) = (1 : Int32)
      · refine own_of (fun t k => XS.icmpNo X0.here hx rfl (hb hby at_36) rfl (teq hc19).2 k) ?_
        show own_Ends _ _ _ _ _ _ (T0.setTop (mkF m 39 #[.val (.int p1), .val (.int p2), .val (.int ((p1 &&& (2147483647 : Int32)) % (3 : Int32))), .val (.int (1 : Int32)), .unset, .unset] []))
        obtain ⟨T20, X20, e20, st20⟩ := getS2 X0 hx hZ hown (host := "") (Or.inl (hw _ (List.mem_of_getElem? (i := 13) rfl))) Via.refl e0 SB (g := (mkF m 39 #[.val (.int p1), .val (.int p2), .val (.int ((p1 &&& (2147483647 : Int32)) % (3 : Int32))), .val (.int (1 : Int32)), .unset, .unset] [])) rfl (hb hby at_39)
        refine own_of st20 ?_
        show own_Ends _ _ _ _ _ _ (T20.setTop (mkF m 42 #[.val (.int p1), .val (.int p2), .val (.int ((p1 &&& (2147483647 : Int32)) % (3 : Int32))), .val (.int (1 : Int32)), .unset, .unset] [(.ref wB)]))
        refine own_of (fun t k => XS.astore X20.here hx rfl (hb hby at_42) rfl rfl (l' := #[.val (.int p1), .val (.int p2), .val (.int ((p1 &&& (2147483647 : Int32)) % (3 : Int32))), .val (.int (1 : Int32)), .val (.ref wB), .unset]) rfl k) ?_
        show own_Ends _ _ _ _ _ _ (T20.setTop (mkF m 44 #[.val (.int p1), .val (.int p2), .val (.int ((p1 &&& (2147483647 : Int32)) % (3 : Int32))), .val (.int (1 : Int32)), .val (.ref wB), .unset] []))
        refine own_of (fun t k => XS.iloadN X20.here hx rfl (hb hby at_44) rfl  k) ?_
        show own_Ends _ _ _ _ _ _ (T20.setTop (mkF m 45 #[.val (.int p1), .val (.int p2), .val (.int ((p1 &&& (2147483647 : Int32)) % (3 : Int32))), .val (.int (1 : Int32)), .val (.ref wB), .unset] [(.int (1 : Int32))]))
        refine own_of (fun t k => XS.ifYes X20.here hx rfl (pc0 := 45) (pc' := 52) rfl (hb hby at_45) rfl ((if0 _ _).trans (feq (by decide : ¬ ((1 : Int32) = (0 : Int32)))).2) (by decide) (by decide) k) ?_
        show own_Ends _ _ _ _ _ _ (T20.setTop (mkF m 52 #[.val (.int p1), .val (.int p2), .val (.int ((p1 &&& (2147483647 : Int32)) % (3 : Int32))), .val (.int (1 : Int32)), .val (.ref wB), .unset] []))
        refine own_of (fun t k => XS.iconst X20.here hx rfl (hb hby at_52) k) ?_
        show own_Ends _ _ _ _ _ _ (T20.setTop (mkF m 53 #[.val (.int p1), .val (.int p2), .val (.int ((p1 &&& (2147483647 : Int32)) % (3 : Int32))), .val (.int (1 : Int32)), .val (.ref wB), .unset] [(.int (0 : Int32))]))
        refine own_of (fun t k => XS.istore X20.here hx rfl (hb hby at_53) rfl (l' := #[.val (.int p1), .val (.int p2), .val (.int ((p1 &&& (2147483647 : Int32)) % (3 : Int32))), .val (.int (1 : Int32)), .val (.ref wB), .val (.int (0 : Int32))]) rfl k) ?_
        show own_Ends _ _ _ _ _ _ (T20.setTop (mkF m 55 #[.val (.int p1), .val (.int p2), .val (.int ((p1 &&& (2147483647 : Int32)) % (3 : Int32))), .val (.int (1 : Int32)), .val (.ref wB), .val (.int (0 : Int32))] []))
        refine own_of (fun t k => XS.goto X20.here hx rfl (pc0 := 55) (pc' := 66) rfl (hb hby at_55) (by decide) (by decide) k) ?_
        show own_Ends _ _ _ _ _ _ (T20.setTop (mkF m 66 #[.val (.int p1), .val (.int p2), .val (.int ((p1 &&& (2147483647 : Int32)) % (3 : Int32))), .val (.int (1 : Int32)), .val (.ref wB), .val (.int (0 : Int32))] []))
        refine own_of (fun t k => XS.aload X20.here hx rfl (hb hby at_66) rfl rfl k) ?_
        show own_Ends _ _ _ _ _ _ (T20.setTop (mkF m 68 #[.val (.int p1), .val (.int p2), .val (.int ((p1 &&& (2147483647 : Int32)) % (3 : Int32))), .val (.int (1 : Int32)), .val (.ref wB), .val (.int (0 : Int32))] [(.ref wB)]))
        refine own_of (fun t k => XS.iloadN X20.here hx rfl (hb hby at_68) rfl  k) ?_
        show own_Ends _ _ _ _ _ _ (T20.setTop (mkF m 69 #[.val (.int p1), .val (.int p2), .val (.int ((p1 &&& (2147483647 : Int32)) % (3 : Int32))), .val (.int (1 : Int32)), .val (.ref wB), .val (.int (0 : Int32))] [(.int (1 : Int32)), (.ref wB)]))
        obtain ⟨v21, T21, L21, h21, X21, e21, Q21, st21⟩ := own_virtual X20 hx hZ hown e20 EB (hw _ (List.mem_of_getElem? (i := 4) rfl)) (hw _ (List.mem_of_getElem? (i := 5) rfl)) (notFace_of_selects (args := #[]) (mvT hZ (hw _ (List.mem_of_getElem? (i := 7) rfl)))) (hw _ (List.mem_of_getElem? (i := 7) rfl)) (hw _ (List.mem_of_getElem? (i := 6) rfl)) (hw _ (List.mem_of_getElem? (i := 2) rfl)) (hw _ (List.mem_of_getElem? (i := 8) rfl)) (by decide) (argsL := [(.int (1 : Int32))]) (rest := []) (rm_allows l Z a0 hw wB wA wP (1 : Int32) (0 : Int32) h0 n0 Z0 SA SP (by simp [own_res, hAB, hAP, hPA, hBA, hBP])) (g := (mkF m 69 #[.val (.int p1), .val (.int p2), .val (.int ((p1 &&& (2147483647 : Int32)) % (3 : Int32))), .val (.int (1 : Int32)), .val (.ref wB), .val (.int (0 : Int32))] [(.int (1 : Int32)), (.ref wB)])) rfl (by rw [hml]; rfl) (lenOf pd__Z_r_Z rfl) rfl (by decide) (Nat.le_of_ble_eq_true rfl) (by decide) (by decide) (hb hby at_69)
        obtain ⟨rfl, Nq21, q21⟩ := Q21
        replace e21 := e21.trans q21
        have N21 := Fr.app N0 Nq21
        refine own_of st21 ?_
        show own_Ends _ _ _ _ _ _ (T21.setTop (mkF m 72 #[.val (.int p1), .val (.int p2), .val (.int ((p1 &&& (2147483647 : Int32)) % (3 : Int32))), .val (.int (1 : Int32)), .val (.ref wB), .val (.int (0 : Int32))] [(.int (0 : Int32))]))
        refine own_of (fun t k => XS.iload X21.here hx rfl (hb hby at_72) rfl  k) ?_
        show own_Ends _ _ _ _ _ _ (T21.setTop (mkF m 74 #[.val (.int p1), .val (.int p2), .val (.int ((p1 &&& (2147483647 : Int32)) % (3 : Int32))), .val (.int (1 : Int32)), .val (.ref wB), .val (.int (0 : Int32))] [(.int (0 : Int32)), (.int (0 : Int32))]))
        refine own_of (fun t k => XS.icmpNo X21.here hx rfl (hb hby at_74) rfl (teq (by decide : ((0 : Int32) = (0 : Int32)))).2 k) ?_
        show own_Ends _ _ _ _ _ _ (T21.setTop (mkF m 77 #[.val (.int p1), .val (.int p2), .val (.int ((p1 &&& (2147483647 : Int32)) % (3 : Int32))), .val (.int (1 : Int32)), .val (.ref wB), .val (.int (0 : Int32))] []))
        refine own_of (fun t k => XS.iconst X21.here hx rfl (hb hby at_77) k) ?_
        show own_Ends _ _ _ _ _ _ (T21.setTop (mkF m 78 #[.val (.int p1), .val (.int p2), .val (.int ((p1 &&& (2147483647 : Int32)) % (3 : Int32))), .val (.int (1 : Int32)), .val (.ref wB), .val (.int (0 : Int32))] [(.int (1 : Int32))]))
        refine own_of (fun t k => XS.goto X21.here hx rfl (pc0 := 78) (pc' := 82) rfl (hb hby at_78) (by decide) (by decide) k) ?_
        show own_Ends _ _ _ _ _ _ (T21.setTop (mkF m 82 #[.val (.int p1), .val (.int p2), .val (.int ((p1 &&& (2147483647 : Int32)) % (3 : Int32))), .val (.int (1 : Int32)), .val (.ref wB), .val (.int (0 : Int32))] [(.int (1 : Int32))]))
        refine own_retN X21 hx hlk e21 (t := .boolean) hret (by simp) (z' := (1 : Int32)) rfl (hb hby at_82) (by decide) (by decide) ?_
        exact ⟨rfl, N21⟩
      · refine own_of (fun t k => XS.icmpYes X0.here hx rfl (pc0 := 36) (pc' := 58) rfl (hb hby at_36) rfl (feq hc19).2 (by decide) (by decide) k) ?_
        show own_Ends _ _ _ _ _ _ (T0.setTop (mkF m 58 #[.val (.int p1), .val (.int p2), .val (.int ((p1 &&& (2147483647 : Int32)) % (3 : Int32))), .val (.int (1 : Int32)), .unset, .unset] []))
        obtain ⟨T22, X22, e22, st22⟩ := getS2 X0 hx hZ hown (host := "") (Or.inl (hw _ (List.mem_of_getElem? (i := 10) rfl))) Via.refl e0 SP (g := (mkF m 58 #[.val (.int p1), .val (.int p2), .val (.int ((p1 &&& (2147483647 : Int32)) % (3 : Int32))), .val (.int (1 : Int32)), .unset, .unset] [])) rfl (hb hby at_58)
        refine own_of st22 ?_
        show own_Ends _ _ _ _ _ _ (T22.setTop (mkF m 61 #[.val (.int p1), .val (.int p2), .val (.int ((p1 &&& (2147483647 : Int32)) % (3 : Int32))), .val (.int (1 : Int32)), .unset, .unset] [(.ref wP)]))
        refine own_of (fun t k => XS.astore X22.here hx rfl (hb hby at_61) rfl rfl (l' := #[.val (.int p1), .val (.int p2), .val (.int ((p1 &&& (2147483647 : Int32)) % (3 : Int32))), .val (.int (1 : Int32)), .val (.ref wP), .unset]) rfl k) ?_
        show own_Ends _ _ _ _ _ _ (T22.setTop (mkF m 63 #[.val (.int p1), .val (.int p2), .val (.int ((p1 &&& (2147483647 : Int32)) % (3 : Int32))), .val (.int (1 : Int32)), .val (.ref wP), .unset] []))
        refine own_of (fun t k => XS.iloadN X22.here hx rfl (hb hby at_63) rfl  k) ?_
        show own_Ends _ _ _ _ _ _ (T22.setTop (mkF m 64 #[.val (.int p1), .val (.int p2), .val (.int ((p1 &&& (2147483647 : Int32)) % (3 : Int32))), .val (.int (1 : Int32)), .val (.ref wP), .unset] [(.int (1 : Int32))]))
        refine own_of (fun t k => XS.istore X22.here hx rfl (hb hby at_64) rfl (l' := #[.val (.int p1), .val (.int p2), .val (.int ((p1 &&& (2147483647 : Int32)) % (3 : Int32))), .val (.int (1 : Int32)), .val (.ref wP), .val (.int (1 : Int32))]) rfl k) ?_
        show own_Ends _ _ _ _ _ _ (T22.setTop (mkF m 66 #[.val (.int p1), .val (.int p2), .val (.int ((p1 &&& (2147483647 : Int32)) % (3 : Int32))), .val (.int (1 : Int32)), .val (.ref wP), .val (.int (1 : Int32))] []))
        refine own_of (fun t k => XS.aload X22.here hx rfl (hb hby at_66) rfl rfl k) ?_
        show own_Ends _ _ _ _ _ _ (T22.setTop (mkF m 68 #[.val (.int p1), .val (.int p2), .val (.int ((p1 &&& (2147483647 : Int32)) % (3 : Int32))), .val (.int (1 : Int32)), .val (.ref wP), .val (.int (1 : Int32))] [(.ref wP)]))
        refine own_of (fun t k => XS.iloadN X22.here hx rfl (hb hby at_68) rfl  k) ?_
        show own_Ends _ _ _ _ _ _ (T22.setTop (mkF m 69 #[.val (.int p1), .val (.int p2), .val (.int ((p1 &&& (2147483647 : Int32)) % (3 : Int32))), .val (.int (1 : Int32)), .val (.ref wP), .val (.int (1 : Int32))] [(.int (1 : Int32)), (.ref wP)]))
        obtain ⟨v23, T23, L23, h23, X23, e23, Q23, st23⟩ := own_virtual X22 hx hZ hown e22 EP (hw _ (List.mem_of_getElem? (i := 4) rfl)) (hw _ (List.mem_of_getElem? (i := 5) rfl)) (notFace_of_selects (args := #[]) (mvT hZ (hw _ (List.mem_of_getElem? (i := 7) rfl)))) (hw _ (List.mem_of_getElem? (i := 7) rfl)) (hw _ (List.mem_of_getElem? (i := 6) rfl)) (hw _ (List.mem_of_getElem? (i := 2) rfl)) (hw _ (List.mem_of_getElem? (i := 8) rfl)) (by decide) (argsL := [(.int (1 : Int32))]) (rest := []) (rm_allows l Z a0 hw wP wA wP (1 : Int32) (1 : Int32) h0 n0 Z0 SA SP (by simp [own_res, hAB, hAP, hPA, hBA, hBP])) (g := (mkF m 69 #[.val (.int p1), .val (.int p2), .val (.int ((p1 &&& (2147483647 : Int32)) % (3 : Int32))), .val (.int (1 : Int32)), .val (.ref wP), .val (.int (1 : Int32))] [(.int (1 : Int32)), (.ref wP)])) rfl (by rw [hml]; rfl) (lenOf pd__Z_r_Z rfl) rfl (by decide) (Nat.le_of_ble_eq_true rfl) (by decide) (by decide) (hb hby at_69)
        obtain ⟨rfl, Nq23, q23⟩ := Q23
        replace e23 := e23.trans q23
        have N23 := Fr.app N0 Nq23
        refine own_of st23 ?_
        show own_Ends _ _ _ _ _ _ (T23.setTop (mkF m 72 #[.val (.int p1), .val (.int p2), .val (.int ((p1 &&& (2147483647 : Int32)) % (3 : Int32))), .val (.int (1 : Int32)), .val (.ref wP), .val (.int (1 : Int32))] [(.int (1 : Int32))]))
        refine own_of (fun t k => XS.iload X23.here hx rfl (hb hby at_72) rfl  k) ?_
        show own_Ends _ _ _ _ _ _ (T23.setTop (mkF m 74 #[.val (.int p1), .val (.int p2), .val (.int ((p1 &&& (2147483647 : Int32)) % (3 : Int32))), .val (.int (1 : Int32)), .val (.ref wP), .val (.int (1 : Int32))] [(.int (1 : Int32)), (.int (1 : Int32))]))
        refine own_of (fun t k => XS.icmpNo X23.here hx rfl (hb hby at_74) rfl (teq (by decide : ((1 : Int32) = (1 : Int32)))).2 k) ?_
        show own_Ends _ _ _ _ _ _ (T23.setTop (mkF m 77 #[.val (.int p1), .val (.int p2), .val (.int ((p1 &&& (2147483647 : Int32)) % (3 : Int32))), .val (.int (1 : Int32)), .val (.ref wP), .val (.int (1 : Int32))] []))
        refine own_of (fun t k => XS.iconst X23.here hx rfl (hb hby at_77) k) ?_
        show own_Ends _ _ _ _ _ _ (T23.setTop (mkF m 78 #[.val (.int p1), .val (.int p2), .val (.int ((p1 &&& (2147483647 : Int32)) % (3 : Int32))), .val (.int (1 : Int32)), .val (.ref wP), .val (.int (1 : Int32))] [(.int (1 : Int32))]))
        refine own_of (fun t k => XS.goto X23.here hx rfl (pc0 := 78) (pc' := 82) rfl (hb hby at_78) (by decide) (by decide) k) ?_
        show own_Ends _ _ _ _ _ _ (T23.setTop (mkF m 82 #[.val (.int p1), .val (.int p2), .val (.int ((p1 &&& (2147483647 : Int32)) % (3 : Int32))), .val (.int (1 : Int32)), .val (.ref wP), .val (.int (1 : Int32))] [(.int (1 : Int32))]))
        refine own_retN X23 hx hlk e23 (t := .boolean) hret (by simp) (z' := (1 : Int32)) rfl (hb hby at_82) (by decide) (by decide) ?_
        exact ⟨rfl, N23⟩
set_option maxRecDepth 65536 in
set_option maxHeartbeats 40000000 in
theorem comes_1 {Post : Tables → Env → Array Value → State → Outcome → State → Prop} (hpost : ∀ tb e args s v u, (limb_1_1.after args s (.returned v) u = true ∧ limb_1_2.after args s (.returned v) u = true ∧ True) → FrameEnd s (.returned v) u (Jvm.fieldLocs frame_1_writes args s ++ Jvm.arrayLocs frame_1_arrays args s ++ Jvm.staticLocs frame_1_statics s) 0 0 → Post tb e args s (.returned v) u) :
    ArmFor flags0 classFile x code maxLocals ret World_1 tables_1 room_1 Calls_1 rest_1 Pre_1 Post := by
  intro l hfl _ _ p e ha hc hk s m args below hf hA hF happ hP
  obtain ⟨hcalls, hrest, hpre⟩ := hP
  obtain ⟨-, -, -, hnamed, -, -, -, hat⟩ := (Spec.applies_iff hf).mp happ
  obtain ⟨hg, hn⟩ := and_e (Cond.before_iff.mp (show (Jvm.Cond.and given_1 narrow_1).before args s = true from hpre))
  obtain ⟨hcount, hg⟩ := and_e hg
  obtain ⟨hgi0, hg⟩ := and_e hg
  have hgi1 := hg
  obtain ⟨w0, w1, rfl⟩ : ∃ w0 w1 : Value, args = #[w0, w1] := by
    have hs : args.size = 2 := by simpa [Cond.value, given_1] using hcount
    obtain ⟨L⟩ := args
    match L, hs with
    | [w0, w1], _ => exact ⟨w0, w1, rfl⟩
  have hw := fun d (hd : d ∈ tables_1) => atoms_spec (ws := Jvm.Cond.code x code maxLocals ret :: tables_1) hat d (List.mem_cons_of_mem _ hd)
  have hfit : Fit s := fun {y c} hc i hi => by
    obtain ⟨ha, rfl⟩ := Array.getElem?_eq_some_iff.mp hc
    have q := List.all_eq_true.mp ((Array.all_eq_true_iff_forall_mem.mp hF) _ (Array.getElem_mem ha)) i (List.mem_range.mpr hi)
    simpa [Array.getElem?_eq_getElem hi] using q
  obtain ⟨i0, ei0⟩ := is_v hgi0
  obtain rfl : w0 = (.int i0) := Option.some.inj ei0
  obtain ⟨i1, ei1⟩ := is_v hgi1
  obtain rfl : w1 = (.int i1) := Option.some.inj ei1
  obtain ⟨n1, hn⟩ := and_e hn
  obtain ⟨n2, hn⟩ := and_e hn
  obtain ⟨n3, hn⟩ := and_e hn
  obtain ⟨n4, hn⟩ := and_e hn
  obtain ⟨n5, n6⟩ := and_e hn
  obtain ⟨wA, evA⟩ := exa_v n1
  have SA := Sta.start evA (Or.inr ⟨(hw _ (List.mem_of_getElem? (i := 2) rfl)), (hw _ (List.mem_of_getElem? (i := 3) rfl))⟩)
  have EA := Exa.start evA n1
  have FA : Fld s s.heap wA "java/lang/Enum" "ordinal" "I" (.int 0) := Fld.start ((fld_at evA).symm.trans (own_eq_int n4))
  obtain ⟨wP, evP⟩ := exa_v n2
  have SP := Sta.start evP (Or.inr ⟨(hw _ (List.mem_of_getElem? (i := 2) rfl)), (hw _ (List.mem_of_getElem? (i := 11) rfl))⟩)
  have EP := Exa.start evP n2
  have FP : Fld s s.heap wP "java/lang/Enum" "ordinal" "I" (.int 2) := Fld.start ((fld_at evP).symm.trans (own_eq_int n3))
  obtain ⟨wB, evB⟩ := exa_v n5
  have SB := Sta.start evB (Or.inr ⟨(hw _ (List.mem_of_getElem? (i := 2) rfl)), (hw _ (List.mem_of_getElem? (i := 14) rfl))⟩)
  have EB := Exa.start evB n5
  have FB : Fld s s.heap wB "java/lang/Enum" "ordinal" "I" (.int 1) := Fld.start ((fld_at evB).symm.trans (own_eq_int n6))
  obtain ⟨n, o, h1, h2, h3, _, L, rfl, ⟨rfl, N⟩, hq⟩ := rm0 l s _ hw i0 i1 wA wP wB s.heap s.heap.size (Nat.le_refl _) SA SP SB EA EP EB (FA.ne FB (by decide)) (FA.ne FP (by decide)) (FB.ne FP (by decide)) tables_1 p e ha hc hk s m _ below hf ((Spec.applies_iff_loose hf).mp happ).1 ⟨rfl, State.Warmed39.refl s, rfl⟩ trivial
  refine ⟨n, _, h1, h2, h3, hpost _ _ _ _ _ _ ⟨Cond.after_iff.mpr rfl, Cond.after_iff.mpr (eq_i res_at (Term.int_eval (1)) rfl), trivial⟩ ⟨hq.1, hq.2.1, (hq.2.2.sift fun y hy => Or.inr (N y hy)).mono (by decide) (by decide)⟩⟩
theorem main_1_1 : Claimed_1_1 := comes_1 fun _ _ _ _ _ _ h hF => ⟨h.1, hF⟩
theorem main_1_2 : Claimed_1_2 := comes_1 fun _ _ _ _ _ _ h hF => ⟨h.2.1, hF⟩
end Jvm.Pilot.@@N@@
namespace Jvm.Pilot.@@N@@
open Jvm Jvm.ClassFile Sem Op Lib Jvm.Free Jvm.Stand Jvm.Pilot.@@N@@.Jvm.D
/-! MADE BY PROGRAM (witnessworld.py) out of the Statement's table words and the real class files: 12 classes; the members and pool entries that the words name. The judged class is class 1, her method 1. -/
namespace start1
open Jvm.ClassFile
def u (s : String) : CpInfo := .utf8 (stringToUtf16 s)
/-- a pool by its gaps: so many unusable entries, then the entry; so many at the end -/
def gap : Nat → List CpInfo → List CpInfo
  | 0, r => r
  | n + 1, r => .unusable :: gap n r
def poolList (es : List (Nat × CpInfo)) (last : Nat) : List CpInfo := es.foldr (fun e r => gap e.1 (e.2 :: r)) (gap last [])
def pool (es : List (Nat × CpInfo)) (last : Nat) : Array CpInfo := ⟨poolList es last⟩
def fileOf (pool : Array CpInfo) (this : Nat) (attrs : Array Attribute := #[]) (ms : Array MethodInfo := #[]) (fl : Nat := 33) (sup : Nat := 0) (ifs : Array Nat := #[]) (fds : Array FieldInfo := #[]) : ClassFile where
  minorVersion := 0
  majorVersion := 65
  constantPool := pool
  accessFlags := fl
  thisClass := this
  superClass := sup
  interfaces := ifs
  fields := fds
  methods := ms
  attributes := attrs
def plain (name : String) (sup : Option ClassId) : Class where
  name := name
  kind := .ordinary
  loader := none
  accessFlags := 33
  super := sup
  interfaces := #[]
  cf := none
  fields := #[]
  methods := #[]
  instanceTypes := #[]
  staticTypes := #[]
  resolved := #[]
  callSites := []
  init := .initialized
  statics := none
  mirror := none

def pool0 : Array CpInfo := pool [(5, u "<init>"), (0, u "()V"), (1, .class_ 10), (1, u "java/lang/Object")] 113

def k0m0 : Method := { name := "<init>", desc := "()V", sig := { parameters := [], returnType := none }, accessFlags := 1, code := none }
/-- java/lang/Object -/
def k0 : Class := { plain "java/lang/Object" none with
  accessFlags := 33
  interfaces := #[]
  cf := some (fileOf pool0 8 #[] #[{ accessFlags := 1, nameIndex := 5, descriptorIndex := 6, attributes := #[] }] 33 0 #[] #[])
  fields := #[]
  methods := #[k0m0]
  instanceTypes := #[]
  staticTypes := #[]
  resolved := Array.replicate 124 none
  statics := none }

def pool1 : Array CpInfo := pool [(2, .class_ 4), (1, u "java/lang/Object"), (0, u "<init>"), (0, u "()V"), (0, .integer 2147483647), (0, .fieldref 9 10), (0, .class_ 11), (0, .nameAndType 12 13), (0, u "com/example/tiered_accord/tieredaccord/core/Request$Condition"), (0, u "ALWAYS"), (0, u "Lcom/example/tiered_accord/tieredaccord/core/Request$Condition;"), (0, .fieldref 9 15), (0, .nameAndType 16 13), (0, u "IF_ABSENT"), (0, .fieldref 9 18), (0, .nameAndType 19 13), (0, u "IF_PRESENT"), (0, .methodref 9 21), (0, .nameAndType 22 23), (0, u "allows"), (0, u "(Z)Z"), (0, .class_ 25), (0, u "com/example/tiered_accord/tieredaccord/core/ConditionAllowsPinLaw"), (2, u "law"), (0, u "(II)Z")] 7

def k1m0 : Method := { name := "<init>", desc := "()V", sig := { parameters := [], returnType := none }, accessFlags := 2, code := none }
def k1c1 : Code := { maxStack := 2, maxLocals := 6, code := code, exceptionTable := #[], attributes := #[] }
def k1m1 : Method := { name := "law", desc := "(II)Z", sig := { parameters := [.int, .int], returnType := some .boolean }, accessFlags := 9, code := some k1c1 }
/-- com/example/tiered_accord/tieredaccord/core/ConditionAllowsPinLaw -/
def k1 : Class := { plain "com/example/tiered_accord/tieredaccord/core/ConditionAllowsPinLaw" (some 0) with
  accessFlags := 49
  interfaces := #[]
  cf := some (fileOf pool1 24 #[] #[{ accessFlags := 2, nameIndex := 5, descriptorIndex := 6, attributes := #[] }, { accessFlags := 9, nameIndex := 28, descriptorIndex := 29, attributes := #[] }] 49 2 #[] #[])
  fields := #[]
  methods := #[k1m0, k1m1]
  instanceTypes := #[]
  staticTypes := #[]
  resolved := Array.replicate 37 none
  statics := none }

def pool2 : Array CpInfo := pool [(1, .class_ 2), (0, u "java/lang/constant/Constable"), (0, .class_ 4), (0, u "java/lang/Object")] 6

/-- java/lang/constant/Constable -/
def k2 : Class := { plain "java/lang/constant/Constable" (some 0) with
  accessFlags := 1537
  interfaces := #[]
  cf := some (fileOf pool2 1 #[] #[] 1537 3 #[] #[])
  fields := #[]
  methods := #[]
  instanceTypes := #[]
  staticTypes := #[]
  resolved := Array.replicate 11 none
  statics := none }

def pool3 : Array CpInfo := pool [(1, .class_ 2), (0, u "java/lang/Comparable"), (0, .class_ 4), (0, u "java/lang/Object")] 7

/-- java/lang/Comparable -/
def k3 : Class := { plain "java/lang/Comparable" (some 0) with
  accessFlags := 1537
  interfaces := #[]
  cf := some (fileOf pool3 1 #[] #[] 1537 3 #[] #[])
  fields := #[]
  methods := #[]
  instanceTypes := #[]
  staticTypes := #[]
  resolved := Array.replicate 12 none
  statics := none }

def pool4 : Array CpInfo := pool [(1, .class_ 2), (0, u "java/io/Serializable"), (0, .class_ 4), (0, u "java/lang/Object")] 2

/-- java/io/Serializable -/
def k4 : Class := { plain "java/io/Serializable" (some 0) with
  accessFlags := 1537
  interfaces := #[]
  cf := some (fileOf pool4 1 #[] #[] 1537 3 #[] #[])
  fields := #[]
  methods := #[]
  instanceTypes := #[]
  staticTypes := #[]
  resolved := Array.replicate 7 none
  statics := none }

def pool5 : Array CpInfo := pool [(2, .class_ 4), (1, u "java/lang/Enum"), (0, u "name"), (0, u "Ljava/lang/String;"), (2, u "ordinal"), (0, u "I"), (1, .class_ 14), (1, u "java/lang/Object"), (4, u "hash"), (86, .class_ 108), (1, u "java/lang/Enum$EnumDesc"), (2, .class_ 112), (0, u "java/lang/constant/Constable"), (0, .class_ 114), (0, u "java/lang/Comparable"), (0, .class_ 116), (0, u "java/io/Serializable")] 87

/-- java/lang/Enum -/
def k5 : Class := { plain "java/lang/Enum" (some 0) with
  accessFlags := 1057
  interfaces := #[2, 3, 4]
  cf := some (fileOf pool5 2 #[.nestMembers #[106]] #[] 1057 12 #[111, 113, 115] #[{ accessFlags := 18, nameIndex := 5, descriptorIndex := 6, attributes := #[] }, { accessFlags := 18, nameIndex := 9, descriptorIndex := 10, attributes := #[] }, { accessFlags := 2, nameIndex := 19, descriptorIndex := 10, attributes := #[] }])
  fields := #[{ name := "name", type := (.object "java/lang/String"), accessFlags := 18, slot := 0, constantValue := 0 }, { name := "ordinal", type := .int, accessFlags := 18, slot := 1, constantValue := 0 }, { name := "hash", type := .int, accessFlags := 2, slot := 2, constantValue := 0 }]
  methods := #[]
  instanceTypes := #[(.object "java/lang/String"), .int, .int]
  staticTypes := #[]
  resolved := Array.replicate 204 none
  statics := none }

def pool6 : Array CpInfo := pool [(1, .class_ 2), (0, u "com/example/tiered_accord/tieredaccord/core/Request$Condition"), (0, .fieldref 1 4), (0, .nameAndType 5 6), (0, u "ALWAYS"), (0, u "Lcom/example/tiered_accord/tieredaccord/core/Request$Condition;"), (2, u "IF_ABSENT"), (0, .fieldref 1 11), (0, .nameAndType 12 6), (0, u "IF_PRESENT"), (2, u "$VALUES"), (0, u "[Lcom/example/tiered_accord/tieredaccord/core/Request$Condition;"), (6, .class_ 25), (1, u "java/lang/Enum"), (21, u "allows"), (0, u "(Z)Z"), (6, .class_ 56), (0, u "com/example/tiered_accord/tieredaccord/core/Request")] 2

def k6c0 : Code := { maxStack := 2, maxLocals := 2, code := prog_63_method_4_code, exceptionTable := #[], attributes := #[] }
def k6m0 : Method := { name := "allows", desc := "(Z)Z", sig := { parameters := [.boolean], returnType := some .boolean }, accessFlags := 1, code := some k6c0 }
/-- com/example/tiered_accord/tieredaccord/core/Request$Condition -/
def k6 : Class := { plain "com/example/tiered_accord/tieredaccord/core/Request$Condition" (some 5) with
  accessFlags := 16433
  interfaces := #[]
  cf := some (fileOf pool6 1 #[.nestHost 55] #[{ accessFlags := 1, nameIndex := 47, descriptorIndex := 48, attributes := #[] }] 16433 23 #[] #[{ accessFlags := 16409, nameIndex := 5, descriptorIndex := 6, attributes := #[] }, { accessFlags := 16409, nameIndex := 9, descriptorIndex := 6, attributes := #[] }, { accessFlags := 16409, nameIndex := 12, descriptorIndex := 6, attributes := #[] }, { accessFlags := 4122, nameIndex := 15, descriptorIndex := 16, attributes := #[] }])
  fields := #[{ name := "ALWAYS", type := (.object "com/example/tiered_accord/tieredaccord/core/Request$Condition"), accessFlags := 16409, slot := 0, constantValue := 0 }, { name := "IF_ABSENT", type := (.object "com/example/tiered_accord/tieredaccord/core/Request$Condition"), accessFlags := 16409, slot := 1, constantValue := 0 }, { name := "IF_PRESENT", type := (.object "com/example/tiered_accord/tieredaccord/core/Request$Condition"), accessFlags := 16409, slot := 2, constantValue := 0 }, { name := "$VALUES", type := (.array (.object "com/example/tiered_accord/tieredaccord/core/Request$Condition")), accessFlags := 4122, slot := 3, constantValue := 0 }]
  methods := #[k6m0]
  instanceTypes := #[(.object "java/lang/String"), .int, .int]
  staticTypes := #[(.object "com/example/tiered_accord/tieredaccord/core/Request$Condition"), (.object "com/example/tiered_accord/tieredaccord/core/Request$Condition"), (.object "com/example/tiered_accord/tieredaccord/core/Request$Condition"), (.array (.object "com/example/tiered_accord/tieredaccord/core/Request$Condition"))]
  resolved := Array.replicate 59 none
  statics := some 0 }

def pool7 : Array CpInfo := pool [(1, u "java/lang/Cloneable"), (0, .class_ 1), (0, u "java/lang/Object"), (0, .class_ 3)] 3

/-- java/lang/Cloneable -/
def k7 : Class := { plain "java/lang/Cloneable" (some 0) with
  accessFlags := 1537
  interfaces := #[]
  cf := some (fileOf pool7 2 #[] #[] 1537 4 #[] #[])
  fields := #[]
  methods := #[]
  instanceTypes := #[]
  staticTypes := #[]
  resolved := Array.replicate 8 none
  statics := none }

/-- the primitive byte -/
def k8 : Class := { plain "byte" none with kind := .primitive 'B', accessFlags := 0x411 }
/-- [B -/
def k9 : Class := { plain "[B" (some 0) with kind := .array 8 .byte, interfaces := #[7, 4], accessFlags := 1041 }

/-- the primitive int -/
def k10 : Class := { plain "int" none with kind := .primitive 'I', accessFlags := 0x411 }
/-- [I -/
def k11 : Class := { plain "[I" (some 0) with kind := .array 10 .int, interfaces := #[7, 4], accessFlags := 1041 }

def heap : Heap := #[{ cls := 6, slots := #[.ref 1, .ref 2, .ref 3, .null], vm := .statics 6 },
  { cls := 6, slots := #[.null, .int 0, .int 0], vm := .none },
  { cls := 6, slots := #[.null, .int 1, .int 0], vm := .none },
  { cls := 6, slots := #[.null, .int 2, .int 0], vm := .none }]
def classes : Array Class := #[k0, k1, k2, k3, k4, k5, k6, k7, k8, k9, k10, k11]
def interned : List (Array UInt16 × Addr) := []
def slotsUsed : Nat := 13
def theMethod : MethodId := ⟨1, 1⟩
def args0 : Array Value := #[.int 5, .int 3]
def aboutOver (below : List Frame) : State where
  vm := { classes := classes, interned := interned.toArray }
  heap := heap
  slotsUsed := slotsUsed
  threads := #[{ frames := .invoking theMethod args0 :: below }]
def below0 : List Frame := [.native { method := ⟨0, 0⟩, args := #[] }]
def about1 : State := aboutOver below0
def p0 : Program := .bare "" "" ""
def e0 : Env := launch0.env 0 0 0
theorem w_frames : about1.frames = Frame.invoking theMethod args0 :: below0 := rfl
set_option maxRecDepth 65536 in
theorem w_args : argsFit about1.vm theMethod args0 = true := by decide +kernel
set_option maxRecDepth 65536 in
theorem w_heap : heapFits about1 = true := by decide +kernel
set_option maxRecDepth 65536 in
theorem w_runnable : about1.curStatus? = some .runnable := by decide +kernel
set_option maxRecDepth 65536 in
theorem w_alone : about1.alone = true := by decide +kernel
set_option maxRecDepth 65536 in
theorem w_named : about1.methodNamed? x = some theMethod := by decide +kernel
set_option maxRecDepth 65536 in
theorem w_hears : about1.hears theMethod below0 = true := by decide +kernel
set_option maxRecDepth 65536 in
theorem w_ripe : about1.ripe theMethod args0 below0 = true := by decide +kernel
theorem w_running : about1.status = .running := rfl
set_option maxRecDepth 65536 in
theorem w_room : about1.hasRoom e0.platform room_1 = true :=
  launch0.hasRoom_least _ room_1 (by decide +kernel) (by decide +kernel) (by decide +kernel) (by decide +kernel) (by decide +kernel) (by decide +kernel)
theorem allAtoms_all (ts : List Jvm.Cond) (a : Array Jvm.Value) (st : Jvm.State) : (allAtoms ts).before a st = ts.all (fun c => c.before a st) := by
  induction ts with
  | nil => rfl
  | cons c t ih =>
    show (Jvm.Cond.and c (allAtoms t)).before a st = _
    rw [Jvm.Cond.before_and, ih, List.all_cons]
def words1 : List Jvm.Cond := Jvm.Cond.code x code maxLocals ret :: tables_1
/-- a 'code' word, met by the world's own term for the bytes: nothing is compared byte by byte -/
theorem code_word {y : MethodName} {bytes : ByteArray} {mx : Nat} {rt : Option FieldType} {a : Array Value} {s : State} {m : MethodId} {meth : Method} {c : Code} (h1 : s.methodNamed? y = some m) (h2 : s.vm.method? m = some meth) (h3 : meth.code = some c) (h4 : c.code = bytes)
    (h5 : (c.maxLocals == mx && c.exceptionTable.isEmpty && decide (c.maxStack ≤ mostOperands) && decide (meth.sig.returnType = rt) && !meth.locks && decide (parseMethodDescriptor y.desc = some meth.sig)) = true) : (Jvm.Cond.code y bytes mx rt).before a s = true := by
  simp only [Bool.and_eq_true, beq_iff_eq, Bool.not_eq_true', decide_eq_true_eq] at h5
  obtain ⟨⟨⟨⟨⟨g1, g2⟩, g3⟩, g4⟩, g5⟩, g6⟩ := h5
  simp [Cond.before, Cond.holds, Cond.value, h1, h2, h3, h4, g1, g2, g3, g4, g5, g6]
def isCode : Jvm.Cond → Bool
  | .code _ _ _ _ => true
  | _ => false
theorem all_split {L : List Jvm.Cond} {P : Jvm.Cond → Bool} (h1 : L.all (fun c => isCode c || P c) = true) (h2 : ∀ c ∈ L.filter isCode, P c = true) : L.all P = true := by
  refine List.all_eq_true.mpr fun c hc => ?_
  have h := List.all_eq_true.mp h1 c hc
  rcases Bool.eq_false_or_eq_true (isCode c) with hi | hi
  · exact h2 c (List.mem_filter.mpr ⟨hc, hi⟩)
  · simpa [hi] using h
set_option maxRecDepth 65536 in
theorem w_c0 : (Jvm.Cond.code x code maxLocals ret).before args0 about1 = true := code_word (m := ⟨1, 1⟩) (meth := k1m1) (c := k1c1) (by decide +kernel) rfl rfl rfl (by decide +kernel)
set_option maxRecDepth 65536 in
theorem w_c1 : (Jvm.Cond.code ({ cls := "com/example/tiered_accord/tieredaccord/core/Request$Condition", name := "allows", desc := "(Z)Z" } : Jvm.MethodName) prog_63_method_4_code (2 : Nat) (Option.some Jvm.ClassFile.FieldType.boolean)).before args0 about1 = true := code_word (m := ⟨6, 0⟩) (meth := k6m0) (c := k6c0) (by decide +kernel) rfl rfl rfl (by decide +kernel)
def codes1 : List Jvm.Cond := [Jvm.Cond.code x code maxLocals ret, Jvm.Cond.code ({ cls := "com/example/tiered_accord/tieredaccord/core/Request$Condition", name := "allows", desc := "(Z)Z" } : Jvm.MethodName) prog_63_method_4_code (2 : Nat) (Option.some Jvm.ClassFile.FieldType.boolean)]
set_option maxRecDepth 65536 in
theorem codes_eq : words1.filter isCode = codes1 := rfl
theorem w_codes : ∀ c ∈ words1.filter isCode, c.before args0 about1 = true := by
  rw [codes_eq]
  intro c hc
  simp only [codes1, List.mem_cons, List.not_mem_nil, or_false] at hc
  rcases hc with rfl | rfl
  · exact w_c0
  · exact w_c1
set_option maxRecDepth 65536 in
theorem w_t1 : words1.all (fun c => isCode c || c.before args0 about1) = true := by decide +kernel
theorem w_tables : (allAtoms (Jvm.Cond.code x code maxLocals ret :: tables_1)).before args0 about1 = true := by
  rw [allAtoms_all]
  show words1.all (fun c => c.before args0 about1) = true
  refine all_split ?_ w_codes
  rw [w_t1]
set_option maxRecDepth 65536 in
theorem w_case : (Jvm.Cond.and given_1 narrow_1).before args0 about1 = true := by decide +kernel
theorem w_applies : (headSpec (Jvm.Cond.code x code maxLocals ret :: tables_1) room_1).applies x e0.platform about1 = true :=
  (Spec.applies_iff w_frames).mpr ⟨w_running, w_runnable, w_alone, w_named, w_hears, w_ripe, w_room, w_tables⟩
theorem atStart : AtStart classFile x code maxLocals ret World_1 tables_1 room_1 Calls_1 rest_1 Pre_1 launch0 p0 e0 about1 theMethod args0 below0 :=
  ⟨lists_1, trivial, launch0.admits_env _ _ _, launch0.least_env, fairChoices_fair.cas, fairChoices_fair.clock, w_frames, w_args, w_heap, w_applies, trivial, trivial, w_case⟩
end start1
theorem witness_1 : WitnessClaimed_1 := ⟨start1.p0, start1.e0, start1.about1, start1.theMethod, start1.args0, start1.below0, start1.atStart⟩
end Jvm.Pilot.@@N@@
