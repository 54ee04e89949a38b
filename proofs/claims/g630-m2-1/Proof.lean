import JvmDerived
import JvmDerived.Pilot.@@N@@Statement
import JvmDerived.Pilot.@@N@@Code
set_option linter.unusedVariables false
set_option linter.unusedSimpArgs false
namespace Jvm.Pilot.@@N@@
open Jvm Jvm.ClassFile Sem Op Lib Jvm.Free Jvm.Stand Jvm.LawKit Jvm.RoadKit Bundle Jvm.Pilot.@@N@@.Jvm.D
section Own
variable {p : Program} {l : Launch} {e : Env} {R : Room} {s : State} {m : MethodId} {args : Array Value} {below : List Frame} {meth : Method} {c : Code} {T : State} {locs : List Loc} {cells slots : Nat} {Z : State} {a0 : Array Value} {h h' : Heap}
/-- from A the run comes to its end, and G holds there -/
def OGo (p : Program) (e : Env) (below : List Frame) (G : State → Outcome → Prop) (A : State) : Prop := ∃ s₂ o, Steps p.tables e below A s₂ ∧ s₂.status = .running ∧ Ended s₂ below o ∧ G s₂ o
theorem OGo.st {G : State → Outcome → Prop} {A B : State} (k : ∀ t, Steps p.tables e below B t → Steps p.tables e below A t) (g : OGo p e below G B) : OGo p e below G A := by
  obtain ⟨s₂, o, q, r⟩ := g
  exact ⟨s₂, o, k _ q, r⟩
theorem OGo.join {α : Type} {G : State → Outcome → Prop} {A : State} (F : α → State) (P : α → Prop) (h1 : ∀ a, P a → OGo p e below G (F a)) (h2 : (∀ a, P a → OGo p e below G (F a)) → OGo p e below G A) : OGo p e below G A := h2 h1
/-- what a body leaves -/
def ODone (s : State) (rm : Room) (Q : Option Value → Heap → List Loc → Prop) (t : State) (o : Outcome) : Prop := ∃ v L, o = .returned v ∧ Q v t.heap L ∧ FrameEnd s o t L rm.cells rm.slots
/-- a body's contract -/
def OMet (l : Launch) (Z : State) (y : MethodName) (bytes : ByteArray) (maxL : Nat) (ret : Option FieldType) (ws : List Jvm.Cond) (rm : Room) (as' : Array Value) (h0 : Heap) (Q : Option Value → Heap → List Loc → Prop) : Prop :=
  MetFree l y (head1 (Jvm.Cond.code y bytes maxL ret :: ws) rm) (fun a U => a = as' ∧ Z.Warmed39 U.vm ∧ U.heap = h0) (fun _ _ _ _ _ => True) (fun _ U o U' => ∃ v L, o = .returned v ∧ Q v U'.heap L ∧ FrameEnd U o U' L rm.cells rm.slots)
section M
variable {y : MethodName} {bytes : ByteArray} {maxL : Nat} {ret : Option FieldType} {ws : List Jvm.Cond} {rm : Room} {as' : Array Value} {Q : Option Value → Heap → List Loc → Prop}
theorem OMet.of (hp : plainFor y = true)
    (body : ∀ (p : Program) (e : Env) (s : State) (m : MethodId) (below : List Frame) (meth : Method) (c : Code) (s₁ : State), p.tables.exec = Jvm.exec → c.code = bytes → c.maxLocals = maxL → s.methodNamed? y = some m → s.vm.findClass y.cls = some m.cls → meth.name = y.name → meth.sig.returnType = ret → meth.locks = false → Z.Warmed39 s.vm →
      Stand p l e rm s m as' below meth c s₁ [] 0 0 → s₁.heap = h → OGo p e below (ODone s rm Q) (s₁.setTop (entryFrame m as' maxL))) : OMet l Z y bytes maxL ret ws rm as' h Q := by
  refine MetFree.of_bodySF hp hisR ?_
  intro p e s m args below meth c s₁ Bd hml hP hK
  obtain ⟨hA, hZ, hh⟩ := hP
  subst hA
  exact body p e s m below meth c s₁ Bd.exec Bd.bytes hml Bd.named (findClass_of_methodNamed Bd.named) (name_of_methodNamed Bd.named Bd.method).1 Bd.returns Bd.notSynchronized hZ (Stand.of_body Bd) (by rw [← hh, Bd.state]; rfl)
theorem OMet.back {len W : Nat} (hM : OMet l Z y bytes maxL ret [] rm as' h Q) (hZ : Z.Warmed39 s.vm) (wc : (Jvm.Cond.code y bytes maxL ret).before a0 Z = true) (wz : (Jvm.Cond.initialized y.cls).before a0 Z = true) (hf : rm.frames + 1 ≤ R.frames) (hl : W + (maxL + 11) + rm.locals ≤ R.locals) :
    Back l R p e below s args y len W (fun A a => a = as' ∧ A.U.heap = h ∧ A.cells + rm.cells ≤ R.cells ∧ A.slots + rm.slots ≤ R.slots) (fun A _ v B => ∃ L, Q v B.U.heap L ∧ B.locs = A.locs ++ L ∧ B.cells = A.cells + rm.cells ∧ B.slots = A.slots + rm.slots) :=
  backOf hM hZ wc wz hf hl
/-- a static call by its contract -/
theorem OMet.static (hM : OMet l Z y bytes maxL ret [] rm as' h Q) (X : Stand p l e R s m args below meth c T locs cells slots) (hx : p.tables.exec = Jvm.exec) (hZ : Z.Warmed39 s.vm) {own : String} {index W : Nat} (hown : s.vm.findClass own = some m.cls)
    (w1 : (Jvm.Cond.methodLink own index y).before a0 Z = true) (w2 : (Jvm.Cond.static y).before a0 Z = true) (w3 : (Jvm.Cond.initialized y.cls).before a0 Z = true) (w4 : (Jvm.Cond.code y bytes maxL ret).before a0 Z = true)
    (hy : y.cls ≠ "java/lang/invoke/MethodHandle" ∧ y.cls ≠ "java/lang/invoke/VarHandle") (hf : rm.frames + 1 ≤ R.frames) (hl : W + (maxL + 11) + rm.locals ≤ R.locals) (eT : T.heap = h) (hc : cells + rm.cells ≤ R.cells) (hs : slots + rm.slots ≤ R.slots)
    {g : JFrame} (hg : g.method = m) (hsize : g.locals.size = c.maxLocals) {argsL rest : List Value} (ha : argsL.toArray = as') (hlen : ∀ sig, parseMethodDescriptor y.desc = some sig → argsL.length = sig.parameters.length) (hstack : g.stack = argsL.reverse ++ rest) (hW : 2 * g.monitorRoom + (rest.map fun v => v.category).sum ≤ W)
    (hd : decode c.code g.pc = .ok (.invokestatic index, 3)) :
    ∃ (v : Option Value) (T' : State) (L : List Loc), Stand p l e R s m args below meth c T' (locs ++ L) (cells + rm.cells) (slots + rm.slots) ∧ Q v T'.heap L ∧ ∀ target, Steps p.tables e below (T'.setTop { g with pc := g.pc + 3, stack := v.toList ++ rest }) target → Steps p.tables e below (T.setTop g) target := by
  obtain ⟨v, vm, ⟨T', L', k', n'⟩, -, X', ⟨L, hQ, e1, e2, e3⟩, st⟩ := Jvm.LawKit.callS X hx hown (mvT hZ w1) (mvT hZ w2) (mvT hZ w3) (mvT hZ w4) hy (OMet.back (W := W) hM hZ w4 w3 hf hl) (g := g) hg hsize hlen hstack hW hd (fun _ _ => ⟨ha, eT, hc, hs⟩)
  dsimp only [Pt.U, Pt.locs, Pt.cells, Pt.slots] at X' e1 e2 e3 st hQ
  subst e1 e2 e3
  exact ⟨v, T', L, X', hQ, st⟩
/-- a constructor by its contract -/
theorem OMet.init (hM : OMet l Z y bytes maxL none [] rm as' h Q) (X : Stand p l e R s m args below meth c T locs cells slots) (hx : p.tables.exec = Jvm.exec) (hZ : Z.Warmed39 s.vm) {own : String} {index W : Nat} (hy1 : y.name = "<init>") (hown : s.vm.findClass own = some m.cls)
    (w1 : (Jvm.Cond.methodLink own index y).before a0 Z = true) (w2 : (Jvm.Cond.instanceMethod y).before a0 Z = true) (w3 : (Jvm.Cond.initialized y.cls).before a0 Z = true) (w4 : (Jvm.Cond.code y bytes maxL none).before a0 Z = true)
    (hy : y.cls ≠ "java/lang/invoke/MethodHandle" ∧ y.cls ≠ "java/lang/invoke/VarHandle") (hf : rm.frames + 1 ≤ R.frames) (hl : W + (maxL + 11) + rm.locals ≤ R.locals) (eT : T.heap = h) (hc : cells + rm.cells ≤ R.cells) (hs : slots + rm.slots ≤ R.slots)
    {g : JFrame} (hg : g.method = m) (hsize : g.locals.size = c.maxLocals) {a : Addr} {argsL rest : List Value} (ha : (Value.ref a :: argsL).toArray = as') (hlen : ∀ sig, parseMethodDescriptor y.desc = some sig → argsL.length = sig.parameters.length) (hstack : g.stack = argsL.reverse ++ .ref a :: rest) (hW : 2 * g.monitorRoom + (rest.map fun v => v.category).sum ≤ W)
    (hd : decode c.code g.pc = .ok (.invokespecial index, 3)) :
    ∃ (v : Option Value) (T' : State) (L : List Loc), Stand p l e R s m args below meth c T' (locs ++ L) (cells + rm.cells) (slots + rm.slots) ∧ Q v T'.heap L ∧ ∀ target, Steps p.tables e below (T'.setTop { g with pc := g.pc + 3, stack := v.toList ++ rest }) target → Steps p.tables e below (T.setTop g) target := by
  obtain ⟨v, vm, ⟨T', L', k', n'⟩, -, X', ⟨L, hQ, e1, e2, e3⟩, st⟩ := X.specialBack hx hy1 hown (mvT hZ w1) (mvT hZ w2) (mvT hZ w4) hy (OMet.back (W := W) hM hZ w4 w3 hf hl) (g := g) hg hsize (Steps.refl _) (a := a) hlen hstack hW hd (fun _ _ => ⟨ha, eT, hc, hs⟩)
  dsimp only [Pt.U, Pt.locs, Pt.cells, Pt.slots] at X' e1 e2 e3 st hQ
  subst e1 e2 e3
  exact ⟨v, T', L, X', hQ, fun _ k => st.trans k⟩
/-- a virtual call by the contract of the body that the receiver's class selects -/
theorem OMet.virt (hM : OMet l Z y bytes maxL ret [] rm as' h Q) (X : Stand p l e R s m args below meth c T locs cells slots) (hx : p.tables.exec = Jvm.exec) (hZ : Z.Warmed39 s.vm) {own C : String} {index W : Nat} {y0 : MethodName} (hown : s.vm.findClass own = some m.cls)
    (w1 : (Jvm.Cond.methodLink own index y0).before a0 Z = true) (w2 : (Jvm.Cond.declares y0).before a0 Z = true) (nf : NotFace s y0) (w5 : (Jvm.Cond.selects C y0 y).before a0 Z = true) (w6 : (Jvm.Cond.instanceMethod y).before a0 Z = true)
    (w3 : (Jvm.Cond.initialized y.cls).before a0 Z = true) (w4 : (Jvm.Cond.code y bytes maxL ret).before a0 Z = true)
    (hy : y0.cls ≠ "java/lang/invoke/MethodHandle" ∧ y0.cls ≠ "java/lang/invoke/VarHandle") (hf : rm.frames + 1 ≤ R.frames) (hl : W + (maxL + 11) + rm.locals ≤ R.locals) (eT : T.heap = h) (hc : cells + rm.cells ≤ R.cells) (hs : slots + rm.slots ≤ R.slots)
    {g : JFrame} (hg : g.method = m) (hsize : g.locals.size = c.maxLocals) {a : Addr} (E : Exa Z h a C) {argsL rest : List Value} (ha : (Value.ref a :: argsL).toArray = as') (hlen : ∀ sig, parseMethodDescriptor y0.desc = some sig → argsL.length = sig.parameters.length) (hstack : g.stack = argsL.reverse ++ .ref a :: rest) (hW : 2 * g.monitorRoom + (rest.map fun v => v.category).sum ≤ W)
    (hd : decode c.code g.pc = .ok (.invokevirtual index, 3)) :
    ∃ (v : Option Value) (T' : State) (L : List Loc), Stand p l e R s m args below meth c T' (locs ++ L) (cells + rm.cells) (slots + rm.slots) ∧ Q v T'.heap L ∧ ∀ target, Steps p.tables e below (T'.setTop { g with pc := g.pc + 3, stack := v.toList ++ rest }) target → Steps p.tables e below (T.setTop g) target := by
  obtain ⟨cB, kB, qa, qb, qc⟩ := isOf hZ eT E
  obtain ⟨v, vm, ⟨T', L', k', n'⟩, -, X', ⟨L, hQ, e1, e2, e3⟩, st⟩ := X.virtualBack hx hown (mvT hZ w1) (mvT hZ w2) nf (mvT hZ w5) (mvT hZ w6) hy (OMet.back (W := W) hM hZ w4 w3 hf hl) qa qc (g := g) hg hsize (Steps.refl _) hlen hstack hW hd (fun _ _ => ⟨ha, eT, hc, hs⟩)
  dsimp only [Pt.U, Pt.locs, Pt.cells, Pt.slots] at X' e1 e2 e3 st hQ
  subst e1 e2 e3
  exact ⟨v, T', L, X', hQ, fun _ k => st.trans k⟩
/-- a call through an interface by the contract of the body that the receiver's class selects -/
theorem OMet.iface (hM : OMet l Z y bytes maxL ret [] rm as' h Q) (X : Stand p l e R s m args below meth c T locs cells slots) (hx : p.tables.exec = Jvm.exec) (hZ : Z.Warmed39 s.vm) {own C : String} {index count W : Nat} {y0 : MethodName} (hown : s.vm.findClass own = some m.cls)
    (w1 : (Jvm.Cond.methodLink own index y0).before a0 Z = true) (w2 : (Jvm.Cond.declares y0).before a0 Z = true) (w7 : (Jvm.Cond.interfaceMethod y0.cls y0.cls y0.name y0.desc).before a0 Z = true) (w5 : (Jvm.Cond.selects C y0 y).before a0 Z = true) (w6 : (Jvm.Cond.instanceMethod y).before a0 Z = true)
    (w8 : (Jvm.Cond.publicMethod y).before a0 Z = true) (w9 : (Jvm.Cond.unhidden C y0.name y0.desc).before a0 Z = true) (w0 : (Jvm.Cond.castable C y0.cls).before a0 Z = true) (w3 : (Jvm.Cond.initialized y.cls).before a0 Z = true) (w4 : (Jvm.Cond.code y bytes maxL ret).before a0 Z = true)
    (hy : y0.cls ≠ "java/lang/invoke/MethodHandle" ∧ y0.cls ≠ "java/lang/invoke/VarHandle") (hf : rm.frames + 1 ≤ R.frames) (hl : W + (maxL + 11) + rm.locals ≤ R.locals) (eT : T.heap = h) (hc : cells + rm.cells ≤ R.cells) (hs : slots + rm.slots ≤ R.slots)
    {g : JFrame} (hg : g.method = m) (hsize : g.locals.size = c.maxLocals) {a : Addr} (E : Exa Z h a C) {argsL rest : List Value} (ha : (Value.ref a :: argsL).toArray = as') (hlen : ∀ sig, parseMethodDescriptor y0.desc = some sig → argsL.length = sig.parameters.length) (hstack : g.stack = argsL.reverse ++ .ref a :: rest) (hW : 2 * g.monitorRoom + (rest.map fun v => v.category).sum ≤ W)
    (hd : decode c.code g.pc = .ok (.invokeinterface index count, 5)) :
    ∃ (v : Option Value) (T' : State) (L : List Loc), Stand p l e R s m args below meth c T' (locs ++ L) (cells + rm.cells) (slots + rm.slots) ∧ Q v T'.heap L ∧ ∀ target, Steps p.tables e below (T'.setTop { g with pc := g.pc + 5, stack := v.toList ++ rest }) target → Steps p.tables e below (T.setTop g) target := by
  obtain ⟨cB, kB, qa, qb, qc⟩ := isOf hZ eT E
  obtain ⟨v, vm, ⟨T', L', k', n'⟩, -, X', ⟨L, hQ, e1, e2, e3⟩, st⟩ := X.interfaceBack hx hown (mvT hZ w1) (mvT hZ w2) (mvT hZ w7 (by simp [Cond.onTables, Cond.keepsFace, Cond.keeps, Cond.steady, Cond.faceAtom, hy.1, hy.2])) (mvT hZ w5) (mvT hZ w6) (mvT hZ w8) (mvT hZ w9) (mvT hZ w0) hy (OMet.back (W := W) hM hZ w4 w3 hf hl) qa qb qc (g := g) hg hsize (Steps.refl _) hlen hstack hW hd (fun _ _ => ⟨ha, eT, hc, hs⟩)
  dsimp only [Pt.U, Pt.locs, Pt.cells, Pt.slots] at X' e1 e2 e3 st hQ
  subst e1 e2 e3
  exact ⟨v, T', L, X', hQ, fun _ k => st.trans k⟩
end M
theorem nf_sel {C : String} {y : MethodName} (hZ : Z.Warmed39 s.vm) (w : (Jvm.Cond.selects C y y).before a0 Z = true) : NotFace s y := notFace_of_selects (args := #[]) (mvT hZ w)
/-- the returns -/
theorem own_ret (X : Stand p l e R s m args below meth c T locs cells slots) {rm : Room} {Q : Option Value → Heap → List Loc → Prop} {A : State} {v : Option Value} (hv : meth.sig.returnType = none → v = none) (hlk : meth.locks = false)
    (k : ∀ fs, (∀ (f : JFrame) (acts : List Action), f.method = m → f.locked = none → f.entered = [] → (doReturn e (T.setTop f) acts v).1 = T.setFrames fs) → Steps p.tables e below A (T.setFrames fs)) (hQ : Q v T.heap locs) (hc : cells ≤ rm.cells) (hs : slots ≤ rm.slots) : OGo p e below (ODone s rm Q) A := by
  obtain ⟨fs, hr, hrun, hended, hW, hsame⟩ := X.leave (v := v) hv hlk
  exact ⟨_, _, k fs hr, hrun, hended, v, locs, rfl, hQ, ⟨_, rfl⟩, hW, hsame.mono hc hs⟩
theorem own_retZ (X : Stand p l e R s m args below meth c T locs cells slots) (hx : p.tables.exec = Jvm.exec) {rm : Room} {Q : Option Value → Heap → List Loc → Prop} {pc : Nat} {Ls : Array Slot} {z : Int32} {rest : List Value} (hret : meth.sig.returnType = some .boolean) (hlk : meth.locks = false)
    (hd : decode c.code pc = .ok (.ireturn, 1)) (hQ : Q (some (.int (nar .boolean z))) T.heap locs) (hc : cells ≤ rm.cells) (hs : slots ≤ rm.slots) : OGo p e below (ODone s rm Q) (T.setTop (mkF m pc Ls (.int z :: rest))) :=
  own_ret X (fun h => by rw [hret] at h; cases h) hlk (fun fs hr => retN X hx hret (Or.inl rfl) hd hr) hQ hc hs
theorem own_retI (X : Stand p l e R s m args below meth c T locs cells slots) (hx : p.tables.exec = Jvm.exec) {rm : Room} {Q : Option Value → Heap → List Loc → Prop} {pc : Nat} {Ls : Array Slot} {z : Int32} {rest : List Value} (hret : meth.sig.returnType = some .int) (hlk : meth.locks = false)
    (hd : decode c.code pc = .ok (.ireturn, 1)) (hQ : Q (some (.int z)) T.heap locs) (hc : cells ≤ rm.cells) (hs : slots ≤ rm.slots) : OGo p e below (ODone s rm Q) (T.setTop (mkF m pc Ls (.int z :: rest))) :=
  own_ret X (fun h => by rw [hret] at h; cases h) hlk (fun fs hr => retOut X hx hret rfl (Or.inl ⟨rfl, Or.inl rfl, z, rfl⟩) hd hr) hQ hc hs
theorem own_retJ (X : Stand p l e R s m args below meth c T locs cells slots) (hx : p.tables.exec = Jvm.exec) {rm : Room} {Q : Option Value → Heap → List Loc → Prop} {pc : Nat} {Ls : Array Slot} {z : Int64} {rest : List Value} (hret : meth.sig.returnType = some .long) (hlk : meth.locks = false)
    (hd : decode c.code pc = .ok (.lreturn, 1)) (hQ : Q (some (.long z)) T.heap locs) (hc : cells ≤ rm.cells) (hs : slots ≤ rm.slots) : OGo p e below (ODone s rm Q) (T.setTop (mkF m pc Ls (.long z :: rest))) :=
  own_ret X (fun h => by rw [hret] at h; cases h) hlk (fun fs hr => retOut X hx hret rfl (Or.inr (Or.inl ⟨rfl, rfl, z, rfl⟩)) hd hr) hQ hc hs
theorem own_retA (X : Stand p l e R s m args below meth c T locs cells slots) (hx : p.tables.exec = Jvm.exec) {rm : Room} {Q : Option Value → Heap → List Loc → Prop} {pc : Nat} {Ls : Array Slot} {w : Value} {t : FieldType} {rest : List Value} (hret : meth.sig.returnType = some t) (hlk : meth.locks = false)
    (hn : narrow t w = w) (ht : t.isReference = true) (hw : w.isRef = true) (hd : decode c.code pc = .ok (.areturn, 1)) (hQ : Q (some w) T.heap locs) (hc : cells ≤ rm.cells) (hs : slots ≤ rm.slots) : OGo p e below (ODone s rm Q) (T.setTop (mkF m pc Ls (w :: rest))) :=
  own_ret X (fun h => by rw [hret] at h; cases h) hlk (fun fs hr => retOut X hx hret hn (Or.inr (Or.inr (Or.inr (Or.inr ⟨rfl, ht, hw⟩)))) hd hr) hQ hc hs
theorem own_ret0 (X : Stand p l e R s m args below meth c T locs cells slots) (hx : p.tables.exec = Jvm.exec) {rm : Room} {Q : Option Value → Heap → List Loc → Prop} {pc : Nat} {Ls : Array Slot} (hret : meth.sig.returnType = none) (hlk : meth.locks = false)
    (hd : decode c.code pc = .ok (.return_, 1)) (hQ : Q none T.heap locs) (hc : cells ≤ rm.cells) (hs : slots ≤ rm.slots) : OGo p e below (ODone s rm Q) (T.setTop (mkF m pc Ls [])) :=
  own_ret X (fun _ => rfl) hlk (fun fs hr => X.returnOut hx hret hd hr) hQ hc hs
/-- a body that returns r and leaves the heap as it was -/
def OPure (r : Option Value) (h0 : Heap) (n0 : Nat) (v : Option Value) (h : Heap) (L : List Loc) : Prop := v = r ∧ Fr n0 L ∧ h = h0
/-- the start's words -/
theorem own_int {k : Int32} {t : Term} (hq : (Jvm.Cond.eq t (.int k)).value args s none s [] = some true) : t.eval args s none [] s = some (.int k) := by
  obtain ⟨x, y, e1, e2, k1, k2⟩ := cmp_v (Or.inl hq)
  have e3 : y = .int k := (Option.some.inj e2).symm
  subst e3
  obtain ⟨z, rfl⟩ := k2
  have q : (Jvm.Cond.eq t (.int k)).value args s none s [] = some (decide (z = k)) := by simp [Jvm.Cond.value, e1, Term.eval]
  rw [e1, gotT q hq]
theorem own_long {k : Int64} {t : Term} (hq : (Jvm.Cond.eq t (.long k)).value args s none s [] = some true) : t.eval args s none [] s = some (.long k) := by
  obtain ⟨x, y, e1, e2, k1, k2⟩ := cmp_v (Or.inl hq)
  have e3 : y = .long k := (Option.some.inj e2).symm
  subst e3
  obtain ⟨z, rfl⟩ := k2
  have q : (Jvm.Cond.eq t (.long k)).value args s none s [] = some (decide (z = k)) := eq_L e1 e2
  rw [e1, gotT q hq]
theorem own_ord {k : Int32} {t : Term} {C n d : String} {x : Addr} (ht : t.eval args s none [] s = some (.ref x)) (hq : (Jvm.Cond.eq (.field t C n d) (.int k)).value args s none s [] = some true) : Fld s s.heap x C n d (.int k) :=
  Fld.start ((fld_at ht).symm.trans (own_int hq))
theorem own_ordL {k : Int64} {t : Term} {C n d : String} {x : Addr} (ht : t.eval args s none [] s = some (.ref x)) (hq : (Jvm.Cond.eq (.field t C n d) (.long k)).value args s none s [] = some true) : Fld s s.heap x C n d (.long k) :=
  Fld.start ((fld_at ht).symm.trans (own_long hq))
theorem own_sta {t : String × String × String} {C : String} (hq : (Jvm.Cond.exactly (.static t.1 t.2.1 t.2.2) C).value args s none s [] = some true) (w1 : (Jvm.Cond.initialized t.1).before args s = true) (w2 : (Jvm.Cond.laysStatic t.1 t.2.1 t.2.2).before args s = true) :
    ∃ a, (Term.static t.1 t.2.1 t.2.2).eval args s none [] s = some (.ref a) ∧ Sta s s.heap t.1 t.2.1 t.2.2 (.ref a) ∧ Exa s s.heap a C := by
  obtain ⟨a, ea⟩ := exa_v hq
  exact ⟨a, ea, Sta.start ea (Or.inr ⟨w1, w2⟩), Exa.start ea hq⟩
theorem own_len {t : Term} {a : Addr} {c : Cell} {z : Int32} (et : t.eval args s none [] s = some (.ref a)) (ha : s.arrayAt? a = some c) (hq : (Term.length t).eval args s none [] s = some (.int z)) : c.slots.size < 2 ^ 31 ∧ c.slots.size.toInt32 = z := by
  by_cases hl : c.slots.size < 2 ^ 31
  · rw [len_f et ha hl] at hq
    exact ⟨hl, Value.int.inj (Option.some.inj hq)⟩
  · simp [Term.eval, et, ha, hl] at hq
theorem own_b01 {z : Int32} (hz : z = 0 ∨ z = 1) : narrow .boolean (.int z) = .int z ∧ fits .boolean (.int z) = true ∧ nar .boolean z = z := by
  rcases hz with rfl | rfl <;> decide
theorem own_ns_root {O K : String} {n : Nat} (w : (Jvm.Cond.noSuperclass O).before a0 Z = true) (wi : (Jvm.Cond.instantiable K n).before a0 Z = true) (hn : O ≠ K) : NS Z O K := by
  obtain ⟨c, k, h1, h2, h3, -⟩ := Cond.noSuperclass_spec w
  obtain ⟨t, kt, g1, -⟩ := Cond.instantiable_spec wi
  refine ⟨c, t, h1, g1, fun f => ?_⟩
  cases f with
  | zero => rfl
  | succ f => simp [Vm.isSubclassAux, ids_ne h1 g1 hn, h2, h3]
theorem own_ns_no {C S K : String} {n : Nat} (w : (Jvm.Cond.superclass C S).before a0 Z = true) (wi : (Jvm.Cond.instantiable K n).before a0 Z = true) (N : NS Z C K) (hn : C ≠ K) : ∃ c t, Z.vm.findClass C = some c ∧ Z.vm.findClass K = some t ∧ Z.vm.assignable c t = false := by
  obtain ⟨c, t, h0, g0, n3⟩ := N
  obtain ⟨p, k, kp, -, h2, -, -, h5, -, h7⟩ := Cond.superclass_spec h0 w
  obtain ⟨t', kt, g1, g2, g3, g4, -⟩ := Cond.instantiable_spec wi
  cases g0.symm.trans g1
  have g5 : kt.isInterface = false := (Bool.or_eq_false_iff.mp g4).1
  refine ⟨c, t, h0, g0, ?_⟩
  show Z.vm.assignableAux (255 + 1) c t = false
  simp [Vm.assignableAux, ids_ne h0 g0 hn, h2, g2, h5, g3, g5, Vm.isSubclass, n3]
end Own
theorem d4_0 : decode jdk_30_method_1_code 0 = .ok (.aload_n 0, 1) := by decide +kernel
theorem d4_1 : decode jdk_30_method_1_code 1 = .ok (.invokespecial 1, 3) := by decide +kernel
theorem d4_4 : decode jdk_30_method_1_code 4 = .ok (.return_, 1) := by decide +kernel
theorem pn_java_lang_Record : plainName "java/lang/Record" = true := by first | (simp [plainName, overriddenIn]; done) | decide +kernel
theorem ef_rm4 (m : MethodId) (x0 : Addr) : entryFrame m #[(.ref x0)] 1 = mkF m 0 #[.val (.ref x0)] [] := by first | (simp [entryFrame, mkF, argsToLocals, Value.category]; done) | rfl
set_option maxRecDepth 65536 in
set_option maxHeartbeats 40000000 in
theorem rm4 (l : Launch) (Z : State) (a0 : Array Value) (hw : ∀ d ∈ tables_1, d.before a0 Z = true) (a : Addr) (h0 : Heap) (n0 : Nat) :
    OMet l Z (⟨"java/lang/Record", "<init>", "()V"⟩ : MethodName) jdk_30_method_1_code 1 none [] ({ frames := 1, cells := 0, slots := 0, locals := 12 } : Room) #[(.ref a)] h0 (OPure none h0 n0) := by
  refine OMet.of (plainFor_of_name pn_java_lang_Record) ?_
  intro p e s m below meth c s₁ hx hby hml hnd hown hnm hret hlk hZ X0 e0
  replace hown : s.vm.findClass "java/lang/Record" = some m.cls := hown
  replace hml : c.maxLocals = 1 := hml
  have N0 := Fr.nil n0
  rw [ef_rm4 m a]
  refine OGo.st (B := s₁.setTop (mkF m 1 #[.val (.ref a)] [(.ref a)])) (fun _ kz => XS.aloadN X0.here hx rfl (hb hby d4_0) rfl rfl kz) ?_
  obtain ⟨T1, X1, e1, st1⟩ := initO X0 hx hZ hown (hw _ (List.mem_of_getElem? (i := 25) rfl)) (hw _ (List.mem_of_getElem? (i := 26) rfl)) (hw _ (List.mem_of_getElem? (i := 27) rfl)) e0 (g := (mkF m 1 #[.val (.ref a)] [(.ref a)])) rfl (by rw [hml]; rfl) rfl (hb hby d4_1) (by decide) (W := 0) (by show 2 * 0 + _ ≤ _; exact Nat.le_of_eq rfl) (by decide)
  refine OGo.st (B := T1.setTop (mkF m 4 #[.val (.ref a)] [])) st1 ?_
  exact own_ret0 X1 hx hret hlk (hb hby d4_4) ⟨rfl, N0, e1⟩ (by decide) (by decide)
theorem d9_0 : decode jdk_18_method_1_code 0 = .ok (.aload_n 0, 1) := by decide +kernel
theorem d9_1 : decode jdk_18_method_1_code 1 = .ok (.invokespecial 1, 3) := by decide +kernel
theorem d9_4 : decode jdk_18_method_1_code 4 = .ok (.return_, 1) := by decide +kernel
theorem pn_java_lang_Number : plainName "java/lang/Number" = true := by first | (simp [plainName, overriddenIn]; done) | decide +kernel
theorem ef_rm9 (m : MethodId) (x0 : Addr) : entryFrame m #[(.ref x0)] 1 = mkF m 0 #[.val (.ref x0)] [] := by first | (simp [entryFrame, mkF, argsToLocals, Value.category]; done) | rfl
set_option maxRecDepth 65536 in
set_option maxHeartbeats 40000000 in
theorem rm9 (l : Launch) (Z : State) (a0 : Array Value) (hw : ∀ d ∈ tables_1, d.before a0 Z = true) (a : Addr) (h0 : Heap) (n0 : Nat) :
    OMet l Z (⟨"java/lang/Number", "<init>", "()V"⟩ : MethodName) jdk_18_method_1_code 1 none [] ({ frames := 1, cells := 0, slots := 0, locals := 12 } : Room) #[(.ref a)] h0 (OPure none h0 n0) := by
  refine OMet.of (plainFor_of_name pn_java_lang_Number) ?_
  intro p e s m below meth c s₁ hx hby hml hnd hown hnm hret hlk hZ X0 e0
  replace hown : s.vm.findClass "java/lang/Number" = some m.cls := hown
  replace hml : c.maxLocals = 1 := hml
  have N0 := Fr.nil n0
  rw [ef_rm9 m a]
  refine OGo.st (B := s₁.setTop (mkF m 1 #[.val (.ref a)] [(.ref a)])) (fun _ kz => XS.aloadN X0.here hx rfl (hb hby d9_0) rfl rfl kz) ?_
  obtain ⟨T1, X1, e1, st1⟩ := initO X0 hx hZ hown (hw _ (List.mem_of_getElem? (i := 56) rfl)) (hw _ (List.mem_of_getElem? (i := 26) rfl)) (hw _ (List.mem_of_getElem? (i := 27) rfl)) e0 (g := (mkF m 1 #[.val (.ref a)] [(.ref a)])) rfl (by rw [hml]; rfl) rfl (hb hby d9_1) (by decide) (W := 0) (by show 2 * 0 + _ ≤ _; exact Nat.le_of_eq rfl) (by decide)
  refine OGo.st (B := T1.setTop (mkF m 4 #[.val (.ref a)] [])) st1 ?_
  exact own_ret0 X1 hx hret hlk (hb hby d9_4) ⟨rfl, N0, e1⟩ (by decide) (by decide)
theorem pd_3 : parseMethodDescriptor "()V" = some ⟨[], none⟩ := by decide +kernel
theorem d8_0 : decode jdk_33_method_23_code 0 = .ok (.aload_n 0, 1) := by decide +kernel
theorem d8_1 : decode jdk_33_method_23_code 1 = .ok (.invokespecial 202, 3) := by decide +kernel
theorem d8_4 : decode jdk_33_method_23_code 4 = .ok (.aload_n 0, 1) := by decide +kernel
theorem d8_5 : decode jdk_33_method_23_code 5 = .ok (.iload_n 1, 1) := by decide +kernel
theorem d8_6 : decode jdk_33_method_23_code 6 = .ok (.putfield 205, 3) := by decide +kernel
theorem d8_9 : decode jdk_33_method_23_code 9 = .ok (.return_, 1) := by decide +kernel
theorem pn_java_lang_Integer : plainName "java/lang/Integer" = true := by first | (simp [plainName, overriddenIn]; done) | decide +kernel
theorem ef_rm8 (m : MethodId) (x0 : Addr) (x1 : Int32) : entryFrame m #[(.ref x0), (.int x1)] 2 = mkF m 0 #[.val (.ref x0), .val (.int x1)] [] := by first | (simp [entryFrame, mkF, argsToLocals, Value.category]; done) | rfl
set_option maxRecDepth 65536 in
set_option maxHeartbeats 40000000 in
theorem rm8 (l : Launch) (Z : State) (a0 : Array Value) (hw : ∀ d ∈ tables_1, d.before a0 Z = true) (a : Addr) (pv : Int32) (h0 : Heap) (n0 : Nat) (Z0 : n0 ≤ h0.size) (E_a : Exa Z h0 a "java/lang/Integer") (g_a : n0 ≤ a) (G : Fld Z h0 a "java/lang/Integer" "value" "I" (.int (0 : Int32))) :
    OMet l Z (⟨"java/lang/Integer", "<init>", "(I)V"⟩ : MethodName) jdk_33_method_23_code 2 none [] ({ frames := 2, cells := 0, slots := 0, locals := 24 } : Room) #[(.ref a), (.int pv)] h0 (fun v h L => v = none ∧ Fr n0 L ∧ Keep h0 h [a]) := by
  refine OMet.of (plainFor_of_name pn_java_lang_Integer) ?_
  intro p e s m below meth c s₁ hx hby hml hnd hown hnm hret hlk hZ X0 e0
  replace hown : s.vm.findClass "java/lang/Integer" = some m.cls := hown
  replace hml : c.maxLocals = 2 := hml
  have N0 := Fr.nil n0
  rw [ef_rm8 m a pv]
  refine OGo.st (B := s₁.setTop (mkF m 1 #[.val (.ref a), .val (.int pv)] [(.ref a)])) (fun _ kz => XS.aloadN X0.here hx rfl (hb hby d8_0) rfl rfl kz) ?_
  obtain ⟨v1, T1, L1, X1, hQ1, st1⟩ := (rm9 l Z a0 hw a h0 n0).init (W := 0) X0 hx hZ rfl hown (hw _ (List.mem_of_getElem? (i := 50) rfl)) (hw _ (List.mem_of_getElem? (i := 51) rfl)) (hw _ (List.mem_of_getElem? (i := 54) rfl)) (hw _ (List.mem_of_getElem? (i := 55) rfl)) (by decide) (by decide) (by decide) e0 (by decide) (by decide) (g := (mkF m 1 #[.val (.ref a), .val (.int pv)] [(.ref a)])) rfl (by rw [hml]; rfl) (argsL := []) (rest := []) rfl (lenOf pd_3 rfl) rfl (by show 2 * 0 + _ ≤ _; exact Nat.le_of_eq rfl) (hb hby d8_1)
  obtain ⟨rfl, N1q, e1⟩ := hQ1
  have N1 := Fr.app N0 N1q
  refine OGo.st (B := T1.setTop (mkF m 4 #[.val (.ref a), .val (.int pv)] [])) st1 ?_
  refine OGo.st (B := T1.setTop (mkF m 5 #[.val (.ref a), .val (.int pv)] [(.ref a)])) (fun _ kz => XS.aloadN X1.here hx rfl (hb hby d8_4) rfl rfl kz) ?_
  refine OGo.st (B := T1.setTop (mkF m 6 #[.val (.ref a), .val (.int pv)] [(.int pv), (.ref a)])) (fun _ kz => XS.iloadN X1.here hx rfl (hb hby d8_5) rfl kz) ?_
  obtain ⟨T2, h2, X2, e2, W2, st2⟩ := putF X1 hx hZ hown (host := "") (Or.inl (hw _ (List.mem_of_getElem? (i := 57) rfl))) Via.refl e1 G E_a (Or.inr ⟨(hw _ (List.mem_of_getElem? (i := 58) rfl)), rfl, hnm⟩) (hw _ (List.mem_of_getElem? (i := 45) rfl)) (ty := .int) (by decide) rfl rfl (g := (mkF m 6 #[.val (.ref a), .val (.int pv)] [(.int pv), (.ref a)])) rfl rfl (hb hby d8_6)
  have F2_value := G.same W2
  have N2 := Fr.snoc X2 N1 g_a
  have K2 : Keep h0 h2 [a] := (Keep.refl h0 [a]).wr W2 (Or.inl (List.mem_of_getElem? (i := 0) rfl))
  refine OGo.st (B := T2.setTop (mkF m 9 #[.val (.ref a), .val (.int pv)] [])) st2 ?_
  exact own_ret0 X2 hx hret hlk (hb hby d8_9) (by rw [e2]; exact ⟨rfl, N2, K2⟩) (by decide) (by decide)
theorem own_idx (p : Int32) (h1 : ¬ p < (-128 : Int32)) (h2 : ¬ (127 : Int32) < p) {c : Cell} (S : c.slots.size = (256 : Int32).toNatClampNeg) : ¬ (p + (128 : Int32) < 0 ∨ c.slots.size ≤ (p + (128 : Int32)).toNatClampNeg) := by
  refine inb_of S ?_
  have := c_iadd p 128
  have := rng32 (p + 128)
  rw [Int32.lt_iff_toInt_lt] at h1 h2
  rw [Int32.lt_iff_toInt_lt, Int32.lt_iff_toInt_lt]
  have e1 : (-128 : Int32).toInt = -128 := rfl
  have e2 : (127 : Int32).toInt = 127 := rfl
  have e3 : (128 : Int32).toInt = 128 := rfl
  have e4 : (0 : Int32).toInt = 0 := rfl
  have e5 : (256 : Int32).toInt = 256 := rfl
  omega
theorem pd_6 : parseMethodDescriptor "(I)V" = some ⟨[.int], none⟩ := by decide +kernel
theorem d1_0 : decode jdk_33_method_22_code 0 = .ok (.iload_n 0, 1) := by decide +kernel
theorem d1_1 : decode jdk_33_method_22_code 1 = .ok (.bipush (-128), 2) := by decide +kernel
theorem d1_3 : decode jdk_33_method_22_code 3 = .ok (.if_icmp .lt 20, 3) := by decide +kernel
theorem d1_6 : decode jdk_33_method_22_code 6 = .ok (.iload_n 0, 1) := by decide +kernel
theorem d1_7 : decode jdk_33_method_22_code 7 = .ok (.getstatic 191, 3) := by decide +kernel
theorem d1_10 : decode jdk_33_method_22_code 10 = .ok (.if_icmp .gt 13, 3) := by decide +kernel
theorem d1_13 : decode jdk_33_method_22_code 13 = .ok (.getstatic 195, 3) := by decide +kernel
theorem d1_16 : decode jdk_33_method_22_code 16 = .ok (.iload_n 0, 1) := by decide +kernel
theorem d1_17 : decode jdk_33_method_22_code 17 = .ok (.sipush 128, 3) := by decide +kernel
theorem d1_20 : decode jdk_33_method_22_code 20 = .ok (.iadd, 1) := by decide +kernel
theorem d1_21 : decode jdk_33_method_22_code 21 = .ok (.aaload, 1) := by decide +kernel
theorem d1_22 : decode jdk_33_method_22_code 22 = .ok (.areturn, 1) := by decide +kernel
theorem d1_23 : decode jdk_33_method_22_code 23 = .ok (.new 1, 3) := by decide +kernel
theorem d1_26 : decode jdk_33_method_22_code 26 = .ok (.dup, 1) := by decide +kernel
theorem d1_27 : decode jdk_33_method_22_code 27 = .ok (.iload_n 0, 1) := by decide +kernel
theorem d1_28 : decode jdk_33_method_22_code 28 = .ok (.invokespecial 199, 3) := by decide +kernel
theorem d1_31 : decode jdk_33_method_22_code 31 = .ok (.areturn, 1) := by decide +kernel
theorem ef_rm1 (m : MethodId) (x0 : Int32) : entryFrame m #[(.int x0)] 1 = mkF m 0 #[.val (.int x0)] [] := by first | (simp [entryFrame, mkF, argsToLocals, Value.category]; done) | rfl
set_option maxRecDepth 65536 in
set_option maxHeartbeats 40000000 in
theorem rm1 (l : Launch) (Z : State) (a0 : Array Value) (hw : ∀ d ∈ tables_1, d.before a0 Z = true) (pv : Int32) (h0 : Heap) (n0 : Nat) (Z0 : n0 ≤ h0.size) (O0 : Old Z n0 h0) (ca : Addr) (cc : Cell) (S_high : Sta Z Z.heap "java/lang/Integer$IntegerCache" "high" "I" (.int 127)) (S_cache : Sta Z Z.heap "java/lang/Integer$IntegerCache" "cache" "[Ljava/lang/Integer;" (.ref ca)) (BX : Bxs Z ca cc "java/lang/Integer" "I" 256 (fun j => .int (j - 128))) :
    OMet l Z (⟨"java/lang/Integer", "valueOf", "(I)Ljava/lang/Integer;"⟩ : MethodName) jdk_33_method_22_code 1 (some (.object "java/lang/Integer")) [] ({ frames := 3, cells := 1, slots := 1, locals := 38 } : Room) #[(.int pv)] h0 (fun v h L => ∃ a, v = some (.ref a) ∧ Fr n0 L ∧ Keep h0 h []) := by
  refine OMet.of (plainFor_of_name pn_java_lang_Integer) ?_
  intro p e s m below meth c s₁ hx hby hml hnd hown hnm hret hlk hZ X0 e0
  replace hown : s.vm.findClass "java/lang/Integer" = some m.cls := hown
  replace hml : c.maxLocals = 1 := hml
  have N0 := Fr.nil n0
  rw [ef_rm1 m pv]
  refine OGo.st (B := s₁.setTop (mkF m 1 #[.val (.int pv)] [(.int pv)])) (fun _ kz => XS.iloadN X0.here hx rfl (hb hby d1_0) rfl kz) ?_
  refine OGo.st (B := s₁.setTop (mkF m 3 #[.val (.int pv)] [(.int (-128 : Int32)), (.int pv)])) (fun _ kz => XS.bipush X0.here hx rfl (hb hby d1_1) kz) ?_
  by_cases h1 : pv < (-128 : Int32)
  · skip
    refine OGo.st (B := s₁.setTop (mkF m 23 #[.val (.int pv)] [])) (fun _ kz => XS.icmpYes X0.here hx rfl (pc0 := 3) (pc' := 23) rfl (hb hby d1_3) rfl (tlt h1).1 (by decide) (by decide) kz) ?_
    obtain ⟨T1, h1, X1, e1, E1, A1, D1, U1, st1⟩ := newO X0 hx hZ hown (hw _ (List.mem_of_getElem? (i := 44) rfl)) (hw _ (List.mem_of_getElem? (i := 45) rfl)) (hw _ (List.mem_of_getElem? (i := 5) rfl)) e0 (g := (mkF m 23 #[.val (.int pv)] [])) rfl (hb hby d1_23) (by decide) (by decide)
    obtain ⟨ob, g1⟩ : ∃ z, z = h0.size := ⟨_, rfl⟩
    rw [← g1] at A1 D1 st1
    have g_ob : n0 ≤ ob := Nat.le_trans Z0 (Nat.le_trans (Keep.refl h0 []).1 (Nat.le_of_eq g1.symm))
    have sz_ob : h0.size ≤ ob := Nat.le_trans (Keep.refl h0 []).1 (Nat.le_of_eq g1.symm)
    have K1 : Keep h0 h1 [] := (Keep.refl h0 []).ext E1
    have O1 := O0.ext E1
    have F1_value : Fld Z h1 ob "java/lang/Integer" "value" "I" (.int (0 : Int32)) := D1 (Or.inr (hw _ (List.mem_of_getElem? (i := 58) rfl))) (ty := .int) (by decide)
    refine OGo.st (B := T1.setTop (mkF m 26 #[.val (.int pv)] [(.ref ob)])) st1 ?_
    refine OGo.st (B := T1.setTop (mkF m 27 #[.val (.int pv)] [(.ref ob), (.ref ob)])) (fun _ kz => XS.dup X1.here hx rfl (hb hby d1_26) rfl rfl kz) ?_
    refine OGo.st (B := T1.setTop (mkF m 28 #[.val (.int pv)] [(.int pv), (.ref ob), (.ref ob)])) (fun _ kz => XS.iloadN X1.here hx rfl (hb hby d1_27) rfl kz) ?_
    obtain ⟨v2, T2, L2, X2, hQ2, st2⟩ := (rm8 l Z a0 hw ob pv h1 n0 (Nat.le_trans Z0 K1.1) A1 g_ob F1_value).init (W := 1) X1 hx hZ rfl hown (hw _ (List.mem_of_getElem? (i := 46) rfl)) (hw _ (List.mem_of_getElem? (i := 47) rfl)) (hw _ (List.mem_of_getElem? (i := 5) rfl)) (hw _ (List.mem_of_getElem? (i := 49) rfl)) (by decide) (by decide) (by decide) e1 (by decide) (by decide) (g := (mkF m 28 #[.val (.int pv)] [(.int pv), (.ref ob), (.ref ob)])) rfl (by rw [hml]; rfl) (argsL := [(.int pv)]) (rest := [(.ref ob)]) rfl (lenOf pd_6 rfl) rfl (by show 2 * 0 + _ ≤ _; exact Nat.le_of_eq rfl) (hb hby d1_28)
    obtain ⟨rfl, N2q, J2⟩ := hQ2
    have N2 := Fr.app N0 N2q
    have K2 : Keep h0 T2.heap [] := K1.trans J2 (allS (Or.inr sz_ob) all0)
    have O2 := O1.keep J2 (allS g_ob all0)
    refine OGo.st (B := T2.setTop (mkF m 31 #[.val (.int pv)] [(.ref ob)])) st2 ?_
    exact own_retA X2 hx hret hlk rfl rfl rfl (hb hby d1_31) ⟨ob, rfl, N2, K2⟩ (by decide) (by decide)
  · skip
    refine OGo.st (B := s₁.setTop (mkF m 6 #[.val (.int pv)] [])) (fun _ kz => XS.icmpNo X0.here hx rfl (hb hby d1_3) rfl (flt h1).1 kz) ?_
    refine OGo.st (B := s₁.setTop (mkF m 7 #[.val (.int pv)] [(.int pv)])) (fun _ kz => XS.iloadN X0.here hx rfl (hb hby d1_6) rfl kz) ?_
    obtain ⟨T3, X3, e3, st3⟩ := getS2 X0 hx hZ hown (host := "") (Or.inl (hw _ (List.mem_of_getElem? (i := 7) rfl))) Via.refl e0 (S_high.ext O0.2) (g := (mkF m 7 #[.val (.int pv)] [(.int pv)])) rfl (hb hby d1_7)
    refine OGo.st (B := T3.setTop (mkF m 10 #[.val (.int pv)] [(.int (127 : Int32)), (.int pv)])) st3 ?_
    by_cases h2 : (127 : Int32) < pv
    · skip
      refine OGo.st (B := T3.setTop (mkF m 23 #[.val (.int pv)] [])) (fun _ kz => XS.icmpYes X3.here hx rfl (pc0 := 10) (pc' := 23) rfl (hb hby d1_10) rfl (tlt h2).2.2.1 (by decide) (by decide) kz) ?_
      obtain ⟨T4, h4, X4, e4, E4, A4, D4, U4, st4⟩ := newO X3 hx hZ hown (hw _ (List.mem_of_getElem? (i := 44) rfl)) (hw _ (List.mem_of_getElem? (i := 45) rfl)) (hw _ (List.mem_of_getElem? (i := 5) rfl)) e3 (g := (mkF m 23 #[.val (.int pv)] [])) rfl (hb hby d1_23) (by decide) (by decide)
      obtain ⟨ob, g4⟩ : ∃ z, z = h0.size := ⟨_, rfl⟩
      rw [← g4] at A4 D4 st4
      have g_ob : n0 ≤ ob := Nat.le_trans Z0 (Nat.le_trans (Keep.refl h0 []).1 (Nat.le_of_eq g4.symm))
      have sz_ob : h0.size ≤ ob := Nat.le_trans (Keep.refl h0 []).1 (Nat.le_of_eq g4.symm)
      have K4 : Keep h0 h4 [] := (Keep.refl h0 []).ext E4
      have O4 := O0.ext E4
      have F4_value : Fld Z h4 ob "java/lang/Integer" "value" "I" (.int (0 : Int32)) := D4 (Or.inr (hw _ (List.mem_of_getElem? (i := 58) rfl))) (ty := .int) (by decide)
      refine OGo.st (B := T4.setTop (mkF m 26 #[.val (.int pv)] [(.ref ob)])) st4 ?_
      refine OGo.st (B := T4.setTop (mkF m 27 #[.val (.int pv)] [(.ref ob), (.ref ob)])) (fun _ kz => XS.dup X4.here hx rfl (hb hby d1_26) rfl rfl kz) ?_
      refine OGo.st (B := T4.setTop (mkF m 28 #[.val (.int pv)] [(.int pv), (.ref ob), (.ref ob)])) (fun _ kz => XS.iloadN X4.here hx rfl (hb hby d1_27) rfl kz) ?_
      obtain ⟨v5, T5, L5, X5, hQ5, st5⟩ := (rm8 l Z a0 hw ob pv h4 n0 (Nat.le_trans Z0 K4.1) A4 g_ob F4_value).init (W := 1) X4 hx hZ rfl hown (hw _ (List.mem_of_getElem? (i := 46) rfl)) (hw _ (List.mem_of_getElem? (i := 47) rfl)) (hw _ (List.mem_of_getElem? (i := 5) rfl)) (hw _ (List.mem_of_getElem? (i := 49) rfl)) (by decide) (by decide) (by decide) e4 (by decide) (by decide) (g := (mkF m 28 #[.val (.int pv)] [(.int pv), (.ref ob), (.ref ob)])) rfl (by rw [hml]; rfl) (argsL := [(.int pv)]) (rest := [(.ref ob)]) rfl (lenOf pd_6 rfl) rfl (by show 2 * 0 + _ ≤ _; exact Nat.le_of_eq rfl) (hb hby d1_28)
      obtain ⟨rfl, N5q, J5⟩ := hQ5
      have N5 := Fr.app N0 N5q
      have K5 : Keep h0 T5.heap [] := K4.trans J5 (allS (Or.inr sz_ob) all0)
      have O5 := O4.keep J5 (allS g_ob all0)
      refine OGo.st (B := T5.setTop (mkF m 31 #[.val (.int pv)] [(.ref ob)])) st5 ?_
      exact own_retA X5 hx hret hlk rfl rfl rfl (hb hby d1_31) ⟨ob, rfl, N5, K5⟩ (by decide) (by decide)
    · skip
      refine OGo.st (B := T3.setTop (mkF m 13 #[.val (.int pv)] [])) (fun _ kz => XS.icmpNo X3.here hx rfl (hb hby d1_10) rfl (flt h2).2.2.1 kz) ?_
      obtain ⟨T6, X6, e6, st6⟩ := getS2 X3 hx hZ hown (host := "") (Or.inl (hw _ (List.mem_of_getElem? (i := 9) rfl))) Via.refl e3 (S_cache.ext O0.2) (g := (mkF m 13 #[.val (.int pv)] [])) rfl (hb hby d1_13)
      refine OGo.st (B := T6.setTop (mkF m 16 #[.val (.int pv)] [(.ref ca)])) st6 ?_
      refine OGo.st (B := T6.setTop (mkF m 17 #[.val (.int pv)] [(.int pv), (.ref ca)])) (fun _ kz => XS.iloadN X6.here hx rfl (hb hby d1_16) rfl kz) ?_
      refine OGo.st (B := T6.setTop (mkF m 20 #[.val (.int pv)] [(.int (128 : Int32)), (.int pv), (.ref ca)])) (fun _ kz => XS.sipush X6.here hx rfl (hb hby d1_17) kz) ?_
      refine OGo.st (B := T6.setTop (mkF m 21 #[.val (.int pv)] [(.int (pv + (128 : Int32))), (.ref ca)])) (fun _ kz => XS.iadd X6.here hx rfl (hb hby d1_20) rfl kz) ?_
      obtain ⟨bx, hbx, -, -⟩ := BX.2.2.2 _ (own_idx pv h1 h2 BX.2.1)
      have AC := BX.1.ext O0.2
      refine OGo.st (B := T6.setTop (mkF m 22 #[.val (.int pv)] [(.ref bx)])) (X6.aaload hx (j := (pv + (128 : Int32))) (v := .ref bx) (by rw [e6]; exact AC.1) (State.isArrayOf_alike hZ.alike AC.2.1) rfl AC.2.2 (own_idx pv h1 h2 BX.2.1) hbx (g := (mkF m 21 #[.val (.int pv)] [(.int (pv + (128 : Int32))), (.ref ca)])) rfl rfl (hb hby d1_21)) ?_
      exact own_retA X6 hx hret hlk rfl rfl rfl (hb hby d1_22) ⟨bx, rfl, N0, by rw [e6]; exact (Keep.refl h0 [])⟩ (by decide) (by decide)
theorem d2_0 : decode method_2_code 0 = .ok (.iload_n 0, 1) := by decide +kernel
theorem d2_1 : decode method_2_code 1 = .ok (.bipush 7, 2) := by decide +kernel
theorem d2_3 : decode method_2_code 3 = .ok (.iand, 1) := by decide +kernel
theorem d2_4 : decode method_2_code 4 = .ok (.istore_n 1, 1) := by decide +kernel
theorem d2_5 : decode method_2_code 5 = .ok (.iload_n 1, 1) := by decide +kernel
theorem d2_6 : decode method_2_code 6 = .ok (.ifCond .ne 7, 3) := by decide +kernel
theorem d2_9 : decode method_2_code 9 = .ok (.getstatic 7, 3) := by decide +kernel
theorem d2_12 : decode method_2_code 12 = .ok (.areturn, 1) := by decide +kernel
theorem d2_13 : decode method_2_code 13 = .ok (.iload_n 1, 1) := by decide +kernel
theorem d2_14 : decode method_2_code 14 = .ok (.iconst 1, 1) := by decide +kernel
theorem d2_15 : decode method_2_code 15 = .ok (.if_icmp .ne 7, 3) := by decide +kernel
theorem d2_18 : decode method_2_code 18 = .ok (.getstatic 13, 3) := by decide +kernel
theorem d2_21 : decode method_2_code 21 = .ok (.areturn, 1) := by decide +kernel
theorem d2_22 : decode method_2_code 22 = .ok (.iload_n 1, 1) := by decide +kernel
theorem d2_23 : decode method_2_code 23 = .ok (.iconst 2, 1) := by decide +kernel
theorem d2_24 : decode method_2_code 24 = .ok (.if_icmp .ne 7, 3) := by decide +kernel
theorem d2_27 : decode method_2_code 27 = .ok (.getstatic 16, 3) := by decide +kernel
theorem d2_30 : decode method_2_code 30 = .ok (.areturn, 1) := by decide +kernel
theorem d2_31 : decode method_2_code 31 = .ok (.iload_n 1, 1) := by decide +kernel
theorem d2_32 : decode method_2_code 32 = .ok (.iconst 3, 1) := by decide +kernel
theorem d2_33 : decode method_2_code 33 = .ok (.if_icmp .ne 7, 3) := by decide +kernel
theorem d2_36 : decode method_2_code 36 = .ok (.getstatic 19, 3) := by decide +kernel
theorem d2_39 : decode method_2_code 39 = .ok (.areturn, 1) := by decide +kernel
theorem d2_40 : decode method_2_code 40 = .ok (.iload_n 1, 1) := by decide +kernel
theorem d2_41 : decode method_2_code 41 = .ok (.iconst 4, 1) := by decide +kernel
theorem d2_42 : decode method_2_code 42 = .ok (.if_icmp .ne 7, 3) := by decide +kernel
theorem d2_45 : decode method_2_code 45 = .ok (.getstatic 22, 3) := by decide +kernel
theorem d2_48 : decode method_2_code 48 = .ok (.areturn, 1) := by decide +kernel
theorem d2_49 : decode method_2_code 49 = .ok (.getstatic 25, 3) := by decide +kernel
theorem d2_52 : decode method_2_code 52 = .ok (.areturn, 1) := by decide +kernel
theorem pn_com_example_cordon_cordon_RequestIsAheadOfPinLaw : plainName "com/example/cordon/cordon/RequestIsAheadOfPinLaw" = true := by first | (simp [plainName, overriddenIn]; done) | decide +kernel
theorem ef_rm2 (m : MethodId) (x0 : Int32) : entryFrame m #[(.int x0)] 2 = mkF m 0 #[.val (.int x0), .unset] [] := by first | (simp [entryFrame, mkF, argsToLocals, Value.category]; done) | rfl
set_option maxRecDepth 65536 in
set_option maxHeartbeats 40000000 in
theorem rm2 (l : Launch) (Z : State) (a0 : Array Value) (hw : ∀ d ∈ tables_1, d.before a0 Z = true) (pv : Int32) (w_INTENTION_SHARED w_INTENTION_EXCLUSIVE w_SHARED w_SHARED_INTENTION_EXCLUSIVE w_UPDATE w_EXCLUSIVE : Addr) (h0 : Heap) (n0 : Nat) (S_INTENTION_SHARED : Sta Z h0 "com/example/cordon/cordon/LockMode" "INTENTION_SHARED" "Lcom/example/cordon/cordon/LockMode;" (.ref w_INTENTION_SHARED)) (S_INTENTION_EXCLUSIVE : Sta Z h0 "com/example/cordon/cordon/LockMode" "INTENTION_EXCLUSIVE" "Lcom/example/cordon/cordon/LockMode;" (.ref w_INTENTION_EXCLUSIVE)) (S_SHARED : Sta Z h0 "com/example/cordon/cordon/LockMode" "SHARED" "Lcom/example/cordon/cordon/LockMode;" (.ref w_SHARED)) (S_SHARED_INTENTION_EXCLUSIVE : Sta Z h0 "com/example/cordon/cordon/LockMode" "SHARED_INTENTION_EXCLUSIVE" "Lcom/example/cordon/cordon/LockMode;" (.ref w_SHARED_INTENTION_EXCLUSIVE)) (S_UPDATE : Sta Z h0 "com/example/cordon/cordon/LockMode" "UPDATE" "Lcom/example/cordon/cordon/LockMode;" (.ref w_UPDATE)) (S_EXCLUSIVE : Sta Z h0 "com/example/cordon/cordon/LockMode" "EXCLUSIVE" "Lcom/example/cordon/cordon/LockMode;" (.ref w_EXCLUSIVE)) :
    OMet l Z (⟨"com/example/cordon/cordon/RequestIsAheadOfPinLaw", "mode", "(I)Lcom/example/cordon/cordon/LockMode;"⟩ : MethodName) method_2_code 2 (some (.object "com/example/cordon/cordon/LockMode")) [] ({ frames := 0, cells := 0, slots := 0, locals := 0 } : Room) #[(.int pv)] h0 (fun v h L => ∃ a, v = some (.ref a) ∧ Fr n0 L ∧ h = h0) := by
  refine OMet.of (plainFor_of_name pn_com_example_cordon_cordon_RequestIsAheadOfPinLaw) ?_
  intro p e s m below meth c s₁ hx hby hml hnd hown hnm hret hlk hZ X0 e0
  replace hown : s.vm.findClass "com/example/cordon/cordon/RequestIsAheadOfPinLaw" = some m.cls := hown
  replace hml : c.maxLocals = 2 := hml
  have N0 := Fr.nil n0
  rw [ef_rm2 m pv]
  refine OGo.st (B := s₁.setTop (mkF m 1 #[.val (.int pv), .unset] [(.int pv)])) (fun _ kz => XS.iloadN X0.here hx rfl (hb hby d2_0) rfl kz) ?_
  refine OGo.st (B := s₁.setTop (mkF m 3 #[.val (.int pv), .unset] [(.int (7 : Int32)), (.int pv)])) (fun _ kz => XS.bipush X0.here hx rfl (hb hby d2_1) kz) ?_
  refine OGo.st (B := s₁.setTop (mkF m 4 #[.val (.int pv), .unset] [(.int (pv &&& (7 : Int32)))])) (fun _ kz => XS.iand X0.here hx rfl (hb hby d2_3) rfl kz) ?_
  refine OGo.st (B := s₁.setTop (mkF m 5 #[.val (.int pv), .val (.int (pv &&& (7 : Int32)))] [])) (fun _ kz => XS.istoreN X0.here hx rfl (hb hby d2_4) rfl (l' := #[.val (.int pv), .val (.int (pv &&& (7 : Int32)))]) rfl kz) ?_
  refine OGo.st (B := s₁.setTop (mkF m 6 #[.val (.int pv), .val (.int (pv &&& (7 : Int32)))] [(.int (pv &&& (7 : Int32)))])) (fun _ kz => XS.iloadN X0.here hx rfl (hb hby d2_5) rfl kz) ?_
  by_cases h0 : (pv &&& (7 : Int32)) = (0 : Int32)
  · skip
    refine OGo.st (B := s₁.setTop (mkF m 9 #[.val (.int pv), .val (.int (pv &&& (7 : Int32)))] [])) (fun _ kz => XS.ifNo X0.here hx rfl (hb hby d2_6) rfl ((if0 _ _).trans (teq h0).2) kz) ?_
    obtain ⟨T1, X1, e1, st1⟩ := getS2 X0 hx hZ hown (host := "") (Or.inl (hw _ (List.mem_of_getElem? (i := 14) rfl))) Via.refl e0 S_INTENTION_SHARED (g := (mkF m 9 #[.val (.int pv), .val (.int (pv &&& (7 : Int32)))] [])) rfl (hb hby d2_9)
    refine OGo.st (B := T1.setTop (mkF m 12 #[.val (.int pv), .val (.int (pv &&& (7 : Int32)))] [(.ref w_INTENTION_SHARED)])) st1 ?_
    exact own_retA X1 hx hret hlk rfl rfl rfl (hb hby d2_12) ⟨w_INTENTION_SHARED, rfl, N0, e1⟩ (by decide) (by decide)
  · skip
    refine OGo.st (B := s₁.setTop (mkF m 13 #[.val (.int pv), .val (.int (pv &&& (7 : Int32)))] [])) (fun _ kz => XS.ifYes X0.here hx rfl (pc0 := 6) (pc' := 13) rfl (hb hby d2_6) rfl ((if0 _ _).trans (feq h0).2) (by decide) (by decide) kz) ?_
    refine OGo.st (B := s₁.setTop (mkF m 14 #[.val (.int pv), .val (.int (pv &&& (7 : Int32)))] [(.int (pv &&& (7 : Int32)))])) (fun _ kz => XS.iloadN X0.here hx rfl (hb hby d2_13) rfl kz) ?_
    refine OGo.st (B := s₁.setTop (mkF m 15 #[.val (.int pv), .val (.int (pv &&& (7 : Int32)))] [(.int (1 : Int32)), (.int (pv &&& (7 : Int32)))])) (fun _ kz => XS.iconst X0.here hx rfl (hb hby d2_14) kz) ?_
    by_cases h1 : (pv &&& (7 : Int32)) = (1 : Int32)
    · skip
      refine OGo.st (B := s₁.setTop (mkF m 18 #[.val (.int pv), .val (.int (pv &&& (7 : Int32)))] [])) (fun _ kz => XS.icmpNo X0.here hx rfl (hb hby d2_15) rfl (teq h1).2 kz) ?_
      obtain ⟨T2, X2, e2, st2⟩ := getS2 X0 hx hZ hown (host := "") (Or.inl (hw _ (List.mem_of_getElem? (i := 65) rfl))) Via.refl e0 S_INTENTION_EXCLUSIVE (g := (mkF m 18 #[.val (.int pv), .val (.int (pv &&& (7 : Int32)))] [])) rfl (hb hby d2_18)
      refine OGo.st (B := T2.setTop (mkF m 21 #[.val (.int pv), .val (.int (pv &&& (7 : Int32)))] [(.ref w_INTENTION_EXCLUSIVE)])) st2 ?_
      exact own_retA X2 hx hret hlk rfl rfl rfl (hb hby d2_21) ⟨w_INTENTION_EXCLUSIVE, rfl, N0, e2⟩ (by decide) (by decide)
    · skip
      refine OGo.st (B := s₁.setTop (mkF m 22 #[.val (.int pv), .val (.int (pv &&& (7 : Int32)))] [])) (fun _ kz => XS.icmpYes X0.here hx rfl (pc0 := 15) (pc' := 22) rfl (hb hby d2_15) rfl (feq h1).2 (by decide) (by decide) kz) ?_
      refine OGo.st (B := s₁.setTop (mkF m 23 #[.val (.int pv), .val (.int (pv &&& (7 : Int32)))] [(.int (pv &&& (7 : Int32)))])) (fun _ kz => XS.iloadN X0.here hx rfl (hb hby d2_22) rfl kz) ?_
      refine OGo.st (B := s₁.setTop (mkF m 24 #[.val (.int pv), .val (.int (pv &&& (7 : Int32)))] [(.int (2 : Int32)), (.int (pv &&& (7 : Int32)))])) (fun _ kz => XS.iconst X0.here hx rfl (hb hby d2_23) kz) ?_
      by_cases h2 : (pv &&& (7 : Int32)) = (2 : Int32)
      · skip
        refine OGo.st (B := s₁.setTop (mkF m 27 #[.val (.int pv), .val (.int (pv &&& (7 : Int32)))] [])) (fun _ kz => XS.icmpNo X0.here hx rfl (hb hby d2_24) rfl (teq h2).2 kz) ?_
        obtain ⟨T3, X3, e3, st3⟩ := getS2 X0 hx hZ hown (host := "") (Or.inl (hw _ (List.mem_of_getElem? (i := 63) rfl))) Via.refl e0 S_SHARED (g := (mkF m 27 #[.val (.int pv), .val (.int (pv &&& (7 : Int32)))] [])) rfl (hb hby d2_27)
        refine OGo.st (B := T3.setTop (mkF m 30 #[.val (.int pv), .val (.int (pv &&& (7 : Int32)))] [(.ref w_SHARED)])) st3 ?_
        exact own_retA X3 hx hret hlk rfl rfl rfl (hb hby d2_30) ⟨w_SHARED, rfl, N0, e3⟩ (by decide) (by decide)
      · skip
        refine OGo.st (B := s₁.setTop (mkF m 31 #[.val (.int pv), .val (.int (pv &&& (7 : Int32)))] [])) (fun _ kz => XS.icmpYes X0.here hx rfl (pc0 := 24) (pc' := 31) rfl (hb hby d2_24) rfl (feq h2).2 (by decide) (by decide) kz) ?_
        refine OGo.st (B := s₁.setTop (mkF m 32 #[.val (.int pv), .val (.int (pv &&& (7 : Int32)))] [(.int (pv &&& (7 : Int32)))])) (fun _ kz => XS.iloadN X0.here hx rfl (hb hby d2_31) rfl kz) ?_
        refine OGo.st (B := s₁.setTop (mkF m 33 #[.val (.int pv), .val (.int (pv &&& (7 : Int32)))] [(.int (3 : Int32)), (.int (pv &&& (7 : Int32)))])) (fun _ kz => XS.iconst X0.here hx rfl (hb hby d2_32) kz) ?_
        by_cases h3 : (pv &&& (7 : Int32)) = (3 : Int32)
        · skip
          refine OGo.st (B := s₁.setTop (mkF m 36 #[.val (.int pv), .val (.int (pv &&& (7 : Int32)))] [])) (fun _ kz => XS.icmpNo X0.here hx rfl (hb hby d2_33) rfl (teq h3).2 kz) ?_
          obtain ⟨T4, X4, e4, st4⟩ := getS2 X0 hx hZ hown (host := "") (Or.inl (hw _ (List.mem_of_getElem? (i := 61) rfl))) Via.refl e0 S_SHARED_INTENTION_EXCLUSIVE (g := (mkF m 36 #[.val (.int pv), .val (.int (pv &&& (7 : Int32)))] [])) rfl (hb hby d2_36)
          refine OGo.st (B := T4.setTop (mkF m 39 #[.val (.int pv), .val (.int (pv &&& (7 : Int32)))] [(.ref w_SHARED_INTENTION_EXCLUSIVE)])) st4 ?_
          exact own_retA X4 hx hret hlk rfl rfl rfl (hb hby d2_39) ⟨w_SHARED_INTENTION_EXCLUSIVE, rfl, N0, e4⟩ (by decide) (by decide)
        · skip
          refine OGo.st (B := s₁.setTop (mkF m 40 #[.val (.int pv), .val (.int (pv &&& (7 : Int32)))] [])) (fun _ kz => XS.icmpYes X0.here hx rfl (pc0 := 33) (pc' := 40) rfl (hb hby d2_33) rfl (feq h3).2 (by decide) (by decide) kz) ?_
          refine OGo.st (B := s₁.setTop (mkF m 41 #[.val (.int pv), .val (.int (pv &&& (7 : Int32)))] [(.int (pv &&& (7 : Int32)))])) (fun _ kz => XS.iloadN X0.here hx rfl (hb hby d2_40) rfl kz) ?_
          refine OGo.st (B := s₁.setTop (mkF m 42 #[.val (.int pv), .val (.int (pv &&& (7 : Int32)))] [(.int (4 : Int32)), (.int (pv &&& (7 : Int32)))])) (fun _ kz => XS.iconst X0.here hx rfl (hb hby d2_41) kz) ?_
          by_cases h4 : (pv &&& (7 : Int32)) = (4 : Int32)
          · skip
            refine OGo.st (B := s₁.setTop (mkF m 45 #[.val (.int pv), .val (.int (pv &&& (7 : Int32)))] [])) (fun _ kz => XS.icmpNo X0.here hx rfl (hb hby d2_42) rfl (teq h4).2 kz) ?_
            obtain ⟨T5, X5, e5, st5⟩ := getS2 X0 hx hZ hown (host := "") (Or.inl (hw _ (List.mem_of_getElem? (i := 67) rfl))) Via.refl e0 S_UPDATE (g := (mkF m 45 #[.val (.int pv), .val (.int (pv &&& (7 : Int32)))] [])) rfl (hb hby d2_45)
            refine OGo.st (B := T5.setTop (mkF m 48 #[.val (.int pv), .val (.int (pv &&& (7 : Int32)))] [(.ref w_UPDATE)])) st5 ?_
            exact own_retA X5 hx hret hlk rfl rfl rfl (hb hby d2_48) ⟨w_UPDATE, rfl, N0, e5⟩ (by decide) (by decide)
          · skip
            refine OGo.st (B := s₁.setTop (mkF m 49 #[.val (.int pv), .val (.int (pv &&& (7 : Int32)))] [])) (fun _ kz => XS.icmpYes X0.here hx rfl (pc0 := 42) (pc' := 49) rfl (hb hby d2_42) rfl (feq h4).2 (by decide) (by decide) kz) ?_
            obtain ⟨T6, X6, e6, st6⟩ := getS2 X0 hx hZ hown (host := "") (Or.inl (hw _ (List.mem_of_getElem? (i := 59) rfl))) Via.refl e0 S_EXCLUSIVE (g := (mkF m 49 #[.val (.int pv), .val (.int (pv &&& (7 : Int32)))] [])) rfl (hb hby d2_49)
            refine OGo.st (B := T6.setTop (mkF m 52 #[.val (.int pv), .val (.int (pv &&& (7 : Int32)))] [(.ref w_EXCLUSIVE)])) st6 ?_
            exact own_retA X6 hx hret hlk rfl rfl rfl (hb hby d2_52) ⟨w_EXCLUSIVE, rfl, N0, e6⟩ (by decide) (by decide)
theorem d3_0 : decode prog_10_method_1_code 0 = .ok (.aload_n 0, 1) := by decide +kernel
theorem d3_1 : decode prog_10_method_1_code 1 = .ok (.invokespecial 1, 3) := by decide +kernel
theorem d3_4 : decode prog_10_method_1_code 4 = .ok (.aload_n 0, 1) := by decide +kernel
theorem d3_5 : decode prog_10_method_1_code 5 = .ok (.aload_n 1, 1) := by decide +kernel
theorem d3_6 : decode prog_10_method_1_code 6 = .ok (.putfield 7, 3) := by decide +kernel
theorem d3_9 : decode prog_10_method_1_code 9 = .ok (.aload_n 0, 1) := by decide +kernel
theorem d3_10 : decode prog_10_method_1_code 10 = .ok (.aload_n 2, 1) := by decide +kernel
theorem d3_11 : decode prog_10_method_1_code 11 = .ok (.putfield 13, 3) := by decide +kernel
theorem d3_14 : decode prog_10_method_1_code 14 = .ok (.aload_n 0, 1) := by decide +kernel
theorem d3_15 : decode prog_10_method_1_code 15 = .ok (.iload_n 3, 1) := by decide +kernel
theorem d3_16 : decode prog_10_method_1_code 16 = .ok (.putfield 17, 3) := by decide +kernel
theorem d3_19 : decode prog_10_method_1_code 19 = .ok (.aload_n 0, 1) := by decide +kernel
theorem d3_20 : decode prog_10_method_1_code 20 = .ok (.lload 4, 2) := by decide +kernel
theorem d3_22 : decode prog_10_method_1_code 22 = .ok (.putfield 21, 3) := by decide +kernel
theorem d3_25 : decode prog_10_method_1_code 25 = .ok (.return_, 1) := by decide +kernel
theorem pn_com_example_cordon_cordon_KeyEntry_Request : plainName "com/example/cordon/cordon/KeyEntry$Request" = true := by first | (simp [plainName, overriddenIn]; done) | decide +kernel
theorem ef_rm3 (m : MethodId) (x0 : Addr) (x1 : Addr) (x2 : Addr) (x3 : Int32) (x4 : Int64) : entryFrame m #[(.ref x0), (.ref x1), (.ref x2), (.int x3), (.long x4)] 6 = mkF m 0 #[.val (.ref x0), .val (.ref x1), .val (.ref x2), .val (.int x3), .val (.long x4), .second] [] := by first | (simp [entryFrame, mkF, argsToLocals, Value.category]; done) | rfl
set_option maxRecDepth 65536 in
set_option maxHeartbeats 40000000 in
theorem rm3 (l : Launch) (Z : State) (a0 : Array Value) (hw : ∀ d ∈ tables_1, d.before a0 Z = true) (a x y : Addr) (u : Int32) (t : Int64) (h0 : Heap) (n0 : Nat) (Z0 : n0 ≤ h0.size) (hu : u = 0 ∨ u = 1) (E_a : Exa Z h0 a "com/example/cordon/cordon/KeyEntry$Request") (g_a : n0 ≤ a) (G_transaction : Fld Z h0 a "com/example/cordon/cordon/KeyEntry$Request" "transaction" "Ljava/lang/Object;" .null) (G_mode : Fld Z h0 a "com/example/cordon/cordon/KeyEntry$Request" "mode" "Lcom/example/cordon/cordon/LockMode;" .null) (G_upgrade : Fld Z h0 a "com/example/cordon/cordon/KeyEntry$Request" "upgrade" "Z" (.int (0 : Int32))) (G_ticket : Fld Z h0 a "com/example/cordon/cordon/KeyEntry$Request" "ticket" "J" (.long (0 : Int64))) :
    OMet l Z (⟨"com/example/cordon/cordon/KeyEntry$Request", "<init>", "(Ljava/lang/Object;Lcom/example/cordon/cordon/LockMode;ZJ)V"⟩ : MethodName) prog_10_method_1_code 6 none [] ({ frames := 2, cells := 0, slots := 0, locals := 24 } : Room) #[(.ref a), (.ref x), (.ref y), (.int u), (.long t)] h0 (fun v h L => v = none ∧ Fr n0 L ∧ Keep h0 h [a] ∧ Exa Z h a "com/example/cordon/cordon/KeyEntry$Request" ∧ Fld Z h a "com/example/cordon/cordon/KeyEntry$Request" "upgrade" "Z" (.int u) ∧ Fld Z h a "com/example/cordon/cordon/KeyEntry$Request" "ticket" "J" (.long t)) := by
  refine OMet.of (plainFor_of_name pn_com_example_cordon_cordon_KeyEntry_Request) ?_
  intro p e s m below meth c s₁ hx hby hml hnd hown hnm hret hlk hZ X0 e0
  replace hown : s.vm.findClass "com/example/cordon/cordon/KeyEntry$Request" = some m.cls := hown
  replace hml : c.maxLocals = 6 := hml
  have N0 := Fr.nil n0
  rw [ef_rm3 m a x y u t]
  refine OGo.st (B := s₁.setTop (mkF m 1 #[.val (.ref a), .val (.ref x), .val (.ref y), .val (.int u), .val (.long t), .second] [(.ref a)])) (fun _ kz => XS.aloadN X0.here hx rfl (hb hby d3_0) rfl rfl kz) ?_
  obtain ⟨v1, T1, L1, X1, hQ1, st1⟩ := (rm4 l Z a0 hw a h0 n0).init (W := 0) X0 hx hZ rfl hown (hw _ (List.mem_of_getElem? (i := 20) rfl)) (hw _ (List.mem_of_getElem? (i := 21) rfl)) (hw _ (List.mem_of_getElem? (i := 23) rfl)) (hw _ (List.mem_of_getElem? (i := 24) rfl)) (by decide) (by decide) (by decide) e0 (by decide) (by decide) (g := (mkF m 1 #[.val (.ref a), .val (.ref x), .val (.ref y), .val (.int u), .val (.long t), .second] [(.ref a)])) rfl (by rw [hml]; rfl) (argsL := []) (rest := []) rfl (lenOf pd_3 rfl) rfl (by show 2 * 0 + _ ≤ _; exact Nat.le_of_eq rfl) (hb hby d3_1)
  obtain ⟨rfl, N1q, e1⟩ := hQ1
  have N1 := Fr.app N0 N1q
  refine OGo.st (B := T1.setTop (mkF m 4 #[.val (.ref a), .val (.ref x), .val (.ref y), .val (.int u), .val (.long t), .second] [])) st1 ?_
  refine OGo.st (B := T1.setTop (mkF m 5 #[.val (.ref a), .val (.ref x), .val (.ref y), .val (.int u), .val (.long t), .second] [(.ref a)])) (fun _ kz => XS.aloadN X1.here hx rfl (hb hby d3_4) rfl rfl kz) ?_
  refine OGo.st (B := T1.setTop (mkF m 6 #[.val (.ref a), .val (.ref x), .val (.ref y), .val (.int u), .val (.long t), .second] [(.ref x), (.ref a)])) (fun _ kz => XS.aloadN X1.here hx rfl (hb hby d3_5) rfl rfl kz) ?_
  obtain ⟨T2, h2, X2, e2, W2, st2⟩ := putF X1 hx hZ hown (host := "") (Or.inl (hw _ (List.mem_of_getElem? (i := 28) rfl))) Via.refl e1 G_transaction E_a (Or.inr ⟨(hw _ (List.mem_of_getElem? (i := 29) rfl)), rfl, hnm⟩) (hw _ (List.mem_of_getElem? (i := 1) rfl)) (ty := (.object "java/lang/Object")) (by decide) rfl rfl (g := (mkF m 6 #[.val (.ref a), .val (.ref x), .val (.ref y), .val (.int u), .val (.long t), .second] [(.ref x), (.ref a)])) rfl rfl (hb hby d3_6)
  have F2_transaction := G_transaction.same W2
  have N2 := Fr.snoc X2 N1 g_a
  have K2 : Keep h0 h2 [a] := (Keep.refl h0 [a]).wr W2 (Or.inl (List.mem_of_getElem? (i := 0) rfl))
  refine OGo.st (B := T2.setTop (mkF m 9 #[.val (.ref a), .val (.ref x), .val (.ref y), .val (.int u), .val (.long t), .second] [])) st2 ?_
  refine OGo.st (B := T2.setTop (mkF m 10 #[.val (.ref a), .val (.ref x), .val (.ref y), .val (.int u), .val (.long t), .second] [(.ref a)])) (fun _ kz => XS.aloadN X2.here hx rfl (hb hby d3_9) rfl rfl kz) ?_
  refine OGo.st (B := T2.setTop (mkF m 11 #[.val (.ref a), .val (.ref x), .val (.ref y), .val (.int u), .val (.long t), .second] [(.ref y), (.ref a)])) (fun _ kz => XS.aloadN X2.here hx rfl (hb hby d3_10) rfl rfl kz) ?_
  obtain ⟨T3, h3, X3, e3, W3, st3⟩ := putF X2 hx hZ hown (host := "") (Or.inl (hw _ (List.mem_of_getElem? (i := 30) rfl))) Via.refl e2 (G_mode.other W2 (Or.inr (slot_ne (Or.inr (hw _ (List.mem_of_getElem? (i := 31) rfl))) (Or.inr (hw _ (List.mem_of_getElem? (i := 29) rfl))) (by decide) (t := (.object "com/example/cordon/cordon/LockMode")) (t' := (.object "java/lang/Object")) (by decide) (by decide)))) (E_a.wr W2) (Or.inr ⟨(hw _ (List.mem_of_getElem? (i := 31) rfl)), rfl, hnm⟩) (hw _ (List.mem_of_getElem? (i := 1) rfl)) (ty := (.object "com/example/cordon/cordon/LockMode")) (by decide) rfl rfl (g := (mkF m 11 #[.val (.ref a), .val (.ref x), .val (.ref y), .val (.int u), .val (.long t), .second] [(.ref y), (.ref a)])) rfl rfl (hb hby d3_11)
  have F3_mode := (G_mode.other W2 (Or.inr (slot_ne (Or.inr (hw _ (List.mem_of_getElem? (i := 31) rfl))) (Or.inr (hw _ (List.mem_of_getElem? (i := 29) rfl))) (by decide) (t := (.object "com/example/cordon/cordon/LockMode")) (t' := (.object "java/lang/Object")) (by decide) (by decide)))).same W3
  have N3 := Fr.snoc X3 N2 g_a
  have K3 : Keep h0 h3 [a] := K2.wr W3 (Or.inl (List.mem_of_getElem? (i := 0) rfl))
  refine OGo.st (B := T3.setTop (mkF m 14 #[.val (.ref a), .val (.ref x), .val (.ref y), .val (.int u), .val (.long t), .second] [])) st3 ?_
  refine OGo.st (B := T3.setTop (mkF m 15 #[.val (.ref a), .val (.ref x), .val (.ref y), .val (.int u), .val (.long t), .second] [(.ref a)])) (fun _ kz => XS.aloadN X3.here hx rfl (hb hby d3_14) rfl rfl kz) ?_
  refine OGo.st (B := T3.setTop (mkF m 16 #[.val (.ref a), .val (.ref x), .val (.ref y), .val (.int u), .val (.long t), .second] [(.int u), (.ref a)])) (fun _ kz => XS.iloadN X3.here hx rfl (hb hby d3_15) rfl kz) ?_
  obtain ⟨T4, h4, X4, e4, W4, st4⟩ := putF X3 hx hZ hown (host := "") (Or.inl (hw _ (List.mem_of_getElem? (i := 32) rfl))) Via.refl e3 ((G_upgrade.other W2 (Or.inr (slot_ne (Or.inr (hw _ (List.mem_of_getElem? (i := 33) rfl))) (Or.inr (hw _ (List.mem_of_getElem? (i := 29) rfl))) (by decide) (t := .boolean) (t' := (.object "java/lang/Object")) (by decide) (by decide)))).other W3 (Or.inr (slot_ne (Or.inr (hw _ (List.mem_of_getElem? (i := 33) rfl))) (Or.inr (hw _ (List.mem_of_getElem? (i := 31) rfl))) (by decide) (t := .boolean) (t' := (.object "com/example/cordon/cordon/LockMode")) (by decide) (by decide)))) ((E_a.wr W2).wr W3) (Or.inr ⟨(hw _ (List.mem_of_getElem? (i := 33) rfl)), rfl, hnm⟩) (hw _ (List.mem_of_getElem? (i := 1) rfl)) (ty := .boolean) (by decide) (own_b01 hu).1 (own_b01 hu).2.1 (g := (mkF m 16 #[.val (.ref a), .val (.ref x), .val (.ref y), .val (.int u), .val (.long t), .second] [(.int u), (.ref a)])) rfl rfl (hb hby d3_16)
  have F4_upgrade := ((G_upgrade.other W2 (Or.inr (slot_ne (Or.inr (hw _ (List.mem_of_getElem? (i := 33) rfl))) (Or.inr (hw _ (List.mem_of_getElem? (i := 29) rfl))) (by decide) (t := .boolean) (t' := (.object "java/lang/Object")) (by decide) (by decide)))).other W3 (Or.inr (slot_ne (Or.inr (hw _ (List.mem_of_getElem? (i := 33) rfl))) (Or.inr (hw _ (List.mem_of_getElem? (i := 31) rfl))) (by decide) (t := .boolean) (t' := (.object "com/example/cordon/cordon/LockMode")) (by decide) (by decide)))).same W4
  have N4 := Fr.snoc X4 N3 g_a
  have K4 : Keep h0 h4 [a] := K3.wr W4 (Or.inl (List.mem_of_getElem? (i := 0) rfl))
  refine OGo.st (B := T4.setTop (mkF m 19 #[.val (.ref a), .val (.ref x), .val (.ref y), .val (.int u), .val (.long t), .second] [])) st4 ?_
  refine OGo.st (B := T4.setTop (mkF m 20 #[.val (.ref a), .val (.ref x), .val (.ref y), .val (.int u), .val (.long t), .second] [(.ref a)])) (fun _ kz => XS.aloadN X4.here hx rfl (hb hby d3_19) rfl rfl kz) ?_
  refine OGo.st (B := T4.setTop (mkF m 22 #[.val (.ref a), .val (.ref x), .val (.ref y), .val (.int u), .val (.long t), .second] [(.long t), (.ref a)])) (fun _ kz => XS.lload X4.here hx rfl (hb hby d3_20) rfl kz) ?_
  obtain ⟨T5, h5, X5, e5, W5, st5⟩ := putF X4 hx hZ hown (host := "") (Or.inl (hw _ (List.mem_of_getElem? (i := 34) rfl))) Via.refl e4 (((G_ticket.other W2 (Or.inr (slot_ne (Or.inr (hw _ (List.mem_of_getElem? (i := 35) rfl))) (Or.inr (hw _ (List.mem_of_getElem? (i := 29) rfl))) (by decide) (t := .long) (t' := (.object "java/lang/Object")) (by decide) (by decide)))).other W3 (Or.inr (slot_ne (Or.inr (hw _ (List.mem_of_getElem? (i := 35) rfl))) (Or.inr (hw _ (List.mem_of_getElem? (i := 31) rfl))) (by decide) (t := .long) (t' := (.object "com/example/cordon/cordon/LockMode")) (by decide) (by decide)))).other W4 (Or.inr (slot_ne (Or.inr (hw _ (List.mem_of_getElem? (i := 35) rfl))) (Or.inr (hw _ (List.mem_of_getElem? (i := 33) rfl))) (by decide) (t := .long) (t' := .boolean) (by decide) (by decide)))) (((E_a.wr W2).wr W3).wr W4) (Or.inr ⟨(hw _ (List.mem_of_getElem? (i := 35) rfl)), rfl, hnm⟩) (hw _ (List.mem_of_getElem? (i := 1) rfl)) (ty := .long) (by decide) rfl rfl (g := (mkF m 22 #[.val (.ref a), .val (.ref x), .val (.ref y), .val (.int u), .val (.long t), .second] [(.long t), (.ref a)])) rfl rfl (hb hby d3_22)
  have F5_ticket := (((G_ticket.other W2 (Or.inr (slot_ne (Or.inr (hw _ (List.mem_of_getElem? (i := 35) rfl))) (Or.inr (hw _ (List.mem_of_getElem? (i := 29) rfl))) (by decide) (t := .long) (t' := (.object "java/lang/Object")) (by decide) (by decide)))).other W3 (Or.inr (slot_ne (Or.inr (hw _ (List.mem_of_getElem? (i := 35) rfl))) (Or.inr (hw _ (List.mem_of_getElem? (i := 31) rfl))) (by decide) (t := .long) (t' := (.object "com/example/cordon/cordon/LockMode")) (by decide) (by decide)))).other W4 (Or.inr (slot_ne (Or.inr (hw _ (List.mem_of_getElem? (i := 35) rfl))) (Or.inr (hw _ (List.mem_of_getElem? (i := 33) rfl))) (by decide) (t := .long) (t' := .boolean) (by decide) (by decide)))).same W5
  have N5 := Fr.snoc X5 N4 g_a
  have K5 : Keep h0 h5 [a] := K4.wr W5 (Or.inl (List.mem_of_getElem? (i := 0) rfl))
  refine OGo.st (B := T5.setTop (mkF m 25 #[.val (.ref a), .val (.ref x), .val (.ref y), .val (.int u), .val (.long t), .second] [])) st5 ?_
  exact own_ret0 X5 hx hret hlk (hb hby d3_25) (by rw [e5]; exact ⟨rfl, N5, K5, ((((E_a.wr W2).wr W3).wr W4).wr W5), (F4_upgrade.other W5 (Or.inr (slot_ne (Or.inr (hw _ (List.mem_of_getElem? (i := 33) rfl))) (Or.inr (hw _ (List.mem_of_getElem? (i := 35) rfl))) (by decide) (t := .boolean) (t' := .long) (by decide) (by decide)))), F5_ticket⟩) (by decide) (by decide)
def own_av (u1 : Int32) (t1 : Int64) (u2 : Int32) (t2 : Int64) : Int32 := if u1 = u2 then (if t1 < t2 then 1 else 0) else u1
theorem own_av0 (u : Int32) (t : Int64) : own_av u t u t = 0 := by
  have q : ¬ t < t := by rw [Int64.lt_iff_toInt_lt]; omega
  simp [own_av, q]
theorem own_av_tr {u1 u2 u3 : Int32} {t1 t2 t3 : Int64} (k1 : u1 = 0 ∨ u1 = 1) (k2 : u2 = 0 ∨ u2 = 1) (k3 : u3 = 0 ∨ u3 = 1) (h1 : ¬ own_av u1 t1 u2 t2 = 0) (h2 : ¬ own_av u2 t2 u3 t3 = 0) : ¬ own_av u1 t1 u3 t3 = 0 := by
  have tr : t1 < t2 → t2 < t3 → t1 < t3 := fun a b => by rw [Int64.lt_iff_toInt_lt] at *; omega
  rcases k1 with rfl | rfl <;> rcases k2 with rfl | rfl <;> rcases k3 with rfl | rfl <;> simp [own_av] at h1 h2 ⊢ <;> exact tr h1 h2
theorem d6_0 : decode prog_10_method_2_code 0 = .ok (.aload_n 0, 1) := by decide +kernel
theorem d6_1 : decode prog_10_method_2_code 1 = .ok (.getfield 17, 3) := by decide +kernel
theorem d6_4 : decode prog_10_method_2_code 4 = .ok (.aload_n 1, 1) := by decide +kernel
theorem d6_5 : decode prog_10_method_2_code 5 = .ok (.getfield 17, 3) := by decide +kernel
theorem d6_8 : decode prog_10_method_2_code 8 = .ok (.if_icmp .eq 10, 3) := by decide +kernel
theorem d6_11 : decode prog_10_method_2_code 11 = .ok (.aload_n 0, 1) := by decide +kernel
theorem d6_12 : decode prog_10_method_2_code 12 = .ok (.getfield 17, 3) := by decide +kernel
theorem d6_15 : decode prog_10_method_2_code 15 = .ok (.goto 20, 3) := by decide +kernel
theorem d6_18 : decode prog_10_method_2_code 18 = .ok (.aload_n 0, 1) := by decide +kernel
theorem d6_19 : decode prog_10_method_2_code 19 = .ok (.getfield 21, 3) := by decide +kernel
theorem d6_22 : decode prog_10_method_2_code 22 = .ok (.aload_n 1, 1) := by decide +kernel
theorem d6_23 : decode prog_10_method_2_code 23 = .ok (.getfield 21, 3) := by decide +kernel
theorem d6_26 : decode prog_10_method_2_code 26 = .ok (.lcmp, 1) := by decide +kernel
theorem d6_27 : decode prog_10_method_2_code 27 = .ok (.ifCond .ge 7, 3) := by decide +kernel
theorem d6_30 : decode prog_10_method_2_code 30 = .ok (.iconst 1, 1) := by decide +kernel
theorem d6_31 : decode prog_10_method_2_code 31 = .ok (.goto 4, 3) := by decide +kernel
theorem d6_34 : decode prog_10_method_2_code 34 = .ok (.iconst 0, 1) := by decide +kernel
theorem d6_35 : decode prog_10_method_2_code 35 = .ok (.ireturn, 1) := by decide +kernel
theorem ef_rm6 (m : MethodId) (x0 : Addr) (x1 : Addr) : entryFrame m #[(.ref x0), (.ref x1)] 2 = mkF m 0 #[.val (.ref x0), .val (.ref x1)] [] := by first | (simp [entryFrame, mkF, argsToLocals, Value.category]; done) | rfl
set_option maxRecDepth 65536 in
set_option maxHeartbeats 40000000 in
theorem rm6 (l : Launch) (Z : State) (a0 : Array Value) (hw : ∀ d ∈ tables_1, d.before a0 Z = true) (a b : Addr) (u1 u2 r : Int32) (t1 t2 : Int64) (h0 : Heap) (n0 : Nat) (k1 : u1 = 0 ∨ u1 = 1) (F1 : Fld Z h0 a "com/example/cordon/cordon/KeyEntry$Request" "upgrade" "Z" (.int u1)) (F2 : Fld Z h0 b "com/example/cordon/cordon/KeyEntry$Request" "upgrade" "Z" (.int u2)) (F3 : Fld Z h0 a "com/example/cordon/cordon/KeyEntry$Request" "ticket" "J" (.long t1)) (F4 : Fld Z h0 b "com/example/cordon/cordon/KeyEntry$Request" "ticket" "J" (.long t2)) (hr : own_av u1 t1 u2 t2 = r) :
    OMet l Z (⟨"com/example/cordon/cordon/KeyEntry$Request", "isAheadOf", "(Lcom/example/cordon/cordon/KeyEntry$Request;)Z"⟩ : MethodName) prog_10_method_2_code 2 (some .boolean) [] ({ frames := 0, cells := 0, slots := 0, locals := 0 } : Room) #[(.ref a), (.ref b)] h0 (OPure (some (.int r)) h0 n0) := by
  refine OMet.of (plainFor_of_name pn_com_example_cordon_cordon_KeyEntry_Request) ?_
  intro p e s m below meth c s₁ hx hby hml hnd hown hnm hret hlk hZ X0 e0
  replace hown : s.vm.findClass "com/example/cordon/cordon/KeyEntry$Request" = some m.cls := hown
  replace hml : c.maxLocals = 2 := hml
  have N0 := Fr.nil n0
  rw [ef_rm6 m a b]
  refine OGo.st (B := s₁.setTop (mkF m 1 #[.val (.ref a), .val (.ref b)] [(.ref a)])) (fun _ kz => XS.aloadN X0.here hx rfl (hb hby d6_0) rfl rfl kz) ?_
  obtain ⟨T1, X1, e1, st1⟩ := getF X0 hx hZ hown (host := "") (Or.inl (hw _ (List.mem_of_getElem? (i := 32) rfl))) Via.refl e0 F1 (g := (mkF m 1 #[.val (.ref a), .val (.ref b)] [(.ref a)])) rfl rfl (hb hby d6_1)
  refine OGo.st (B := T1.setTop (mkF m 4 #[.val (.ref a), .val (.ref b)] [(.int u1)])) st1 ?_
  refine OGo.st (B := T1.setTop (mkF m 5 #[.val (.ref a), .val (.ref b)] [(.ref b), (.int u1)])) (fun _ kz => XS.aloadN X1.here hx rfl (hb hby d6_4) rfl rfl kz) ?_
  obtain ⟨T2, X2, e2, st2⟩ := getF X1 hx hZ hown (host := "") (Or.inl (hw _ (List.mem_of_getElem? (i := 32) rfl))) Via.refl e1 F2 (g := (mkF m 5 #[.val (.ref a), .val (.ref b)] [(.ref b), (.int u1)])) rfl rfl (hb hby d6_5)
  refine OGo.st (B := T2.setTop (mkF m 8 #[.val (.ref a), .val (.ref b)] [(.int u2), (.int u1)])) st2 ?_
  by_cases h1 : u1 = u2
  · skip
    refine OGo.st (B := T2.setTop (mkF m 18 #[.val (.ref a), .val (.ref b)] [])) (fun _ kz => XS.icmpYes X2.here hx rfl (pc0 := 8) (pc' := 18) rfl (hb hby d6_8) rfl (teq h1).1 (by decide) (by decide) kz) ?_
    refine OGo.st (B := T2.setTop (mkF m 19 #[.val (.ref a), .val (.ref b)] [(.ref a)])) (fun _ kz => XS.aloadN X2.here hx rfl (hb hby d6_18) rfl rfl kz) ?_
    obtain ⟨T3, X3, e3, st3⟩ := getF X2 hx hZ hown (host := "") (Or.inl (hw _ (List.mem_of_getElem? (i := 34) rfl))) Via.refl e2 F3 (g := (mkF m 19 #[.val (.ref a), .val (.ref b)] [(.ref a)])) rfl rfl (hb hby d6_19)
    refine OGo.st (B := T3.setTop (mkF m 22 #[.val (.ref a), .val (.ref b)] [(.long t1)])) st3 ?_
    refine OGo.st (B := T3.setTop (mkF m 23 #[.val (.ref a), .val (.ref b)] [(.ref b), (.long t1)])) (fun _ kz => XS.aloadN X3.here hx rfl (hb hby d6_22) rfl rfl kz) ?_
    obtain ⟨T4, X4, e4, st4⟩ := getF X3 hx hZ hown (host := "") (Or.inl (hw _ (List.mem_of_getElem? (i := 34) rfl))) Via.refl e3 F4 (g := (mkF m 23 #[.val (.ref a), .val (.ref b)] [(.ref b), (.long t1)])) rfl rfl (hb hby d6_23)
    refine OGo.st (B := T4.setTop (mkF m 26 #[.val (.ref a), .val (.ref b)] [(.long t2), (.long t1)])) st4 ?_
    refine OGo.st (B := T4.setTop (mkF m 27 #[.val (.ref a), .val (.ref b)] [(.int (lcmpW t1 t2))])) (fun _ kz => XS.lcmp X4.here hx rfl (hb hby d6_26) rfl kz) ?_
    by_cases h2 : t1 < t2
    · skip
      refine OGo.st (B := T4.setTop (mkF m 30 #[.val (.ref a), .val (.ref b)] [])) (fun _ kz => XS.ifNo X4.here hx rfl (hb hby d6_27) rfl ((if0 _ _).trans (tlt ((lw_lt _ _).mpr h2)).2.1) kz) ?_
      refine OGo.st (B := T4.setTop (mkF m 31 #[.val (.ref a), .val (.ref b)] [(.int (1 : Int32))])) (fun _ kz => XS.iconst X4.here hx rfl (hb hby d6_30) kz) ?_
      refine OGo.st (B := T4.setTop (mkF m 35 #[.val (.ref a), .val (.ref b)] [(.int (1 : Int32))])) (fun _ kz => XS.goto X4.here hx rfl (pc0 := 31) (pc' := 35) rfl (hb hby d6_31) (by decide) (by decide) kz) ?_
      exact own_retZ X4 hx hret hlk (hb hby d6_35) ⟨by rw [← hr]; simp [own_av, h1, h2, nar], N0, e4⟩ (by decide) (by decide)
    · skip
      refine OGo.st (B := T4.setTop (mkF m 34 #[.val (.ref a), .val (.ref b)] [])) (fun _ kz => XS.ifYes X4.here hx rfl (pc0 := 27) (pc' := 34) rfl (hb hby d6_27) rfl ((if0 _ _).trans (flt (mt (lw_lt _ _).mp h2)).2.1) (by decide) (by decide) kz) ?_
      refine OGo.st (B := T4.setTop (mkF m 35 #[.val (.ref a), .val (.ref b)] [(.int (0 : Int32))])) (fun _ kz => XS.iconst X4.here hx rfl (hb hby d6_34) kz) ?_
      exact own_retZ X4 hx hret hlk (hb hby d6_35) ⟨by rw [← hr]; simp [own_av, h1, h2, nar], N0, e4⟩ (by decide) (by decide)
  · skip
    refine OGo.st (B := T2.setTop (mkF m 11 #[.val (.ref a), .val (.ref b)] [])) (fun _ kz => XS.icmpNo X2.here hx rfl (hb hby d6_8) rfl (feq h1).1 kz) ?_
    refine OGo.st (B := T2.setTop (mkF m 12 #[.val (.ref a), .val (.ref b)] [(.ref a)])) (fun _ kz => XS.aloadN X2.here hx rfl (hb hby d6_11) rfl rfl kz) ?_
    obtain ⟨T5, X5, e5, st5⟩ := getF X2 hx hZ hown (host := "") (Or.inl (hw _ (List.mem_of_getElem? (i := 32) rfl))) Via.refl e2 F1 (g := (mkF m 12 #[.val (.ref a), .val (.ref b)] [(.ref a)])) rfl rfl (hb hby d6_12)
    refine OGo.st (B := T5.setTop (mkF m 15 #[.val (.ref a), .val (.ref b)] [(.int u1)])) st5 ?_
    refine OGo.st (B := T5.setTop (mkF m 35 #[.val (.ref a), .val (.ref b)] [(.int u1)])) (fun _ kz => XS.goto X5.here hx rfl (pc0 := 15) (pc' := 35) rfl (hb hby d6_15) (by decide) (by decide) kz) ?_
    exact own_retZ X5 hx hret hlk (hb hby d6_35) ⟨by rw [← hr, (own_b01 k1).2.2]; simp [own_av, h1], N0, e5⟩ (by decide) (by decide)
theorem d7_0 : decode method_3_code 0 = .ok (.iload_n 0, 1) := by decide +kernel
theorem d7_1 : decode method_3_code 1 = .ok (.ifCond .eq 7, 3) := by decide +kernel
theorem d7_4 : decode method_3_code 4 = .ok (.iload_n 3, 1) := by decide +kernel
theorem d7_5 : decode method_3_code 5 = .ok (.ifCond .eq 15, 3) := by decide +kernel
theorem d7_8 : decode method_3_code 8 = .ok (.iload_n 0, 1) := by decide +kernel
theorem d7_9 : decode method_3_code 9 = .ok (.iload_n 3, 1) := by decide +kernel
theorem d7_10 : decode method_3_code 10 = .ok (.if_icmp .ne 14, 3) := by decide +kernel
theorem d7_13 : decode method_3_code 13 = .ok (.lload_n 1, 1) := by decide +kernel
theorem d7_14 : decode method_3_code 14 = .ok (.lload 4, 2) := by decide +kernel
theorem d7_16 : decode method_3_code 16 = .ok (.lcmp, 1) := by decide +kernel
theorem d7_17 : decode method_3_code 17 = .ok (.ifCond .ge 7, 3) := by decide +kernel
theorem d7_20 : decode method_3_code 20 = .ok (.iconst 1, 1) := by decide +kernel
theorem d7_21 : decode method_3_code 21 = .ok (.goto 4, 3) := by decide +kernel
theorem d7_24 : decode method_3_code 24 = .ok (.iconst 0, 1) := by decide +kernel
theorem d7_25 : decode method_3_code 25 = .ok (.ireturn, 1) := by decide +kernel
theorem ef_rm7 (m : MethodId) (x0 : Int32) (x1 : Int64) (x2 : Int32) (x3 : Int64) : entryFrame m #[(.int x0), (.long x1), (.int x2), (.long x3)] 6 = mkF m 0 #[.val (.int x0), .val (.long x1), .second, .val (.int x2), .val (.long x3), .second] [] := by first | (simp [entryFrame, mkF, argsToLocals, Value.category]; done) | rfl
set_option maxRecDepth 65536 in
set_option maxHeartbeats 40000000 in
theorem rm7 (l : Launch) (Z : State) (a0 : Array Value) (hw : ∀ d ∈ tables_1, d.before a0 Z = true) (u1 u2 r : Int32) (t1 t2 : Int64) (h0 : Heap) (n0 : Nat) (k1 : u1 = 0 ∨ u1 = 1) (k2 : u2 = 0 ∨ u2 = 1) (hr : own_av u1 t1 u2 t2 = r) :
    OMet l Z (⟨"com/example/cordon/cordon/RequestIsAheadOfPinLaw", "ahead", "(ZJZJ)Z"⟩ : MethodName) method_3_code 6 (some .boolean) [] ({ frames := 0, cells := 0, slots := 0, locals := 0 } : Room) #[(.int u1), (.long t1), (.int u2), (.long t2)] h0 (OPure (some (.int r)) h0 n0) := by
  refine OMet.of (plainFor_of_name pn_com_example_cordon_cordon_RequestIsAheadOfPinLaw) ?_
  intro p e s m below meth c s₁ hx hby hml hnd hown hnm hret hlk hZ X0 e0
  replace hown : s.vm.findClass "com/example/cordon/cordon/RequestIsAheadOfPinLaw" = some m.cls := hown
  replace hml : c.maxLocals = 6 := hml
  have N0 := Fr.nil n0
  rw [ef_rm7 m u1 t1 u2 t2]
  refine OGo.st (B := s₁.setTop (mkF m 1 #[.val (.int u1), .val (.long t1), .second, .val (.int u2), .val (.long t2), .second] [(.int u1)])) (fun _ kz => XS.iloadN X0.here hx rfl (hb hby d7_0) rfl kz) ?_
  by_cases h1 : u1 = (0 : Int32)
  · skip
    refine OGo.st (B := s₁.setTop (mkF m 8 #[.val (.int u1), .val (.long t1), .second, .val (.int u2), .val (.long t2), .second] [])) (fun _ kz => XS.ifYes X0.here hx rfl (pc0 := 1) (pc' := 8) rfl (hb hby d7_1) rfl ((if0 _ _).trans (teq h1).1) (by decide) (by decide) kz) ?_
    refine OGo.st (B := s₁.setTop (mkF m 9 #[.val (.int u1), .val (.long t1), .second, .val (.int u2), .val (.long t2), .second] [(.int u1)])) (fun _ kz => XS.iloadN X0.here hx rfl (hb hby d7_8) rfl kz) ?_
    refine OGo.st (B := s₁.setTop (mkF m 10 #[.val (.int u1), .val (.long t1), .second, .val (.int u2), .val (.long t2), .second] [(.int u2), (.int u1)])) (fun _ kz => XS.iloadN X0.here hx rfl (hb hby d7_9) rfl kz) ?_
    by_cases h3 : u1 = u2
    · skip
      refine OGo.st (B := s₁.setTop (mkF m 13 #[.val (.int u1), .val (.long t1), .second, .val (.int u2), .val (.long t2), .second] [])) (fun _ kz => XS.icmpNo X0.here hx rfl (hb hby d7_10) rfl (teq h3).2 kz) ?_
      refine OGo.st (B := s₁.setTop (mkF m 14 #[.val (.int u1), .val (.long t1), .second, .val (.int u2), .val (.long t2), .second] [(.long t1)])) (fun _ kz => XS.lloadN X0.here hx rfl (hb hby d7_13) rfl kz) ?_
      refine OGo.st (B := s₁.setTop (mkF m 16 #[.val (.int u1), .val (.long t1), .second, .val (.int u2), .val (.long t2), .second] [(.long t2), (.long t1)])) (fun _ kz => XS.lload X0.here hx rfl (hb hby d7_14) rfl kz) ?_
      refine OGo.st (B := s₁.setTop (mkF m 17 #[.val (.int u1), .val (.long t1), .second, .val (.int u2), .val (.long t2), .second] [(.int (lcmpW t1 t2))])) (fun _ kz => XS.lcmp X0.here hx rfl (hb hby d7_16) rfl kz) ?_
      by_cases h4 : t1 < t2
      · skip
        refine OGo.st (B := s₁.setTop (mkF m 20 #[.val (.int u1), .val (.long t1), .second, .val (.int u2), .val (.long t2), .second] [])) (fun _ kz => XS.ifNo X0.here hx rfl (hb hby d7_17) rfl ((if0 _ _).trans (tlt ((lw_lt _ _).mpr h4)).2.1) kz) ?_
        refine OGo.st (B := s₁.setTop (mkF m 21 #[.val (.int u1), .val (.long t1), .second, .val (.int u2), .val (.long t2), .second] [(.int (1 : Int32))])) (fun _ kz => XS.iconst X0.here hx rfl (hb hby d7_20) kz) ?_
        refine OGo.st (B := s₁.setTop (mkF m 25 #[.val (.int u1), .val (.long t1), .second, .val (.int u2), .val (.long t2), .second] [(.int (1 : Int32))])) (fun _ kz => XS.goto X0.here hx rfl (pc0 := 21) (pc' := 25) rfl (hb hby d7_21) (by decide) (by decide) kz) ?_
        exact own_retZ X0 hx hret hlk (hb hby d7_25) ⟨by subst hr; rcases k1 with rfl | rfl <;> rcases k2 with rfl | rfl <;> simp_all [own_av, nar], N0, e0⟩ (by decide) (by decide)
      · skip
        refine OGo.st (B := s₁.setTop (mkF m 24 #[.val (.int u1), .val (.long t1), .second, .val (.int u2), .val (.long t2), .second] [])) (fun _ kz => XS.ifYes X0.here hx rfl (pc0 := 17) (pc' := 24) rfl (hb hby d7_17) rfl ((if0 _ _).trans (flt (mt (lw_lt _ _).mp h4)).2.1) (by decide) (by decide) kz) ?_
        refine OGo.st (B := s₁.setTop (mkF m 25 #[.val (.int u1), .val (.long t1), .second, .val (.int u2), .val (.long t2), .second] [(.int (0 : Int32))])) (fun _ kz => XS.iconst X0.here hx rfl (hb hby d7_24) kz) ?_
        exact own_retZ X0 hx hret hlk (hb hby d7_25) ⟨by subst hr; rcases k1 with rfl | rfl <;> rcases k2 with rfl | rfl <;> simp_all [own_av, nar], N0, e0⟩ (by decide) (by decide)
    · skip
      refine OGo.st (B := s₁.setTop (mkF m 24 #[.val (.int u1), .val (.long t1), .second, .val (.int u2), .val (.long t2), .second] [])) (fun _ kz => XS.icmpYes X0.here hx rfl (pc0 := 10) (pc' := 24) rfl (hb hby d7_10) rfl (feq h3).2 (by decide) (by decide) kz) ?_
      refine OGo.st (B := s₁.setTop (mkF m 25 #[.val (.int u1), .val (.long t1), .second, .val (.int u2), .val (.long t2), .second] [(.int (0 : Int32))])) (fun _ kz => XS.iconst X0.here hx rfl (hb hby d7_24) kz) ?_
      exact own_retZ X0 hx hret hlk (hb hby d7_25) ⟨by subst hr; rcases k1 with rfl | rfl <;> rcases k2 with rfl | rfl <;> simp_all [own_av, nar], N0, e0⟩ (by decide) (by decide)
  · skip
    refine OGo.st (B := s₁.setTop (mkF m 4 #[.val (.int u1), .val (.long t1), .second, .val (.int u2), .val (.long t2), .second] [])) (fun _ kz => XS.ifNo X0.here hx rfl (hb hby d7_1) rfl ((if0 _ _).trans (feq h1).1) kz) ?_
    refine OGo.st (B := s₁.setTop (mkF m 5 #[.val (.int u1), .val (.long t1), .second, .val (.int u2), .val (.long t2), .second] [(.int u2)])) (fun _ kz => XS.iloadN X0.here hx rfl (hb hby d7_4) rfl kz) ?_
    by_cases h2 : u2 = (0 : Int32)
    · skip
      refine OGo.st (B := s₁.setTop (mkF m 20 #[.val (.int u1), .val (.long t1), .second, .val (.int u2), .val (.long t2), .second] [])) (fun _ kz => XS.ifYes X0.here hx rfl (pc0 := 5) (pc' := 20) rfl (hb hby d7_5) rfl ((if0 _ _).trans (teq h2).1) (by decide) (by decide) kz) ?_
      refine OGo.st (B := s₁.setTop (mkF m 21 #[.val (.int u1), .val (.long t1), .second, .val (.int u2), .val (.long t2), .second] [(.int (1 : Int32))])) (fun _ kz => XS.iconst X0.here hx rfl (hb hby d7_20) kz) ?_
      refine OGo.st (B := s₁.setTop (mkF m 25 #[.val (.int u1), .val (.long t1), .second, .val (.int u2), .val (.long t2), .second] [(.int (1 : Int32))])) (fun _ kz => XS.goto X0.here hx rfl (pc0 := 21) (pc' := 25) rfl (hb hby d7_21) (by decide) (by decide) kz) ?_
      exact own_retZ X0 hx hret hlk (hb hby d7_25) ⟨by subst hr; rcases k1 with rfl | rfl <;> rcases k2 with rfl | rfl <;> simp_all [own_av, nar], N0, e0⟩ (by decide) (by decide)
    · skip
      refine OGo.st (B := s₁.setTop (mkF m 8 #[.val (.int u1), .val (.long t1), .second, .val (.int u2), .val (.long t2), .second] [])) (fun _ kz => XS.ifNo X0.here hx rfl (hb hby d7_5) rfl ((if0 _ _).trans (feq h2).1) kz) ?_
      refine OGo.st (B := s₁.setTop (mkF m 9 #[.val (.int u1), .val (.long t1), .second, .val (.int u2), .val (.long t2), .second] [(.int u1)])) (fun _ kz => XS.iloadN X0.here hx rfl (hb hby d7_8) rfl kz) ?_
      refine OGo.st (B := s₁.setTop (mkF m 10 #[.val (.int u1), .val (.long t1), .second, .val (.int u2), .val (.long t2), .second] [(.int u2), (.int u1)])) (fun _ kz => XS.iloadN X0.here hx rfl (hb hby d7_9) rfl kz) ?_
      by_cases h3 : u1 = u2
      · skip
        refine OGo.st (B := s₁.setTop (mkF m 13 #[.val (.int u1), .val (.long t1), .second, .val (.int u2), .val (.long t2), .second] [])) (fun _ kz => XS.icmpNo X0.here hx rfl (hb hby d7_10) rfl (teq h3).2 kz) ?_
        refine OGo.st (B := s₁.setTop (mkF m 14 #[.val (.int u1), .val (.long t1), .second, .val (.int u2), .val (.long t2), .second] [(.long t1)])) (fun _ kz => XS.lloadN X0.here hx rfl (hb hby d7_13) rfl kz) ?_
        refine OGo.st (B := s₁.setTop (mkF m 16 #[.val (.int u1), .val (.long t1), .second, .val (.int u2), .val (.long t2), .second] [(.long t2), (.long t1)])) (fun _ kz => XS.lload X0.here hx rfl (hb hby d7_14) rfl kz) ?_
        refine OGo.st (B := s₁.setTop (mkF m 17 #[.val (.int u1), .val (.long t1), .second, .val (.int u2), .val (.long t2), .second] [(.int (lcmpW t1 t2))])) (fun _ kz => XS.lcmp X0.here hx rfl (hb hby d7_16) rfl kz) ?_
        by_cases h4 : t1 < t2
        · skip
          refine OGo.st (B := s₁.setTop (mkF m 20 #[.val (.int u1), .val (.long t1), .second, .val (.int u2), .val (.long t2), .second] [])) (fun _ kz => XS.ifNo X0.here hx rfl (hb hby d7_17) rfl ((if0 _ _).trans (tlt ((lw_lt _ _).mpr h4)).2.1) kz) ?_
          refine OGo.st (B := s₁.setTop (mkF m 21 #[.val (.int u1), .val (.long t1), .second, .val (.int u2), .val (.long t2), .second] [(.int (1 : Int32))])) (fun _ kz => XS.iconst X0.here hx rfl (hb hby d7_20) kz) ?_
          refine OGo.st (B := s₁.setTop (mkF m 25 #[.val (.int u1), .val (.long t1), .second, .val (.int u2), .val (.long t2), .second] [(.int (1 : Int32))])) (fun _ kz => XS.goto X0.here hx rfl (pc0 := 21) (pc' := 25) rfl (hb hby d7_21) (by decide) (by decide) kz) ?_
          exact own_retZ X0 hx hret hlk (hb hby d7_25) ⟨by subst hr; rcases k1 with rfl | rfl <;> rcases k2 with rfl | rfl <;> simp_all [own_av, nar], N0, e0⟩ (by decide) (by decide)
        · skip
          refine OGo.st (B := s₁.setTop (mkF m 24 #[.val (.int u1), .val (.long t1), .second, .val (.int u2), .val (.long t2), .second] [])) (fun _ kz => XS.ifYes X0.here hx rfl (pc0 := 17) (pc' := 24) rfl (hb hby d7_17) rfl ((if0 _ _).trans (flt (mt (lw_lt _ _).mp h4)).2.1) (by decide) (by decide) kz) ?_
          refine OGo.st (B := s₁.setTop (mkF m 25 #[.val (.int u1), .val (.long t1), .second, .val (.int u2), .val (.long t2), .second] [(.int (0 : Int32))])) (fun _ kz => XS.iconst X0.here hx rfl (hb hby d7_24) kz) ?_
          exact own_retZ X0 hx hret hlk (hb hby d7_25) ⟨by subst hr; rcases k1 with rfl | rfl <;> rcases k2 with rfl | rfl <;> simp_all [own_av, nar], N0, e0⟩ (by decide) (by decide)
      · skip
        refine OGo.st (B := s₁.setTop (mkF m 24 #[.val (.int u1), .val (.long t1), .second, .val (.int u2), .val (.long t2), .second] [])) (fun _ kz => XS.icmpYes X0.here hx rfl (pc0 := 10) (pc' := 24) rfl (hb hby d7_10) rfl (feq h3).2 (by decide) (by decide) kz) ?_
        refine OGo.st (B := s₁.setTop (mkF m 25 #[.val (.int u1), .val (.long t1), .second, .val (.int u2), .val (.long t2), .second] [(.int (0 : Int32))])) (fun _ kz => XS.iconst X0.here hx rfl (hb hby d7_24) kz) ?_
        exact own_retZ X0 hx hret hlk (hb hby d7_25) ⟨by subst hr; rcases k1 with rfl | rfl <;> rcases k2 with rfl | rfl <;> simp_all [own_av, nar], N0, e0⟩ (by decide) (by decide)
theorem pd_0 : parseMethodDescriptor "(I)Ljava/lang/Integer;" = some ⟨[.int], some (.object "java/lang/Integer")⟩ := by decide +kernel
theorem pd_1 : parseMethodDescriptor "(I)Lcom/example/cordon/cordon/LockMode;" = some ⟨[.int], some (.object "com/example/cordon/cordon/LockMode")⟩ := by decide +kernel
theorem pd_2 : parseMethodDescriptor "(Ljava/lang/Object;Lcom/example/cordon/cordon/LockMode;ZJ)V" = some ⟨[(.object "java/lang/Object"), (.object "com/example/cordon/cordon/LockMode"), .boolean, .long], none⟩ := by decide +kernel
theorem pd_4 : parseMethodDescriptor "(Lcom/example/cordon/cordon/KeyEntry$Request;)Z" = some ⟨[(.object "com/example/cordon/cordon/KeyEntry$Request")], some .boolean⟩ := by decide +kernel
theorem pd_5 : parseMethodDescriptor "(ZJZJ)Z" = some ⟨[.boolean, .long, .boolean, .long], some .boolean⟩ := by decide +kernel
theorem ef_rm0 (m : MethodId) (x0 : Int32) (x1 : Int64) (x2 : Int64) (x3 : Int64) : entryFrame m #[(.int x0), (.long x1), (.long x2), (.long x3)] maxLocals = mkF m 0 #[.val (.int x0), .val (.long x1), .second, .val (.long x2), .second, .val (.long x3), .second, .unset, .unset, .unset, .unset, .unset, .unset, .unset, .unset, .unset, .unset, .unset, .unset, .unset, .unset, .unset, .unset, .unset, .unset] [] := by first | (simp [entryFrame, mkF, argsToLocals, Value.category, maxLocals]; done) | rfl
set_option maxRecDepth 65536 in
set_option maxHeartbeats 40000000 in
theorem rm0 (l : Launch) (Z : State) (a0 : Array Value) (hw : ∀ d ∈ tables_1, d.before a0 Z = true) (fl : Int32) (t1 t2 t3 : Int64) (w_INTENTION_SHARED w_INTENTION_EXCLUSIVE w_SHARED w_SHARED_INTENTION_EXCLUSIVE w_UPDATE w_EXCLUSIVE : Addr) (h0 : Heap) (n0 : Nat) (S_INTENTION_SHARED : Sta Z Z.heap "com/example/cordon/cordon/LockMode" "INTENTION_SHARED" "Lcom/example/cordon/cordon/LockMode;" (.ref w_INTENTION_SHARED)) (S_INTENTION_EXCLUSIVE : Sta Z Z.heap "com/example/cordon/cordon/LockMode" "INTENTION_EXCLUSIVE" "Lcom/example/cordon/cordon/LockMode;" (.ref w_INTENTION_EXCLUSIVE)) (S_SHARED : Sta Z Z.heap "com/example/cordon/cordon/LockMode" "SHARED" "Lcom/example/cordon/cordon/LockMode;" (.ref w_SHARED)) (S_SHARED_INTENTION_EXCLUSIVE : Sta Z Z.heap "com/example/cordon/cordon/LockMode" "SHARED_INTENTION_EXCLUSIVE" "Lcom/example/cordon/cordon/LockMode;" (.ref w_SHARED_INTENTION_EXCLUSIVE)) (S_UPDATE : Sta Z Z.heap "com/example/cordon/cordon/LockMode" "UPDATE" "Lcom/example/cordon/cordon/LockMode;" (.ref w_UPDATE)) (S_EXCLUSIVE : Sta Z Z.heap "com/example/cordon/cordon/LockMode" "EXCLUSIVE" "Lcom/example/cordon/cordon/LockMode;" (.ref w_EXCLUSIVE)) (Z0 : n0 ≤ h0.size) (O0 : Old Z n0 h0) (ca : Addr) (cc : Cell) (S_high : Sta Z Z.heap "java/lang/Integer$IntegerCache" "high" "I" (.int 127)) (S_cache : Sta Z Z.heap "java/lang/Integer$IntegerCache" "cache" "[Ljava/lang/Integer;" (.ref ca)) (BX : Bxs Z ca cc "java/lang/Integer" "I" 256 (fun j => .int (j - 128))) :
    OMet l Z x code maxLocals ret tables_1 room_1 #[(.int fl), (.long t1), (.long t2), (.long t3)] h0 (fun v _ L => v = some (.int (1 : Int32)) ∧ Fr n0 L) := by
  refine OMet.of (plainFor_of_name pn_com_example_cordon_cordon_RequestIsAheadOfPinLaw) ?_
  intro p e s m below meth c s₁ hx hby hml hnd hown hnm hret hlk hZ X0 e0
  replace hown : s.vm.findClass "com/example/cordon/cordon/RequestIsAheadOfPinLaw" = some m.cls := hown
  replace hml : c.maxLocals = 25 := hml
  have N0 := Fr.nil n0
  replace hret : meth.sig.returnType = some .boolean := hret
  rw [ef_rm0 m fl t1 t2 t3]
  refine OGo.st (B := s₁.setTop (mkF m 1 #[.val (.int fl), .val (.long t1), .second, .val (.long t2), .second, .val (.long t3), .second, .unset, .unset, .unset, .unset, .unset, .unset, .unset, .unset, .unset, .unset, .unset, .unset, .unset, .unset, .unset, .unset, .unset, .unset] [(.int fl)])) (fun _ kz => XS.iloadN X0.here hx rfl (hb hby at_0) rfl kz) ?_
  refine OGo.st (B := s₁.setTop (mkF m 2 #[.val (.int fl), .val (.long t1), .second, .val (.long t2), .second, .val (.long t3), .second, .unset, .unset, .unset, .unset, .unset, .unset, .unset, .unset, .unset, .unset, .unset, .unset, .unset, .unset, .unset, .unset, .unset, .unset] [(.int (1 : Int32)), (.int fl)])) (fun _ kz => XS.iconst X0.here hx rfl (hb hby at_1) kz) ?_
  refine OGo.st (B := s₁.setTop (mkF m 3 #[.val (.int fl), .val (.long t1), .second, .val (.long t2), .second, .val (.long t3), .second, .unset, .unset, .unset, .unset, .unset, .unset, .unset, .unset, .unset, .unset, .unset, .unset, .unset, .unset, .unset, .unset, .unset, .unset] [(.int (fl &&& (1 : Int32)))])) (fun _ kz => XS.iand X0.here hx rfl (hb hby at_2) rfl kz) ?_
  refine OGo.join (fun (ua : Int32) => s₁.setTop (mkF m 11 #[.val (.int fl), .val (.long t1), .second, .val (.long t2), .second, .val (.long t3), .second, .unset, .unset, .unset, .unset, .unset, .unset, .unset, .unset, .unset, .unset, .unset, .unset, .unset, .unset, .unset, .unset, .unset, .unset] [(.int ua)])) (fun ua => ua = 0 ∨ ua = 1) ?_ ?_
  · skip
    intro ua h_ua
    show OGo p e below _ (s₁.setTop (mkF m 11 #[.val (.int fl), .val (.long t1), .second, .val (.long t2), .second, .val (.long t3), .second, .unset, .unset, .unset, .unset, .unset, .unset, .unset, .unset, .unset, .unset, .unset, .unset, .unset, .unset, .unset, .unset, .unset, .unset] [(.int ua)]))
    refine OGo.st (B := s₁.setTop (mkF m 13 #[.val (.int fl), .val (.long t1), .second, .val (.long t2), .second, .val (.long t3), .second, .val (.int ua), .unset, .unset, .unset, .unset, .unset, .unset, .unset, .unset, .unset, .unset, .unset, .unset, .unset, .unset, .unset, .unset, .unset] [])) (fun _ kz => XS.istore X0.here hx rfl (hb hby at_11) rfl (l' := #[.val (.int fl), .val (.long t1), .second, .val (.long t2), .second, .val (.long t3), .second, .val (.int ua), .unset, .unset, .unset, .unset, .unset, .unset, .unset, .unset, .unset, .unset, .unset, .unset, .unset, .unset, .unset, .unset, .unset]) rfl kz) ?_
    refine OGo.st (B := s₁.setTop (mkF m 14 #[.val (.int fl), .val (.long t1), .second, .val (.long t2), .second, .val (.long t3), .second, .val (.int ua), .unset, .unset, .unset, .unset, .unset, .unset, .unset, .unset, .unset, .unset, .unset, .unset, .unset, .unset, .unset, .unset, .unset] [(.int fl)])) (fun _ kz => XS.iloadN X0.here hx rfl (hb hby at_13) rfl kz) ?_
    refine OGo.st (B := s₁.setTop (mkF m 15 #[.val (.int fl), .val (.long t1), .second, .val (.long t2), .second, .val (.long t3), .second, .val (.int ua), .unset, .unset, .unset, .unset, .unset, .unset, .unset, .unset, .unset, .unset, .unset, .unset, .unset, .unset, .unset, .unset, .unset] [(.int (2 : Int32)), (.int fl)])) (fun _ kz => XS.iconst X0.here hx rfl (hb hby at_14) kz) ?_
    refine OGo.st (B := s₁.setTop (mkF m 16 #[.val (.int fl), .val (.long t1), .second, .val (.long t2), .second, .val (.long t3), .second, .val (.int ua), .unset, .unset, .unset, .unset, .unset, .unset, .unset, .unset, .unset, .unset, .unset, .unset, .unset, .unset, .unset, .unset, .unset] [(.int (fl &&& (2 : Int32)))])) (fun _ kz => XS.iand X0.here hx rfl (hb hby at_15) rfl kz) ?_
    refine OGo.join (fun (ub : Int32) => s₁.setTop (mkF m 24 #[.val (.int fl), .val (.long t1), .second, .val (.long t2), .second, .val (.long t3), .second, .val (.int ua), .unset, .unset, .unset, .unset, .unset, .unset, .unset, .unset, .unset, .unset, .unset, .unset, .unset, .unset, .unset, .unset, .unset] [(.int ub)])) (fun ub => ub = 0 ∨ ub = 1) ?_ ?_
    · skip
      intro ub h_ub
      show OGo p e below _ (s₁.setTop (mkF m 24 #[.val (.int fl), .val (.long t1), .second, .val (.long t2), .second, .val (.long t3), .second, .val (.int ua), .unset, .unset, .unset, .unset, .unset, .unset, .unset, .unset, .unset, .unset, .unset, .unset, .unset, .unset, .unset, .unset, .unset] [(.int ub)]))
      refine OGo.st (B := s₁.setTop (mkF m 26 #[.val (.int fl), .val (.long t1), .second, .val (.long t2), .second, .val (.long t3), .second, .val (.int ua), .val (.int ub), .unset, .unset, .unset, .unset, .unset, .unset, .unset, .unset, .unset, .unset, .unset, .unset, .unset, .unset, .unset, .unset] [])) (fun _ kz => XS.istore X0.here hx rfl (hb hby at_24) rfl (l' := #[.val (.int fl), .val (.long t1), .second, .val (.long t2), .second, .val (.long t3), .second, .val (.int ua), .val (.int ub), .unset, .unset, .unset, .unset, .unset, .unset, .unset, .unset, .unset, .unset, .unset, .unset, .unset, .unset, .unset, .unset]) rfl kz) ?_
      refine OGo.st (B := s₁.setTop (mkF m 27 #[.val (.int fl), .val (.long t1), .second, .val (.long t2), .second, .val (.long t3), .second, .val (.int ua), .val (.int ub), .unset, .unset, .unset, .unset, .unset, .unset, .unset, .unset, .unset, .unset, .unset, .unset, .unset, .unset, .unset, .unset] [(.int fl)])) (fun _ kz => XS.iloadN X0.here hx rfl (hb hby at_26) rfl kz) ?_
      refine OGo.st (B := s₁.setTop (mkF m 28 #[.val (.int fl), .val (.long t1), .second, .val (.long t2), .second, .val (.long t3), .second, .val (.int ua), .val (.int ub), .unset, .unset, .unset, .unset, .unset, .unset, .unset, .unset, .unset, .unset, .unset, .unset, .unset, .unset, .unset, .unset] [(.int (4 : Int32)), (.int fl)])) (fun _ kz => XS.iconst X0.here hx rfl (hb hby at_27) kz) ?_
      refine OGo.st (B := s₁.setTop (mkF m 29 #[.val (.int fl), .val (.long t1), .second, .val (.long t2), .second, .val (.long t3), .second, .val (.int ua), .val (.int ub), .unset, .unset, .unset, .unset, .unset, .unset, .unset, .unset, .unset, .unset, .unset, .unset, .unset, .unset, .unset, .unset] [(.int (fl &&& (4 : Int32)))])) (fun _ kz => XS.iand X0.here hx rfl (hb hby at_28) rfl kz) ?_
      refine OGo.join (fun (uc : Int32) => s₁.setTop (mkF m 37 #[.val (.int fl), .val (.long t1), .second, .val (.long t2), .second, .val (.long t3), .second, .val (.int ua), .val (.int ub), .unset, .unset, .unset, .unset, .unset, .unset, .unset, .unset, .unset, .unset, .unset, .unset, .unset, .unset, .unset, .unset] [(.int uc)])) (fun uc => uc = 0 ∨ uc = 1) ?_ ?_
      · skip
        intro uc h_uc
        show OGo p e below _ (s₁.setTop (mkF m 37 #[.val (.int fl), .val (.long t1), .second, .val (.long t2), .second, .val (.long t3), .second, .val (.int ua), .val (.int ub), .unset, .unset, .unset, .unset, .unset, .unset, .unset, .unset, .unset, .unset, .unset, .unset, .unset, .unset, .unset, .unset] [(.int uc)]))
        refine OGo.st (B := s₁.setTop (mkF m 39 #[.val (.int fl), .val (.long t1), .second, .val (.long t2), .second, .val (.long t3), .second, .val (.int ua), .val (.int ub), .val (.int uc), .unset, .unset, .unset, .unset, .unset, .unset, .unset, .unset, .unset, .unset, .unset, .unset, .unset, .unset, .unset] [])) (fun _ kz => XS.istore X0.here hx rfl (hb hby at_37) rfl (l' := #[.val (.int fl), .val (.long t1), .second, .val (.long t2), .second, .val (.long t3), .second, .val (.int ua), .val (.int ub), .val (.int uc), .unset, .unset, .unset, .unset, .unset, .unset, .unset, .unset, .unset, .unset, .unset, .unset, .unset, .unset, .unset]) rfl kz) ?_
        refine OGo.st (B := s₁.setTop (mkF m 40 #[.val (.int fl), .val (.long t1), .second, .val (.long t2), .second, .val (.long t3), .second, .val (.int ua), .val (.int ub), .val (.int uc), .unset, .unset, .unset, .unset, .unset, .unset, .unset, .unset, .unset, .unset, .unset, .unset, .unset, .unset, .unset] [(.long t1)])) (fun _ kz => XS.lloadN X0.here hx rfl (hb hby at_39) rfl kz) ?_
        refine OGo.st (B := s₁.setTop (mkF m 42 #[.val (.int fl), .val (.long t1), .second, .val (.long t2), .second, .val (.long t3), .second, .val (.int ua), .val (.int ub), .val (.int uc), .val (.long t1), .second, .unset, .unset, .unset, .unset, .unset, .unset, .unset, .unset, .unset, .unset, .unset, .unset, .unset] [])) (fun _ kz => XS.lstore X0.here hx rfl (hb hby at_40) rfl (l' := #[.val (.int fl), .val (.long t1), .second, .val (.long t2), .second, .val (.long t3), .second, .val (.int ua), .val (.int ub), .val (.int uc), .val (.long t1), .second, .unset, .unset, .unset, .unset, .unset, .unset, .unset, .unset, .unset, .unset, .unset, .unset, .unset]) rfl kz) ?_
        refine OGo.st (B := s₁.setTop (mkF m 43 #[.val (.int fl), .val (.long t1), .second, .val (.long t2), .second, .val (.long t3), .second, .val (.int ua), .val (.int ub), .val (.int uc), .val (.long t1), .second, .unset, .unset, .unset, .unset, .unset, .unset, .unset, .unset, .unset, .unset, .unset, .unset, .unset] [(.int fl)])) (fun _ kz => XS.iloadN X0.here hx rfl (hb hby at_42) rfl kz) ?_
        refine OGo.st (B := s₁.setTop (mkF m 45 #[.val (.int fl), .val (.long t1), .second, .val (.long t2), .second, .val (.long t3), .second, .val (.int ua), .val (.int ub), .val (.int uc), .val (.long t1), .second, .unset, .unset, .unset, .unset, .unset, .unset, .unset, .unset, .unset, .unset, .unset, .unset, .unset] [(.int (8 : Int32)), (.int fl)])) (fun _ kz => XS.bipush X0.here hx rfl (hb hby at_43) kz) ?_
        refine OGo.st (B := s₁.setTop (mkF m 46 #[.val (.int fl), .val (.long t1), .second, .val (.long t2), .second, .val (.long t3), .second, .val (.int ua), .val (.int ub), .val (.int uc), .val (.long t1), .second, .unset, .unset, .unset, .unset, .unset, .unset, .unset, .unset, .unset, .unset, .unset, .unset, .unset] [(.int (fl &&& (8 : Int32)))])) (fun _ kz => XS.iand X0.here hx rfl (hb hby at_45) rfl kz) ?_
        refine OGo.join (fun (tb : Int64) => s₁.setTop (mkF m 55 #[.val (.int fl), .val (.long t1), .second, .val (.long t2), .second, .val (.long t3), .second, .val (.int ua), .val (.int ub), .val (.int uc), .val (.long t1), .second, .unset, .unset, .unset, .unset, .unset, .unset, .unset, .unset, .unset, .unset, .unset, .unset, .unset] [(.long tb)])) (fun tb => True) ?_ ?_
        · skip
          intro tb h_tb
          show OGo p e below _ (s₁.setTop (mkF m 55 #[.val (.int fl), .val (.long t1), .second, .val (.long t2), .second, .val (.long t3), .second, .val (.int ua), .val (.int ub), .val (.int uc), .val (.long t1), .second, .unset, .unset, .unset, .unset, .unset, .unset, .unset, .unset, .unset, .unset, .unset, .unset, .unset] [(.long tb)]))
          refine OGo.st (B := s₁.setTop (mkF m 57 #[.val (.int fl), .val (.long t1), .second, .val (.long t2), .second, .val (.long t3), .second, .val (.int ua), .val (.int ub), .val (.int uc), .val (.long t1), .second, .val (.long tb), .second, .unset, .unset, .unset, .unset, .unset, .unset, .unset, .unset, .unset, .unset, .unset] [])) (fun _ kz => XS.lstore X0.here hx rfl (hb hby at_55) rfl (l' := #[.val (.int fl), .val (.long t1), .second, .val (.long t2), .second, .val (.long t3), .second, .val (.int ua), .val (.int ub), .val (.int uc), .val (.long t1), .second, .val (.long tb), .second, .unset, .unset, .unset, .unset, .unset, .unset, .unset, .unset, .unset, .unset, .unset]) rfl kz) ?_
          refine OGo.st (B := s₁.setTop (mkF m 58 #[.val (.int fl), .val (.long t1), .second, .val (.long t2), .second, .val (.long t3), .second, .val (.int ua), .val (.int ub), .val (.int uc), .val (.long t1), .second, .val (.long tb), .second, .unset, .unset, .unset, .unset, .unset, .unset, .unset, .unset, .unset, .unset, .unset] [(.int fl)])) (fun _ kz => XS.iloadN X0.here hx rfl (hb hby at_57) rfl kz) ?_
          refine OGo.st (B := s₁.setTop (mkF m 60 #[.val (.int fl), .val (.long t1), .second, .val (.long t2), .second, .val (.long t3), .second, .val (.int ua), .val (.int ub), .val (.int uc), .val (.long t1), .second, .val (.long tb), .second, .unset, .unset, .unset, .unset, .unset, .unset, .unset, .unset, .unset, .unset, .unset] [(.int (16 : Int32)), (.int fl)])) (fun _ kz => XS.bipush X0.here hx rfl (hb hby at_58) kz) ?_
          refine OGo.st (B := s₁.setTop (mkF m 61 #[.val (.int fl), .val (.long t1), .second, .val (.long t2), .second, .val (.long t3), .second, .val (.int ua), .val (.int ub), .val (.int uc), .val (.long t1), .second, .val (.long tb), .second, .unset, .unset, .unset, .unset, .unset, .unset, .unset, .unset, .unset, .unset, .unset] [(.int (fl &&& (16 : Int32)))])) (fun _ kz => XS.iand X0.here hx rfl (hb hby at_60) rfl kz) ?_
          refine OGo.join (fun (tc : Int64) => s₁.setTop (mkF m 71 #[.val (.int fl), .val (.long t1), .second, .val (.long t2), .second, .val (.long t3), .second, .val (.int ua), .val (.int ub), .val (.int uc), .val (.long t1), .second, .val (.long tb), .second, .unset, .unset, .unset, .unset, .unset, .unset, .unset, .unset, .unset, .unset, .unset] [(.long tc)])) (fun tc => True) ?_ ?_
          · skip
            intro tc h_tc
            show OGo p e below _ (s₁.setTop (mkF m 71 #[.val (.int fl), .val (.long t1), .second, .val (.long t2), .second, .val (.long t3), .second, .val (.int ua), .val (.int ub), .val (.int uc), .val (.long t1), .second, .val (.long tb), .second, .unset, .unset, .unset, .unset, .unset, .unset, .unset, .unset, .unset, .unset, .unset] [(.long tc)]))
            refine OGo.st (B := s₁.setTop (mkF m 73 #[.val (.int fl), .val (.long t1), .second, .val (.long t2), .second, .val (.long t3), .second, .val (.int ua), .val (.int ub), .val (.int uc), .val (.long t1), .second, .val (.long tb), .second, .val (.long tc), .second, .unset, .unset, .unset, .unset, .unset, .unset, .unset, .unset, .unset] [])) (fun _ kz => XS.lstore X0.here hx rfl (hb hby at_71) rfl (l' := #[.val (.int fl), .val (.long t1), .second, .val (.long t2), .second, .val (.long t3), .second, .val (.int ua), .val (.int ub), .val (.int uc), .val (.long t1), .second, .val (.long tb), .second, .val (.long tc), .second, .unset, .unset, .unset, .unset, .unset, .unset, .unset, .unset, .unset]) rfl kz) ?_
            obtain ⟨T6, h6, X6, e6, E6, A6, D6, U6, st6⟩ := newO X0 hx hZ hown (hw _ (List.mem_of_getElem? (i := 0) rfl)) (hw _ (List.mem_of_getElem? (i := 1) rfl)) (hw _ (List.mem_of_getElem? (i := 2) rfl)) e0 (g := (mkF m 73 #[.val (.int fl), .val (.long t1), .second, .val (.long t2), .second, .val (.long t3), .second, .val (.int ua), .val (.int ub), .val (.int uc), .val (.long t1), .second, .val (.long tb), .second, .val (.long tc), .second, .unset, .unset, .unset, .unset, .unset, .unset, .unset, .unset, .unset] [])) rfl (hb hby at_73) (by decide) (by decide)
            obtain ⟨oa, g6⟩ : ∃ z, z = h0.size := ⟨_, rfl⟩
            rw [← g6] at A6 D6 st6
            have g_oa : n0 ≤ oa := Nat.le_trans Z0 (Nat.le_trans (Keep.refl h0 []).1 (Nat.le_of_eq g6.symm))
            have sz_oa : h0.size ≤ oa := Nat.le_trans (Keep.refl h0 []).1 (Nat.le_of_eq g6.symm)
            have K6 : Keep h0 h6 [] := (Keep.refl h0 []).ext E6
            have O6 := O0.ext E6
            have F6_transaction : Fld Z h6 oa "com/example/cordon/cordon/KeyEntry$Request" "transaction" "Ljava/lang/Object;" .null := D6 (Or.inr (hw _ (List.mem_of_getElem? (i := 29) rfl))) (ty := (.object "java/lang/Object")) (by decide)
            have F6_mode : Fld Z h6 oa "com/example/cordon/cordon/KeyEntry$Request" "mode" "Lcom/example/cordon/cordon/LockMode;" .null := D6 (Or.inr (hw _ (List.mem_of_getElem? (i := 31) rfl))) (ty := (.object "com/example/cordon/cordon/LockMode")) (by decide)
            have F6_upgrade : Fld Z h6 oa "com/example/cordon/cordon/KeyEntry$Request" "upgrade" "Z" (.int (0 : Int32)) := D6 (Or.inr (hw _ (List.mem_of_getElem? (i := 33) rfl))) (ty := .boolean) (by decide)
            have F6_ticket : Fld Z h6 oa "com/example/cordon/cordon/KeyEntry$Request" "ticket" "J" (.long (0 : Int64)) := D6 (Or.inr (hw _ (List.mem_of_getElem? (i := 35) rfl))) (ty := .long) (by decide)
            refine OGo.st (B := T6.setTop (mkF m 76 #[.val (.int fl), .val (.long t1), .second, .val (.long t2), .second, .val (.long t3), .second, .val (.int ua), .val (.int ub), .val (.int uc), .val (.long t1), .second, .val (.long tb), .second, .val (.long tc), .second, .unset, .unset, .unset, .unset, .unset, .unset, .unset, .unset, .unset] [(.ref oa)])) st6 ?_
            refine OGo.st (B := T6.setTop (mkF m 77 #[.val (.int fl), .val (.long t1), .second, .val (.long t2), .second, .val (.long t3), .second, .val (.int ua), .val (.int ub), .val (.int uc), .val (.long t1), .second, .val (.long tb), .second, .val (.long tc), .second, .unset, .unset, .unset, .unset, .unset, .unset, .unset, .unset, .unset] [(.ref oa), (.ref oa)])) (fun _ kz => XS.dup X6.here hx rfl (hb hby at_76) rfl rfl kz) ?_
            refine OGo.st (B := T6.setTop (mkF m 78 #[.val (.int fl), .val (.long t1), .second, .val (.long t2), .second, .val (.long t3), .second, .val (.int ua), .val (.int ub), .val (.int uc), .val (.long t1), .second, .val (.long tb), .second, .val (.long tc), .second, .unset, .unset, .unset, .unset, .unset, .unset, .unset, .unset, .unset] [(.int fl), (.ref oa), (.ref oa)])) (fun _ kz => XS.iloadN X6.here hx rfl (hb hby at_77) rfl kz) ?_
            obtain ⟨v7, T7, L7, X7, hQ7, st7⟩ := (rm1 l Z a0 hw fl h6 n0 (Nat.le_trans Z0 K6.1) O6 ca cc S_high S_cache BX).static (W := 2) X6 hx hZ hown (hw _ (List.mem_of_getElem? (i := 3) rfl)) (hw _ (List.mem_of_getElem? (i := 4) rfl)) (hw _ (List.mem_of_getElem? (i := 5) rfl)) (hw _ (List.mem_of_getElem? (i := 6) rfl)) (by decide) (by decide) (by decide) e6 (by decide) (by decide) (g := (mkF m 78 #[.val (.int fl), .val (.long t1), .second, .val (.long t2), .second, .val (.long t3), .second, .val (.int ua), .val (.int ub), .val (.int uc), .val (.long t1), .second, .val (.long tb), .second, .val (.long tc), .second, .unset, .unset, .unset, .unset, .unset, .unset, .unset, .unset, .unset] [(.int fl), (.ref oa), (.ref oa)])) rfl (by rw [hml]; rfl) (argsL := [(.int fl)]) (rest := [(.ref oa), (.ref oa)]) rfl (lenOf pd_0 rfl) rfl (by show 2 * 0 + _ ≤ _; exact Nat.le_of_eq rfl) (hb hby at_78)
            obtain ⟨i7, rfl, N7q, J7⟩ := hQ7
            have N7 := Fr.app N0 N7q
            have K7 : Keep h0 T7.heap [] := K6.trans J7 all0
            have O7 := O6.keep J7 all0
            refine OGo.st (B := T7.setTop (mkF m 81 #[.val (.int fl), .val (.long t1), .second, .val (.long t2), .second, .val (.long t3), .second, .val (.int ua), .val (.int ub), .val (.int uc), .val (.long t1), .second, .val (.long tb), .second, .val (.long tc), .second, .unset, .unset, .unset, .unset, .unset, .unset, .unset, .unset, .unset] [(.ref i7), (.ref oa), (.ref oa)])) st7 ?_
            refine OGo.st (B := T7.setTop (mkF m 82 #[.val (.int fl), .val (.long t1), .second, .val (.long t2), .second, .val (.long t3), .second, .val (.int ua), .val (.int ub), .val (.int uc), .val (.long t1), .second, .val (.long tb), .second, .val (.long tc), .second, .unset, .unset, .unset, .unset, .unset, .unset, .unset, .unset, .unset] [(.int fl), (.ref i7), (.ref oa), (.ref oa)])) (fun _ kz => XS.iloadN X7.here hx rfl (hb hby at_81) rfl kz) ?_
            refine OGo.st (B := T7.setTop (mkF m 83 #[.val (.int fl), .val (.long t1), .second, .val (.long t2), .second, .val (.long t3), .second, .val (.int ua), .val (.int ub), .val (.int uc), .val (.long t1), .second, .val (.long tb), .second, .val (.long tc), .second, .unset, .unset, .unset, .unset, .unset, .unset, .unset, .unset, .unset] [(.int (5 : Int32)), (.int fl), (.ref i7), (.ref oa), (.ref oa)])) (fun _ kz => XS.iconst X7.here hx rfl (hb hby at_82) kz) ?_
            refine OGo.st (B := T7.setTop (mkF m 84 #[.val (.int fl), .val (.long t1), .second, .val (.long t2), .second, .val (.long t3), .second, .val (.int ua), .val (.int ub), .val (.int uc), .val (.long t1), .second, .val (.long tb), .second, .val (.long tc), .second, .unset, .unset, .unset, .unset, .unset, .unset, .unset, .unset, .unset] [(.int ((fl.toUInt32 >>> ((5 : Int32) &&& 31).toUInt32).toInt32)), (.ref i7), (.ref oa), (.ref oa)])) (fun _ kz => XS.iushr X7.here hx rfl (hb hby at_83) rfl kz) ?_
            obtain ⟨v8, T8, L8, X8, hQ8, st8⟩ := (rm2 l Z a0 hw ((fl.toUInt32 >>> ((5 : Int32) &&& 31).toUInt32).toInt32) w_INTENTION_SHARED w_INTENTION_EXCLUSIVE w_SHARED w_SHARED_INTENTION_EXCLUSIVE w_UPDATE w_EXCLUSIVE T7.heap n0 (S_INTENTION_SHARED.ext O7.2) (S_INTENTION_EXCLUSIVE.ext O7.2) (S_SHARED.ext O7.2) (S_SHARED_INTENTION_EXCLUSIVE.ext O7.2) (S_UPDATE.ext O7.2) (S_EXCLUSIVE.ext O7.2)).static (W := 3) X7 hx hZ hown (hw _ (List.mem_of_getElem? (i := 10) rfl)) (hw _ (List.mem_of_getElem? (i := 11) rfl)) (hw _ (List.mem_of_getElem? (i := 12) rfl)) (hw _ (List.mem_of_getElem? (i := 13) rfl)) (by decide) (by decide) (by decide) rfl (by decide) (by decide) (g := (mkF m 84 #[.val (.int fl), .val (.long t1), .second, .val (.long t2), .second, .val (.long t3), .second, .val (.int ua), .val (.int ub), .val (.int uc), .val (.long t1), .second, .val (.long tb), .second, .val (.long tc), .second, .unset, .unset, .unset, .unset, .unset, .unset, .unset, .unset, .unset] [(.int ((fl.toUInt32 >>> ((5 : Int32) &&& 31).toUInt32).toInt32)), (.ref i7), (.ref oa), (.ref oa)])) rfl (by rw [hml]; rfl) (argsL := [(.int ((fl.toUInt32 >>> ((5 : Int32) &&& 31).toUInt32).toInt32))]) (rest := [(.ref i7), (.ref oa), (.ref oa)]) rfl (lenOf pd_1 rfl) rfl (by show 2 * 0 + _ ≤ _; exact Nat.le_of_eq rfl) (hb hby at_84)
            obtain ⟨y8, rfl, N8q, e8⟩ := hQ8
            have N8 := Fr.app N7 N8q
            refine OGo.st (B := T8.setTop (mkF m 87 #[.val (.int fl), .val (.long t1), .second, .val (.long t2), .second, .val (.long t3), .second, .val (.int ua), .val (.int ub), .val (.int uc), .val (.long t1), .second, .val (.long tb), .second, .val (.long tc), .second, .unset, .unset, .unset, .unset, .unset, .unset, .unset, .unset, .unset] [(.ref y8), (.ref i7), (.ref oa), (.ref oa)])) st8 ?_
            refine OGo.st (B := T8.setTop (mkF m 89 #[.val (.int fl), .val (.long t1), .second, .val (.long t2), .second, .val (.long t3), .second, .val (.int ua), .val (.int ub), .val (.int uc), .val (.long t1), .second, .val (.long tb), .second, .val (.long tc), .second, .unset, .unset, .unset, .unset, .unset, .unset, .unset, .unset, .unset] [(.int ua), (.ref y8), (.ref i7), (.ref oa), (.ref oa)])) (fun _ kz => XS.iload X8.here hx rfl (hb hby at_87) rfl kz) ?_
            refine OGo.st (B := T8.setTop (mkF m 91 #[.val (.int fl), .val (.long t1), .second, .val (.long t2), .second, .val (.long t3), .second, .val (.int ua), .val (.int ub), .val (.int uc), .val (.long t1), .second, .val (.long tb), .second, .val (.long tc), .second, .unset, .unset, .unset, .unset, .unset, .unset, .unset, .unset, .unset] [(.long t1), (.int ua), (.ref y8), (.ref i7), (.ref oa), (.ref oa)])) (fun _ kz => XS.lload X8.here hx rfl (hb hby at_89) rfl kz) ?_
            obtain ⟨v9, T9, L9, X9, hQ9, st9⟩ := (rm3 l Z a0 hw oa i7 y8 ua t1 T7.heap n0 (Nat.le_trans Z0 K7.1) h_ua (A6.keep J7) g_oa (F6_transaction.keep J7 nin0) (F6_mode.keep J7 nin0) (F6_upgrade.keep J7 nin0) (F6_ticket.keep J7 nin0)).init (W := 1) X8 hx hZ rfl hown (hw _ (List.mem_of_getElem? (i := 17) rfl)) (hw _ (List.mem_of_getElem? (i := 18) rfl)) (hw _ (List.mem_of_getElem? (i := 2) rfl)) (hw _ (List.mem_of_getElem? (i := 19) rfl)) (by decide) (by decide) (by decide) e8 (by decide) (by decide) (g := (mkF m 91 #[.val (.int fl), .val (.long t1), .second, .val (.long t2), .second, .val (.long t3), .second, .val (.int ua), .val (.int ub), .val (.int uc), .val (.long t1), .second, .val (.long tb), .second, .val (.long tc), .second, .unset, .unset, .unset, .unset, .unset, .unset, .unset, .unset, .unset] [(.long t1), (.int ua), (.ref y8), (.ref i7), (.ref oa), (.ref oa)])) rfl (by rw [hml]; rfl) (argsL := [(.ref i7), (.ref y8), (.int ua), (.long t1)]) (rest := [(.ref oa)]) rfl (lenOf pd_2 rfl) rfl (by show 2 * 0 + _ ≤ _; exact Nat.le_of_eq rfl) (hb hby at_91)
            obtain ⟨rfl, N9q, J9, Y9_0, Y9_1, Y9_2⟩ := hQ9
            have N9 := Fr.app N8 N9q
            have K9 : Keep h0 T9.heap [] := K7.trans J9 (allS (Or.inr sz_oa) all0)
            have O9 := O7.keep J9 (allS g_oa all0)
            refine OGo.st (B := T9.setTop (mkF m 94 #[.val (.int fl), .val (.long t1), .second, .val (.long t2), .second, .val (.long t3), .second, .val (.int ua), .val (.int ub), .val (.int uc), .val (.long t1), .second, .val (.long tb), .second, .val (.long tc), .second, .unset, .unset, .unset, .unset, .unset, .unset, .unset, .unset, .unset] [(.ref oa)])) st9 ?_
            refine OGo.st (B := T9.setTop (mkF m 96 #[.val (.int fl), .val (.long t1), .second, .val (.long t2), .second, .val (.long t3), .second, .val (.int ua), .val (.int ub), .val (.int uc), .val (.long t1), .second, .val (.long tb), .second, .val (.long tc), .second, .val (.ref oa), .unset, .unset, .unset, .unset, .unset, .unset, .unset, .unset] [])) (fun _ kz => XS.astore X9.here hx rfl (hb hby at_94) rfl rfl (l' := #[.val (.int fl), .val (.long t1), .second, .val (.long t2), .second, .val (.long t3), .second, .val (.int ua), .val (.int ub), .val (.int uc), .val (.long t1), .second, .val (.long tb), .second, .val (.long tc), .second, .val (.ref oa), .unset, .unset, .unset, .unset, .unset, .unset, .unset, .unset]) rfl kz) ?_
            obtain ⟨T10, h10, X10, e10, E10, A10, D10, U10, st10⟩ := newO X9 hx hZ hown (hw _ (List.mem_of_getElem? (i := 0) rfl)) (hw _ (List.mem_of_getElem? (i := 1) rfl)) (hw _ (List.mem_of_getElem? (i := 2) rfl)) rfl (g := (mkF m 96 #[.val (.int fl), .val (.long t1), .second, .val (.long t2), .second, .val (.long t3), .second, .val (.int ua), .val (.int ub), .val (.int uc), .val (.long t1), .second, .val (.long tb), .second, .val (.long tc), .second, .val (.ref oa), .unset, .unset, .unset, .unset, .unset, .unset, .unset, .unset] [])) rfl (hb hby at_96) (by decide) (by decide)
            obtain ⟨ob, g10⟩ : ∃ z, z = T9.heap.size := ⟨_, rfl⟩
            rw [← g10] at A10 D10 st10
            have ne_oa_ob : oa ≠ ob := Nat.ne_of_lt (Nat.lt_of_lt_of_le Y9_0.lt (Nat.le_of_eq g10.symm))
            have g_ob : n0 ≤ ob := Nat.le_trans Z0 (Nat.le_trans K9.1 (Nat.le_of_eq g10.symm))
            have sz_ob : h0.size ≤ ob := Nat.le_trans K9.1 (Nat.le_of_eq g10.symm)
            have K10 : Keep h0 h10 [] := K9.ext E10
            have O10 := O9.ext E10
            have F10_transaction : Fld Z h10 ob "com/example/cordon/cordon/KeyEntry$Request" "transaction" "Ljava/lang/Object;" .null := D10 (Or.inr (hw _ (List.mem_of_getElem? (i := 29) rfl))) (ty := (.object "java/lang/Object")) (by decide)
            have F10_mode : Fld Z h10 ob "com/example/cordon/cordon/KeyEntry$Request" "mode" "Lcom/example/cordon/cordon/LockMode;" .null := D10 (Or.inr (hw _ (List.mem_of_getElem? (i := 31) rfl))) (ty := (.object "com/example/cordon/cordon/LockMode")) (by decide)
            have F10_upgrade : Fld Z h10 ob "com/example/cordon/cordon/KeyEntry$Request" "upgrade" "Z" (.int (0 : Int32)) := D10 (Or.inr (hw _ (List.mem_of_getElem? (i := 33) rfl))) (ty := .boolean) (by decide)
            have F10_ticket : Fld Z h10 ob "com/example/cordon/cordon/KeyEntry$Request" "ticket" "J" (.long (0 : Int64)) := D10 (Or.inr (hw _ (List.mem_of_getElem? (i := 35) rfl))) (ty := .long) (by decide)
            refine OGo.st (B := T10.setTop (mkF m 99 #[.val (.int fl), .val (.long t1), .second, .val (.long t2), .second, .val (.long t3), .second, .val (.int ua), .val (.int ub), .val (.int uc), .val (.long t1), .second, .val (.long tb), .second, .val (.long tc), .second, .val (.ref oa), .unset, .unset, .unset, .unset, .unset, .unset, .unset, .unset] [(.ref ob)])) st10 ?_
            refine OGo.st (B := T10.setTop (mkF m 100 #[.val (.int fl), .val (.long t1), .second, .val (.long t2), .second, .val (.long t3), .second, .val (.int ua), .val (.int ub), .val (.int uc), .val (.long t1), .second, .val (.long tb), .second, .val (.long tc), .second, .val (.ref oa), .unset, .unset, .unset, .unset, .unset, .unset, .unset, .unset] [(.ref ob), (.ref ob)])) (fun _ kz => XS.dup X10.here hx rfl (hb hby at_99) rfl rfl kz) ?_
            refine OGo.st (B := T10.setTop (mkF m 101 #[.val (.int fl), .val (.long t1), .second, .val (.long t2), .second, .val (.long t3), .second, .val (.int ua), .val (.int ub), .val (.int uc), .val (.long t1), .second, .val (.long tb), .second, .val (.long tc), .second, .val (.ref oa), .unset, .unset, .unset, .unset, .unset, .unset, .unset, .unset] [(.int fl), (.ref ob), (.ref ob)])) (fun _ kz => XS.iloadN X10.here hx rfl (hb hby at_100) rfl kz) ?_
            refine OGo.st (B := T10.setTop (mkF m 102 #[.val (.int fl), .val (.long t1), .second, .val (.long t2), .second, .val (.long t3), .second, .val (.int ua), .val (.int ub), .val (.int uc), .val (.long t1), .second, .val (.long tb), .second, .val (.long tc), .second, .val (.ref oa), .unset, .unset, .unset, .unset, .unset, .unset, .unset, .unset] [(.int (1 : Int32)), (.int fl), (.ref ob), (.ref ob)])) (fun _ kz => XS.iconst X10.here hx rfl (hb hby at_101) kz) ?_
            refine OGo.st (B := T10.setTop (mkF m 103 #[.val (.int fl), .val (.long t1), .second, .val (.long t2), .second, .val (.long t3), .second, .val (.int ua), .val (.int ub), .val (.int uc), .val (.long t1), .second, .val (.long tb), .second, .val (.long tc), .second, .val (.ref oa), .unset, .unset, .unset, .unset, .unset, .unset, .unset, .unset] [(.int (fl ^^^ (1 : Int32))), (.ref ob), (.ref ob)])) (fun _ kz => XS.ixor X10.here hx rfl (hb hby at_102) rfl kz) ?_
            obtain ⟨v11, T11, L11, X11, hQ11, st11⟩ := (rm1 l Z a0 hw (fl ^^^ (1 : Int32)) h10 n0 (Nat.le_trans Z0 K10.1) O10 ca cc S_high S_cache BX).static (W := 2) X10 hx hZ hown (hw _ (List.mem_of_getElem? (i := 3) rfl)) (hw _ (List.mem_of_getElem? (i := 4) rfl)) (hw _ (List.mem_of_getElem? (i := 5) rfl)) (hw _ (List.mem_of_getElem? (i := 6) rfl)) (by decide) (by decide) (by decide) e10 (by decide) (by decide) (g := (mkF m 103 #[.val (.int fl), .val (.long t1), .second, .val (.long t2), .second, .val (.long t3), .second, .val (.int ua), .val (.int ub), .val (.int uc), .val (.long t1), .second, .val (.long tb), .second, .val (.long tc), .second, .val (.ref oa), .unset, .unset, .unset, .unset, .unset, .unset, .unset, .unset] [(.int (fl ^^^ (1 : Int32))), (.ref ob), (.ref ob)])) rfl (by rw [hml]; rfl) (argsL := [(.int (fl ^^^ (1 : Int32)))]) (rest := [(.ref ob), (.ref ob)]) rfl (lenOf pd_0 rfl) rfl (by show 2 * 0 + _ ≤ _; exact Nat.le_of_eq rfl) (hb hby at_103)
            obtain ⟨i11, rfl, N11q, J11⟩ := hQ11
            have N11 := Fr.app N9 N11q
            have K11 : Keep h0 T11.heap [] := K10.trans J11 all0
            have O11 := O10.keep J11 all0
            refine OGo.st (B := T11.setTop (mkF m 106 #[.val (.int fl), .val (.long t1), .second, .val (.long t2), .second, .val (.long t3), .second, .val (.int ua), .val (.int ub), .val (.int uc), .val (.long t1), .second, .val (.long tb), .second, .val (.long tc), .second, .val (.ref oa), .unset, .unset, .unset, .unset, .unset, .unset, .unset, .unset] [(.ref i11), (.ref ob), (.ref ob)])) st11 ?_
            refine OGo.st (B := T11.setTop (mkF m 107 #[.val (.int fl), .val (.long t1), .second, .val (.long t2), .second, .val (.long t3), .second, .val (.int ua), .val (.int ub), .val (.int uc), .val (.long t1), .second, .val (.long tb), .second, .val (.long tc), .second, .val (.ref oa), .unset, .unset, .unset, .unset, .unset, .unset, .unset, .unset] [(.int fl), (.ref i11), (.ref ob), (.ref ob)])) (fun _ kz => XS.iloadN X11.here hx rfl (hb hby at_106) rfl kz) ?_
            refine OGo.st (B := T11.setTop (mkF m 109 #[.val (.int fl), .val (.long t1), .second, .val (.long t2), .second, .val (.long t3), .second, .val (.int ua), .val (.int ub), .val (.int uc), .val (.long t1), .second, .val (.long tb), .second, .val (.long tc), .second, .val (.ref oa), .unset, .unset, .unset, .unset, .unset, .unset, .unset, .unset] [(.int (8 : Int32)), (.int fl), (.ref i11), (.ref ob), (.ref ob)])) (fun _ kz => XS.bipush X11.here hx rfl (hb hby at_107) kz) ?_
            refine OGo.st (B := T11.setTop (mkF m 110 #[.val (.int fl), .val (.long t1), .second, .val (.long t2), .second, .val (.long t3), .second, .val (.int ua), .val (.int ub), .val (.int uc), .val (.long t1), .second, .val (.long tb), .second, .val (.long tc), .second, .val (.ref oa), .unset, .unset, .unset, .unset, .unset, .unset, .unset, .unset] [(.int ((fl.toUInt32 >>> ((8 : Int32) &&& 31).toUInt32).toInt32)), (.ref i11), (.ref ob), (.ref ob)])) (fun _ kz => XS.iushr X11.here hx rfl (hb hby at_109) rfl kz) ?_
            obtain ⟨v12, T12, L12, X12, hQ12, st12⟩ := (rm2 l Z a0 hw ((fl.toUInt32 >>> ((8 : Int32) &&& 31).toUInt32).toInt32) w_INTENTION_SHARED w_INTENTION_EXCLUSIVE w_SHARED w_SHARED_INTENTION_EXCLUSIVE w_UPDATE w_EXCLUSIVE T11.heap n0 (S_INTENTION_SHARED.ext O11.2) (S_INTENTION_EXCLUSIVE.ext O11.2) (S_SHARED.ext O11.2) (S_SHARED_INTENTION_EXCLUSIVE.ext O11.2) (S_UPDATE.ext O11.2) (S_EXCLUSIVE.ext O11.2)).static (W := 3) X11 hx hZ hown (hw _ (List.mem_of_getElem? (i := 10) rfl)) (hw _ (List.mem_of_getElem? (i := 11) rfl)) (hw _ (List.mem_of_getElem? (i := 12) rfl)) (hw _ (List.mem_of_getElem? (i := 13) rfl)) (by decide) (by decide) (by decide) rfl (by decide) (by decide) (g := (mkF m 110 #[.val (.int fl), .val (.long t1), .second, .val (.long t2), .second, .val (.long t3), .second, .val (.int ua), .val (.int ub), .val (.int uc), .val (.long t1), .second, .val (.long tb), .second, .val (.long tc), .second, .val (.ref oa), .unset, .unset, .unset, .unset, .unset, .unset, .unset, .unset] [(.int ((fl.toUInt32 >>> ((8 : Int32) &&& 31).toUInt32).toInt32)), (.ref i11), (.ref ob), (.ref ob)])) rfl (by rw [hml]; rfl) (argsL := [(.int ((fl.toUInt32 >>> ((8 : Int32) &&& 31).toUInt32).toInt32))]) (rest := [(.ref i11), (.ref ob), (.ref ob)]) rfl (lenOf pd_1 rfl) rfl (by show 2 * 0 + _ ≤ _; exact Nat.le_of_eq rfl) (hb hby at_110)
            obtain ⟨y12, rfl, N12q, e12⟩ := hQ12
            have N12 := Fr.app N11 N12q
            refine OGo.st (B := T12.setTop (mkF m 113 #[.val (.int fl), .val (.long t1), .second, .val (.long t2), .second, .val (.long t3), .second, .val (.int ua), .val (.int ub), .val (.int uc), .val (.long t1), .second, .val (.long tb), .second, .val (.long tc), .second, .val (.ref oa), .unset, .unset, .unset, .unset, .unset, .unset, .unset, .unset] [(.ref y12), (.ref i11), (.ref ob), (.ref ob)])) st12 ?_
            refine OGo.st (B := T12.setTop (mkF m 115 #[.val (.int fl), .val (.long t1), .second, .val (.long t2), .second, .val (.long t3), .second, .val (.int ua), .val (.int ub), .val (.int uc), .val (.long t1), .second, .val (.long tb), .second, .val (.long tc), .second, .val (.ref oa), .unset, .unset, .unset, .unset, .unset, .unset, .unset, .unset] [(.int ub), (.ref y12), (.ref i11), (.ref ob), (.ref ob)])) (fun _ kz => XS.iload X12.here hx rfl (hb hby at_113) rfl kz) ?_
            refine OGo.st (B := T12.setTop (mkF m 117 #[.val (.int fl), .val (.long t1), .second, .val (.long t2), .second, .val (.long t3), .second, .val (.int ua), .val (.int ub), .val (.int uc), .val (.long t1), .second, .val (.long tb), .second, .val (.long tc), .second, .val (.ref oa), .unset, .unset, .unset, .unset, .unset, .unset, .unset, .unset] [(.long tb), (.int ub), (.ref y12), (.ref i11), (.ref ob), (.ref ob)])) (fun _ kz => XS.lload X12.here hx rfl (hb hby at_115) rfl kz) ?_
            obtain ⟨v13, T13, L13, X13, hQ13, st13⟩ := (rm3 l Z a0 hw ob i11 y12 ub tb T11.heap n0 (Nat.le_trans Z0 K11.1) h_ub (A10.keep J11) g_ob (F10_transaction.keep J11 nin0) (F10_mode.keep J11 nin0) (F10_upgrade.keep J11 nin0) (F10_ticket.keep J11 nin0)).init (W := 1) X12 hx hZ rfl hown (hw _ (List.mem_of_getElem? (i := 17) rfl)) (hw _ (List.mem_of_getElem? (i := 18) rfl)) (hw _ (List.mem_of_getElem? (i := 2) rfl)) (hw _ (List.mem_of_getElem? (i := 19) rfl)) (by decide) (by decide) (by decide) e12 (by decide) (by decide) (g := (mkF m 117 #[.val (.int fl), .val (.long t1), .second, .val (.long t2), .second, .val (.long t3), .second, .val (.int ua), .val (.int ub), .val (.int uc), .val (.long t1), .second, .val (.long tb), .second, .val (.long tc), .second, .val (.ref oa), .unset, .unset, .unset, .unset, .unset, .unset, .unset, .unset] [(.long tb), (.int ub), (.ref y12), (.ref i11), (.ref ob), (.ref ob)])) rfl (by rw [hml]; rfl) (argsL := [(.ref i11), (.ref y12), (.int ub), (.long tb)]) (rest := [(.ref ob)]) rfl (lenOf pd_2 rfl) rfl (by show 2 * 0 + _ ≤ _; exact Nat.le_of_eq rfl) (hb hby at_117)
            obtain ⟨rfl, N13q, J13, Y13_0, Y13_1, Y13_2⟩ := hQ13
            have N13 := Fr.app N12 N13q
            have K13 : Keep h0 T13.heap [] := K11.trans J13 (allS (Or.inr sz_ob) all0)
            have O13 := O11.keep J13 (allS g_ob all0)
            refine OGo.st (B := T13.setTop (mkF m 120 #[.val (.int fl), .val (.long t1), .second, .val (.long t2), .second, .val (.long t3), .second, .val (.int ua), .val (.int ub), .val (.int uc), .val (.long t1), .second, .val (.long tb), .second, .val (.long tc), .second, .val (.ref oa), .unset, .unset, .unset, .unset, .unset, .unset, .unset, .unset] [(.ref ob)])) st13 ?_
            refine OGo.st (B := T13.setTop (mkF m 122 #[.val (.int fl), .val (.long t1), .second, .val (.long t2), .second, .val (.long t3), .second, .val (.int ua), .val (.int ub), .val (.int uc), .val (.long t1), .second, .val (.long tb), .second, .val (.long tc), .second, .val (.ref oa), .val (.ref ob), .unset, .unset, .unset, .unset, .unset, .unset, .unset] [])) (fun _ kz => XS.astore X13.here hx rfl (hb hby at_120) rfl rfl (l' := #[.val (.int fl), .val (.long t1), .second, .val (.long t2), .second, .val (.long t3), .second, .val (.int ua), .val (.int ub), .val (.int uc), .val (.long t1), .second, .val (.long tb), .second, .val (.long tc), .second, .val (.ref oa), .val (.ref ob), .unset, .unset, .unset, .unset, .unset, .unset, .unset]) rfl kz) ?_
            obtain ⟨T14, h14, X14, e14, E14, A14, D14, U14, st14⟩ := newO X13 hx hZ hown (hw _ (List.mem_of_getElem? (i := 0) rfl)) (hw _ (List.mem_of_getElem? (i := 1) rfl)) (hw _ (List.mem_of_getElem? (i := 2) rfl)) rfl (g := (mkF m 122 #[.val (.int fl), .val (.long t1), .second, .val (.long t2), .second, .val (.long t3), .second, .val (.int ua), .val (.int ub), .val (.int uc), .val (.long t1), .second, .val (.long tb), .second, .val (.long tc), .second, .val (.ref oa), .val (.ref ob), .unset, .unset, .unset, .unset, .unset, .unset, .unset] [])) rfl (hb hby at_122) (by decide) (by decide)
            obtain ⟨oc, g14⟩ : ∃ z, z = T13.heap.size := ⟨_, rfl⟩
            rw [← g14] at A14 D14 st14
            have ne_oa_oc : oa ≠ oc := Nat.ne_of_lt (Nat.lt_of_lt_of_le (((Y9_0.ext E10).keep J11).keep J13).lt (Nat.le_of_eq g14.symm))
            have ne_ob_oc : ob ≠ oc := Nat.ne_of_lt (Nat.lt_of_lt_of_le Y13_0.lt (Nat.le_of_eq g14.symm))
            have g_oc : n0 ≤ oc := Nat.le_trans Z0 (Nat.le_trans K13.1 (Nat.le_of_eq g14.symm))
            have sz_oc : h0.size ≤ oc := Nat.le_trans K13.1 (Nat.le_of_eq g14.symm)
            have K14 : Keep h0 h14 [] := K13.ext E14
            have O14 := O13.ext E14
            have F14_transaction : Fld Z h14 oc "com/example/cordon/cordon/KeyEntry$Request" "transaction" "Ljava/lang/Object;" .null := D14 (Or.inr (hw _ (List.mem_of_getElem? (i := 29) rfl))) (ty := (.object "java/lang/Object")) (by decide)
            have F14_mode : Fld Z h14 oc "com/example/cordon/cordon/KeyEntry$Request" "mode" "Lcom/example/cordon/cordon/LockMode;" .null := D14 (Or.inr (hw _ (List.mem_of_getElem? (i := 31) rfl))) (ty := (.object "com/example/cordon/cordon/LockMode")) (by decide)
            have F14_upgrade : Fld Z h14 oc "com/example/cordon/cordon/KeyEntry$Request" "upgrade" "Z" (.int (0 : Int32)) := D14 (Or.inr (hw _ (List.mem_of_getElem? (i := 33) rfl))) (ty := .boolean) (by decide)
            have F14_ticket : Fld Z h14 oc "com/example/cordon/cordon/KeyEntry$Request" "ticket" "J" (.long (0 : Int64)) := D14 (Or.inr (hw _ (List.mem_of_getElem? (i := 35) rfl))) (ty := .long) (by decide)
            refine OGo.st (B := T14.setTop (mkF m 125 #[.val (.int fl), .val (.long t1), .second, .val (.long t2), .second, .val (.long t3), .second, .val (.int ua), .val (.int ub), .val (.int uc), .val (.long t1), .second, .val (.long tb), .second, .val (.long tc), .second, .val (.ref oa), .val (.ref ob), .unset, .unset, .unset, .unset, .unset, .unset, .unset] [(.ref oc)])) st14 ?_
            refine OGo.st (B := T14.setTop (mkF m 126 #[.val (.int fl), .val (.long t1), .second, .val (.long t2), .second, .val (.long t3), .second, .val (.int ua), .val (.int ub), .val (.int uc), .val (.long t1), .second, .val (.long tb), .second, .val (.long tc), .second, .val (.ref oa), .val (.ref ob), .unset, .unset, .unset, .unset, .unset, .unset, .unset] [(.ref oc), (.ref oc)])) (fun _ kz => XS.dup X14.here hx rfl (hb hby at_125) rfl rfl kz) ?_
            refine OGo.st (B := T14.setTop (mkF m 127 #[.val (.int fl), .val (.long t1), .second, .val (.long t2), .second, .val (.long t3), .second, .val (.int ua), .val (.int ub), .val (.int uc), .val (.long t1), .second, .val (.long tb), .second, .val (.long tc), .second, .val (.ref oa), .val (.ref ob), .unset, .unset, .unset, .unset, .unset, .unset, .unset] [(.int fl), (.ref oc), (.ref oc)])) (fun _ kz => XS.iloadN X14.here hx rfl (hb hby at_126) rfl kz) ?_
            refine OGo.st (B := T14.setTop (mkF m 128 #[.val (.int fl), .val (.long t1), .second, .val (.long t2), .second, .val (.long t3), .second, .val (.int ua), .val (.int ub), .val (.int uc), .val (.long t1), .second, .val (.long tb), .second, .val (.long tc), .second, .val (.ref oa), .val (.ref ob), .unset, .unset, .unset, .unset, .unset, .unset, .unset] [(.int (2 : Int32)), (.int fl), (.ref oc), (.ref oc)])) (fun _ kz => XS.iconst X14.here hx rfl (hb hby at_127) kz) ?_
            refine OGo.st (B := T14.setTop (mkF m 129 #[.val (.int fl), .val (.long t1), .second, .val (.long t2), .second, .val (.long t3), .second, .val (.int ua), .val (.int ub), .val (.int uc), .val (.long t1), .second, .val (.long tb), .second, .val (.long tc), .second, .val (.ref oa), .val (.ref ob), .unset, .unset, .unset, .unset, .unset, .unset, .unset] [(.int (fl ^^^ (2 : Int32))), (.ref oc), (.ref oc)])) (fun _ kz => XS.ixor X14.here hx rfl (hb hby at_128) rfl kz) ?_
            obtain ⟨v15, T15, L15, X15, hQ15, st15⟩ := (rm1 l Z a0 hw (fl ^^^ (2 : Int32)) h14 n0 (Nat.le_trans Z0 K14.1) O14 ca cc S_high S_cache BX).static (W := 2) X14 hx hZ hown (hw _ (List.mem_of_getElem? (i := 3) rfl)) (hw _ (List.mem_of_getElem? (i := 4) rfl)) (hw _ (List.mem_of_getElem? (i := 5) rfl)) (hw _ (List.mem_of_getElem? (i := 6) rfl)) (by decide) (by decide) (by decide) e14 (by decide) (by decide) (g := (mkF m 129 #[.val (.int fl), .val (.long t1), .second, .val (.long t2), .second, .val (.long t3), .second, .val (.int ua), .val (.int ub), .val (.int uc), .val (.long t1), .second, .val (.long tb), .second, .val (.long tc), .second, .val (.ref oa), .val (.ref ob), .unset, .unset, .unset, .unset, .unset, .unset, .unset] [(.int (fl ^^^ (2 : Int32))), (.ref oc), (.ref oc)])) rfl (by rw [hml]; rfl) (argsL := [(.int (fl ^^^ (2 : Int32)))]) (rest := [(.ref oc), (.ref oc)]) rfl (lenOf pd_0 rfl) rfl (by show 2 * 0 + _ ≤ _; exact Nat.le_of_eq rfl) (hb hby at_129)
            obtain ⟨i15, rfl, N15q, J15⟩ := hQ15
            have N15 := Fr.app N13 N15q
            have K15 : Keep h0 T15.heap [] := K14.trans J15 all0
            have O15 := O14.keep J15 all0
            refine OGo.st (B := T15.setTop (mkF m 132 #[.val (.int fl), .val (.long t1), .second, .val (.long t2), .second, .val (.long t3), .second, .val (.int ua), .val (.int ub), .val (.int uc), .val (.long t1), .second, .val (.long tb), .second, .val (.long tc), .second, .val (.ref oa), .val (.ref ob), .unset, .unset, .unset, .unset, .unset, .unset, .unset] [(.ref i15), (.ref oc), (.ref oc)])) st15 ?_
            refine OGo.st (B := T15.setTop (mkF m 133 #[.val (.int fl), .val (.long t1), .second, .val (.long t2), .second, .val (.long t3), .second, .val (.int ua), .val (.int ub), .val (.int uc), .val (.long t1), .second, .val (.long tb), .second, .val (.long tc), .second, .val (.ref oa), .val (.ref ob), .unset, .unset, .unset, .unset, .unset, .unset, .unset] [(.int fl), (.ref i15), (.ref oc), (.ref oc)])) (fun _ kz => XS.iloadN X15.here hx rfl (hb hby at_132) rfl kz) ?_
            refine OGo.st (B := T15.setTop (mkF m 135 #[.val (.int fl), .val (.long t1), .second, .val (.long t2), .second, .val (.long t3), .second, .val (.int ua), .val (.int ub), .val (.int uc), .val (.long t1), .second, .val (.long tb), .second, .val (.long tc), .second, .val (.ref oa), .val (.ref ob), .unset, .unset, .unset, .unset, .unset, .unset, .unset] [(.int (11 : Int32)), (.int fl), (.ref i15), (.ref oc), (.ref oc)])) (fun _ kz => XS.bipush X15.here hx rfl (hb hby at_133) kz) ?_
            refine OGo.st (B := T15.setTop (mkF m 136 #[.val (.int fl), .val (.long t1), .second, .val (.long t2), .second, .val (.long t3), .second, .val (.int ua), .val (.int ub), .val (.int uc), .val (.long t1), .second, .val (.long tb), .second, .val (.long tc), .second, .val (.ref oa), .val (.ref ob), .unset, .unset, .unset, .unset, .unset, .unset, .unset] [(.int ((fl.toUInt32 >>> ((11 : Int32) &&& 31).toUInt32).toInt32)), (.ref i15), (.ref oc), (.ref oc)])) (fun _ kz => XS.iushr X15.here hx rfl (hb hby at_135) rfl kz) ?_
            obtain ⟨v16, T16, L16, X16, hQ16, st16⟩ := (rm2 l Z a0 hw ((fl.toUInt32 >>> ((11 : Int32) &&& 31).toUInt32).toInt32) w_INTENTION_SHARED w_INTENTION_EXCLUSIVE w_SHARED w_SHARED_INTENTION_EXCLUSIVE w_UPDATE w_EXCLUSIVE T15.heap n0 (S_INTENTION_SHARED.ext O15.2) (S_INTENTION_EXCLUSIVE.ext O15.2) (S_SHARED.ext O15.2) (S_SHARED_INTENTION_EXCLUSIVE.ext O15.2) (S_UPDATE.ext O15.2) (S_EXCLUSIVE.ext O15.2)).static (W := 3) X15 hx hZ hown (hw _ (List.mem_of_getElem? (i := 10) rfl)) (hw _ (List.mem_of_getElem? (i := 11) rfl)) (hw _ (List.mem_of_getElem? (i := 12) rfl)) (hw _ (List.mem_of_getElem? (i := 13) rfl)) (by decide) (by decide) (by decide) rfl (by decide) (by decide) (g := (mkF m 136 #[.val (.int fl), .val (.long t1), .second, .val (.long t2), .second, .val (.long t3), .second, .val (.int ua), .val (.int ub), .val (.int uc), .val (.long t1), .second, .val (.long tb), .second, .val (.long tc), .second, .val (.ref oa), .val (.ref ob), .unset, .unset, .unset, .unset, .unset, .unset, .unset] [(.int ((fl.toUInt32 >>> ((11 : Int32) &&& 31).toUInt32).toInt32)), (.ref i15), (.ref oc), (.ref oc)])) rfl (by rw [hml]; rfl) (argsL := [(.int ((fl.toUInt32 >>> ((11 : Int32) &&& 31).toUInt32).toInt32))]) (rest := [(.ref i15), (.ref oc), (.ref oc)]) rfl (lenOf pd_1 rfl) rfl (by show 2 * 0 + _ ≤ _; exact Nat.le_of_eq rfl) (hb hby at_136)
            obtain ⟨y16, rfl, N16q, e16⟩ := hQ16
            have N16 := Fr.app N15 N16q
            refine OGo.st (B := T16.setTop (mkF m 139 #[.val (.int fl), .val (.long t1), .second, .val (.long t2), .second, .val (.long t3), .second, .val (.int ua), .val (.int ub), .val (.int uc), .val (.long t1), .second, .val (.long tb), .second, .val (.long tc), .second, .val (.ref oa), .val (.ref ob), .unset, .unset, .unset, .unset, .unset, .unset, .unset] [(.ref y16), (.ref i15), (.ref oc), (.ref oc)])) st16 ?_
            refine OGo.st (B := T16.setTop (mkF m 141 #[.val (.int fl), .val (.long t1), .second, .val (.long t2), .second, .val (.long t3), .second, .val (.int ua), .val (.int ub), .val (.int uc), .val (.long t1), .second, .val (.long tb), .second, .val (.long tc), .second, .val (.ref oa), .val (.ref ob), .unset, .unset, .unset, .unset, .unset, .unset, .unset] [(.int uc), (.ref y16), (.ref i15), (.ref oc), (.ref oc)])) (fun _ kz => XS.iload X16.here hx rfl (hb hby at_139) rfl kz) ?_
            refine OGo.st (B := T16.setTop (mkF m 143 #[.val (.int fl), .val (.long t1), .second, .val (.long t2), .second, .val (.long t3), .second, .val (.int ua), .val (.int ub), .val (.int uc), .val (.long t1), .second, .val (.long tb), .second, .val (.long tc), .second, .val (.ref oa), .val (.ref ob), .unset, .unset, .unset, .unset, .unset, .unset, .unset] [(.long tc), (.int uc), (.ref y16), (.ref i15), (.ref oc), (.ref oc)])) (fun _ kz => XS.lload X16.here hx rfl (hb hby at_141) rfl kz) ?_
            obtain ⟨v17, T17, L17, X17, hQ17, st17⟩ := (rm3 l Z a0 hw oc i15 y16 uc tc T15.heap n0 (Nat.le_trans Z0 K15.1) h_uc (A14.keep J15) g_oc (F14_transaction.keep J15 nin0) (F14_mode.keep J15 nin0) (F14_upgrade.keep J15 nin0) (F14_ticket.keep J15 nin0)).init (W := 1) X16 hx hZ rfl hown (hw _ (List.mem_of_getElem? (i := 17) rfl)) (hw _ (List.mem_of_getElem? (i := 18) rfl)) (hw _ (List.mem_of_getElem? (i := 2) rfl)) (hw _ (List.mem_of_getElem? (i := 19) rfl)) (by decide) (by decide) (by decide) e16 (by decide) (by decide) (g := (mkF m 143 #[.val (.int fl), .val (.long t1), .second, .val (.long t2), .second, .val (.long t3), .second, .val (.int ua), .val (.int ub), .val (.int uc), .val (.long t1), .second, .val (.long tb), .second, .val (.long tc), .second, .val (.ref oa), .val (.ref ob), .unset, .unset, .unset, .unset, .unset, .unset, .unset] [(.long tc), (.int uc), (.ref y16), (.ref i15), (.ref oc), (.ref oc)])) rfl (by rw [hml]; rfl) (argsL := [(.ref i15), (.ref y16), (.int uc), (.long tc)]) (rest := [(.ref oc)]) rfl (lenOf pd_2 rfl) rfl (by show 2 * 0 + _ ≤ _; exact Nat.le_of_eq rfl) (hb hby at_143)
            obtain ⟨rfl, N17q, J17, Y17_0, Y17_1, Y17_2⟩ := hQ17
            have N17 := Fr.app N16 N17q
            have K17 : Keep h0 T17.heap [] := K15.trans J17 (allS (Or.inr sz_oc) all0)
            have O17 := O15.keep J17 (allS g_oc all0)
            refine OGo.st (B := T17.setTop (mkF m 146 #[.val (.int fl), .val (.long t1), .second, .val (.long t2), .second, .val (.long t3), .second, .val (.int ua), .val (.int ub), .val (.int uc), .val (.long t1), .second, .val (.long tb), .second, .val (.long tc), .second, .val (.ref oa), .val (.ref ob), .unset, .unset, .unset, .unset, .unset, .unset, .unset] [(.ref oc)])) st17 ?_
            refine OGo.st (B := T17.setTop (mkF m 148 #[.val (.int fl), .val (.long t1), .second, .val (.long t2), .second, .val (.long t3), .second, .val (.int ua), .val (.int ub), .val (.int uc), .val (.long t1), .second, .val (.long tb), .second, .val (.long tc), .second, .val (.ref oa), .val (.ref ob), .val (.ref oc), .unset, .unset, .unset, .unset, .unset, .unset] [])) (fun _ kz => XS.astore X17.here hx rfl (hb hby at_146) rfl rfl (l' := #[.val (.int fl), .val (.long t1), .second, .val (.long t2), .second, .val (.long t3), .second, .val (.int ua), .val (.int ub), .val (.int uc), .val (.long t1), .second, .val (.long tb), .second, .val (.long tc), .second, .val (.ref oa), .val (.ref ob), .val (.ref oc), .unset, .unset, .unset, .unset, .unset, .unset]) rfl kz) ?_
            refine OGo.st (B := T17.setTop (mkF m 150 #[.val (.int fl), .val (.long t1), .second, .val (.long t2), .second, .val (.long t3), .second, .val (.int ua), .val (.int ub), .val (.int uc), .val (.long t1), .second, .val (.long tb), .second, .val (.long tc), .second, .val (.ref oa), .val (.ref ob), .val (.ref oc), .unset, .unset, .unset, .unset, .unset, .unset] [(.ref oa)])) (fun _ kz => XS.aload X17.here hx rfl (hb hby at_148) rfl rfl kz) ?_
            refine OGo.st (B := T17.setTop (mkF m 152 #[.val (.int fl), .val (.long t1), .second, .val (.long t2), .second, .val (.long t3), .second, .val (.int ua), .val (.int ub), .val (.int uc), .val (.long t1), .second, .val (.long tb), .second, .val (.long tc), .second, .val (.ref oa), .val (.ref ob), .val (.ref oc), .unset, .unset, .unset, .unset, .unset, .unset] [(.ref ob), (.ref oa)])) (fun _ kz => XS.aload X17.here hx rfl (hb hby at_150) rfl rfl kz) ?_
            obtain ⟨v18, T18, L18, X18, hQ18, st18⟩ := (rm6 l Z a0 hw oa ob ua ub (own_av ua t1 ub tb) t1 tb T17.heap n0 h_ua ((((((Y9_1.ext E10).keep J11 nin0).keep J13 (ninS ne_oa_ob nin0)).ext E14).keep J15 nin0).keep J17 (ninS ne_oa_oc nin0)) (((Y13_1.ext E14).keep J15 nin0).keep J17 (ninS ne_ob_oc nin0)) ((((((Y9_2.ext E10).keep J11 nin0).keep J13 (ninS ne_oa_ob nin0)).ext E14).keep J15 nin0).keep J17 (ninS ne_oa_oc nin0)) (((Y13_2.ext E14).keep J15 nin0).keep J17 (ninS ne_ob_oc nin0)) (rfl)).virt (W := 0) X17 hx hZ hown (hw _ (List.mem_of_getElem? (i := 36) rfl)) (hw _ (List.mem_of_getElem? (i := 37) rfl)) (nf_sel hZ (hw _ (List.mem_of_getElem? (i := 39) rfl))) (hw _ (List.mem_of_getElem? (i := 39) rfl)) (hw _ (List.mem_of_getElem? (i := 38) rfl)) (hw _ (List.mem_of_getElem? (i := 2) rfl)) (hw _ (List.mem_of_getElem? (i := 40) rfl)) (by decide) (by decide) (by decide) rfl (by decide) (by decide) (g := (mkF m 152 #[.val (.int fl), .val (.long t1), .second, .val (.long t2), .second, .val (.long t3), .second, .val (.int ua), .val (.int ub), .val (.int uc), .val (.long t1), .second, .val (.long tb), .second, .val (.long tc), .second, .val (.ref oa), .val (.ref ob), .val (.ref oc), .unset, .unset, .unset, .unset, .unset, .unset] [(.ref ob), (.ref oa)])) rfl (by rw [hml]; rfl) ((((((Y9_0.ext E10).keep J11).keep J13).ext E14).keep J15).keep J17) (argsL := [(.ref ob)]) (rest := []) rfl (lenOf pd_4 rfl) rfl (by show 2 * 0 + _ ≤ _; exact Nat.le_of_eq rfl) (hb hby at_152)
            obtain ⟨rfl, N18q, e18⟩ := hQ18
            have N18 := Fr.app N17 N18q
            refine OGo.st (B := T18.setTop (mkF m 155 #[.val (.int fl), .val (.long t1), .second, .val (.long t2), .second, .val (.long t3), .second, .val (.int ua), .val (.int ub), .val (.int uc), .val (.long t1), .second, .val (.long tb), .second, .val (.long tc), .second, .val (.ref oa), .val (.ref ob), .val (.ref oc), .unset, .unset, .unset, .unset, .unset, .unset] [(.int (own_av ua t1 ub tb))])) st18 ?_
            refine OGo.st (B := T18.setTop (mkF m 157 #[.val (.int fl), .val (.long t1), .second, .val (.long t2), .second, .val (.long t3), .second, .val (.int ua), .val (.int ub), .val (.int uc), .val (.long t1), .second, .val (.long tb), .second, .val (.long tc), .second, .val (.ref oa), .val (.ref ob), .val (.ref oc), .val (.int (own_av ua t1 ub tb)), .unset, .unset, .unset, .unset, .unset] [])) (fun _ kz => XS.istore X18.here hx rfl (hb hby at_155) rfl (l' := #[.val (.int fl), .val (.long t1), .second, .val (.long t2), .second, .val (.long t3), .second, .val (.int ua), .val (.int ub), .val (.int uc), .val (.long t1), .second, .val (.long tb), .second, .val (.long tc), .second, .val (.ref oa), .val (.ref ob), .val (.ref oc), .val (.int (own_av ua t1 ub tb)), .unset, .unset, .unset, .unset, .unset]) rfl kz) ?_
            refine OGo.st (B := T18.setTop (mkF m 159 #[.val (.int fl), .val (.long t1), .second, .val (.long t2), .second, .val (.long t3), .second, .val (.int ua), .val (.int ub), .val (.int uc), .val (.long t1), .second, .val (.long tb), .second, .val (.long tc), .second, .val (.ref oa), .val (.ref ob), .val (.ref oc), .val (.int (own_av ua t1 ub tb)), .unset, .unset, .unset, .unset, .unset] [(.ref ob)])) (fun _ kz => XS.aload X18.here hx rfl (hb hby at_157) rfl rfl kz) ?_
            refine OGo.st (B := T18.setTop (mkF m 161 #[.val (.int fl), .val (.long t1), .second, .val (.long t2), .second, .val (.long t3), .second, .val (.int ua), .val (.int ub), .val (.int uc), .val (.long t1), .second, .val (.long tb), .second, .val (.long tc), .second, .val (.ref oa), .val (.ref ob), .val (.ref oc), .val (.int (own_av ua t1 ub tb)), .unset, .unset, .unset, .unset, .unset] [(.ref oa), (.ref ob)])) (fun _ kz => XS.aload X18.here hx rfl (hb hby at_159) rfl rfl kz) ?_
            obtain ⟨v19, T19, L19, X19, hQ19, st19⟩ := (rm6 l Z a0 hw ob oa ub ua (own_av ub tb ua t1) tb t1 T17.heap n0 h_ub (((Y13_1.ext E14).keep J15 nin0).keep J17 (ninS ne_ob_oc nin0)) ((((((Y9_1.ext E10).keep J11 nin0).keep J13 (ninS ne_oa_ob nin0)).ext E14).keep J15 nin0).keep J17 (ninS ne_oa_oc nin0)) (((Y13_2.ext E14).keep J15 nin0).keep J17 (ninS ne_ob_oc nin0)) ((((((Y9_2.ext E10).keep J11 nin0).keep J13 (ninS ne_oa_ob nin0)).ext E14).keep J15 nin0).keep J17 (ninS ne_oa_oc nin0)) (rfl)).virt (W := 0) X18 hx hZ hown (hw _ (List.mem_of_getElem? (i := 36) rfl)) (hw _ (List.mem_of_getElem? (i := 37) rfl)) (nf_sel hZ (hw _ (List.mem_of_getElem? (i := 39) rfl))) (hw _ (List.mem_of_getElem? (i := 39) rfl)) (hw _ (List.mem_of_getElem? (i := 38) rfl)) (hw _ (List.mem_of_getElem? (i := 2) rfl)) (hw _ (List.mem_of_getElem? (i := 40) rfl)) (by decide) (by decide) (by decide) e18 (by decide) (by decide) (g := (mkF m 161 #[.val (.int fl), .val (.long t1), .second, .val (.long t2), .second, .val (.long t3), .second, .val (.int ua), .val (.int ub), .val (.int uc), .val (.long t1), .second, .val (.long tb), .second, .val (.long tc), .second, .val (.ref oa), .val (.ref ob), .val (.ref oc), .val (.int (own_av ua t1 ub tb)), .unset, .unset, .unset, .unset, .unset] [(.ref oa), (.ref ob)])) rfl (by rw [hml]; rfl) (((Y13_0.ext E14).keep J15).keep J17) (argsL := [(.ref oa)]) (rest := []) rfl (lenOf pd_4 rfl) rfl (by show 2 * 0 + _ ≤ _; exact Nat.le_of_eq rfl) (hb hby at_161)
            obtain ⟨rfl, N19q, e19⟩ := hQ19
            have N19 := Fr.app N18 N19q
            refine OGo.st (B := T19.setTop (mkF m 164 #[.val (.int fl), .val (.long t1), .second, .val (.long t2), .second, .val (.long t3), .second, .val (.int ua), .val (.int ub), .val (.int uc), .val (.long t1), .second, .val (.long tb), .second, .val (.long tc), .second, .val (.ref oa), .val (.ref ob), .val (.ref oc), .val (.int (own_av ua t1 ub tb)), .unset, .unset, .unset, .unset, .unset] [(.int (own_av ub tb ua t1))])) st19 ?_
            refine OGo.st (B := T19.setTop (mkF m 166 #[.val (.int fl), .val (.long t1), .second, .val (.long t2), .second, .val (.long t3), .second, .val (.int ua), .val (.int ub), .val (.int uc), .val (.long t1), .second, .val (.long tb), .second, .val (.long tc), .second, .val (.ref oa), .val (.ref ob), .val (.ref oc), .val (.int (own_av ua t1 ub tb)), .val (.int (own_av ub tb ua t1)), .unset, .unset, .unset, .unset] [])) (fun _ kz => XS.istore X19.here hx rfl (hb hby at_164) rfl (l' := #[.val (.int fl), .val (.long t1), .second, .val (.long t2), .second, .val (.long t3), .second, .val (.int ua), .val (.int ub), .val (.int uc), .val (.long t1), .second, .val (.long tb), .second, .val (.long tc), .second, .val (.ref oa), .val (.ref ob), .val (.ref oc), .val (.int (own_av ua t1 ub tb)), .val (.int (own_av ub tb ua t1)), .unset, .unset, .unset, .unset]) rfl kz) ?_
            refine OGo.st (B := T19.setTop (mkF m 168 #[.val (.int fl), .val (.long t1), .second, .val (.long t2), .second, .val (.long t3), .second, .val (.int ua), .val (.int ub), .val (.int uc), .val (.long t1), .second, .val (.long tb), .second, .val (.long tc), .second, .val (.ref oa), .val (.ref ob), .val (.ref oc), .val (.int (own_av ua t1 ub tb)), .val (.int (own_av ub tb ua t1)), .unset, .unset, .unset, .unset] [(.ref oa)])) (fun _ kz => XS.aload X19.here hx rfl (hb hby at_166) rfl rfl kz) ?_
            refine OGo.st (B := T19.setTop (mkF m 170 #[.val (.int fl), .val (.long t1), .second, .val (.long t2), .second, .val (.long t3), .second, .val (.int ua), .val (.int ub), .val (.int uc), .val (.long t1), .second, .val (.long tb), .second, .val (.long tc), .second, .val (.ref oa), .val (.ref ob), .val (.ref oc), .val (.int (own_av ua t1 ub tb)), .val (.int (own_av ub tb ua t1)), .unset, .unset, .unset, .unset] [(.ref oa), (.ref oa)])) (fun _ kz => XS.aload X19.here hx rfl (hb hby at_168) rfl rfl kz) ?_
            obtain ⟨v20, T20, L20, X20, hQ20, st20⟩ := (rm6 l Z a0 hw oa oa ua ua (0 : Int32) t1 t1 T17.heap n0 h_ua ((((((Y9_1.ext E10).keep J11 nin0).keep J13 (ninS ne_oa_ob nin0)).ext E14).keep J15 nin0).keep J17 (ninS ne_oa_oc nin0)) ((((((Y9_1.ext E10).keep J11 nin0).keep J13 (ninS ne_oa_ob nin0)).ext E14).keep J15 nin0).keep J17 (ninS ne_oa_oc nin0)) ((((((Y9_2.ext E10).keep J11 nin0).keep J13 (ninS ne_oa_ob nin0)).ext E14).keep J15 nin0).keep J17 (ninS ne_oa_oc nin0)) ((((((Y9_2.ext E10).keep J11 nin0).keep J13 (ninS ne_oa_ob nin0)).ext E14).keep J15 nin0).keep J17 (ninS ne_oa_oc nin0)) (own_av0 _ _)).virt (W := 0) X19 hx hZ hown (hw _ (List.mem_of_getElem? (i := 36) rfl)) (hw _ (List.mem_of_getElem? (i := 37) rfl)) (nf_sel hZ (hw _ (List.mem_of_getElem? (i := 39) rfl))) (hw _ (List.mem_of_getElem? (i := 39) rfl)) (hw _ (List.mem_of_getElem? (i := 38) rfl)) (hw _ (List.mem_of_getElem? (i := 2) rfl)) (hw _ (List.mem_of_getElem? (i := 40) rfl)) (by decide) (by decide) (by decide) e19 (by decide) (by decide) (g := (mkF m 170 #[.val (.int fl), .val (.long t1), .second, .val (.long t2), .second, .val (.long t3), .second, .val (.int ua), .val (.int ub), .val (.int uc), .val (.long t1), .second, .val (.long tb), .second, .val (.long tc), .second, .val (.ref oa), .val (.ref ob), .val (.ref oc), .val (.int (own_av ua t1 ub tb)), .val (.int (own_av ub tb ua t1)), .unset, .unset, .unset, .unset] [(.ref oa), (.ref oa)])) rfl (by rw [hml]; rfl) ((((((Y9_0.ext E10).keep J11).keep J13).ext E14).keep J15).keep J17) (argsL := [(.ref oa)]) (rest := []) rfl (lenOf pd_4 rfl) rfl (by show 2 * 0 + _ ≤ _; exact Nat.le_of_eq rfl) (hb hby at_170)
            obtain ⟨rfl, N20q, e20⟩ := hQ20
            have N20 := Fr.app N19 N20q
            refine OGo.st (B := T20.setTop (mkF m 173 #[.val (.int fl), .val (.long t1), .second, .val (.long t2), .second, .val (.long t3), .second, .val (.int ua), .val (.int ub), .val (.int uc), .val (.long t1), .second, .val (.long tb), .second, .val (.long tc), .second, .val (.ref oa), .val (.ref ob), .val (.ref oc), .val (.int (own_av ua t1 ub tb)), .val (.int (own_av ub tb ua t1)), .unset, .unset, .unset, .unset] [(.int (0 : Int32))])) st20 ?_
            refine OGo.st (B := T20.setTop (mkF m 175 #[.val (.int fl), .val (.long t1), .second, .val (.long t2), .second, .val (.long t3), .second, .val (.int ua), .val (.int ub), .val (.int uc), .val (.long t1), .second, .val (.long tb), .second, .val (.long tc), .second, .val (.ref oa), .val (.ref ob), .val (.ref oc), .val (.int (own_av ua t1 ub tb)), .val (.int (own_av ub tb ua t1)), .val (.int (0 : Int32)), .unset, .unset, .unset] [])) (fun _ kz => XS.istore X20.here hx rfl (hb hby at_173) rfl (l' := #[.val (.int fl), .val (.long t1), .second, .val (.long t2), .second, .val (.long t3), .second, .val (.int ua), .val (.int ub), .val (.int uc), .val (.long t1), .second, .val (.long tb), .second, .val (.long tc), .second, .val (.ref oa), .val (.ref ob), .val (.ref oc), .val (.int (own_av ua t1 ub tb)), .val (.int (own_av ub tb ua t1)), .val (.int (0 : Int32)), .unset, .unset, .unset]) rfl kz) ?_
            refine OGo.st (B := T20.setTop (mkF m 177 #[.val (.int fl), .val (.long t1), .second, .val (.long t2), .second, .val (.long t3), .second, .val (.int ua), .val (.int ub), .val (.int uc), .val (.long t1), .second, .val (.long tb), .second, .val (.long tc), .second, .val (.ref oa), .val (.ref ob), .val (.ref oc), .val (.int (own_av ua t1 ub tb)), .val (.int (own_av ub tb ua t1)), .val (.int (0 : Int32)), .unset, .unset, .unset] [(.ref ob)])) (fun _ kz => XS.aload X20.here hx rfl (hb hby at_175) rfl rfl kz) ?_
            refine OGo.st (B := T20.setTop (mkF m 179 #[.val (.int fl), .val (.long t1), .second, .val (.long t2), .second, .val (.long t3), .second, .val (.int ua), .val (.int ub), .val (.int uc), .val (.long t1), .second, .val (.long tb), .second, .val (.long tc), .second, .val (.ref oa), .val (.ref ob), .val (.ref oc), .val (.int (own_av ua t1 ub tb)), .val (.int (own_av ub tb ua t1)), .val (.int (0 : Int32)), .unset, .unset, .unset] [(.ref oc), (.ref ob)])) (fun _ kz => XS.aload X20.here hx rfl (hb hby at_177) rfl rfl kz) ?_
            obtain ⟨v21, T21, L21, X21, hQ21, st21⟩ := (rm6 l Z a0 hw ob oc ub uc (own_av ub tb uc tc) tb tc T17.heap n0 h_ub (((Y13_1.ext E14).keep J15 nin0).keep J17 (ninS ne_ob_oc nin0)) Y17_1 (((Y13_2.ext E14).keep J15 nin0).keep J17 (ninS ne_ob_oc nin0)) Y17_2 (rfl)).virt (W := 0) X20 hx hZ hown (hw _ (List.mem_of_getElem? (i := 36) rfl)) (hw _ (List.mem_of_getElem? (i := 37) rfl)) (nf_sel hZ (hw _ (List.mem_of_getElem? (i := 39) rfl))) (hw _ (List.mem_of_getElem? (i := 39) rfl)) (hw _ (List.mem_of_getElem? (i := 38) rfl)) (hw _ (List.mem_of_getElem? (i := 2) rfl)) (hw _ (List.mem_of_getElem? (i := 40) rfl)) (by decide) (by decide) (by decide) e20 (by decide) (by decide) (g := (mkF m 179 #[.val (.int fl), .val (.long t1), .second, .val (.long t2), .second, .val (.long t3), .second, .val (.int ua), .val (.int ub), .val (.int uc), .val (.long t1), .second, .val (.long tb), .second, .val (.long tc), .second, .val (.ref oa), .val (.ref ob), .val (.ref oc), .val (.int (own_av ua t1 ub tb)), .val (.int (own_av ub tb ua t1)), .val (.int (0 : Int32)), .unset, .unset, .unset] [(.ref oc), (.ref ob)])) rfl (by rw [hml]; rfl) (((Y13_0.ext E14).keep J15).keep J17) (argsL := [(.ref oc)]) (rest := []) rfl (lenOf pd_4 rfl) rfl (by show 2 * 0 + _ ≤ _; exact Nat.le_of_eq rfl) (hb hby at_179)
            obtain ⟨rfl, N21q, e21⟩ := hQ21
            have N21 := Fr.app N20 N21q
            refine OGo.st (B := T21.setTop (mkF m 182 #[.val (.int fl), .val (.long t1), .second, .val (.long t2), .second, .val (.long t3), .second, .val (.int ua), .val (.int ub), .val (.int uc), .val (.long t1), .second, .val (.long tb), .second, .val (.long tc), .second, .val (.ref oa), .val (.ref ob), .val (.ref oc), .val (.int (own_av ua t1 ub tb)), .val (.int (own_av ub tb ua t1)), .val (.int (0 : Int32)), .unset, .unset, .unset] [(.int (own_av ub tb uc tc))])) st21 ?_
            refine OGo.st (B := T21.setTop (mkF m 184 #[.val (.int fl), .val (.long t1), .second, .val (.long t2), .second, .val (.long t3), .second, .val (.int ua), .val (.int ub), .val (.int uc), .val (.long t1), .second, .val (.long tb), .second, .val (.long tc), .second, .val (.ref oa), .val (.ref ob), .val (.ref oc), .val (.int (own_av ua t1 ub tb)), .val (.int (own_av ub tb ua t1)), .val (.int (0 : Int32)), .val (.int (own_av ub tb uc tc)), .unset, .unset] [])) (fun _ kz => XS.istore X21.here hx rfl (hb hby at_182) rfl (l' := #[.val (.int fl), .val (.long t1), .second, .val (.long t2), .second, .val (.long t3), .second, .val (.int ua), .val (.int ub), .val (.int uc), .val (.long t1), .second, .val (.long tb), .second, .val (.long tc), .second, .val (.ref oa), .val (.ref ob), .val (.ref oc), .val (.int (own_av ua t1 ub tb)), .val (.int (own_av ub tb ua t1)), .val (.int (0 : Int32)), .val (.int (own_av ub tb uc tc)), .unset, .unset]) rfl kz) ?_
            refine OGo.st (B := T21.setTop (mkF m 186 #[.val (.int fl), .val (.long t1), .second, .val (.long t2), .second, .val (.long t3), .second, .val (.int ua), .val (.int ub), .val (.int uc), .val (.long t1), .second, .val (.long tb), .second, .val (.long tc), .second, .val (.ref oa), .val (.ref ob), .val (.ref oc), .val (.int (own_av ua t1 ub tb)), .val (.int (own_av ub tb ua t1)), .val (.int (0 : Int32)), .val (.int (own_av ub tb uc tc)), .unset, .unset] [(.ref oa)])) (fun _ kz => XS.aload X21.here hx rfl (hb hby at_184) rfl rfl kz) ?_
            refine OGo.st (B := T21.setTop (mkF m 188 #[.val (.int fl), .val (.long t1), .second, .val (.long t2), .second, .val (.long t3), .second, .val (.int ua), .val (.int ub), .val (.int uc), .val (.long t1), .second, .val (.long tb), .second, .val (.long tc), .second, .val (.ref oa), .val (.ref ob), .val (.ref oc), .val (.int (own_av ua t1 ub tb)), .val (.int (own_av ub tb ua t1)), .val (.int (0 : Int32)), .val (.int (own_av ub tb uc tc)), .unset, .unset] [(.ref oc), (.ref oa)])) (fun _ kz => XS.aload X21.here hx rfl (hb hby at_186) rfl rfl kz) ?_
            obtain ⟨v22, T22, L22, X22, hQ22, st22⟩ := (rm6 l Z a0 hw oa oc ua uc (own_av ua t1 uc tc) t1 tc T17.heap n0 h_ua ((((((Y9_1.ext E10).keep J11 nin0).keep J13 (ninS ne_oa_ob nin0)).ext E14).keep J15 nin0).keep J17 (ninS ne_oa_oc nin0)) Y17_1 ((((((Y9_2.ext E10).keep J11 nin0).keep J13 (ninS ne_oa_ob nin0)).ext E14).keep J15 nin0).keep J17 (ninS ne_oa_oc nin0)) Y17_2 (rfl)).virt (W := 0) X21 hx hZ hown (hw _ (List.mem_of_getElem? (i := 36) rfl)) (hw _ (List.mem_of_getElem? (i := 37) rfl)) (nf_sel hZ (hw _ (List.mem_of_getElem? (i := 39) rfl))) (hw _ (List.mem_of_getElem? (i := 39) rfl)) (hw _ (List.mem_of_getElem? (i := 38) rfl)) (hw _ (List.mem_of_getElem? (i := 2) rfl)) (hw _ (List.mem_of_getElem? (i := 40) rfl)) (by decide) (by decide) (by decide) e21 (by decide) (by decide) (g := (mkF m 188 #[.val (.int fl), .val (.long t1), .second, .val (.long t2), .second, .val (.long t3), .second, .val (.int ua), .val (.int ub), .val (.int uc), .val (.long t1), .second, .val (.long tb), .second, .val (.long tc), .second, .val (.ref oa), .val (.ref ob), .val (.ref oc), .val (.int (own_av ua t1 ub tb)), .val (.int (own_av ub tb ua t1)), .val (.int (0 : Int32)), .val (.int (own_av ub tb uc tc)), .unset, .unset] [(.ref oc), (.ref oa)])) rfl (by rw [hml]; rfl) ((((((Y9_0.ext E10).keep J11).keep J13).ext E14).keep J15).keep J17) (argsL := [(.ref oc)]) (rest := []) rfl (lenOf pd_4 rfl) rfl (by show 2 * 0 + _ ≤ _; exact Nat.le_of_eq rfl) (hb hby at_188)
            obtain ⟨rfl, N22q, e22⟩ := hQ22
            have N22 := Fr.app N21 N22q
            refine OGo.st (B := T22.setTop (mkF m 191 #[.val (.int fl), .val (.long t1), .second, .val (.long t2), .second, .val (.long t3), .second, .val (.int ua), .val (.int ub), .val (.int uc), .val (.long t1), .second, .val (.long tb), .second, .val (.long tc), .second, .val (.ref oa), .val (.ref ob), .val (.ref oc), .val (.int (own_av ua t1 ub tb)), .val (.int (own_av ub tb ua t1)), .val (.int (0 : Int32)), .val (.int (own_av ub tb uc tc)), .unset, .unset] [(.int (own_av ua t1 uc tc))])) st22 ?_
            refine OGo.st (B := T22.setTop (mkF m 193 #[.val (.int fl), .val (.long t1), .second, .val (.long t2), .second, .val (.long t3), .second, .val (.int ua), .val (.int ub), .val (.int uc), .val (.long t1), .second, .val (.long tb), .second, .val (.long tc), .second, .val (.ref oa), .val (.ref ob), .val (.ref oc), .val (.int (own_av ua t1 ub tb)), .val (.int (own_av ub tb ua t1)), .val (.int (0 : Int32)), .val (.int (own_av ub tb uc tc)), .val (.int (own_av ua t1 uc tc)), .unset] [])) (fun _ kz => XS.istore X22.here hx rfl (hb hby at_191) rfl (l' := #[.val (.int fl), .val (.long t1), .second, .val (.long t2), .second, .val (.long t3), .second, .val (.int ua), .val (.int ub), .val (.int uc), .val (.long t1), .second, .val (.long tb), .second, .val (.long tc), .second, .val (.ref oa), .val (.ref ob), .val (.ref oc), .val (.int (own_av ua t1 ub tb)), .val (.int (own_av ub tb ua t1)), .val (.int (0 : Int32)), .val (.int (own_av ub tb uc tc)), .val (.int (own_av ua t1 uc tc)), .unset]) rfl kz) ?_
            refine OGo.st (B := T22.setTop (mkF m 195 #[.val (.int fl), .val (.long t1), .second, .val (.long t2), .second, .val (.long t3), .second, .val (.int ua), .val (.int ub), .val (.int uc), .val (.long t1), .second, .val (.long tb), .second, .val (.long tc), .second, .val (.ref oa), .val (.ref ob), .val (.ref oc), .val (.int (own_av ua t1 ub tb)), .val (.int (own_av ub tb ua t1)), .val (.int (0 : Int32)), .val (.int (own_av ub tb uc tc)), .val (.int (own_av ua t1 uc tc)), .unset] [(.int (own_av ua t1 ub tb))])) (fun _ kz => XS.iload X22.here hx rfl (hb hby at_193) rfl kz) ?_
            refine OGo.st (B := T22.setTop (mkF m 197 #[.val (.int fl), .val (.long t1), .second, .val (.long t2), .second, .val (.long t3), .second, .val (.int ua), .val (.int ub), .val (.int uc), .val (.long t1), .second, .val (.long tb), .second, .val (.long tc), .second, .val (.ref oa), .val (.ref ob), .val (.ref oc), .val (.int (own_av ua t1 ub tb)), .val (.int (own_av ub tb ua t1)), .val (.int (0 : Int32)), .val (.int (own_av ub tb uc tc)), .val (.int (own_av ua t1 uc tc)), .unset] [(.int ua), (.int (own_av ua t1 ub tb))])) (fun _ kz => XS.iload X22.here hx rfl (hb hby at_195) rfl kz) ?_
            refine OGo.st (B := T22.setTop (mkF m 199 #[.val (.int fl), .val (.long t1), .second, .val (.long t2), .second, .val (.long t3), .second, .val (.int ua), .val (.int ub), .val (.int uc), .val (.long t1), .second, .val (.long tb), .second, .val (.long tc), .second, .val (.ref oa), .val (.ref ob), .val (.ref oc), .val (.int (own_av ua t1 ub tb)), .val (.int (own_av ub tb ua t1)), .val (.int (0 : Int32)), .val (.int (own_av ub tb uc tc)), .val (.int (own_av ua t1 uc tc)), .unset] [(.long t1), (.int ua), (.int (own_av ua t1 ub tb))])) (fun _ kz => XS.lload X22.here hx rfl (hb hby at_197) rfl kz) ?_
            refine OGo.st (B := T22.setTop (mkF m 201 #[.val (.int fl), .val (.long t1), .second, .val (.long t2), .second, .val (.long t3), .second, .val (.int ua), .val (.int ub), .val (.int uc), .val (.long t1), .second, .val (.long tb), .second, .val (.long tc), .second, .val (.ref oa), .val (.ref ob), .val (.ref oc), .val (.int (own_av ua t1 ub tb)), .val (.int (own_av ub tb ua t1)), .val (.int (0 : Int32)), .val (.int (own_av ub tb uc tc)), .val (.int (own_av ua t1 uc tc)), .unset] [(.int ub), (.long t1), (.int ua), (.int (own_av ua t1 ub tb))])) (fun _ kz => XS.iload X22.here hx rfl (hb hby at_199) rfl kz) ?_
            refine OGo.st (B := T22.setTop (mkF m 203 #[.val (.int fl), .val (.long t1), .second, .val (.long t2), .second, .val (.long t3), .second, .val (.int ua), .val (.int ub), .val (.int uc), .val (.long t1), .second, .val (.long tb), .second, .val (.long tc), .second, .val (.ref oa), .val (.ref ob), .val (.ref oc), .val (.int (own_av ua t1 ub tb)), .val (.int (own_av ub tb ua t1)), .val (.int (0 : Int32)), .val (.int (own_av ub tb uc tc)), .val (.int (own_av ua t1 uc tc)), .unset] [(.long tb), (.int ub), (.long t1), (.int ua), (.int (own_av ua t1 ub tb))])) (fun _ kz => XS.lload X22.here hx rfl (hb hby at_201) rfl kz) ?_
            obtain ⟨v23, T23, L23, X23, hQ23, st23⟩ := (rm7 l Z a0 hw ua ub (own_av ua t1 ub tb) t1 tb T17.heap n0 h_ua h_ub rfl).static (W := 1) X22 hx hZ hown (hw _ (List.mem_of_getElem? (i := 41) rfl)) (hw _ (List.mem_of_getElem? (i := 42) rfl)) (hw _ (List.mem_of_getElem? (i := 12) rfl)) (hw _ (List.mem_of_getElem? (i := 43) rfl)) (by decide) (by decide) (by decide) e22 (by decide) (by decide) (g := (mkF m 203 #[.val (.int fl), .val (.long t1), .second, .val (.long t2), .second, .val (.long t3), .second, .val (.int ua), .val (.int ub), .val (.int uc), .val (.long t1), .second, .val (.long tb), .second, .val (.long tc), .second, .val (.ref oa), .val (.ref ob), .val (.ref oc), .val (.int (own_av ua t1 ub tb)), .val (.int (own_av ub tb ua t1)), .val (.int (0 : Int32)), .val (.int (own_av ub tb uc tc)), .val (.int (own_av ua t1 uc tc)), .unset] [(.long tb), (.int ub), (.long t1), (.int ua), (.int (own_av ua t1 ub tb))])) rfl (by rw [hml]; rfl) (argsL := [(.int ua), (.long t1), (.int ub), (.long tb)]) (rest := [(.int (own_av ua t1 ub tb))]) rfl (lenOf pd_5 rfl) rfl (by show 2 * 0 + _ ≤ _; exact Nat.le_of_eq rfl) (hb hby at_203)
            obtain ⟨rfl, N23q, e23⟩ := hQ23
            have N23 := Fr.app N22 N23q
            refine OGo.st (B := T23.setTop (mkF m 206 #[.val (.int fl), .val (.long t1), .second, .val (.long t2), .second, .val (.long t3), .second, .val (.int ua), .val (.int ub), .val (.int uc), .val (.long t1), .second, .val (.long tb), .second, .val (.long tc), .second, .val (.ref oa), .val (.ref ob), .val (.ref oc), .val (.int (own_av ua t1 ub tb)), .val (.int (own_av ub tb ua t1)), .val (.int (0 : Int32)), .val (.int (own_av ub tb uc tc)), .val (.int (own_av ua t1 uc tc)), .unset] [(.int (own_av ua t1 ub tb)), (.int (own_av ua t1 ub tb))])) st23 ?_
            refine OGo.st (B := T23.setTop (mkF m 209 #[.val (.int fl), .val (.long t1), .second, .val (.long t2), .second, .val (.long t3), .second, .val (.int ua), .val (.int ub), .val (.int uc), .val (.long t1), .second, .val (.long tb), .second, .val (.long tc), .second, .val (.ref oa), .val (.ref ob), .val (.ref oc), .val (.int (own_av ua t1 ub tb)), .val (.int (own_av ub tb ua t1)), .val (.int (0 : Int32)), .val (.int (own_av ub tb uc tc)), .val (.int (own_av ua t1 uc tc)), .unset] [])) (fun _ kz => XS.icmpNo X23.here hx rfl (hb hby at_206) rfl (teq rfl).2 kz) ?_
            refine OGo.st (B := T23.setTop (mkF m 211 #[.val (.int fl), .val (.long t1), .second, .val (.long t2), .second, .val (.long t3), .second, .val (.int ua), .val (.int ub), .val (.int uc), .val (.long t1), .second, .val (.long tb), .second, .val (.long tc), .second, .val (.ref oa), .val (.ref ob), .val (.ref oc), .val (.int (own_av ua t1 ub tb)), .val (.int (own_av ub tb ua t1)), .val (.int (0 : Int32)), .val (.int (own_av ub tb uc tc)), .val (.int (own_av ua t1 uc tc)), .unset] [(.int (own_av ub tb ua t1))])) (fun _ kz => XS.iload X23.here hx rfl (hb hby at_209) rfl kz) ?_
            refine OGo.st (B := T23.setTop (mkF m 213 #[.val (.int fl), .val (.long t1), .second, .val (.long t2), .second, .val (.long t3), .second, .val (.int ua), .val (.int ub), .val (.int uc), .val (.long t1), .second, .val (.long tb), .second, .val (.long tc), .second, .val (.ref oa), .val (.ref ob), .val (.ref oc), .val (.int (own_av ua t1 ub tb)), .val (.int (own_av ub tb ua t1)), .val (.int (0 : Int32)), .val (.int (own_av ub tb uc tc)), .val (.int (own_av ua t1 uc tc)), .unset] [(.int ub), (.int (own_av ub tb ua t1))])) (fun _ kz => XS.iload X23.here hx rfl (hb hby at_211) rfl kz) ?_
            refine OGo.st (B := T23.setTop (mkF m 215 #[.val (.int fl), .val (.long t1), .second, .val (.long t2), .second, .val (.long t3), .second, .val (.int ua), .val (.int ub), .val (.int uc), .val (.long t1), .second, .val (.long tb), .second, .val (.long tc), .second, .val (.ref oa), .val (.ref ob), .val (.ref oc), .val (.int (own_av ua t1 ub tb)), .val (.int (own_av ub tb ua t1)), .val (.int (0 : Int32)), .val (.int (own_av ub tb uc tc)), .val (.int (own_av ua t1 uc tc)), .unset] [(.long tb), (.int ub), (.int (own_av ub tb ua t1))])) (fun _ kz => XS.lload X23.here hx rfl (hb hby at_213) rfl kz) ?_
            refine OGo.st (B := T23.setTop (mkF m 217 #[.val (.int fl), .val (.long t1), .second, .val (.long t2), .second, .val (.long t3), .second, .val (.int ua), .val (.int ub), .val (.int uc), .val (.long t1), .second, .val (.long tb), .second, .val (.long tc), .second, .val (.ref oa), .val (.ref ob), .val (.ref oc), .val (.int (own_av ua t1 ub tb)), .val (.int (own_av ub tb ua t1)), .val (.int (0 : Int32)), .val (.int (own_av ub tb uc tc)), .val (.int (own_av ua t1 uc tc)), .unset] [(.int ua), (.long tb), (.int ub), (.int (own_av ub tb ua t1))])) (fun _ kz => XS.iload X23.here hx rfl (hb hby at_215) rfl kz) ?_
            refine OGo.st (B := T23.setTop (mkF m 219 #[.val (.int fl), .val (.long t1), .second, .val (.long t2), .second, .val (.long t3), .second, .val (.int ua), .val (.int ub), .val (.int uc), .val (.long t1), .second, .val (.long tb), .second, .val (.long tc), .second, .val (.ref oa), .val (.ref ob), .val (.ref oc), .val (.int (own_av ua t1 ub tb)), .val (.int (own_av ub tb ua t1)), .val (.int (0 : Int32)), .val (.int (own_av ub tb uc tc)), .val (.int (own_av ua t1 uc tc)), .unset] [(.long t1), (.int ua), (.long tb), (.int ub), (.int (own_av ub tb ua t1))])) (fun _ kz => XS.lload X23.here hx rfl (hb hby at_217) rfl kz) ?_
            obtain ⟨v24, T24, L24, X24, hQ24, st24⟩ := (rm7 l Z a0 hw ub ua (own_av ub tb ua t1) tb t1 T17.heap n0 h_ub h_ua rfl).static (W := 1) X23 hx hZ hown (hw _ (List.mem_of_getElem? (i := 41) rfl)) (hw _ (List.mem_of_getElem? (i := 42) rfl)) (hw _ (List.mem_of_getElem? (i := 12) rfl)) (hw _ (List.mem_of_getElem? (i := 43) rfl)) (by decide) (by decide) (by decide) e23 (by decide) (by decide) (g := (mkF m 219 #[.val (.int fl), .val (.long t1), .second, .val (.long t2), .second, .val (.long t3), .second, .val (.int ua), .val (.int ub), .val (.int uc), .val (.long t1), .second, .val (.long tb), .second, .val (.long tc), .second, .val (.ref oa), .val (.ref ob), .val (.ref oc), .val (.int (own_av ua t1 ub tb)), .val (.int (own_av ub tb ua t1)), .val (.int (0 : Int32)), .val (.int (own_av ub tb uc tc)), .val (.int (own_av ua t1 uc tc)), .unset] [(.long t1), (.int ua), (.long tb), (.int ub), (.int (own_av ub tb ua t1))])) rfl (by rw [hml]; rfl) (argsL := [(.int ub), (.long tb), (.int ua), (.long t1)]) (rest := [(.int (own_av ub tb ua t1))]) rfl (lenOf pd_5 rfl) rfl (by show 2 * 0 + _ ≤ _; exact Nat.le_of_eq rfl) (hb hby at_219)
            obtain ⟨rfl, N24q, e24⟩ := hQ24
            have N24 := Fr.app N23 N24q
            refine OGo.st (B := T24.setTop (mkF m 222 #[.val (.int fl), .val (.long t1), .second, .val (.long t2), .second, .val (.long t3), .second, .val (.int ua), .val (.int ub), .val (.int uc), .val (.long t1), .second, .val (.long tb), .second, .val (.long tc), .second, .val (.ref oa), .val (.ref ob), .val (.ref oc), .val (.int (own_av ua t1 ub tb)), .val (.int (own_av ub tb ua t1)), .val (.int (0 : Int32)), .val (.int (own_av ub tb uc tc)), .val (.int (own_av ua t1 uc tc)), .unset] [(.int (own_av ub tb ua t1)), (.int (own_av ub tb ua t1))])) st24 ?_
            refine OGo.st (B := T24.setTop (mkF m 225 #[.val (.int fl), .val (.long t1), .second, .val (.long t2), .second, .val (.long t3), .second, .val (.int ua), .val (.int ub), .val (.int uc), .val (.long t1), .second, .val (.long tb), .second, .val (.long tc), .second, .val (.ref oa), .val (.ref ob), .val (.ref oc), .val (.int (own_av ua t1 ub tb)), .val (.int (own_av ub tb ua t1)), .val (.int (0 : Int32)), .val (.int (own_av ub tb uc tc)), .val (.int (own_av ua t1 uc tc)), .unset] [])) (fun _ kz => XS.icmpNo X24.here hx rfl (hb hby at_222) rfl (teq rfl).2 kz) ?_
            refine OGo.st (B := T24.setTop (mkF m 227 #[.val (.int fl), .val (.long t1), .second, .val (.long t2), .second, .val (.long t3), .second, .val (.int ua), .val (.int ub), .val (.int uc), .val (.long t1), .second, .val (.long tb), .second, .val (.long tc), .second, .val (.ref oa), .val (.ref ob), .val (.ref oc), .val (.int (own_av ua t1 ub tb)), .val (.int (own_av ub tb ua t1)), .val (.int (0 : Int32)), .val (.int (own_av ub tb uc tc)), .val (.int (own_av ua t1 uc tc)), .unset] [(.int (own_av ub tb uc tc))])) (fun _ kz => XS.iload X24.here hx rfl (hb hby at_225) rfl kz) ?_
            refine OGo.st (B := T24.setTop (mkF m 229 #[.val (.int fl), .val (.long t1), .second, .val (.long t2), .second, .val (.long t3), .second, .val (.int ua), .val (.int ub), .val (.int uc), .val (.long t1), .second, .val (.long tb), .second, .val (.long tc), .second, .val (.ref oa), .val (.ref ob), .val (.ref oc), .val (.int (own_av ua t1 ub tb)), .val (.int (own_av ub tb ua t1)), .val (.int (0 : Int32)), .val (.int (own_av ub tb uc tc)), .val (.int (own_av ua t1 uc tc)), .unset] [(.int ub), (.int (own_av ub tb uc tc))])) (fun _ kz => XS.iload X24.here hx rfl (hb hby at_227) rfl kz) ?_
            refine OGo.st (B := T24.setTop (mkF m 231 #[.val (.int fl), .val (.long t1), .second, .val (.long t2), .second, .val (.long t3), .second, .val (.int ua), .val (.int ub), .val (.int uc), .val (.long t1), .second, .val (.long tb), .second, .val (.long tc), .second, .val (.ref oa), .val (.ref ob), .val (.ref oc), .val (.int (own_av ua t1 ub tb)), .val (.int (own_av ub tb ua t1)), .val (.int (0 : Int32)), .val (.int (own_av ub tb uc tc)), .val (.int (own_av ua t1 uc tc)), .unset] [(.long tb), (.int ub), (.int (own_av ub tb uc tc))])) (fun _ kz => XS.lload X24.here hx rfl (hb hby at_229) rfl kz) ?_
            refine OGo.st (B := T24.setTop (mkF m 233 #[.val (.int fl), .val (.long t1), .second, .val (.long t2), .second, .val (.long t3), .second, .val (.int ua), .val (.int ub), .val (.int uc), .val (.long t1), .second, .val (.long tb), .second, .val (.long tc), .second, .val (.ref oa), .val (.ref ob), .val (.ref oc), .val (.int (own_av ua t1 ub tb)), .val (.int (own_av ub tb ua t1)), .val (.int (0 : Int32)), .val (.int (own_av ub tb uc tc)), .val (.int (own_av ua t1 uc tc)), .unset] [(.int uc), (.long tb), (.int ub), (.int (own_av ub tb uc tc))])) (fun _ kz => XS.iload X24.here hx rfl (hb hby at_231) rfl kz) ?_
            refine OGo.st (B := T24.setTop (mkF m 235 #[.val (.int fl), .val (.long t1), .second, .val (.long t2), .second, .val (.long t3), .second, .val (.int ua), .val (.int ub), .val (.int uc), .val (.long t1), .second, .val (.long tb), .second, .val (.long tc), .second, .val (.ref oa), .val (.ref ob), .val (.ref oc), .val (.int (own_av ua t1 ub tb)), .val (.int (own_av ub tb ua t1)), .val (.int (0 : Int32)), .val (.int (own_av ub tb uc tc)), .val (.int (own_av ua t1 uc tc)), .unset] [(.long tc), (.int uc), (.long tb), (.int ub), (.int (own_av ub tb uc tc))])) (fun _ kz => XS.lload X24.here hx rfl (hb hby at_233) rfl kz) ?_
            obtain ⟨v25, T25, L25, X25, hQ25, st25⟩ := (rm7 l Z a0 hw ub uc (own_av ub tb uc tc) tb tc T17.heap n0 h_ub h_uc rfl).static (W := 1) X24 hx hZ hown (hw _ (List.mem_of_getElem? (i := 41) rfl)) (hw _ (List.mem_of_getElem? (i := 42) rfl)) (hw _ (List.mem_of_getElem? (i := 12) rfl)) (hw _ (List.mem_of_getElem? (i := 43) rfl)) (by decide) (by decide) (by decide) e24 (by decide) (by decide) (g := (mkF m 235 #[.val (.int fl), .val (.long t1), .second, .val (.long t2), .second, .val (.long t3), .second, .val (.int ua), .val (.int ub), .val (.int uc), .val (.long t1), .second, .val (.long tb), .second, .val (.long tc), .second, .val (.ref oa), .val (.ref ob), .val (.ref oc), .val (.int (own_av ua t1 ub tb)), .val (.int (own_av ub tb ua t1)), .val (.int (0 : Int32)), .val (.int (own_av ub tb uc tc)), .val (.int (own_av ua t1 uc tc)), .unset] [(.long tc), (.int uc), (.long tb), (.int ub), (.int (own_av ub tb uc tc))])) rfl (by rw [hml]; rfl) (argsL := [(.int ub), (.long tb), (.int uc), (.long tc)]) (rest := [(.int (own_av ub tb uc tc))]) rfl (lenOf pd_5 rfl) rfl (by show 2 * 0 + _ ≤ _; exact Nat.le_of_eq rfl) (hb hby at_235)
            obtain ⟨rfl, N25q, e25⟩ := hQ25
            have N25 := Fr.app N24 N25q
            refine OGo.st (B := T25.setTop (mkF m 238 #[.val (.int fl), .val (.long t1), .second, .val (.long t2), .second, .val (.long t3), .second, .val (.int ua), .val (.int ub), .val (.int uc), .val (.long t1), .second, .val (.long tb), .second, .val (.long tc), .second, .val (.ref oa), .val (.ref ob), .val (.ref oc), .val (.int (own_av ua t1 ub tb)), .val (.int (own_av ub tb ua t1)), .val (.int (0 : Int32)), .val (.int (own_av ub tb uc tc)), .val (.int (own_av ua t1 uc tc)), .unset] [(.int (own_av ub tb uc tc)), (.int (own_av ub tb uc tc))])) st25 ?_
            refine OGo.st (B := T25.setTop (mkF m 241 #[.val (.int fl), .val (.long t1), .second, .val (.long t2), .second, .val (.long t3), .second, .val (.int ua), .val (.int ub), .val (.int uc), .val (.long t1), .second, .val (.long tb), .second, .val (.long tc), .second, .val (.ref oa), .val (.ref ob), .val (.ref oc), .val (.int (own_av ua t1 ub tb)), .val (.int (own_av ub tb ua t1)), .val (.int (0 : Int32)), .val (.int (own_av ub tb uc tc)), .val (.int (own_av ua t1 uc tc)), .unset] [])) (fun _ kz => XS.icmpNo X25.here hx rfl (hb hby at_238) rfl (teq rfl).2 kz) ?_
            refine OGo.st (B := T25.setTop (mkF m 243 #[.val (.int fl), .val (.long t1), .second, .val (.long t2), .second, .val (.long t3), .second, .val (.int ua), .val (.int ub), .val (.int uc), .val (.long t1), .second, .val (.long tb), .second, .val (.long tc), .second, .val (.ref oa), .val (.ref ob), .val (.ref oc), .val (.int (own_av ua t1 ub tb)), .val (.int (own_av ub tb ua t1)), .val (.int (0 : Int32)), .val (.int (own_av ub tb uc tc)), .val (.int (own_av ua t1 uc tc)), .unset] [(.int (own_av ua t1 uc tc))])) (fun _ kz => XS.iload X25.here hx rfl (hb hby at_241) rfl kz) ?_
            refine OGo.st (B := T25.setTop (mkF m 245 #[.val (.int fl), .val (.long t1), .second, .val (.long t2), .second, .val (.long t3), .second, .val (.int ua), .val (.int ub), .val (.int uc), .val (.long t1), .second, .val (.long tb), .second, .val (.long tc), .second, .val (.ref oa), .val (.ref ob), .val (.ref oc), .val (.int (own_av ua t1 ub tb)), .val (.int (own_av ub tb ua t1)), .val (.int (0 : Int32)), .val (.int (own_av ub tb uc tc)), .val (.int (own_av ua t1 uc tc)), .unset] [(.int ua), (.int (own_av ua t1 uc tc))])) (fun _ kz => XS.iload X25.here hx rfl (hb hby at_243) rfl kz) ?_
            refine OGo.st (B := T25.setTop (mkF m 247 #[.val (.int fl), .val (.long t1), .second, .val (.long t2), .second, .val (.long t3), .second, .val (.int ua), .val (.int ub), .val (.int uc), .val (.long t1), .second, .val (.long tb), .second, .val (.long tc), .second, .val (.ref oa), .val (.ref ob), .val (.ref oc), .val (.int (own_av ua t1 ub tb)), .val (.int (own_av ub tb ua t1)), .val (.int (0 : Int32)), .val (.int (own_av ub tb uc tc)), .val (.int (own_av ua t1 uc tc)), .unset] [(.long t1), (.int ua), (.int (own_av ua t1 uc tc))])) (fun _ kz => XS.lload X25.here hx rfl (hb hby at_245) rfl kz) ?_
            refine OGo.st (B := T25.setTop (mkF m 249 #[.val (.int fl), .val (.long t1), .second, .val (.long t2), .second, .val (.long t3), .second, .val (.int ua), .val (.int ub), .val (.int uc), .val (.long t1), .second, .val (.long tb), .second, .val (.long tc), .second, .val (.ref oa), .val (.ref ob), .val (.ref oc), .val (.int (own_av ua t1 ub tb)), .val (.int (own_av ub tb ua t1)), .val (.int (0 : Int32)), .val (.int (own_av ub tb uc tc)), .val (.int (own_av ua t1 uc tc)), .unset] [(.int uc), (.long t1), (.int ua), (.int (own_av ua t1 uc tc))])) (fun _ kz => XS.iload X25.here hx rfl (hb hby at_247) rfl kz) ?_
            refine OGo.st (B := T25.setTop (mkF m 251 #[.val (.int fl), .val (.long t1), .second, .val (.long t2), .second, .val (.long t3), .second, .val (.int ua), .val (.int ub), .val (.int uc), .val (.long t1), .second, .val (.long tb), .second, .val (.long tc), .second, .val (.ref oa), .val (.ref ob), .val (.ref oc), .val (.int (own_av ua t1 ub tb)), .val (.int (own_av ub tb ua t1)), .val (.int (0 : Int32)), .val (.int (own_av ub tb uc tc)), .val (.int (own_av ua t1 uc tc)), .unset] [(.long tc), (.int uc), (.long t1), (.int ua), (.int (own_av ua t1 uc tc))])) (fun _ kz => XS.lload X25.here hx rfl (hb hby at_249) rfl kz) ?_
            obtain ⟨v26, T26, L26, X26, hQ26, st26⟩ := (rm7 l Z a0 hw ua uc (own_av ua t1 uc tc) t1 tc T17.heap n0 h_ua h_uc rfl).static (W := 1) X25 hx hZ hown (hw _ (List.mem_of_getElem? (i := 41) rfl)) (hw _ (List.mem_of_getElem? (i := 42) rfl)) (hw _ (List.mem_of_getElem? (i := 12) rfl)) (hw _ (List.mem_of_getElem? (i := 43) rfl)) (by decide) (by decide) (by decide) e25 (by decide) (by decide) (g := (mkF m 251 #[.val (.int fl), .val (.long t1), .second, .val (.long t2), .second, .val (.long t3), .second, .val (.int ua), .val (.int ub), .val (.int uc), .val (.long t1), .second, .val (.long tb), .second, .val (.long tc), .second, .val (.ref oa), .val (.ref ob), .val (.ref oc), .val (.int (own_av ua t1 ub tb)), .val (.int (own_av ub tb ua t1)), .val (.int (0 : Int32)), .val (.int (own_av ub tb uc tc)), .val (.int (own_av ua t1 uc tc)), .unset] [(.long tc), (.int uc), (.long t1), (.int ua), (.int (own_av ua t1 uc tc))])) rfl (by rw [hml]; rfl) (argsL := [(.int ua), (.long t1), (.int uc), (.long tc)]) (rest := [(.int (own_av ua t1 uc tc))]) rfl (lenOf pd_5 rfl) rfl (by show 2 * 0 + _ ≤ _; exact Nat.le_of_eq rfl) (hb hby at_251)
            obtain ⟨rfl, N26q, e26⟩ := hQ26
            have N26 := Fr.app N25 N26q
            refine OGo.st (B := T26.setTop (mkF m 254 #[.val (.int fl), .val (.long t1), .second, .val (.long t2), .second, .val (.long t3), .second, .val (.int ua), .val (.int ub), .val (.int uc), .val (.long t1), .second, .val (.long tb), .second, .val (.long tc), .second, .val (.ref oa), .val (.ref ob), .val (.ref oc), .val (.int (own_av ua t1 ub tb)), .val (.int (own_av ub tb ua t1)), .val (.int (0 : Int32)), .val (.int (own_av ub tb uc tc)), .val (.int (own_av ua t1 uc tc)), .unset] [(.int (own_av ua t1 uc tc)), (.int (own_av ua t1 uc tc))])) st26 ?_
            refine OGo.st (B := T26.setTop (mkF m 257 #[.val (.int fl), .val (.long t1), .second, .val (.long t2), .second, .val (.long t3), .second, .val (.int ua), .val (.int ub), .val (.int uc), .val (.long t1), .second, .val (.long tb), .second, .val (.long tc), .second, .val (.ref oa), .val (.ref ob), .val (.ref oc), .val (.int (own_av ua t1 ub tb)), .val (.int (own_av ub tb ua t1)), .val (.int (0 : Int32)), .val (.int (own_av ub tb uc tc)), .val (.int (own_av ua t1 uc tc)), .unset] [])) (fun _ kz => XS.icmpNo X26.here hx rfl (hb hby at_254) rfl (teq rfl).2 kz) ?_
            refine OGo.st (B := T26.setTop (mkF m 258 #[.val (.int fl), .val (.long t1), .second, .val (.long t2), .second, .val (.long t3), .second, .val (.int ua), .val (.int ub), .val (.int uc), .val (.long t1), .second, .val (.long tb), .second, .val (.long tc), .second, .val (.ref oa), .val (.ref ob), .val (.ref oc), .val (.int (own_av ua t1 ub tb)), .val (.int (own_av ub tb ua t1)), .val (.int (0 : Int32)), .val (.int (own_av ub tb uc tc)), .val (.int (own_av ua t1 uc tc)), .unset] [(.int (1 : Int32))])) (fun _ kz => XS.iconst X26.here hx rfl (hb hby at_257) kz) ?_
            refine OGo.st (B := T26.setTop (mkF m 262 #[.val (.int fl), .val (.long t1), .second, .val (.long t2), .second, .val (.long t3), .second, .val (.int ua), .val (.int ub), .val (.int uc), .val (.long t1), .second, .val (.long tb), .second, .val (.long tc), .second, .val (.ref oa), .val (.ref ob), .val (.ref oc), .val (.int (own_av ua t1 ub tb)), .val (.int (own_av ub tb ua t1)), .val (.int (0 : Int32)), .val (.int (own_av ub tb uc tc)), .val (.int (own_av ua t1 uc tc)), .unset] [(.int (1 : Int32))])) (fun _ kz => XS.goto X26.here hx rfl (pc0 := 258) (pc' := 262) rfl (hb hby at_258) (by decide) (by decide) kz) ?_
            refine OGo.st (B := T26.setTop (mkF m 264 #[.val (.int fl), .val (.long t1), .second, .val (.long t2), .second, .val (.long t3), .second, .val (.int ua), .val (.int ub), .val (.int uc), .val (.long t1), .second, .val (.long tb), .second, .val (.long tc), .second, .val (.ref oa), .val (.ref ob), .val (.ref oc), .val (.int (own_av ua t1 ub tb)), .val (.int (own_av ub tb ua t1)), .val (.int (0 : Int32)), .val (.int (own_av ub tb uc tc)), .val (.int (own_av ua t1 uc tc)), .val (.int (1 : Int32))] [])) (fun _ kz => XS.istore X26.here hx rfl (hb hby at_262) rfl (l' := #[.val (.int fl), .val (.long t1), .second, .val (.long t2), .second, .val (.long t3), .second, .val (.int ua), .val (.int ub), .val (.int uc), .val (.long t1), .second, .val (.long tb), .second, .val (.long tc), .second, .val (.ref oa), .val (.ref ob), .val (.ref oc), .val (.int (own_av ua t1 ub tb)), .val (.int (own_av ub tb ua t1)), .val (.int (0 : Int32)), .val (.int (own_av ub tb uc tc)), .val (.int (own_av ua t1 uc tc)), .val (.int (1 : Int32))]) rfl kz) ?_
            refine OGo.st (B := T26.setTop (mkF m 266 #[.val (.int fl), .val (.long t1), .second, .val (.long t2), .second, .val (.long t3), .second, .val (.int ua), .val (.int ub), .val (.int uc), .val (.long t1), .second, .val (.long tb), .second, .val (.long tc), .second, .val (.ref oa), .val (.ref ob), .val (.ref oc), .val (.int (own_av ua t1 ub tb)), .val (.int (own_av ub tb ua t1)), .val (.int (0 : Int32)), .val (.int (own_av ub tb uc tc)), .val (.int (own_av ua t1 uc tc)), .val (.int (1 : Int32))] [(.int (1 : Int32))])) (fun _ kz => XS.iload X26.here hx rfl (hb hby at_264) rfl kz) ?_
            refine OGo.st (B := T26.setTop (mkF m 269 #[.val (.int fl), .val (.long t1), .second, .val (.long t2), .second, .val (.long t3), .second, .val (.int ua), .val (.int ub), .val (.int uc), .val (.long t1), .second, .val (.long tb), .second, .val (.long tc), .second, .val (.ref oa), .val (.ref ob), .val (.ref oc), .val (.int (own_av ua t1 ub tb)), .val (.int (own_av ub tb ua t1)), .val (.int (0 : Int32)), .val (.int (own_av ub tb uc tc)), .val (.int (own_av ua t1 uc tc)), .val (.int (1 : Int32))] [])) (fun _ kz => XS.ifNo X26.here hx rfl (hb hby at_266) rfl (by decide) kz) ?_
            refine OGo.st (B := T26.setTop (mkF m 271 #[.val (.int fl), .val (.long t1), .second, .val (.long t2), .second, .val (.long t3), .second, .val (.int ua), .val (.int ub), .val (.int uc), .val (.long t1), .second, .val (.long tb), .second, .val (.long tc), .second, .val (.ref oa), .val (.ref ob), .val (.ref oc), .val (.int (own_av ua t1 ub tb)), .val (.int (own_av ub tb ua t1)), .val (.int (0 : Int32)), .val (.int (own_av ub tb uc tc)), .val (.int (own_av ua t1 uc tc)), .val (.int (1 : Int32))] [(.int (0 : Int32))])) (fun _ kz => XS.iload X26.here hx rfl (hb hby at_269) rfl kz) ?_
            refine OGo.st (B := T26.setTop (mkF m 274 #[.val (.int fl), .val (.long t1), .second, .val (.long t2), .second, .val (.long t3), .second, .val (.int ua), .val (.int ub), .val (.int uc), .val (.long t1), .second, .val (.long tb), .second, .val (.long tc), .second, .val (.ref oa), .val (.ref ob), .val (.ref oc), .val (.int (own_av ua t1 ub tb)), .val (.int (own_av ub tb ua t1)), .val (.int (0 : Int32)), .val (.int (own_av ub tb uc tc)), .val (.int (own_av ua t1 uc tc)), .val (.int (1 : Int32))] [])) (fun _ kz => XS.ifNo X26.here hx rfl (hb hby at_271) rfl (by decide) kz) ?_
            refine OGo.st (B := T26.setTop (mkF m 276 #[.val (.int fl), .val (.long t1), .second, .val (.long t2), .second, .val (.long t3), .second, .val (.int ua), .val (.int ub), .val (.int uc), .val (.long t1), .second, .val (.long tb), .second, .val (.long tc), .second, .val (.ref oa), .val (.ref ob), .val (.ref oc), .val (.int (own_av ua t1 ub tb)), .val (.int (own_av ub tb ua t1)), .val (.int (0 : Int32)), .val (.int (own_av ub tb uc tc)), .val (.int (own_av ua t1 uc tc)), .val (.int (1 : Int32))] [(.int (own_av ua t1 ub tb))])) (fun _ kz => XS.iload X26.here hx rfl (hb hby at_274) rfl kz) ?_
            by_cases e1 : (own_av ua t1 ub tb) = (0 : Int32)
            · skip
              refine OGo.st (B := T26.setTop (mkF m 289 #[.val (.int fl), .val (.long t1), .second, .val (.long t2), .second, .val (.long t3), .second, .val (.int ua), .val (.int ub), .val (.int uc), .val (.long t1), .second, .val (.long tb), .second, .val (.long tc), .second, .val (.ref oa), .val (.ref ob), .val (.ref oc), .val (.int (own_av ua t1 ub tb)), .val (.int (own_av ub tb ua t1)), .val (.int (0 : Int32)), .val (.int (own_av ub tb uc tc)), .val (.int (own_av ua t1 uc tc)), .val (.int (1 : Int32))] [])) (fun _ kz => XS.ifYes X26.here hx rfl (pc0 := 276) (pc' := 289) rfl (hb hby at_276) rfl ((if0 _ _).trans (teq e1).1) (by decide) (by decide) kz) ?_
              refine OGo.st (B := T26.setTop (mkF m 290 #[.val (.int fl), .val (.long t1), .second, .val (.long t2), .second, .val (.long t3), .second, .val (.int ua), .val (.int ub), .val (.int uc), .val (.long t1), .second, .val (.long tb), .second, .val (.long tc), .second, .val (.ref oa), .val (.ref ob), .val (.ref oc), .val (.int (own_av ua t1 ub tb)), .val (.int (own_av ub tb ua t1)), .val (.int (0 : Int32)), .val (.int (own_av ub tb uc tc)), .val (.int (own_av ua t1 uc tc)), .val (.int (1 : Int32))] [(.int (1 : Int32))])) (fun _ kz => XS.iconst X26.here hx rfl (hb hby at_289) kz) ?_
              refine OGo.st (B := T26.setTop (mkF m 294 #[.val (.int fl), .val (.long t1), .second, .val (.long t2), .second, .val (.long t3), .second, .val (.int ua), .val (.int ub), .val (.int uc), .val (.long t1), .second, .val (.long tb), .second, .val (.long tc), .second, .val (.ref oa), .val (.ref ob), .val (.ref oc), .val (.int (own_av ua t1 ub tb)), .val (.int (own_av ub tb ua t1)), .val (.int (0 : Int32)), .val (.int (own_av ub tb uc tc)), .val (.int (own_av ua t1 uc tc)), .val (.int (1 : Int32))] [(.int (1 : Int32))])) (fun _ kz => XS.goto X26.here hx rfl (pc0 := 290) (pc' := 294) rfl (hb hby at_290) (by decide) (by decide) kz) ?_
              exact own_retZ X26 hx hret hlk (hb hby at_294) ⟨rfl, N26⟩ (by decide) (by decide)
            · skip
              refine OGo.st (B := T26.setTop (mkF m 279 #[.val (.int fl), .val (.long t1), .second, .val (.long t2), .second, .val (.long t3), .second, .val (.int ua), .val (.int ub), .val (.int uc), .val (.long t1), .second, .val (.long tb), .second, .val (.long tc), .second, .val (.ref oa), .val (.ref ob), .val (.ref oc), .val (.int (own_av ua t1 ub tb)), .val (.int (own_av ub tb ua t1)), .val (.int (0 : Int32)), .val (.int (own_av ub tb uc tc)), .val (.int (own_av ua t1 uc tc)), .val (.int (1 : Int32))] [])) (fun _ kz => XS.ifNo X26.here hx rfl (hb hby at_276) rfl ((if0 _ _).trans (feq e1).1) kz) ?_
              refine OGo.st (B := T26.setTop (mkF m 281 #[.val (.int fl), .val (.long t1), .second, .val (.long t2), .second, .val (.long t3), .second, .val (.int ua), .val (.int ub), .val (.int uc), .val (.long t1), .second, .val (.long tb), .second, .val (.long tc), .second, .val (.ref oa), .val (.ref ob), .val (.ref oc), .val (.int (own_av ua t1 ub tb)), .val (.int (own_av ub tb ua t1)), .val (.int (0 : Int32)), .val (.int (own_av ub tb uc tc)), .val (.int (own_av ua t1 uc tc)), .val (.int (1 : Int32))] [(.int (own_av ub tb uc tc))])) (fun _ kz => XS.iload X26.here hx rfl (hb hby at_279) rfl kz) ?_
              by_cases e2 : (own_av ub tb uc tc) = (0 : Int32)
              · skip
                refine OGo.st (B := T26.setTop (mkF m 289 #[.val (.int fl), .val (.long t1), .second, .val (.long t2), .second, .val (.long t3), .second, .val (.int ua), .val (.int ub), .val (.int uc), .val (.long t1), .second, .val (.long tb), .second, .val (.long tc), .second, .val (.ref oa), .val (.ref ob), .val (.ref oc), .val (.int (own_av ua t1 ub tb)), .val (.int (own_av ub tb ua t1)), .val (.int (0 : Int32)), .val (.int (own_av ub tb uc tc)), .val (.int (own_av ua t1 uc tc)), .val (.int (1 : Int32))] [])) (fun _ kz => XS.ifYes X26.here hx rfl (pc0 := 281) (pc' := 289) rfl (hb hby at_281) rfl ((if0 _ _).trans (teq e2).1) (by decide) (by decide) kz) ?_
                refine OGo.st (B := T26.setTop (mkF m 290 #[.val (.int fl), .val (.long t1), .second, .val (.long t2), .second, .val (.long t3), .second, .val (.int ua), .val (.int ub), .val (.int uc), .val (.long t1), .second, .val (.long tb), .second, .val (.long tc), .second, .val (.ref oa), .val (.ref ob), .val (.ref oc), .val (.int (own_av ua t1 ub tb)), .val (.int (own_av ub tb ua t1)), .val (.int (0 : Int32)), .val (.int (own_av ub tb uc tc)), .val (.int (own_av ua t1 uc tc)), .val (.int (1 : Int32))] [(.int (1 : Int32))])) (fun _ kz => XS.iconst X26.here hx rfl (hb hby at_289) kz) ?_
                refine OGo.st (B := T26.setTop (mkF m 294 #[.val (.int fl), .val (.long t1), .second, .val (.long t2), .second, .val (.long t3), .second, .val (.int ua), .val (.int ub), .val (.int uc), .val (.long t1), .second, .val (.long tb), .second, .val (.long tc), .second, .val (.ref oa), .val (.ref ob), .val (.ref oc), .val (.int (own_av ua t1 ub tb)), .val (.int (own_av ub tb ua t1)), .val (.int (0 : Int32)), .val (.int (own_av ub tb uc tc)), .val (.int (own_av ua t1 uc tc)), .val (.int (1 : Int32))] [(.int (1 : Int32))])) (fun _ kz => XS.goto X26.here hx rfl (pc0 := 290) (pc' := 294) rfl (hb hby at_290) (by decide) (by decide) kz) ?_
                exact own_retZ X26 hx hret hlk (hb hby at_294) ⟨rfl, N26⟩ (by decide) (by decide)
              · skip
                refine OGo.st (B := T26.setTop (mkF m 284 #[.val (.int fl), .val (.long t1), .second, .val (.long t2), .second, .val (.long t3), .second, .val (.int ua), .val (.int ub), .val (.int uc), .val (.long t1), .second, .val (.long tb), .second, .val (.long tc), .second, .val (.ref oa), .val (.ref ob), .val (.ref oc), .val (.int (own_av ua t1 ub tb)), .val (.int (own_av ub tb ua t1)), .val (.int (0 : Int32)), .val (.int (own_av ub tb uc tc)), .val (.int (own_av ua t1 uc tc)), .val (.int (1 : Int32))] [])) (fun _ kz => XS.ifNo X26.here hx rfl (hb hby at_281) rfl ((if0 _ _).trans (feq e2).1) kz) ?_
                refine OGo.st (B := T26.setTop (mkF m 286 #[.val (.int fl), .val (.long t1), .second, .val (.long t2), .second, .val (.long t3), .second, .val (.int ua), .val (.int ub), .val (.int uc), .val (.long t1), .second, .val (.long tb), .second, .val (.long tc), .second, .val (.ref oa), .val (.ref ob), .val (.ref oc), .val (.int (own_av ua t1 ub tb)), .val (.int (own_av ub tb ua t1)), .val (.int (0 : Int32)), .val (.int (own_av ub tb uc tc)), .val (.int (own_av ua t1 uc tc)), .val (.int (1 : Int32))] [(.int (own_av ua t1 uc tc))])) (fun _ kz => XS.iload X26.here hx rfl (hb hby at_284) rfl kz) ?_
                refine OGo.st (B := T26.setTop (mkF m 289 #[.val (.int fl), .val (.long t1), .second, .val (.long t2), .second, .val (.long t3), .second, .val (.int ua), .val (.int ub), .val (.int uc), .val (.long t1), .second, .val (.long tb), .second, .val (.long tc), .second, .val (.ref oa), .val (.ref ob), .val (.ref oc), .val (.int (own_av ua t1 ub tb)), .val (.int (own_av ub tb ua t1)), .val (.int (0 : Int32)), .val (.int (own_av ub tb uc tc)), .val (.int (own_av ua t1 uc tc)), .val (.int (1 : Int32))] [])) (fun _ kz => XS.ifNo X26.here hx rfl (hb hby at_286) rfl ((if0 _ _).trans (feq (own_av_tr h_ua h_ub h_uc e1 e2)).1) kz) ?_
                refine OGo.st (B := T26.setTop (mkF m 290 #[.val (.int fl), .val (.long t1), .second, .val (.long t2), .second, .val (.long t3), .second, .val (.int ua), .val (.int ub), .val (.int uc), .val (.long t1), .second, .val (.long tb), .second, .val (.long tc), .second, .val (.ref oa), .val (.ref ob), .val (.ref oc), .val (.int (own_av ua t1 ub tb)), .val (.int (own_av ub tb ua t1)), .val (.int (0 : Int32)), .val (.int (own_av ub tb uc tc)), .val (.int (own_av ua t1 uc tc)), .val (.int (1 : Int32))] [(.int (1 : Int32))])) (fun _ kz => XS.iconst X26.here hx rfl (hb hby at_289) kz) ?_
                refine OGo.st (B := T26.setTop (mkF m 294 #[.val (.int fl), .val (.long t1), .second, .val (.long t2), .second, .val (.long t3), .second, .val (.int ua), .val (.int ub), .val (.int uc), .val (.long t1), .second, .val (.long tb), .second, .val (.long tc), .second, .val (.ref oa), .val (.ref ob), .val (.ref oc), .val (.int (own_av ua t1 ub tb)), .val (.int (own_av ub tb ua t1)), .val (.int (0 : Int32)), .val (.int (own_av ub tb uc tc)), .val (.int (own_av ua t1 uc tc)), .val (.int (1 : Int32))] [(.int (1 : Int32))])) (fun _ kz => XS.goto X26.here hx rfl (pc0 := 290) (pc' := 294) rfl (hb hby at_290) (by decide) (by decide) kz) ?_
                exact own_retZ X26 hx hret hlk (hb hby at_294) ⟨rfl, N26⟩ (by decide) (by decide)
          · skip
            intro hj5
            by_cases c5 : (fl &&& (16 : Int32)) = (0 : Int32)
            · skip
              refine OGo.st (B := s₁.setTop (mkF m 69 #[.val (.int fl), .val (.long t1), .second, .val (.long t2), .second, .val (.long t3), .second, .val (.int ua), .val (.int ub), .val (.int uc), .val (.long t1), .second, .val (.long tb), .second, .unset, .unset, .unset, .unset, .unset, .unset, .unset, .unset, .unset, .unset, .unset] [])) (fun _ kz => XS.ifYes X0.here hx rfl (pc0 := 61) (pc' := 69) rfl (hb hby at_61) rfl ((if0 _ _).trans (teq c5).1) (by decide) (by decide) kz) ?_
              refine OGo.st (B := s₁.setTop (mkF m 71 #[.val (.int fl), .val (.long t1), .second, .val (.long t2), .second, .val (.long t3), .second, .val (.int ua), .val (.int ub), .val (.int uc), .val (.long t1), .second, .val (.long tb), .second, .unset, .unset, .unset, .unset, .unset, .unset, .unset, .unset, .unset, .unset, .unset] [(.long t3)])) (fun _ kz => XS.lload X0.here hx rfl (hb hby at_69) rfl kz) ?_
              exact hj5 t3 trivial
            · skip
              refine OGo.st (B := s₁.setTop (mkF m 64 #[.val (.int fl), .val (.long t1), .second, .val (.long t2), .second, .val (.long t3), .second, .val (.int ua), .val (.int ub), .val (.int uc), .val (.long t1), .second, .val (.long tb), .second, .unset, .unset, .unset, .unset, .unset, .unset, .unset, .unset, .unset, .unset, .unset] [])) (fun _ kz => XS.ifNo X0.here hx rfl (hb hby at_61) rfl ((if0 _ _).trans (feq c5).1) kz) ?_
              refine OGo.st (B := s₁.setTop (mkF m 66 #[.val (.int fl), .val (.long t1), .second, .val (.long t2), .second, .val (.long t3), .second, .val (.int ua), .val (.int ub), .val (.int uc), .val (.long t1), .second, .val (.long tb), .second, .unset, .unset, .unset, .unset, .unset, .unset, .unset, .unset, .unset, .unset, .unset] [(.long tb)])) (fun _ kz => XS.lload X0.here hx rfl (hb hby at_64) rfl kz) ?_
              refine OGo.st (B := s₁.setTop (mkF m 71 #[.val (.int fl), .val (.long t1), .second, .val (.long t2), .second, .val (.long t3), .second, .val (.int ua), .val (.int ub), .val (.int uc), .val (.long t1), .second, .val (.long tb), .second, .unset, .unset, .unset, .unset, .unset, .unset, .unset, .unset, .unset, .unset, .unset] [(.long tb)])) (fun _ kz => XS.goto X0.here hx rfl (pc0 := 66) (pc' := 71) rfl (hb hby at_66) (by decide) (by decide) kz) ?_
              exact hj5 tb trivial
        · skip
          intro hj4
          by_cases c4 : (fl &&& (8 : Int32)) = (0 : Int32)
          · skip
            refine OGo.st (B := s₁.setTop (mkF m 54 #[.val (.int fl), .val (.long t1), .second, .val (.long t2), .second, .val (.long t3), .second, .val (.int ua), .val (.int ub), .val (.int uc), .val (.long t1), .second, .unset, .unset, .unset, .unset, .unset, .unset, .unset, .unset, .unset, .unset, .unset, .unset, .unset] [])) (fun _ kz => XS.ifYes X0.here hx rfl (pc0 := 46) (pc' := 54) rfl (hb hby at_46) rfl ((if0 _ _).trans (teq c4).1) (by decide) (by decide) kz) ?_
            refine OGo.st (B := s₁.setTop (mkF m 55 #[.val (.int fl), .val (.long t1), .second, .val (.long t2), .second, .val (.long t3), .second, .val (.int ua), .val (.int ub), .val (.int uc), .val (.long t1), .second, .unset, .unset, .unset, .unset, .unset, .unset, .unset, .unset, .unset, .unset, .unset, .unset, .unset] [(.long t2)])) (fun _ kz => XS.lloadN X0.here hx rfl (hb hby at_54) rfl kz) ?_
            exact hj4 t2 trivial
          · skip
            refine OGo.st (B := s₁.setTop (mkF m 49 #[.val (.int fl), .val (.long t1), .second, .val (.long t2), .second, .val (.long t3), .second, .val (.int ua), .val (.int ub), .val (.int uc), .val (.long t1), .second, .unset, .unset, .unset, .unset, .unset, .unset, .unset, .unset, .unset, .unset, .unset, .unset, .unset] [])) (fun _ kz => XS.ifNo X0.here hx rfl (hb hby at_46) rfl ((if0 _ _).trans (feq c4).1) kz) ?_
            refine OGo.st (B := s₁.setTop (mkF m 51 #[.val (.int fl), .val (.long t1), .second, .val (.long t2), .second, .val (.long t3), .second, .val (.int ua), .val (.int ub), .val (.int uc), .val (.long t1), .second, .unset, .unset, .unset, .unset, .unset, .unset, .unset, .unset, .unset, .unset, .unset, .unset, .unset] [(.long t1)])) (fun _ kz => XS.lload X0.here hx rfl (hb hby at_49) rfl kz) ?_
            refine OGo.st (B := s₁.setTop (mkF m 55 #[.val (.int fl), .val (.long t1), .second, .val (.long t2), .second, .val (.long t3), .second, .val (.int ua), .val (.int ub), .val (.int uc), .val (.long t1), .second, .unset, .unset, .unset, .unset, .unset, .unset, .unset, .unset, .unset, .unset, .unset, .unset, .unset] [(.long t1)])) (fun _ kz => XS.goto X0.here hx rfl (pc0 := 51) (pc' := 55) rfl (hb hby at_51) (by decide) (by decide) kz) ?_
            exact hj4 t1 trivial
      · skip
        intro hj3
        by_cases c3 : (fl &&& (4 : Int32)) = (0 : Int32)
        · skip
          refine OGo.st (B := s₁.setTop (mkF m 36 #[.val (.int fl), .val (.long t1), .second, .val (.long t2), .second, .val (.long t3), .second, .val (.int ua), .val (.int ub), .unset, .unset, .unset, .unset, .unset, .unset, .unset, .unset, .unset, .unset, .unset, .unset, .unset, .unset, .unset, .unset] [])) (fun _ kz => XS.ifYes X0.here hx rfl (pc0 := 29) (pc' := 36) rfl (hb hby at_29) rfl ((if0 _ _).trans (teq c3).1) (by decide) (by decide) kz) ?_
          refine OGo.st (B := s₁.setTop (mkF m 37 #[.val (.int fl), .val (.long t1), .second, .val (.long t2), .second, .val (.long t3), .second, .val (.int ua), .val (.int ub), .unset, .unset, .unset, .unset, .unset, .unset, .unset, .unset, .unset, .unset, .unset, .unset, .unset, .unset, .unset, .unset] [(.int (0 : Int32))])) (fun _ kz => XS.iconst X0.here hx rfl (hb hby at_36) kz) ?_
          exact hj3 (0 : Int32) (Or.inl rfl)
        · skip
          refine OGo.st (B := s₁.setTop (mkF m 32 #[.val (.int fl), .val (.long t1), .second, .val (.long t2), .second, .val (.long t3), .second, .val (.int ua), .val (.int ub), .unset, .unset, .unset, .unset, .unset, .unset, .unset, .unset, .unset, .unset, .unset, .unset, .unset, .unset, .unset, .unset] [])) (fun _ kz => XS.ifNo X0.here hx rfl (hb hby at_29) rfl ((if0 _ _).trans (feq c3).1) kz) ?_
          refine OGo.st (B := s₁.setTop (mkF m 33 #[.val (.int fl), .val (.long t1), .second, .val (.long t2), .second, .val (.long t3), .second, .val (.int ua), .val (.int ub), .unset, .unset, .unset, .unset, .unset, .unset, .unset, .unset, .unset, .unset, .unset, .unset, .unset, .unset, .unset, .unset] [(.int (1 : Int32))])) (fun _ kz => XS.iconst X0.here hx rfl (hb hby at_32) kz) ?_
          refine OGo.st (B := s₁.setTop (mkF m 37 #[.val (.int fl), .val (.long t1), .second, .val (.long t2), .second, .val (.long t3), .second, .val (.int ua), .val (.int ub), .unset, .unset, .unset, .unset, .unset, .unset, .unset, .unset, .unset, .unset, .unset, .unset, .unset, .unset, .unset, .unset] [(.int (1 : Int32))])) (fun _ kz => XS.goto X0.here hx rfl (pc0 := 33) (pc' := 37) rfl (hb hby at_33) (by decide) (by decide) kz) ?_
          exact hj3 (1 : Int32) (Or.inr rfl)
    · skip
      intro hj2
      by_cases c2 : (fl &&& (2 : Int32)) = (0 : Int32)
      · skip
        refine OGo.st (B := s₁.setTop (mkF m 23 #[.val (.int fl), .val (.long t1), .second, .val (.long t2), .second, .val (.long t3), .second, .val (.int ua), .unset, .unset, .unset, .unset, .unset, .unset, .unset, .unset, .unset, .unset, .unset, .unset, .unset, .unset, .unset, .unset, .unset] [])) (fun _ kz => XS.ifYes X0.here hx rfl (pc0 := 16) (pc' := 23) rfl (hb hby at_16) rfl ((if0 _ _).trans (teq c2).1) (by decide) (by decide) kz) ?_
        refine OGo.st (B := s₁.setTop (mkF m 24 #[.val (.int fl), .val (.long t1), .second, .val (.long t2), .second, .val (.long t3), .second, .val (.int ua), .unset, .unset, .unset, .unset, .unset, .unset, .unset, .unset, .unset, .unset, .unset, .unset, .unset, .unset, .unset, .unset, .unset] [(.int (0 : Int32))])) (fun _ kz => XS.iconst X0.here hx rfl (hb hby at_23) kz) ?_
        exact hj2 (0 : Int32) (Or.inl rfl)
      · skip
        refine OGo.st (B := s₁.setTop (mkF m 19 #[.val (.int fl), .val (.long t1), .second, .val (.long t2), .second, .val (.long t3), .second, .val (.int ua), .unset, .unset, .unset, .unset, .unset, .unset, .unset, .unset, .unset, .unset, .unset, .unset, .unset, .unset, .unset, .unset, .unset] [])) (fun _ kz => XS.ifNo X0.here hx rfl (hb hby at_16) rfl ((if0 _ _).trans (feq c2).1) kz) ?_
        refine OGo.st (B := s₁.setTop (mkF m 20 #[.val (.int fl), .val (.long t1), .second, .val (.long t2), .second, .val (.long t3), .second, .val (.int ua), .unset, .unset, .unset, .unset, .unset, .unset, .unset, .unset, .unset, .unset, .unset, .unset, .unset, .unset, .unset, .unset, .unset] [(.int (1 : Int32))])) (fun _ kz => XS.iconst X0.here hx rfl (hb hby at_19) kz) ?_
        refine OGo.st (B := s₁.setTop (mkF m 24 #[.val (.int fl), .val (.long t1), .second, .val (.long t2), .second, .val (.long t3), .second, .val (.int ua), .unset, .unset, .unset, .unset, .unset, .unset, .unset, .unset, .unset, .unset, .unset, .unset, .unset, .unset, .unset, .unset, .unset] [(.int (1 : Int32))])) (fun _ kz => XS.goto X0.here hx rfl (pc0 := 20) (pc' := 24) rfl (hb hby at_20) (by decide) (by decide) kz) ?_
        exact hj2 (1 : Int32) (Or.inr rfl)
  · skip
    intro hj1
    by_cases c1 : (fl &&& (1 : Int32)) = (0 : Int32)
    · skip
      refine OGo.st (B := s₁.setTop (mkF m 10 #[.val (.int fl), .val (.long t1), .second, .val (.long t2), .second, .val (.long t3), .second, .unset, .unset, .unset, .unset, .unset, .unset, .unset, .unset, .unset, .unset, .unset, .unset, .unset, .unset, .unset, .unset, .unset, .unset] [])) (fun _ kz => XS.ifYes X0.here hx rfl (pc0 := 3) (pc' := 10) rfl (hb hby at_3) rfl ((if0 _ _).trans (teq c1).1) (by decide) (by decide) kz) ?_
      refine OGo.st (B := s₁.setTop (mkF m 11 #[.val (.int fl), .val (.long t1), .second, .val (.long t2), .second, .val (.long t3), .second, .unset, .unset, .unset, .unset, .unset, .unset, .unset, .unset, .unset, .unset, .unset, .unset, .unset, .unset, .unset, .unset, .unset, .unset] [(.int (0 : Int32))])) (fun _ kz => XS.iconst X0.here hx rfl (hb hby at_10) kz) ?_
      exact hj1 (0 : Int32) (Or.inl rfl)
    · skip
      refine OGo.st (B := s₁.setTop (mkF m 6 #[.val (.int fl), .val (.long t1), .second, .val (.long t2), .second, .val (.long t3), .second, .unset, .unset, .unset, .unset, .unset, .unset, .unset, .unset, .unset, .unset, .unset, .unset, .unset, .unset, .unset, .unset, .unset, .unset] [])) (fun _ kz => XS.ifNo X0.here hx rfl (hb hby at_3) rfl ((if0 _ _).trans (feq c1).1) kz) ?_
      refine OGo.st (B := s₁.setTop (mkF m 7 #[.val (.int fl), .val (.long t1), .second, .val (.long t2), .second, .val (.long t3), .second, .unset, .unset, .unset, .unset, .unset, .unset, .unset, .unset, .unset, .unset, .unset, .unset, .unset, .unset, .unset, .unset, .unset, .unset] [(.int (1 : Int32))])) (fun _ kz => XS.iconst X0.here hx rfl (hb hby at_6) kz) ?_
      refine OGo.st (B := s₁.setTop (mkF m 11 #[.val (.int fl), .val (.long t1), .second, .val (.long t2), .second, .val (.long t3), .second, .unset, .unset, .unset, .unset, .unset, .unset, .unset, .unset, .unset, .unset, .unset, .unset, .unset, .unset, .unset, .unset, .unset, .unset] [(.int (1 : Int32))])) (fun _ kz => XS.goto X0.here hx rfl (pc0 := 7) (pc' := 11) rfl (hb hby at_7) (by decide) (by decide) kz) ?_
      exact hj1 (1 : Int32) (Or.inr rfl)
set_option maxRecDepth 65536 in
set_option maxHeartbeats 40000000 in
theorem comes_1 {Post : Tables → Env → Array Value → State → Outcome → State → Prop} (hpost : ∀ tb e args s v u, (limb_1_1.after args s (.returned v) u = true ∧ limb_1_2.after args s (.returned v) u = true ∧ True) → FrameEnd s (.returned v) u (Jvm.fieldLocs frame_1_writes args s ++ Jvm.arrayLocs frame_1_arrays args s ++ Jvm.staticLocs frame_1_statics s) 24 128 → Post tb e args s (.returned v) u) :
    ArmFor flags0 classFile x code maxLocals ret World_1 tables_1 room_1 Calls_1 rest_1 Pre_1 Post := by
  intro l hfl _ _ p e ha hc hk s m args below hf hA hF happ hP
  obtain ⟨hcalls, hrest, hpre⟩ := hP
  obtain ⟨-, -, -, hnamed, -, -, -, hat⟩ := (Spec.applies_iff hf).mp happ
  obtain ⟨hg, hn⟩ := and_e (Cond.before_iff.mp (show (Jvm.Cond.and given_1 narrow_1).before args s = true from hpre))
  obtain ⟨q1, q2⟩ := and_e hg
  obtain ⟨q3, q4⟩ := and_e q2
  obtain ⟨q5, q6⟩ := and_e q4
  obtain ⟨q7, q8⟩ := and_e q6
  obtain ⟨w0, w1, w2, w3, rfl⟩ : ∃ w0 w1 w2 w3 : Value, args = #[w0, w1, w2, w3] := by
    have hs : args.size = 4 := by simpa [Cond.value, given_1] using q1
    obtain ⟨L⟩ := args
    match L, hs with
    | [w0, w1, w2, w3], _ => exact ⟨w0, w1, w2, w3, rfl⟩
  have hw := fun d (hd : d ∈ tables_1) => atoms_spec (ws := Jvm.Cond.code x code maxLocals ret :: tables_1) hat d (List.mem_cons_of_mem _ hd)
  obtain ⟨i0, ei0⟩ := is_v q3
  obtain rfl : w0 = (.int i0) := Option.some.inj ei0
  obtain ⟨i1, ei1⟩ := isL_v q5
  obtain rfl : w1 = (.long i1) := Option.some.inj ei1
  obtain ⟨i2, ei2⟩ := isL_v q7
  obtain rfl : w2 = (.long i2) := Option.some.inj ei2
  obtain ⟨i3, ei3⟩ := isL_v q8
  obtain rfl : w3 = (.long i3) := Option.some.inj ei3
  obtain ⟨hsets, hown0⟩ := atoms_of _ (rest_1_c_eq ▸ (show rest_1_c.before _ s = true from hrest))
  obtain ⟨q9, q10⟩ := and_e hn
  obtain ⟨q11, q12⟩ := and_e q10
  obtain ⟨q13, q14⟩ := and_e q12
  obtain ⟨q15, q16⟩ := and_e q14
  obtain ⟨q17, q18⟩ := and_e q16
  obtain ⟨u_INTENTION_SHARED, ev_INTENTION_SHARED, S_INTENTION_SHARED, E_INTENTION_SHARED⟩ := own_sta (t := ("com/example/cordon/cordon/LockMode", "INTENTION_SHARED", "Lcom/example/cordon/cordon/LockMode;")) q9 (hw _ (List.mem_of_getElem? (i := 15) rfl)) (hw _ (List.mem_of_getElem? (i := 16) rfl))
  replace S_INTENTION_SHARED : Sta s s.heap "com/example/cordon/cordon/LockMode" "INTENTION_SHARED" "Lcom/example/cordon/cordon/LockMode;" (.ref u_INTENTION_SHARED) := S_INTENTION_SHARED
  obtain ⟨u_EXCLUSIVE, ev_EXCLUSIVE, S_EXCLUSIVE, E_EXCLUSIVE⟩ := own_sta (t := ("com/example/cordon/cordon/LockMode", "EXCLUSIVE", "Lcom/example/cordon/cordon/LockMode;")) q11 (hw _ (List.mem_of_getElem? (i := 15) rfl)) (hw _ (List.mem_of_getElem? (i := 60) rfl))
  replace S_EXCLUSIVE : Sta s s.heap "com/example/cordon/cordon/LockMode" "EXCLUSIVE" "Lcom/example/cordon/cordon/LockMode;" (.ref u_EXCLUSIVE) := S_EXCLUSIVE
  obtain ⟨u_SHARED_INTENTION_EXCLUSIVE, ev_SHARED_INTENTION_EXCLUSIVE, S_SHARED_INTENTION_EXCLUSIVE, E_SHARED_INTENTION_EXCLUSIVE⟩ := own_sta (t := ("com/example/cordon/cordon/LockMode", "SHARED_INTENTION_EXCLUSIVE", "Lcom/example/cordon/cordon/LockMode;")) q13 (hw _ (List.mem_of_getElem? (i := 15) rfl)) (hw _ (List.mem_of_getElem? (i := 62) rfl))
  replace S_SHARED_INTENTION_EXCLUSIVE : Sta s s.heap "com/example/cordon/cordon/LockMode" "SHARED_INTENTION_EXCLUSIVE" "Lcom/example/cordon/cordon/LockMode;" (.ref u_SHARED_INTENTION_EXCLUSIVE) := S_SHARED_INTENTION_EXCLUSIVE
  obtain ⟨u_SHARED, ev_SHARED, S_SHARED, E_SHARED⟩ := own_sta (t := ("com/example/cordon/cordon/LockMode", "SHARED", "Lcom/example/cordon/cordon/LockMode;")) q15 (hw _ (List.mem_of_getElem? (i := 15) rfl)) (hw _ (List.mem_of_getElem? (i := 64) rfl))
  replace S_SHARED : Sta s s.heap "com/example/cordon/cordon/LockMode" "SHARED" "Lcom/example/cordon/cordon/LockMode;" (.ref u_SHARED) := S_SHARED
  obtain ⟨u_INTENTION_EXCLUSIVE, ev_INTENTION_EXCLUSIVE, S_INTENTION_EXCLUSIVE, E_INTENTION_EXCLUSIVE⟩ := own_sta (t := ("com/example/cordon/cordon/LockMode", "INTENTION_EXCLUSIVE", "Lcom/example/cordon/cordon/LockMode;")) q17 (hw _ (List.mem_of_getElem? (i := 15) rfl)) (hw _ (List.mem_of_getElem? (i := 66) rfl))
  replace S_INTENTION_EXCLUSIVE : Sta s s.heap "com/example/cordon/cordon/LockMode" "INTENTION_EXCLUSIVE" "Lcom/example/cordon/cordon/LockMode;" (.ref u_INTENTION_EXCLUSIVE) := S_INTENTION_EXCLUSIVE
  obtain ⟨u_UPDATE, ev_UPDATE, S_UPDATE, E_UPDATE⟩ := own_sta (t := ("com/example/cordon/cordon/LockMode", "UPDATE", "Lcom/example/cordon/cordon/LockMode;")) q18 (hw _ (List.mem_of_getElem? (i := 15) rfl)) (hw _ (List.mem_of_getElem? (i := 68) rfl))
  replace S_UPDATE : Sta s s.heap "com/example/cordon/cordon/LockMode" "UPDATE" "Lcom/example/cordon/cordon/LockMode;" (.ref u_UPDATE) := S_UPDATE
  have hH := own_int (Cond.before_iff.mp (hsets _ (List.mem_of_getElem? (i := 3) rfl)))
  have S_high := Sta.start hH (Or.inl (hsets _ (List.mem_of_getElem? (i := 1) rfl)))
  obtain ⟨ca, eca⟩ := arr_v (Cond.before_iff.mp (hsets _ (List.mem_of_getElem? (i := 4) rfl)))
  have S_cache := Sta.start eca (Or.inr ⟨(hw _ (List.mem_of_getElem? (i := 8) rfl)), (hsets _ (List.mem_of_getElem? (i := 2) rfl))⟩)
  obtain ⟨cc, Ac⟩ := Arr.start eca (Cond.before_iff.mp (hsets _ (List.mem_of_getElem? (i := 4) rfl)))
  have hlen := own_len eca (Ac.fin (Vm.Alike.refl _)) (own_int (Cond.before_iff.mp (hsets _ (List.mem_of_getElem? (i := 6) rfl))))
  have BX : Bxs s ca cc "java/lang/Integer" "I" 256 (fun j => .int (j - 128)) := Bxs.start (fun _ => eca) Ac hlen.1 hlen.2 (by decide) (Cond.before_iff.mp (hsets _ (List.mem_of_getElem? (i := 7) rfl))) (fun X j nn hq => eqv_i (by simp [Term.eval, (back32 nn).1]) hq)
  obtain ⟨n, o, h1, h2, h3, _, L, rfl, ⟨rfl, N⟩, hq⟩ := rm0 l s _ hw i0 i1 i2 i3 u_INTENTION_SHARED u_INTENTION_EXCLUSIVE u_SHARED u_SHARED_INTENTION_EXCLUSIVE u_UPDATE u_EXCLUSIVE s.heap s.heap.size S_INTENTION_SHARED S_INTENTION_EXCLUSIVE S_SHARED S_SHARED_INTENTION_EXCLUSIVE S_UPDATE S_EXCLUSIVE (Nat.le_refl _) (Old.start s) ca cc S_high S_cache BX p e ha hc hk s m _ below hf ((Spec.applies_iff_loose hf).mp happ).1 ⟨rfl, State.Warmed39.refl s, rfl⟩ trivial
  refine ⟨n, _, h1, h2, h3, hpost _ _ _ _ _ _ ⟨Cond.after_iff.mpr rfl, Cond.after_iff.mpr (eq_i res_at (Term.int_eval (1)) rfl), trivial⟩ ⟨hq.1, hq.2.1, (hq.2.2.sift fun y hy => Or.inr (N y hy)).mono (by decide) (by decide)⟩⟩
theorem main_1_1 : Claimed_1_1 := comes_1 fun _ _ _ _ _ _ h hF => ⟨h.1, hF⟩
theorem main_1_2 : Claimed_1_2 := comes_1 fun _ _ _ _ _ _ h hF => ⟨h.2.1, hF⟩
end Jvm.Pilot.@@N@@
namespace Jvm.Pilot.@@N@@
open Jvm Jvm.ClassFile Sem Op Lib Jvm.Free Jvm.Stand Jvm.Pilot.@@N@@.Jvm.D
/-! MADE BY PROGRAM (witnessworld.py) out of the Statement's table words and the real class files: 19 classes; the members and pool entries that the words name. The judged class is class 1, her method 3. -/
namespace start1
open Jvm.ClassFile
def u (s : String) : CpInfo := .utf8 (stringToUtf16 s)
/-- a pool by its gaps: so many unusable entries, then the entry; so many at the end -/
def gap : Nat → List CpInfo → List CpInfo
  | 0, r => r
  | n + 1, r => .unusable :: gap n r
def poolList (es : List (Nat × CpInfo)) (last : Nat) : List CpInfo := es.foldr (fun e r => gap e.1 (e.2 :: r)) (gap last [])
def pool (es : List (Nat × CpInfo)) (last : Nat) : Array CpInfo := ⟨poolList es last⟩
def fileOf (pool : Array CpInfo) (this : Nat) (attrs : Array Attribute := #[]) (ms : Array MethodInfo := #[]) (fl : Nat := 33) (sup : Nat := 0) (ifs : Array Nat := #[]) (fds : Array FieldInfo := #[]) : ClassFile where
  minorVersion := 0
  majorVersion := 65
  constantPool := pool
  accessFlags := fl
  thisClass := this
  superClass := sup
  interfaces := ifs
  fields := fds
  methods := ms
  attributes := attrs
def plain (name : String) (sup : Option ClassId) : Class where
  name := name
  kind := .ordinary
  loader := none
  accessFlags := 33
  super := sup
  interfaces := #[]
  cf := none
  fields := #[]
  methods := #[]
  instanceTypes := #[]
  staticTypes := #[]
  resolved := #[]
  callSites := []
  init := .initialized
  statics := none
  mirror := none

def pool0 : Array CpInfo := pool [(5, u "<init>"), (0, u "()V"), (1, .class_ 10), (1, u "java/lang/Object")] 113

def k0c0 : Code := { maxStack := 0, maxLocals := 1, code := object_method_1_code, exceptionTable := #[], attributes := #[] }
def k0m0 : Method := { name := "<init>", desc := "()V", sig := { parameters := [], returnType := none }, accessFlags := 1, code := some k0c0 }
/-- java/lang/Object -/
def k0 : Class := { plain "java/lang/Object" none with
  accessFlags := 33
  interfaces := #[]
  cf := some (fileOf pool0 8 #[] #[{ accessFlags := 1, nameIndex := 5, descriptorIndex := 6, attributes := #[] }] 33 0 #[] #[])
  fields := #[]
  methods := #[k0m0]
  instanceTypes := #[]
  staticTypes := #[]
  resolved := Array.replicate 124 none
  statics := none }

def pool1 : Array CpInfo := pool [(2, .class_ 4), (1, u "java/lang/Object"), (0, u "<init>"), (0, u "()V"), (0, .fieldref 8 9), (0, .class_ 10), (0, .nameAndType 11 12), (0, u "com/example/cordon/cordon/LockMode"), (0, u "INTENTION_SHARED"), (0, u "Lcom/example/cordon/cordon/LockMode;"), (0, .fieldref 8 14), (0, .nameAndType 15 12), (0, u "INTENTION_EXCLUSIVE"), (0, .fieldref 8 17), (0, .nameAndType 18 12), (0, u "SHARED"), (0, .fieldref 8 20), (0, .nameAndType 21 12), (0, u "SHARED_INTENTION_EXCLUSIVE"), (0, .fieldref 8 23), (0, .nameAndType 24 12), (0, u "UPDATE"), (0, .fieldref 8 26), (0, .nameAndType 27 12), (0, u "EXCLUSIVE"), (0, .class_ 29), (0, u "com/example/cordon/cordon/KeyEntry$Request"), (0, .methodref 31 32), (0, .class_ 33), (0, .nameAndType 34 35), (0, u "java/lang/Integer"), (0, u "valueOf"), (0, u "(I)Ljava/lang/Integer;"), (0, .methodref 37 38), (0, .class_ 39), (0, .nameAndType 40 41), (0, u "com/example/cordon/cordon/RequestIsAheadOfPinLaw"), (0, u "mode"), (0, u "(I)Lcom/example/cordon/cordon/LockMode;"), (0, .methodref 28 43), (0, .nameAndType 5 44), (0, u "(Ljava/lang/Object;Lcom/example/cordon/cordon/LockMode;ZJ)V"), (0, .methodref 28 46), (0, .nameAndType 47 48), (0, u "isAheadOf"), (0, u "(Lcom/example/cordon/cordon/KeyEntry$Request;)Z"), (0, .methodref 37 50), (0, .nameAndType 51 52), (0, u "ahead"), (0, u "(ZJZJ)Z"), (3, u "law"), (0, u "(IJJJ)Z")] 6

def k1m0 : Method := { name := "<init>", desc := "()V", sig := { parameters := [], returnType := none }, accessFlags := 1, code := none }
def k1c1 : Code := { maxStack := 2, maxLocals := 2, code := method_2_code, exceptionTable := #[], attributes := #[] }
def k1m1 : Method := { name := "mode", desc := "(I)Lcom/example/cordon/cordon/LockMode;", sig := { parameters := [.int], returnType := some (.object "com/example/cordon/cordon/LockMode") }, accessFlags := 10, code := some k1c1 }
def k1c2 : Code := { maxStack := 4, maxLocals := 6, code := method_3_code, exceptionTable := #[], attributes := #[] }
def k1m2 : Method := { name := "ahead", desc := "(ZJZJ)Z", sig := { parameters := [.boolean, .long, .boolean, .long], returnType := some .boolean }, accessFlags := 10, code := some k1c2 }
def k1c3 : Code := { maxStack := 7, maxLocals := 25, code := code, exceptionTable := #[], attributes := #[] }
def k1m3 : Method := { name := "law", desc := "(IJJJ)Z", sig := { parameters := [.int, .long, .long, .long], returnType := some .boolean }, accessFlags := 9, code := some k1c3 }
/-- com/example/cordon/cordon/RequestIsAheadOfPinLaw -/
def k1 : Class := { plain "com/example/cordon/cordon/RequestIsAheadOfPinLaw" (some 0) with
  accessFlags := 49
  interfaces := #[]
  cf := some (fileOf pool1 37 #[] #[{ accessFlags := 1, nameIndex := 5, descriptorIndex := 6, attributes := #[] }, { accessFlags := 10, nameIndex := 40, descriptorIndex := 41, attributes := #[] }, { accessFlags := 10, nameIndex := 51, descriptorIndex := 52, attributes := #[] }, { accessFlags := 9, nameIndex := 56, descriptorIndex := 57, attributes := #[] }] 49 2 #[] #[])
  fields := #[]
  methods := #[k1m0, k1m1, k1m2, k1m3]
  instanceTypes := #[]
  staticTypes := #[]
  resolved := Array.replicate 64 none
  statics := none }

def pool2 : Array CpInfo := pool [(1, .methodref 2 3), (0, .class_ 4), (0, .nameAndType 5 6), (0, u "java/lang/Object"), (0, u "<init>"), (0, u "()V"), (0, .class_ 8), (0, u "java/lang/Record")] 13

def k2c0 : Code := { maxStack := 1, maxLocals := 1, code := jdk_30_method_1_code, exceptionTable := #[], attributes := #[] }
def k2m0 : Method := { name := "<init>", desc := "()V", sig := { parameters := [], returnType := none }, accessFlags := 4, code := some k2c0 }
/-- java/lang/Record -/
def k2 : Class := { plain "java/lang/Record" (some 0) with
  accessFlags := 1057
  interfaces := #[]
  cf := some (fileOf pool2 7 #[] #[{ accessFlags := 4, nameIndex := 5, descriptorIndex := 6, attributes := #[] }] 1057 2 #[] #[])
  fields := #[]
  methods := #[k2m0]
  instanceTypes := #[]
  staticTypes := #[]
  resolved := Array.replicate 22 none
  statics := none }

def pool3 : Array CpInfo := pool [(1, .methodref 2 3), (0, .class_ 4), (0, .nameAndType 5 6), (0, u "java/lang/Record"), (0, u "<init>"), (0, u "()V"), (0, .fieldref 8 9), (0, .class_ 10), (0, .nameAndType 11 12), (0, u "com/example/cordon/cordon/KeyEntry$Request"), (0, u "transaction"), (0, u "Ljava/lang/Object;"), (0, .fieldref 8 14), (0, .nameAndType 15 16), (0, u "mode"), (0, u "Lcom/example/cordon/cordon/LockMode;"), (0, .fieldref 8 18), (0, .nameAndType 19 20), (0, u "upgrade"), (0, u "Z"), (0, .fieldref 8 22), (0, .nameAndType 23 24), (0, u "ticket"), (0, u "J"), (2, u "isAheadOf"), (0, u "(Lcom/example/cordon/cordon/KeyEntry$Request;)Z"), (28, u "(Ljava/lang/Object;Lcom/example/cordon/cordon/LockMode;ZJ)V"), (21, .class_ 80), (0, u "com/example/cordon/cordon/KeyEntry")] 22

def k3c0 : Code := { maxStack := 3, maxLocals := 6, code := prog_10_method_1_code, exceptionTable := #[], attributes := #[] }
def k3m0 : Method := { name := "<init>", desc := "(Ljava/lang/Object;Lcom/example/cordon/cordon/LockMode;ZJ)V", sig := { parameters := [(.object "java/lang/Object"), (.object "com/example/cordon/cordon/LockMode"), .boolean, .long], returnType := none }, accessFlags := 0, code := some k3c0 }
def k3c1 : Code := { maxStack := 4, maxLocals := 2, code := prog_10_method_2_code, exceptionTable := #[], attributes := #[] }
def k3m1 : Method := { name := "isAheadOf", desc := "(Lcom/example/cordon/cordon/KeyEntry$Request;)Z", sig := { parameters := [(.object "com/example/cordon/cordon/KeyEntry$Request")], returnType := some .boolean }, accessFlags := 0, code := some k3c1 }
/-- com/example/cordon/cordon/KeyEntry$Request -/
def k3 : Class := { plain "com/example/cordon/cordon/KeyEntry$Request" (some 2) with
  accessFlags := 48
  interfaces := #[]
  cf := some (fileOf pool3 8 #[.nestHost 79] #[{ accessFlags := 0, nameIndex := 5, descriptorIndex := 57, attributes := #[] }, { accessFlags := 0, nameIndex := 27, descriptorIndex := 28, attributes := #[] }] 48 2 #[] #[{ accessFlags := 18, nameIndex := 11, descriptorIndex := 12, attributes := #[] }, { accessFlags := 18, nameIndex := 15, descriptorIndex := 16, attributes := #[] }, { accessFlags := 18, nameIndex := 19, descriptorIndex := 20, attributes := #[] }, { accessFlags := 18, nameIndex := 23, descriptorIndex := 24, attributes := #[] }])
  fields := #[{ name := "transaction", type := (.object "java/lang/Object"), accessFlags := 18, slot := 0, constantValue := 0 }, { name := "mode", type := (.object "com/example/cordon/cordon/LockMode"), accessFlags := 18, slot := 1, constantValue := 0 }, { name := "upgrade", type := .boolean, accessFlags := 18, slot := 2, constantValue := 0 }, { name := "ticket", type := .long, accessFlags := 18, slot := 3, constantValue := 0 }]
  methods := #[k3m0, k3m1]
  instanceTypes := #[(.object "java/lang/Object"), (.object "com/example/cordon/cordon/LockMode"), .boolean, .long]
  staticTypes := #[]
  resolved := Array.replicate 103 none
  statics := none }

def pool4 : Array CpInfo := pool [(1, .class_ 2), (0, u "java/io/Serializable"), (0, .class_ 4), (0, u "java/lang/Object")] 2

/-- java/io/Serializable -/
def k4 : Class := { plain "java/io/Serializable" (some 0) with
  accessFlags := 1537
  interfaces := #[]
  cf := some (fileOf pool4 1 #[] #[] 1537 3 #[] #[])
  fields := #[]
  methods := #[]
  instanceTypes := #[]
  staticTypes := #[]
  resolved := Array.replicate 7 none
  statics := none }

def pool5 : Array CpInfo := pool [(1, .methodref 2 3), (0, .class_ 4), (0, .nameAndType 5 6), (0, u "java/lang/Object"), (0, u "<init>"), (0, u "()V"), (1, .class_ 10), (1, u "java/lang/Number"), (2, .class_ 14), (0, u "java/io/Serializable"), (0, u "serialVersionUID"), (0, u "J")] 20

def k5c0 : Code := { maxStack := 1, maxLocals := 1, code := jdk_18_method_1_code, exceptionTable := #[], attributes := #[] }
def k5m0 : Method := { name := "<init>", desc := "()V", sig := { parameters := [], returnType := none }, accessFlags := 1, code := some k5c0 }
/-- java/lang/Number -/
def k5 : Class := { plain "java/lang/Number" (some 0) with
  accessFlags := 1057
  interfaces := #[4]
  cf := some (fileOf pool5 8 #[] #[{ accessFlags := 1, nameIndex := 5, descriptorIndex := 6, attributes := #[] }] 1057 2 #[13] #[{ accessFlags := 26, nameIndex := 15, descriptorIndex := 16, attributes := #[] }])
  fields := #[{ name := "serialVersionUID", type := .long, accessFlags := 26, slot := 0, constantValue := 0 }]
  methods := #[k5m0]
  instanceTypes := #[]
  staticTypes := #[.long]
  resolved := Array.replicate 37 none
  statics := none }

def pool6 : Array CpInfo := pool [(1, .class_ 2), (0, u "java/lang/Comparable"), (0, .class_ 4), (0, u "java/lang/Object")] 7

/-- java/lang/Comparable -/
def k6 : Class := { plain "java/lang/Comparable" (some 0) with
  accessFlags := 1537
  interfaces := #[]
  cf := some (fileOf pool6 1 #[] #[] 1537 3 #[] #[])
  fields := #[]
  methods := #[]
  instanceTypes := #[]
  staticTypes := #[]
  resolved := Array.replicate 12 none
  statics := none }

def pool7 : Array CpInfo := pool [(1, .class_ 2), (0, u "java/lang/constant/Constable"), (0, .class_ 4), (0, u "java/lang/Object")] 6

/-- java/lang/constant/Constable -/
def k7 : Class := { plain "java/lang/constant/Constable" (some 0) with
  accessFlags := 1537
  interfaces := #[]
  cf := some (fileOf pool7 1 #[] #[] 1537 3 #[] #[])
  fields := #[]
  methods := #[]
  instanceTypes := #[]
  staticTypes := #[]
  resolved := Array.replicate 11 none
  statics := none }

def pool8 : Array CpInfo := pool [(1, .class_ 2), (0, u "java/lang/constant/ConstantDesc"), (0, .class_ 4), (0, u "java/lang/Object")] 32

/-- java/lang/constant/ConstantDesc -/
def k8 : Class := { plain "java/lang/constant/ConstantDesc" (some 0) with
  accessFlags := 1537
  interfaces := #[]
  cf := some (fileOf pool8 1 #[] #[] 1537 3 #[] #[])
  fields := #[]
  methods := #[]
  instanceTypes := #[]
  staticTypes := #[]
  resolved := Array.replicate 37 none
  statics := none }

def pool9 : Array CpInfo := pool [(1, .class_ 2), (0, u "java/lang/Integer"), (16, u "digits"), (0, u "[C"), (46, u "<init>"), (17, u "DigitOnes"), (0, u "[B"), (2, u "DigitTens"), (10, .nameAndType 67 101), (0, u "()V"), (85, u "valueOf"), (0, u "(I)Ljava/lang/Integer;"), (0, .class_ 190), (0, u "java/lang/Integer$IntegerCache"), (0, .fieldref 189 192), (0, .nameAndType 193 194), (0, u "high"), (0, u "I"), (0, .fieldref 189 196), (0, .nameAndType 197 198), (0, u "cache"), (0, u "[Ljava/lang/Integer;"), (0, .methodref 1 200), (0, .nameAndType 67 201), (0, u "(I)V"), (0, .methodref 203 100), (0, .class_ 204), (0, u "java/lang/Number"), (0, .fieldref 1 206), (0, .nameAndType 207 194), (0, u "value"), (94, u "TYPE"), (0, u "Ljava/lang/Class;"), (0, .class_ 305), (0, u "java/lang/Comparable"), (0, .class_ 307), (0, u "java/lang/constant/Constable"), (0, .class_ 309), (0, u "java/lang/constant/ConstantDesc"), (0, u "MIN_VALUE"), (1, u "MAX_VALUE"), (3, u "SIZE"), (1, u "BYTES"), (1, u "serialVersionUID"), (0, u "J")] 131

def k9c0 : Code := { maxStack := 3, maxLocals := 1, code := jdk_33_method_22_code, exceptionTable := #[], attributes := #[] }
def k9m0 : Method := { name := "valueOf", desc := "(I)Ljava/lang/Integer;", sig := { parameters := [.int], returnType := some (.object "java/lang/Integer") }, accessFlags := 9, code := some k9c0 }
def k9c1 : Code := { maxStack := 2, maxLocals := 2, code := jdk_33_method_23_code, exceptionTable := #[], attributes := #[] }
def k9m1 : Method := { name := "<init>", desc := "(I)V", sig := { parameters := [.int], returnType := none }, accessFlags := 1, code := some k9c1 }
/-- java/lang/Integer -/
def k9 : Class := { plain "java/lang/Integer" (some 5) with
  accessFlags := 49
  interfaces := #[6, 7, 8]
  cf := some (fileOf pool9 1 #[.nestMembers #[189]] #[{ accessFlags := 9, nameIndex := 187, descriptorIndex := 188, attributes := #[] }, { accessFlags := 1, nameIndex := 67, descriptorIndex := 201, attributes := #[] }] 49 203 #[304, 306, 308] #[{ accessFlags := 25, nameIndex := 310, descriptorIndex := 194, attributes := #[] }, { accessFlags := 25, nameIndex := 312, descriptorIndex := 194, attributes := #[] }, { accessFlags := 25, nameIndex := 302, descriptorIndex := 303, attributes := #[] }, { accessFlags := 24, nameIndex := 19, descriptorIndex := 20, attributes := #[] }, { accessFlags := 24, nameIndex := 89, descriptorIndex := 86, attributes := #[] }, { accessFlags := 24, nameIndex := 85, descriptorIndex := 86, attributes := #[] }, { accessFlags := 18, nameIndex := 207, descriptorIndex := 194, attributes := #[] }, { accessFlags := 25, nameIndex := 316, descriptorIndex := 194, attributes := #[] }, { accessFlags := 25, nameIndex := 318, descriptorIndex := 194, attributes := #[] }, { accessFlags := 26, nameIndex := 320, descriptorIndex := 321, attributes := #[] }])
  fields := #[{ name := "MIN_VALUE", type := .int, accessFlags := 25, slot := 0, constantValue := 0 }, { name := "MAX_VALUE", type := .int, accessFlags := 25, slot := 1, constantValue := 0 }, { name := "TYPE", type := (.object "java/lang/Class"), accessFlags := 25, slot := 2, constantValue := 0 }, { name := "digits", type := (.array .char), accessFlags := 24, slot := 3, constantValue := 0 }, { name := "DigitTens", type := (.array .byte), accessFlags := 24, slot := 4, constantValue := 0 }, { name := "DigitOnes", type := (.array .byte), accessFlags := 24, slot := 5, constantValue := 0 }, { name := "value", type := .int, accessFlags := 18, slot := 0, constantValue := 0 }, { name := "SIZE", type := .int, accessFlags := 25, slot := 6, constantValue := 0 }, { name := "BYTES", type := .int, accessFlags := 25, slot := 7, constantValue := 0 }, { name := "serialVersionUID", type := .long, accessFlags := 26, slot := 8, constantValue := 0 }]
  methods := #[k9m0, k9m1]
  instanceTypes := #[.int]
  staticTypes := #[.int, .int, (.object "java/lang/Class"), (.array .char), (.array .byte), (.array .byte), .int, .int, .long]
  resolved := Array.replicate 453 none
  statics := none }

def pool10 : Array CpInfo := pool [(2, .class_ 4), (1, u "java/lang/Object"), (0, u "<init>"), (0, u "()V"), (0, .class_ 8), (0, u "java/lang/Integer"), (7, .class_ 18), (1, u "java/lang/Integer$IntegerCache"), (0, u "$assertionsDisabled"), (0, u "Z"), (26, u "high"), (0, u "I"), (8, u "archivedCache"), (0, u "[Ljava/lang/Integer;"), (12, u "cache"), (0, u "low")] 27

def k10m0 : Method := { name := "<init>", desc := "()V", sig := { parameters := [], returnType := none }, accessFlags := 2, code := none }
/-- java/lang/Integer$IntegerCache -/
def k10 : Class := { plain "java/lang/Integer$IntegerCache" (some 0) with
  accessFlags := 48
  interfaces := #[]
  cf := some (fileOf pool10 16 #[.nestHost 7] #[{ accessFlags := 2, nameIndex := 5, descriptorIndex := 6, attributes := #[] }] 48 2 #[] #[{ accessFlags := 24, nameIndex := 72, descriptorIndex := 48, attributes := #[] }, { accessFlags := 24, nameIndex := 47, descriptorIndex := 48, attributes := #[] }, { accessFlags := 24, nameIndex := 71, descriptorIndex := 58, attributes := #[] }, { accessFlags := 8, nameIndex := 57, descriptorIndex := 58, attributes := #[] }, { accessFlags := 4120, nameIndex := 19, descriptorIndex := 20, attributes := #[] }])
  fields := #[{ name := "low", type := .int, accessFlags := 24, slot := 0, constantValue := 0 }, { name := "high", type := .int, accessFlags := 24, slot := 1, constantValue := 0 }, { name := "cache", type := (.array (.object "java/lang/Integer")), accessFlags := 24, slot := 2, constantValue := 0 }, { name := "archivedCache", type := (.array (.object "java/lang/Integer")), accessFlags := 8, slot := 3, constantValue := 0 }, { name := "$assertionsDisabled", type := .boolean, accessFlags := 4120, slot := 4, constantValue := 0 }]
  methods := #[k10m0]
  instanceTypes := #[]
  staticTypes := #[.int, .int, (.array (.object "java/lang/Integer")), (.array (.object "java/lang/Integer")), .boolean]
  resolved := Array.replicate 100 none
  statics := some 0 }

def pool11 : Array CpInfo := pool [(2, .class_ 4), (1, u "java/lang/Enum"), (0, u "name"), (0, u "Ljava/lang/String;"), (2, u "ordinal"), (0, u "I"), (1, .class_ 14), (1, u "java/lang/Object"), (4, u "hash"), (86, .class_ 108), (1, u "java/lang/Enum$EnumDesc"), (2, .class_ 112), (0, u "java/lang/constant/Constable"), (0, .class_ 114), (0, u "java/lang/Comparable"), (0, .class_ 116), (0, u "java/io/Serializable")] 87

/-- java/lang/Enum -/
def k11 : Class := { plain "java/lang/Enum" (some 0) with
  accessFlags := 1057
  interfaces := #[7, 6, 4]
  cf := some (fileOf pool11 2 #[.nestMembers #[106]] #[] 1057 12 #[111, 113, 115] #[{ accessFlags := 18, nameIndex := 5, descriptorIndex := 6, attributes := #[] }, { accessFlags := 18, nameIndex := 9, descriptorIndex := 10, attributes := #[] }, { accessFlags := 2, nameIndex := 19, descriptorIndex := 10, attributes := #[] }])
  fields := #[{ name := "name", type := (.object "java/lang/String"), accessFlags := 18, slot := 0, constantValue := 0 }, { name := "ordinal", type := .int, accessFlags := 18, slot := 1, constantValue := 0 }, { name := "hash", type := .int, accessFlags := 2, slot := 2, constantValue := 0 }]
  methods := #[]
  instanceTypes := #[(.object "java/lang/String"), .int, .int]
  staticTypes := #[]
  resolved := Array.replicate 204 none
  statics := none }

def pool12 : Array CpInfo := pool [(1, .class_ 2), (0, u "com/example/cordon/cordon/LockMode"), (2, u "INTENTION_SHARED"), (0, u "Lcom/example/cordon/cordon/LockMode;"), (2, u "INTENTION_EXCLUSIVE"), (2, u "SHARED"), (2, u "SHARED_INTENTION_EXCLUSIVE"), (2, u "UPDATE"), (2, u "EXCLUSIVE"), (2, u "$VALUES"), (0, u "[Lcom/example/cordon/cordon/LockMode;"), (6, .class_ 34), (1, u "java/lang/Enum"), (12, u "covered"), (0, u "I"), (6, u "GRANTED_BESIDE"), (0, u "[I"), (2, u "MODES")] 47

/-- com/example/cordon/cordon/LockMode -/
def k12 : Class := { plain "com/example/cordon/cordon/LockMode" (some 11) with
  accessFlags := 16433
  interfaces := #[]
  cf := some (fileOf pool12 1 #[] #[] 16433 32 #[] #[{ accessFlags := 16409, nameIndex := 5, descriptorIndex := 6, attributes := #[] }, { accessFlags := 16409, nameIndex := 9, descriptorIndex := 6, attributes := #[] }, { accessFlags := 16409, nameIndex := 12, descriptorIndex := 6, attributes := #[] }, { accessFlags := 16409, nameIndex := 15, descriptorIndex := 6, attributes := #[] }, { accessFlags := 16409, nameIndex := 18, descriptorIndex := 6, attributes := #[] }, { accessFlags := 16409, nameIndex := 21, descriptorIndex := 6, attributes := #[] }, { accessFlags := 26, nameIndex := 59, descriptorIndex := 25, attributes := #[] }, { accessFlags := 26, nameIndex := 55, descriptorIndex := 56, attributes := #[] }, { accessFlags := 18, nameIndex := 47, descriptorIndex := 48, attributes := #[] }, { accessFlags := 4122, nameIndex := 24, descriptorIndex := 25, attributes := #[] }])
  fields := #[{ name := "INTENTION_SHARED", type := (.object "com/example/cordon/cordon/LockMode"), accessFlags := 16409, slot := 0, constantValue := 0 }, { name := "INTENTION_EXCLUSIVE", type := (.object "com/example/cordon/cordon/LockMode"), accessFlags := 16409, slot := 1, constantValue := 0 }, { name := "SHARED", type := (.object "com/example/cordon/cordon/LockMode"), accessFlags := 16409, slot := 2, constantValue := 0 }, { name := "SHARED_INTENTION_EXCLUSIVE", type := (.object "com/example/cordon/cordon/LockMode"), accessFlags := 16409, slot := 3, constantValue := 0 }, { name := "UPDATE", type := (.object "com/example/cordon/cordon/LockMode"), accessFlags := 16409, slot := 4, constantValue := 0 }, { name := "EXCLUSIVE", type := (.object "com/example/cordon/cordon/LockMode"), accessFlags := 16409, slot := 5, constantValue := 0 }, { name := "MODES", type := (.array (.object "com/example/cordon/cordon/LockMode")), accessFlags := 26, slot := 6, constantValue := 0 }, { name := "GRANTED_BESIDE", type := (.array .int), accessFlags := 26, slot := 7, constantValue := 0 }, { name := "covered", type := .int, accessFlags := 18, slot := 3, constantValue := 0 }, { name := "$VALUES", type := (.array (.object "com/example/cordon/cordon/LockMode")), accessFlags := 4122, slot := 8, constantValue := 0 }]
  methods := #[]
  instanceTypes := #[(.object "java/lang/String"), .int, .int, .int]
  staticTypes := #[(.object "com/example/cordon/cordon/LockMode"), (.object "com/example/cordon/cordon/LockMode"), (.object "com/example/cordon/cordon/LockMode"), (.object "com/example/cordon/cordon/LockMode"), (.object "com/example/cordon/cordon/LockMode"), (.object "com/example/cordon/cordon/LockMode"), (.array (.object "com/example/cordon/cordon/LockMode")), (.array .int), (.array (.object "com/example/cordon/cordon/LockMode"))]
  resolved := Array.replicate 107 none
  statics := some 1 }

def pool13 : Array CpInfo := pool [(1, u "java/lang/Cloneable"), (0, .class_ 1), (0, u "java/lang/Object"), (0, .class_ 3)] 3

/-- java/lang/Cloneable -/
def k13 : Class := { plain "java/lang/Cloneable" (some 0) with
  accessFlags := 1537
  interfaces := #[]
  cf := some (fileOf pool13 2 #[] #[] 1537 4 #[] #[])
  fields := #[]
  methods := #[]
  instanceTypes := #[]
  staticTypes := #[]
  resolved := Array.replicate 8 none
  statics := none }

/-- the primitive byte -/
def k14 : Class := { plain "byte" none with kind := .primitive 'B', accessFlags := 0x411 }
/-- [B -/
def k15 : Class := { plain "[B" (some 0) with kind := .array 14 .byte, interfaces := #[13, 4], accessFlags := 1041 }

/-- the primitive int -/
def k16 : Class := { plain "int" none with kind := .primitive 'I', accessFlags := 0x411 }
/-- [I -/
def k17 : Class := { plain "[I" (some 0) with kind := .array 16 .int, interfaces := #[13, 4], accessFlags := 1041 }

/-- [Ljava/lang/Integer; -/
def k18 : Class := { plain "[Ljava/lang/Integer;" (some 0) with kind := .array 9 (.object "java/lang/Integer"), interfaces := #[13, 4], accessFlags := 1041 }

def heap : Heap := #[{ cls := 10, slots := #[.int 0, .int 127, .ref 2, .null, .int 0], vm := .statics 10 },
  { cls := 12, slots := #[.ref 259, .ref 260, .ref 261, .ref 262, .ref 263, .ref 264, .null, .null, .null], vm := .statics 12 },
  { cls := 18, slots := #[.ref 3, .ref 4, .ref 5, .ref 6, .ref 7, .ref 8, .ref 9, .ref 10, .ref 11, .ref 12, .ref 13, .ref 14, .ref 15, .ref 16, .ref 17, .ref 18, .ref 19, .ref 20, .ref 21, .ref 22, .ref 23, .ref 24, .ref 25, .ref 26, .ref 27, .ref 28, .ref 29, .ref 30, .ref 31, .ref 32, .ref 33, .ref 34, .ref 35, .ref 36, .ref 37, .ref 38, .ref 39, .ref 40, .ref 41, .ref 42, .ref 43, .ref 44, .ref 45, .ref 46, .ref 47, .ref 48, .ref 49, .ref 50, .ref 51, .ref 52, .ref 53, .ref 54, .ref 55, .ref 56, .ref 57, .ref 58, .ref 59, .ref 60, .ref 61, .ref 62, .ref 63, .ref 64, .ref 65, .ref 66, .ref 67, .ref 68, .ref 69, .ref 70, .ref 71, .ref 72, .ref 73, .ref 74, .ref 75, .ref 76, .ref 77, .ref 78, .ref 79, .ref 80, .ref 81, .ref 82, .ref 83, .ref 84, .ref 85, .ref 86, .ref 87, .ref 88, .ref 89, .ref 90, .ref 91, .ref 92, .ref 93, .ref 94, .ref 95, .ref 96, .ref 97, .ref 98, .ref 99, .ref 100, .ref 101, .ref 102, .ref 103, .ref 104, .ref 105, .ref 106, .ref 107, .ref 108, .ref 109, .ref 110, .ref 111, .ref 112, .ref 113, .ref 114, .ref 115, .ref 116, .ref 117, .ref 118, .ref 119, .ref 120, .ref 121, .ref 122, .ref 123, .ref 124, .ref 125, .ref 126, .ref 127, .ref 128, .ref 129, .ref 130, .ref 131, .ref 132, .ref 133, .ref 134, .ref 135, .ref 136, .ref 137, .ref 138, .ref 139, .ref 140, .ref 141, .ref 142, .ref 143, .ref 144, .ref 145, .ref 146, .ref 147, .ref 148, .ref 149, .ref 150, .ref 151, .ref 152, .ref 153, .ref 154, .ref 155, .ref 156, .ref 157, .ref 158, .ref 159, .ref 160, .ref 161, .ref 162, .ref 163, .ref 164, .ref 165, .ref 166, .ref 167, .ref 168, .ref 169, .ref 170, .ref 171, .ref 172, .ref 173, .ref 174, .ref 175, .ref 176, .ref 177, .ref 178, .ref 179, .ref 180, .ref 181, .ref 182, .ref 183, .ref 184, .ref 185, .ref 186, .ref 187, .ref 188, .ref 189, .ref 190, .ref 191, .ref 192, .ref 193, .ref 194, .ref 195, .ref 196, .ref 197, .ref 198, .ref 199, .ref 200, .ref 201, .ref 202, .ref 203, .ref 204, .ref 205, .ref 206, .ref 207, .ref 208, .ref 209, .ref 210, .ref 211, .ref 212, .ref 213, .ref 214, .ref 215, .ref 216, .ref 217, .ref 218, .ref 219, .ref 220, .ref 221, .ref 222, .ref 223, .ref 224, .ref 225, .ref 226, .ref 227, .ref 228, .ref 229, .ref 230, .ref 231, .ref 232, .ref 233, .ref 234, .ref 235, .ref 236, .ref 237, .ref 238, .ref 239, .ref 240, .ref 241, .ref 242, .ref 243, .ref 244, .ref 245, .ref 246, .ref 247, .ref 248, .ref 249, .ref 250, .ref 251, .ref 252, .ref 253, .ref 254, .ref 255, .ref 256, .ref 257, .ref 258], vm := .none },
  { cls := 9, slots := #[.int (-128)], vm := .none },
  { cls := 9, slots := #[.int (-127)], vm := .none },
  { cls := 9, slots := #[.int (-126)], vm := .none },
  { cls := 9, slots := #[.int (-125)], vm := .none },
  { cls := 9, slots := #[.int (-124)], vm := .none },
  { cls := 9, slots := #[.int (-123)], vm := .none },
  { cls := 9, slots := #[.int (-122)], vm := .none },
  { cls := 9, slots := #[.int (-121)], vm := .none },
  { cls := 9, slots := #[.int (-120)], vm := .none },
  { cls := 9, slots := #[.int (-119)], vm := .none },
  { cls := 9, slots := #[.int (-118)], vm := .none },
  { cls := 9, slots := #[.int (-117)], vm := .none },
  { cls := 9, slots := #[.int (-116)], vm := .none },
  { cls := 9, slots := #[.int (-115)], vm := .none },
  { cls := 9, slots := #[.int (-114)], vm := .none },
  { cls := 9, slots := #[.int (-113)], vm := .none },
  { cls := 9, slots := #[.int (-112)], vm := .none },
  { cls := 9, slots := #[.int (-111)], vm := .none },
  { cls := 9, slots := #[.int (-110)], vm := .none },
  { cls := 9, slots := #[.int (-109)], vm := .none },
  { cls := 9, slots := #[.int (-108)], vm := .none },
  { cls := 9, slots := #[.int (-107)], vm := .none },
  { cls := 9, slots := #[.int (-106)], vm := .none },
  { cls := 9, slots := #[.int (-105)], vm := .none },
  { cls := 9, slots := #[.int (-104)], vm := .none },
  { cls := 9, slots := #[.int (-103)], vm := .none },
  { cls := 9, slots := #[.int (-102)], vm := .none },
  { cls := 9, slots := #[.int (-101)], vm := .none },
  { cls := 9, slots := #[.int (-100)], vm := .none },
  { cls := 9, slots := #[.int (-99)], vm := .none },
  { cls := 9, slots := #[.int (-98)], vm := .none },
  { cls := 9, slots := #[.int (-97)], vm := .none },
  { cls := 9, slots := #[.int (-96)], vm := .none },
  { cls := 9, slots := #[.int (-95)], vm := .none },
  { cls := 9, slots := #[.int (-94)], vm := .none },
  { cls := 9, slots := #[.int (-93)], vm := .none },
  { cls := 9, slots := #[.int (-92)], vm := .none },
  { cls := 9, slots := #[.int (-91)], vm := .none },
  { cls := 9, slots := #[.int (-90)], vm := .none },
  { cls := 9, slots := #[.int (-89)], vm := .none },
  { cls := 9, slots := #[.int (-88)], vm := .none },
  { cls := 9, slots := #[.int (-87)], vm := .none },
  { cls := 9, slots := #[.int (-86)], vm := .none },
  { cls := 9, slots := #[.int (-85)], vm := .none },
  { cls := 9, slots := #[.int (-84)], vm := .none },
  { cls := 9, slots := #[.int (-83)], vm := .none },
  { cls := 9, slots := #[.int (-82)], vm := .none },
  { cls := 9, slots := #[.int (-81)], vm := .none },
  { cls := 9, slots := #[.int (-80)], vm := .none },
  { cls := 9, slots := #[.int (-79)], vm := .none },
  { cls := 9, slots := #[.int (-78)], vm := .none },
  { cls := 9, slots := #[.int (-77)], vm := .none },
  { cls := 9, slots := #[.int (-76)], vm := .none },
  { cls := 9, slots := #[.int (-75)], vm := .none },
  { cls := 9, slots := #[.int (-74)], vm := .none },
  { cls := 9, slots := #[.int (-73)], vm := .none },
  { cls := 9, slots := #[.int (-72)], vm := .none },
  { cls := 9, slots := #[.int (-71)], vm := .none },
  { cls := 9, slots := #[.int (-70)], vm := .none },
  { cls := 9, slots := #[.int (-69)], vm := .none },
  { cls := 9, slots := #[.int (-68)], vm := .none },
  { cls := 9, slots := #[.int (-67)], vm := .none },
  { cls := 9, slots := #[.int (-66)], vm := .none },
  { cls := 9, slots := #[.int (-65)], vm := .none },
  { cls := 9, slots := #[.int (-64)], vm := .none },
  { cls := 9, slots := #[.int (-63)], vm := .none },
  { cls := 9, slots := #[.int (-62)], vm := .none },
  { cls := 9, slots := #[.int (-61)], vm := .none },
  { cls := 9, slots := #[.int (-60)], vm := .none },
  { cls := 9, slots := #[.int (-59)], vm := .none },
  { cls := 9, slots := #[.int (-58)], vm := .none },
  { cls := 9, slots := #[.int (-57)], vm := .none },
  { cls := 9, slots := #[.int (-56)], vm := .none },
  { cls := 9, slots := #[.int (-55)], vm := .none },
  { cls := 9, slots := #[.int (-54)], vm := .none },
  { cls := 9, slots := #[.int (-53)], vm := .none },
  { cls := 9, slots := #[.int (-52)], vm := .none },
  { cls := 9, slots := #[.int (-51)], vm := .none },
  { cls := 9, slots := #[.int (-50)], vm := .none },
  { cls := 9, slots := #[.int (-49)], vm := .none },
  { cls := 9, slots := #[.int (-48)], vm := .none },
  { cls := 9, slots := #[.int (-47)], vm := .none },
  { cls := 9, slots := #[.int (-46)], vm := .none },
  { cls := 9, slots := #[.int (-45)], vm := .none },
  { cls := 9, slots := #[.int (-44)], vm := .none },
  { cls := 9, slots := #[.int (-43)], vm := .none },
  { cls := 9, slots := #[.int (-42)], vm := .none },
  { cls := 9, slots := #[.int (-41)], vm := .none },
  { cls := 9, slots := #[.int (-40)], vm := .none },
  { cls := 9, slots := #[.int (-39)], vm := .none },
  { cls := 9, slots := #[.int (-38)], vm := .none },
  { cls := 9, slots := #[.int (-37)], vm := .none },
  { cls := 9, slots := #[.int (-36)], vm := .none },
  { cls := 9, slots := #[.int (-35)], vm := .none },
  { cls := 9, slots := #[.int (-34)], vm := .none },
  { cls := 9, slots := #[.int (-33)], vm := .none },
  { cls := 9, slots := #[.int (-32)], vm := .none },
  { cls := 9, slots := #[.int (-31)], vm := .none },
  { cls := 9, slots := #[.int (-30)], vm := .none },
  { cls := 9, slots := #[.int (-29)], vm := .none },
  { cls := 9, slots := #[.int (-28)], vm := .none },
  { cls := 9, slots := #[.int (-27)], vm := .none },
  { cls := 9, slots := #[.int (-26)], vm := .none },
  { cls := 9, slots := #[.int (-25)], vm := .none },
  { cls := 9, slots := #[.int (-24)], vm := .none },
  { cls := 9, slots := #[.int (-23)], vm := .none },
  { cls := 9, slots := #[.int (-22)], vm := .none },
  { cls := 9, slots := #[.int (-21)], vm := .none },
  { cls := 9, slots := #[.int (-20)], vm := .none },
  { cls := 9, slots := #[.int (-19)], vm := .none },
  { cls := 9, slots := #[.int (-18)], vm := .none },
  { cls := 9, slots := #[.int (-17)], vm := .none },
  { cls := 9, slots := #[.int (-16)], vm := .none },
  { cls := 9, slots := #[.int (-15)], vm := .none },
  { cls := 9, slots := #[.int (-14)], vm := .none },
  { cls := 9, slots := #[.int (-13)], vm := .none },
  { cls := 9, slots := #[.int (-12)], vm := .none },
  { cls := 9, slots := #[.int (-11)], vm := .none },
  { cls := 9, slots := #[.int (-10)], vm := .none },
  { cls := 9, slots := #[.int (-9)], vm := .none },
  { cls := 9, slots := #[.int (-8)], vm := .none },
  { cls := 9, slots := #[.int (-7)], vm := .none },
  { cls := 9, slots := #[.int (-6)], vm := .none },
  { cls := 9, slots := #[.int (-5)], vm := .none },
  { cls := 9, slots := #[.int (-4)], vm := .none },
  { cls := 9, slots := #[.int (-3)], vm := .none },
  { cls := 9, slots := #[.int (-2)], vm := .none },
  { cls := 9, slots := #[.int (-1)], vm := .none },
  { cls := 9, slots := #[.int 0], vm := .none },
  { cls := 9, slots := #[.int 1], vm := .none },
  { cls := 9, slots := #[.int 2], vm := .none },
  { cls := 9, slots := #[.int 3], vm := .none },
  { cls := 9, slots := #[.int 4], vm := .none },
  { cls := 9, slots := #[.int 5], vm := .none },
  { cls := 9, slots := #[.int 6], vm := .none },
  { cls := 9, slots := #[.int 7], vm := .none },
  { cls := 9, slots := #[.int 8], vm := .none },
  { cls := 9, slots := #[.int 9], vm := .none },
  { cls := 9, slots := #[.int 10], vm := .none },
  { cls := 9, slots := #[.int 11], vm := .none },
  { cls := 9, slots := #[.int 12], vm := .none },
  { cls := 9, slots := #[.int 13], vm := .none },
  { cls := 9, slots := #[.int 14], vm := .none },
  { cls := 9, slots := #[.int 15], vm := .none },
  { cls := 9, slots := #[.int 16], vm := .none },
  { cls := 9, slots := #[.int 17], vm := .none },
  { cls := 9, slots := #[.int 18], vm := .none },
  { cls := 9, slots := #[.int 19], vm := .none },
  { cls := 9, slots := #[.int 20], vm := .none },
  { cls := 9, slots := #[.int 21], vm := .none },
  { cls := 9, slots := #[.int 22], vm := .none },
  { cls := 9, slots := #[.int 23], vm := .none },
  { cls := 9, slots := #[.int 24], vm := .none },
  { cls := 9, slots := #[.int 25], vm := .none },
  { cls := 9, slots := #[.int 26], vm := .none },
  { cls := 9, slots := #[.int 27], vm := .none },
  { cls := 9, slots := #[.int 28], vm := .none },
  { cls := 9, slots := #[.int 29], vm := .none },
  { cls := 9, slots := #[.int 30], vm := .none },
  { cls := 9, slots := #[.int 31], vm := .none },
  { cls := 9, slots := #[.int 32], vm := .none },
  { cls := 9, slots := #[.int 33], vm := .none },
  { cls := 9, slots := #[.int 34], vm := .none },
  { cls := 9, slots := #[.int 35], vm := .none },
  { cls := 9, slots := #[.int 36], vm := .none },
  { cls := 9, slots := #[.int 37], vm := .none },
  { cls := 9, slots := #[.int 38], vm := .none },
  { cls := 9, slots := #[.int 39], vm := .none },
  { cls := 9, slots := #[.int 40], vm := .none },
  { cls := 9, slots := #[.int 41], vm := .none },
  { cls := 9, slots := #[.int 42], vm := .none },
  { cls := 9, slots := #[.int 43], vm := .none },
  { cls := 9, slots := #[.int 44], vm := .none },
  { cls := 9, slots := #[.int 45], vm := .none },
  { cls := 9, slots := #[.int 46], vm := .none },
  { cls := 9, slots := #[.int 47], vm := .none },
  { cls := 9, slots := #[.int 48], vm := .none },
  { cls := 9, slots := #[.int 49], vm := .none },
  { cls := 9, slots := #[.int 50], vm := .none },
  { cls := 9, slots := #[.int 51], vm := .none },
  { cls := 9, slots := #[.int 52], vm := .none },
  { cls := 9, slots := #[.int 53], vm := .none },
  { cls := 9, slots := #[.int 54], vm := .none },
  { cls := 9, slots := #[.int 55], vm := .none },
  { cls := 9, slots := #[.int 56], vm := .none },
  { cls := 9, slots := #[.int 57], vm := .none },
  { cls := 9, slots := #[.int 58], vm := .none },
  { cls := 9, slots := #[.int 59], vm := .none },
  { cls := 9, slots := #[.int 60], vm := .none },
  { cls := 9, slots := #[.int 61], vm := .none },
  { cls := 9, slots := #[.int 62], vm := .none },
  { cls := 9, slots := #[.int 63], vm := .none },
  { cls := 9, slots := #[.int 64], vm := .none },
  { cls := 9, slots := #[.int 65], vm := .none },
  { cls := 9, slots := #[.int 66], vm := .none },
  { cls := 9, slots := #[.int 67], vm := .none },
  { cls := 9, slots := #[.int 68], vm := .none },
  { cls := 9, slots := #[.int 69], vm := .none },
  { cls := 9, slots := #[.int 70], vm := .none },
  { cls := 9, slots := #[.int 71], vm := .none },
  { cls := 9, slots := #[.int 72], vm := .none },
  { cls := 9, slots := #[.int 73], vm := .none },
  { cls := 9, slots := #[.int 74], vm := .none },
  { cls := 9, slots := #[.int 75], vm := .none },
  { cls := 9, slots := #[.int 76], vm := .none },
  { cls := 9, slots := #[.int 77], vm := .none },
  { cls := 9, slots := #[.int 78], vm := .none },
  { cls := 9, slots := #[.int 79], vm := .none },
  { cls := 9, slots := #[.int 80], vm := .none },
  { cls := 9, slots := #[.int 81], vm := .none },
  { cls := 9, slots := #[.int 82], vm := .none },
  { cls := 9, slots := #[.int 83], vm := .none },
  { cls := 9, slots := #[.int 84], vm := .none },
  { cls := 9, slots := #[.int 85], vm := .none },
  { cls := 9, slots := #[.int 86], vm := .none },
  { cls := 9, slots := #[.int 87], vm := .none },
  { cls := 9, slots := #[.int 88], vm := .none },
  { cls := 9, slots := #[.int 89], vm := .none },
  { cls := 9, slots := #[.int 90], vm := .none },
  { cls := 9, slots := #[.int 91], vm := .none },
  { cls := 9, slots := #[.int 92], vm := .none },
  { cls := 9, slots := #[.int 93], vm := .none },
  { cls := 9, slots := #[.int 94], vm := .none },
  { cls := 9, slots := #[.int 95], vm := .none },
  { cls := 9, slots := #[.int 96], vm := .none },
  { cls := 9, slots := #[.int 97], vm := .none },
  { cls := 9, slots := #[.int 98], vm := .none },
  { cls := 9, slots := #[.int 99], vm := .none },
  { cls := 9, slots := #[.int 100], vm := .none },
  { cls := 9, slots := #[.int 101], vm := .none },
  { cls := 9, slots := #[.int 102], vm := .none },
  { cls := 9, slots := #[.int 103], vm := .none },
  { cls := 9, slots := #[.int 104], vm := .none },
  { cls := 9, slots := #[.int 105], vm := .none },
  { cls := 9, slots := #[.int 106], vm := .none },
  { cls := 9, slots := #[.int 107], vm := .none },
  { cls := 9, slots := #[.int 108], vm := .none },
  { cls := 9, slots := #[.int 109], vm := .none },
  { cls := 9, slots := #[.int 110], vm := .none },
  { cls := 9, slots := #[.int 111], vm := .none },
  { cls := 9, slots := #[.int 112], vm := .none },
  { cls := 9, slots := #[.int 113], vm := .none },
  { cls := 9, slots := #[.int 114], vm := .none },
  { cls := 9, slots := #[.int 115], vm := .none },
  { cls := 9, slots := #[.int 116], vm := .none },
  { cls := 9, slots := #[.int 117], vm := .none },
  { cls := 9, slots := #[.int 118], vm := .none },
  { cls := 9, slots := #[.int 119], vm := .none },
  { cls := 9, slots := #[.int 120], vm := .none },
  { cls := 9, slots := #[.int 121], vm := .none },
  { cls := 9, slots := #[.int 122], vm := .none },
  { cls := 9, slots := #[.int 123], vm := .none },
  { cls := 9, slots := #[.int 124], vm := .none },
  { cls := 9, slots := #[.int 125], vm := .none },
  { cls := 9, slots := #[.int 126], vm := .none },
  { cls := 9, slots := #[.int 127], vm := .none },
  { cls := 12, slots := #[.null, .int 0, .int 0, .int 0], vm := .none },
  { cls := 12, slots := #[.null, .int 1, .int 0, .int 0], vm := .none },
  { cls := 12, slots := #[.null, .int 2, .int 0, .int 0], vm := .none },
  { cls := 12, slots := #[.null, .int 3, .int 0, .int 0], vm := .none },
  { cls := 12, slots := #[.null, .int 4, .int 0, .int 0], vm := .none },
  { cls := 12, slots := #[.null, .int 5, .int 0, .int 0], vm := .none }]
def classes : Array Class := #[k0, k1, k2, k3, k4, k5, k6, k7, k8, k9, k10, k11, k12, k13, k14, k15, k16, k17, k18]
def interned : List (Array UInt16 × Addr) := []
def slotsUsed : Nat := 550
def theMethod : MethodId := ⟨1, 3⟩
def args0 : Array Value := #[.int 3, .long 1, .long 2, .long 3]
def aboutOver (below : List Frame) : State where
  vm := { classes := classes, interned := interned.toArray }
  heap := heap
  slotsUsed := slotsUsed
  threads := #[{ frames := .invoking theMethod args0 :: below }]
def below0 : List Frame := [.native { method := ⟨0, 0⟩, args := #[] }]
def about1 : State := aboutOver below0
def p0 : Program := .bare "" "" ""
def e0 : Env := launch0.env 0 0 0
theorem w_frames : about1.frames = Frame.invoking theMethod args0 :: below0 := rfl
set_option maxRecDepth 65536 in
theorem w_args : argsFit about1.vm theMethod args0 = true := by decide +kernel
set_option maxRecDepth 65536 in
theorem w_heap : heapFits about1 = true := by decide +kernel
set_option maxRecDepth 65536 in
theorem w_runnable : about1.curStatus? = some .runnable := by decide +kernel
set_option maxRecDepth 65536 in
theorem w_alone : about1.alone = true := by decide +kernel
set_option maxRecDepth 65536 in
theorem w_named : about1.methodNamed? x = some theMethod := by decide +kernel
set_option maxRecDepth 65536 in
theorem w_hears : about1.hears theMethod below0 = true := by decide +kernel
set_option maxRecDepth 65536 in
theorem w_ripe : about1.ripe theMethod args0 below0 = true := by decide +kernel
theorem w_running : about1.status = .running := rfl
set_option maxRecDepth 65536 in
theorem w_room : about1.hasRoom e0.platform room_1 = true :=
  launch0.hasRoom_least _ room_1 (by decide +kernel) (by decide +kernel) (by decide +kernel) (by decide +kernel) (by decide +kernel) (by decide +kernel)
theorem allAtoms_all (ts : List Jvm.Cond) (a : Array Jvm.Value) (st : Jvm.State) : (allAtoms ts).before a st = ts.all (fun c => c.before a st) := by
  induction ts with
  | nil => rfl
  | cons c t ih =>
    show (Jvm.Cond.and c (allAtoms t)).before a st = _
    rw [Jvm.Cond.before_and, ih, List.all_cons]
def words1 : List Jvm.Cond := Jvm.Cond.code x code maxLocals ret :: tables_1
/-- a 'code' word, met by the world's own term for the bytes: nothing is compared byte by byte -/
theorem code_word {y : MethodName} {bytes : ByteArray} {mx : Nat} {rt : Option FieldType} {a : Array Value} {s : State} {m : MethodId} {meth : Method} {c : Code} (h1 : s.methodNamed? y = some m) (h2 : s.vm.method? m = some meth) (h3 : meth.code = some c) (h4 : c.code = bytes)
    (h5 : (c.maxLocals == mx && c.exceptionTable.isEmpty && decide (c.maxStack ≤ mostOperands) && decide (meth.sig.returnType = rt) && !meth.locks && decide (parseMethodDescriptor y.desc = some meth.sig)) = true) : (Jvm.Cond.code y bytes mx rt).before a s = true := by
  simp only [Bool.and_eq_true, beq_iff_eq, Bool.not_eq_true', decide_eq_true_eq] at h5
  obtain ⟨⟨⟨⟨⟨g1, g2⟩, g3⟩, g4⟩, g5⟩, g6⟩ := h5
  simp [Cond.before, Cond.holds, Cond.value, h1, h2, h3, h4, g1, g2, g3, g4, g5, g6]
def isCode : Jvm.Cond → Bool
  | .code _ _ _ _ => true
  | _ => false
theorem all_split {L : List Jvm.Cond} {P : Jvm.Cond → Bool} (h1 : L.all (fun c => isCode c || P c) = true) (h2 : ∀ c ∈ L.filter isCode, P c = true) : L.all P = true := by
  refine List.all_eq_true.mpr fun c hc => ?_
  have h := List.all_eq_true.mp h1 c hc
  rcases Bool.eq_false_or_eq_true (isCode c) with hi | hi
  · exact h2 c (List.mem_filter.mpr ⟨hc, hi⟩)
  · simpa [hi] using h
set_option maxRecDepth 65536 in
theorem w_c0 : (Jvm.Cond.code x code maxLocals ret).before args0 about1 = true := code_word (m := ⟨1, 3⟩) (meth := k1m3) (c := k1c3) (by decide +kernel) rfl rfl rfl (by decide +kernel)
set_option maxRecDepth 65536 in
theorem w_c1 : (Jvm.Cond.code ({ cls := "java/lang/Integer", name := "valueOf", desc := "(I)Ljava/lang/Integer;" } : Jvm.MethodName) jdk_33_method_22_code (1 : Nat) (Option.some (Jvm.ClassFile.FieldType.object "java/lang/Integer"))).before args0 about1 = true := code_word (m := ⟨9, 0⟩) (meth := k9m0) (c := k9c0) (by decide +kernel) rfl rfl rfl (by decide +kernel)
set_option maxRecDepth 65536 in
theorem w_c2 : (Jvm.Cond.code ({ cls := "com/example/cordon/cordon/RequestIsAheadOfPinLaw", name := "mode", desc := "(I)Lcom/example/cordon/cordon/LockMode;" } : Jvm.MethodName) method_2_code (2 : Nat) (Option.some (Jvm.ClassFile.FieldType.object "com/example/cordon/cordon/LockMode"))).before args0 about1 = true := code_word (m := ⟨1, 1⟩) (meth := k1m1) (c := k1c1) (by decide +kernel) rfl rfl rfl (by decide +kernel)
set_option maxRecDepth 65536 in
theorem w_c3 : (Jvm.Cond.code ({ cls := "com/example/cordon/cordon/KeyEntry$Request", name := "<init>", desc := "(Ljava/lang/Object;Lcom/example/cordon/cordon/LockMode;ZJ)V" } : Jvm.MethodName) prog_10_method_1_code (6 : Nat) (Option.none : Option Jvm.ClassFile.FieldType)).before args0 about1 = true := code_word (m := ⟨3, 0⟩) (meth := k3m0) (c := k3c0) (by decide +kernel) rfl rfl rfl (by decide +kernel)
set_option maxRecDepth 65536 in
theorem w_c4 : (Jvm.Cond.code ({ cls := "java/lang/Record", name := "<init>", desc := "()V" } : Jvm.MethodName) jdk_30_method_1_code (1 : Nat) (Option.none : Option Jvm.ClassFile.FieldType)).before args0 about1 = true := code_word (m := ⟨2, 0⟩) (meth := k2m0) (c := k2c0) (by decide +kernel) rfl rfl rfl (by decide +kernel)
set_option maxRecDepth 65536 in
theorem w_c5 : (Jvm.Cond.code ({ cls := "java/lang/Object", name := "<init>", desc := "()V" } : Jvm.MethodName) object_method_1_code (1 : Nat) (Option.none : Option Jvm.ClassFile.FieldType)).before args0 about1 = true := code_word (m := ⟨0, 0⟩) (meth := k0m0) (c := k0c0) (by decide +kernel) rfl rfl rfl (by decide +kernel)
set_option maxRecDepth 65536 in
theorem w_c6 : (Jvm.Cond.code ({ cls := "com/example/cordon/cordon/KeyEntry$Request", name := "isAheadOf", desc := "(Lcom/example/cordon/cordon/KeyEntry$Request;)Z" } : Jvm.MethodName) prog_10_method_2_code (2 : Nat) (Option.some Jvm.ClassFile.FieldType.boolean)).before args0 about1 = true := code_word (m := ⟨3, 1⟩) (meth := k3m1) (c := k3c1) (by decide +kernel) rfl rfl rfl (by decide +kernel)
set_option maxRecDepth 65536 in
theorem w_c7 : (Jvm.Cond.code ({ cls := "com/example/cordon/cordon/RequestIsAheadOfPinLaw", name := "ahead", desc := "(ZJZJ)Z" } : Jvm.MethodName) method_3_code (6 : Nat) (Option.some Jvm.ClassFile.FieldType.boolean)).before args0 about1 = true := code_word (m := ⟨1, 2⟩) (meth := k1m2) (c := k1c2) (by decide +kernel) rfl rfl rfl (by decide +kernel)
set_option maxRecDepth 65536 in
theorem w_c8 : (Jvm.Cond.code ({ cls := "java/lang/Integer", name := "<init>", desc := "(I)V" } : Jvm.MethodName) jdk_33_method_23_code (2 : Nat) (Option.none : Option Jvm.ClassFile.FieldType)).before args0 about1 = true := code_word (m := ⟨9, 1⟩) (meth := k9m1) (c := k9c1) (by decide +kernel) rfl rfl rfl (by decide +kernel)
set_option maxRecDepth 65536 in
theorem w_c9 : (Jvm.Cond.code ({ cls := "java/lang/Number", name := "<init>", desc := "()V" } : Jvm.MethodName) jdk_18_method_1_code (1 : Nat) (Option.none : Option Jvm.ClassFile.FieldType)).before args0 about1 = true := code_word (m := ⟨5, 0⟩) (meth := k5m0) (c := k5c0) (by decide +kernel) rfl rfl rfl (by decide +kernel)
def codes1 : List Jvm.Cond := [Jvm.Cond.code x code maxLocals ret, Jvm.Cond.code ({ cls := "java/lang/Integer", name := "valueOf", desc := "(I)Ljava/lang/Integer;" } : Jvm.MethodName) jdk_33_method_22_code (1 : Nat) (Option.some (Jvm.ClassFile.FieldType.object "java/lang/Integer")), Jvm.Cond.code ({ cls := "com/example/cordon/cordon/RequestIsAheadOfPinLaw", name := "mode", desc := "(I)Lcom/example/cordon/cordon/LockMode;" } : Jvm.MethodName) method_2_code (2 : Nat) (Option.some (Jvm.ClassFile.FieldType.object "com/example/cordon/cordon/LockMode")), Jvm.Cond.code ({ cls := "com/example/cordon/cordon/KeyEntry$Request", name := "<init>", desc := "(Ljava/lang/Object;Lcom/example/cordon/cordon/LockMode;ZJ)V" } : Jvm.MethodName) prog_10_method_1_code (6 : Nat) (Option.none : Option Jvm.ClassFile.FieldType), Jvm.Cond.code ({ cls := "java/lang/Record", name := "<init>", desc := "()V" } : Jvm.MethodName) jdk_30_method_1_code (1 : Nat) (Option.none : Option Jvm.ClassFile.FieldType), Jvm.Cond.code ({ cls := "java/lang/Object", name := "<init>", desc := "()V" } : Jvm.MethodName) object_method_1_code (1 : Nat) (Option.none : Option Jvm.ClassFile.FieldType), Jvm.Cond.code ({ cls := "com/example/cordon/cordon/KeyEntry$Request", name := "isAheadOf", desc := "(Lcom/example/cordon/cordon/KeyEntry$Request;)Z" } : Jvm.MethodName) prog_10_method_2_code (2 : Nat) (Option.some Jvm.ClassFile.FieldType.boolean), Jvm.Cond.code ({ cls := "com/example/cordon/cordon/RequestIsAheadOfPinLaw", name := "ahead", desc := "(ZJZJ)Z" } : Jvm.MethodName) method_3_code (6 : Nat) (Option.some Jvm.ClassFile.FieldType.boolean), Jvm.Cond.code ({ cls := "java/lang/Integer", name := "<init>", desc := "(I)V" } : Jvm.MethodName) jdk_33_method_23_code (2 : Nat) (Option.none : Option Jvm.ClassFile.FieldType), Jvm.Cond.code ({ cls := "java/lang/Number", name := "<init>", desc := "()V" } : Jvm.MethodName) jdk_18_method_1_code (1 : Nat) (Option.none : Option Jvm.ClassFile.FieldType)]
set_option maxRecDepth 65536 in
theorem codes_eq : words1.filter isCode = codes1 := rfl
theorem w_codes : ∀ c ∈ words1.filter isCode, c.before args0 about1 = true := by
  rw [codes_eq]
  intro c hc
  simp only [codes1, List.mem_cons, List.not_mem_nil, or_false] at hc
  rcases hc with rfl | rfl | rfl | rfl | rfl | rfl | rfl | rfl | rfl | rfl
  · exact w_c0
  · exact w_c1
  · exact w_c2
  · exact w_c3
  · exact w_c4
  · exact w_c5
  · exact w_c6
  · exact w_c7
  · exact w_c8
  · exact w_c9
set_option maxRecDepth 65536 in
theorem w_t1 : (words1.take 24).all (fun c => isCode c || c.before args0 about1) = true := by decide +kernel
set_option maxRecDepth 65536 in
theorem w_t2 : ((words1.drop 24).take 24).all (fun c => isCode c || c.before args0 about1) = true := by decide +kernel
set_option maxRecDepth 65536 in
theorem w_t3 : ((words1.drop 24).drop 24).all (fun c => isCode c || c.before args0 about1) = true := by decide +kernel
theorem w_tables : (allAtoms (Jvm.Cond.code x code maxLocals ret :: tables_1)).before args0 about1 = true := by
  rw [allAtoms_all]
  show words1.all (fun c => c.before args0 about1) = true
  refine all_split ?_ w_codes
  rw [← List.take_append_drop 24 words1, List.all_append, w_t1, ← List.take_append_drop 24 (words1.drop 24), List.all_append, w_t2, w_t3]
  rfl
set_option maxRecDepth 65536 in
theorem w_rest : rest_1_c.before args0 about1 = true := by decide +kernel
set_option maxRecDepth 65536 in
theorem w_case : (Jvm.Cond.and given_1 narrow_1).before args0 about1 = true := by decide +kernel
theorem w_applies : (headSpec (Jvm.Cond.code x code maxLocals ret :: tables_1) room_1).applies x e0.platform about1 = true :=
  (Spec.applies_iff w_frames).mpr ⟨w_running, w_runnable, w_alone, w_named, w_hears, w_ripe, w_room, w_tables⟩
theorem atStart : AtStart classFile x code maxLocals ret World_1 tables_1 room_1 Calls_1 rest_1 Pre_1 launch0 p0 e0 about1 theMethod args0 below0 :=
  ⟨lists_1, trivial, launch0.admits_env _ _ _, launch0.least_env, fairChoices_fair.cas, fairChoices_fair.clock, w_frames, w_args, w_heap, w_applies, trivial, w_rest, w_case⟩
end start1
theorem witness_1 : WitnessClaimed_1 := ⟨start1.p0, start1.e0, start1.about1, start1.theMethod, start1.args0, start1.below0, start1.atStart⟩
end Jvm.Pilot.@@N@@
