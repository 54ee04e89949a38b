import JvmDerived
import JvmDerived.Pilot.@@N@@Statement
import JvmDerived.Pilot.@@N@@Code
set_option linter.unusedVariables false
set_option linter.unusedSimpArgs false
namespace Jvm.Pilot.@@N@@
open Jvm Jvm.ClassFile Sem Op Lib Jvm.Free Jvm.Stand Jvm.LawKit Jvm.RoadKit Bundle Jvm.Pilot.@@N@@.Jvm.D
section Own
variable {p : Program} {l : Launch} {e : Env} {R : Room} {s : State} {m : MethodId} {args : Array Value} {below : List Frame} {meth : Method} {c : Code} {T : State} {locs : List Loc} {cells slots : Nat} {Z : State} {a0 : Array Value} {h h' : Heap}
/-- from A the run comes to its end, and G holds there -/
def OGo (p : Program) (e : Env) (below : List Frame) (G : State → Outcome → Prop) (A : State) : Prop := ∃ s₂ o, Steps p.tables e below A s₂ ∧ s₂.status = .running ∧ Ended s₂ below o ∧ G s₂ o
theorem OGo.st {G : State → Outcome → Prop} {A B : State} (k : ∀ t, Steps p.tables e below B t → Steps p.tables e below A t) (g : OGo p e below G B) : OGo p e below G A := by
  obtain ⟨s₂, o, q, r⟩ := g
  exact ⟨s₂, o, k _ q, r⟩
theorem OGo.join {α : Type} {G : State → Outcome → Prop} {A : State} (F : α → State) (P : α → Prop) (h1 : ∀ a, P a → OGo p e below G (F a)) (h2 : (∀ a, P a → OGo p e below G (F a)) → OGo p e below G A) : OGo p e below G A := h2 h1
/-- what a body leaves -/
def ODone (s : State) (rm : Room) (Q : Option Value → Heap → List Loc → Prop) (t : State) (o : Outcome) : Prop := ∃ v L, o = .returned v ∧ Q v t.heap L ∧ FrameEnd s o t L rm.cells rm.slots
/-- a body's contract -/
def OMet (l : Launch) (Z : State) (y : MethodName) (bytes : ByteArray) (maxL : Nat) (ret : Option FieldType) (ws : List Jvm.Cond) (rm : Room) (as' : Array Value) (h0 : Heap) (Q : Option Value → Heap → List Loc → Prop) : Prop :=
  MetFree l y (head1 (Jvm.Cond.code y bytes maxL ret :: ws) rm) (fun a U => a = as' ∧ Z.Warmed39 U.vm ∧ U.heap = h0) (fun _ _ _ _ _ => True) (fun _ U o U' => ∃ v L, o = .returned v ∧ Q v U'.heap L ∧ FrameEnd U o U' L rm.cells rm.slots)
section M
variable {y : MethodName} {bytes : ByteArray} {maxL : Nat} {ret : Option FieldType} {ws : List Jvm.Cond} {rm : Room} {as' : Array Value} {Q : Option Value → Heap → List Loc → Prop}
theorem OMet.of (hp : plainFor y = true)
    (body : ∀ (p : Program) (e : Env) (s : State) (m : MethodId) (below : List Frame) (meth : Method) (c : Code) (s₁ : State), p.tables.exec = Jvm.exec → c.code = bytes → c.maxLocals = maxL → s.methodNamed? y = some m → s.vm.findClass y.cls = some m.cls → meth.name = y.name → meth.sig.returnType = ret → meth.locks = false → Z.Warmed39 s.vm →
      Stand p l e rm s m as' below meth c s₁ [] 0 0 → s₁.heap = h → OGo p e below (ODone s rm Q) (s₁.setTop (entryFrame m as' maxL))) : OMet l Z y bytes maxL ret ws rm as' h Q := by
  refine MetFree.of_bodySF hp hisR ?_
  intro p e s m args below meth c s₁ Bd hml hP hK
  obtain ⟨hA, hZ, hh⟩ := hP
  subst hA
  exact body p e s m below meth c s₁ Bd.exec Bd.bytes hml Bd.named (findClass_of_methodNamed Bd.named) (name_of_methodNamed Bd.named Bd.method).1 Bd.returns Bd.notSynchronized hZ (Stand.of_body Bd) (by rw [← hh, Bd.state]; rfl)
theorem OMet.back {len W : Nat} (hM : OMet l Z y bytes maxL ret [] rm as' h Q) (hZ : Z.Warmed39 s.vm) (wc : (Jvm.Cond.code y bytes maxL ret).before a0 Z = true) (wz : (Jvm.Cond.initialized y.cls).before a0 Z = true) (hf : rm.frames + 1 ≤ R.frames) (hl : W + (maxL + 11) + rm.locals ≤ R.locals) :
    Back l R p e below s args y len W (fun A a => a = as' ∧ A.U.heap = h ∧ A.cells + rm.cells ≤ R.cells ∧ A.slots + rm.slots ≤ R.slots) (fun A _ v B => ∃ L, Q v B.U.heap L ∧ B.locs = A.locs ++ L ∧ B.cells = A.cells + rm.cells ∧ B.slots = A.slots + rm.slots) :=
  backOf hM hZ wc wz hf hl
/-- a static call by its contract -/
theorem OMet.static (hM : OMet l Z y bytes maxL ret [] rm as' h Q) (X : Stand p l e R s m args below meth c T locs cells slots) (hx : p.tables.exec = Jvm.exec) (hZ : Z.Warmed39 s.vm) {own : String} {index W : Nat} (hown : s.vm.findClass own = some m.cls)
    (w1 : (Jvm.Cond.methodLink own index y).before a0 Z = true) (w2 : (Jvm.Cond.static y).before a0 Z = true) (w3 : (Jvm.Cond.initialized y.cls).before a0 Z = true) (w4 : (Jvm.Cond.code y bytes maxL ret).before a0 Z = true)
    (hy : y.cls ≠ "java/lang/invoke/MethodHandle" ∧ y.cls ≠ "java/lang/invoke/VarHandle") (hf : rm.frames + 1 ≤ R.frames) (hl : W + (maxL + 11) + rm.locals ≤ R.locals) (eT : T.heap = h) (hc : cells + rm.cells ≤ R.cells) (hs : slots + rm.slots ≤ R.slots)
    {g : JFrame} (hg : g.method = m) (hsize : g.locals.size = c.maxLocals) {argsL rest : List Value} (ha : argsL.toArray = as') (hlen : ∀ sig, parseMethodDescriptor y.desc = some sig → argsL.length = sig.parameters.length) (hstack : g.stack = argsL.reverse ++ rest) (hW : 2 * g.monitorRoom + (rest.map fun v => v.category).sum ≤ W)
    (hd : decode c.code g.pc = .ok (.invokestatic index, 3)) :
    ∃ (v : Option Value) (T' : State) (L : List Loc), Stand p l e R s m args below meth c T' (locs ++ L) (cells + rm.cells) (slots + rm.slots) ∧ Q v T'.heap L ∧ ∀ target, Steps p.tables e below (T'.setTop { g with pc := g.pc + 3, stack := v.toList ++ rest }) target → Steps p.tables e below (T.setTop g) target := by
  obtain ⟨v, vm, ⟨T', L', k', n'⟩, -, X', ⟨L, hQ, e1, e2, e3⟩, st⟩ := Jvm.LawKit.callS X hx hown (mvT hZ w1) (mvT hZ w2) (mvT hZ w3) (mvT hZ w4) hy (OMet.back (W := W) hM hZ w4 w3 hf hl) (g := g) hg hsize hlen hstack hW hd (fun _ _ => ⟨ha, eT, hc, hs⟩)
  dsimp only [Pt.U, Pt.locs, Pt.cells, Pt.slots] at X' e1 e2 e3 st hQ
  subst e1 e2 e3
  exact ⟨v, T', L, X', hQ, st⟩
/-- a constructor by its contract -/
theorem OMet.init (hM : OMet l Z y bytes maxL none [] rm as' h Q) (X : Stand p l e R s m args below meth c T locs cells slots) (hx : p.tables.exec = Jvm.exec) (hZ : Z.Warmed39 s.vm) {own : String} {index W : Nat} (hy1 : y.name = "<init>") (hown : s.vm.findClass own = some m.cls)
    (w1 : (Jvm.Cond.methodLink own index y).before a0 Z = true) (w2 : (Jvm.Cond.instanceMethod y).before a0 Z = true) (w3 : (Jvm.Cond.initialized y.cls).before a0 Z = true) (w4 : (Jvm.Cond.code y bytes maxL none).before a0 Z = true)
    (hy : y.cls ≠ "java/lang/invoke/MethodHandle" ∧ y.cls ≠ "java/lang/invoke/VarHandle") (hf : rm.frames + 1 ≤ R.frames) (hl : W + (maxL + 11) + rm.locals ≤ R.locals) (eT : T.heap = h) (hc : cells + rm.cells ≤ R.cells) (hs : slots + rm.slots ≤ R.slots)
    {g : JFrame} (hg : g.method = m) (hsize : g.locals.size = c.maxLocals) {a : Addr} {argsL rest : List Value} (ha : (Value.ref a :: argsL).toArray = as') (hlen : ∀ sig, parseMethodDescriptor y.desc = some sig → argsL.length = sig.parameters.length) (hstack : g.stack = argsL.reverse ++ .ref a :: rest) (hW : 2 * g.monitorRoom + (rest.map fun v => v.category).sum ≤ W)
    (hd : decode c.code g.pc = .ok (.invokespecial index, 3)) :
    ∃ (v : Option Value) (T' : State) (L : List Loc), Stand p l e R s m args below meth c T' (locs ++ L) (cells + rm.cells) (slots + rm.slots) ∧ Q v T'.heap L ∧ ∀ target, Steps p.tables e below (T'.setTop { g with pc := g.pc + 3, stack := v.toList ++ rest }) target → Steps p.tables e below (T.setTop g) target := by
  obtain ⟨v, vm, ⟨T', L', k', n'⟩, -, X', ⟨L, hQ, e1, e2, e3⟩, st⟩ := X.specialBack hx hy1 hown (mvT hZ w1) (mvT hZ w2) (mvT hZ w4) hy (OMet.back (W := W) hM hZ w4 w3 hf hl) (g := g) hg hsize (Steps.refl _) (a := a) hlen hstack hW hd (fun _ _ => ⟨ha, eT, hc, hs⟩)
  dsimp only [Pt.U, Pt.locs, Pt.cells, Pt.slots] at X' e1 e2 e3 st hQ
  subst e1 e2 e3
  exact ⟨v, T', L, X', hQ, fun _ k => st.trans k⟩
/-- a virtual call by the contract of the body that the receiver's class selects -/
theorem OMet.virt (hM : OMet l Z y bytes maxL ret [] rm as' h Q) (X : Stand p l e R s m args below meth c T locs cells slots) (hx : p.tables.exec = Jvm.exec) (hZ : Z.Warmed39 s.vm) {own C : String} {index W : Nat} {y0 : MethodName} (hown : s.vm.findClass own = some m.cls)
    (w1 : (Jvm.Cond.methodLink own index y0).before a0 Z = true) (w2 : (Jvm.Cond.declares y0).before a0 Z = true) (nf : NotFace s y0) (w5 : (Jvm.Cond.selects C y0 y).before a0 Z = true) (w6 : (Jvm.Cond.instanceMethod y).before a0 Z = true)
    (w3 : (Jvm.Cond.initialized y.cls).before a0 Z = true) (w4 : (Jvm.Cond.code y bytes maxL ret).before a0 Z = true)
    (hy : y0.cls ≠ "java/lang/invoke/MethodHandle" ∧ y0.cls ≠ "java/lang/invoke/VarHandle") (hf : rm.frames + 1 ≤ R.frames) (hl : W + (maxL + 11) + rm.locals ≤ R.locals) (eT : T.heap = h) (hc : cells + rm.cells ≤ R.cells) (hs : slots + rm.slots ≤ R.slots)
    {g : JFrame} (hg : g.method = m) (hsize : g.locals.size = c.maxLocals) {a : Addr} (E : Exa Z h a C) {argsL rest : List Value} (ha : (Value.ref a :: argsL).toArray = as') (hlen : ∀ sig, parseMethodDescriptor y0.desc = some sig → argsL.length = sig.parameters.length) (hstack : g.stack = argsL.reverse ++ .ref a :: rest) (hW : 2 * g.monitorRoom + (rest.map fun v => v.category).sum ≤ W)
    (hd : decode c.code g.pc = .ok (.invokevirtual index, 3)) :
    ∃ (v : Option Value) (T' : State) (L : List Loc), Stand p l e R s m args below meth c T' (locs ++ L) (cells + rm.cells) (slots + rm.slots) ∧ Q v T'.heap L ∧ ∀ target, Steps p.tables e below (T'.setTop { g with pc := g.pc + 3, stack := v.toList ++ rest }) target → Steps p.tables e below (T.setTop g) target := by
  obtain ⟨cB, kB, qa, qb, qc⟩ := isOf hZ eT E
  obtain ⟨v, vm, ⟨T', L', k', n'⟩, -, X', ⟨L, hQ, e1, e2, e3⟩, st⟩ := X.virtualBack hx hown (mvT hZ w1) (mvT hZ w2) nf (mvT hZ w5) (mvT hZ w6) hy (OMet.back (W := W) hM hZ w4 w3 hf hl) qa qc (g := g) hg hsize (Steps.refl _) hlen hstack hW hd (fun _ _ => ⟨ha, eT, hc, hs⟩)
  dsimp only [Pt.U, Pt.locs, Pt.cells, Pt.slots] at X' e1 e2 e3 st hQ
  subst e1 e2 e3
  exact ⟨v, T', L, X', hQ, fun _ k => st.trans k⟩
/-- a call through an interface by the contract of the body that the receiver's class selects -/
theorem OMet.iface (hM : OMet l Z y bytes maxL ret [] rm as' h Q) (X : Stand p l e R s m args below meth c T locs cells slots) (hx : p.tables.exec = Jvm.exec) (hZ : Z.Warmed39 s.vm) {own C : String} {index count W : Nat} {y0 : MethodName} (hown : s.vm.findClass own = some m.cls)
    (w1 : (Jvm.Cond.methodLink own index y0).before a0 Z = true) (w2 : (Jvm.Cond.declares y0).before a0 Z = true) (w7 : (Jvm.Cond.interfaceMethod y0.cls y0.cls y0.name y0.desc).before a0 Z = true) (w5 : (Jvm.Cond.selects C y0 y).before a0 Z = true) (w6 : (Jvm.Cond.instanceMethod y).before a0 Z = true)
    (w8 : (Jvm.Cond.publicMethod y).before a0 Z = true) (w9 : (Jvm.Cond.unhidden C y0.name y0.desc).before a0 Z = true) (w0 : (Jvm.Cond.castable C y0.cls).before a0 Z = true) (w3 : (Jvm.Cond.initialized y.cls).before a0 Z = true) (w4 : (Jvm.Cond.code y bytes maxL ret).before a0 Z = true)
    (hy : y0.cls ≠ "java/lang/invoke/MethodHandle" ∧ y0.cls ≠ "java/lang/invoke/VarHandle") (hf : rm.frames + 1 ≤ R.frames) (hl : W + (maxL + 11) + rm.locals ≤ R.locals) (eT : T.heap = h) (hc : cells + rm.cells ≤ R.cells) (hs : slots + rm.slots ≤ R.slots)
    {g : JFrame} (hg : g.method = m) (hsize : g.locals.size = c.maxLocals) {a : Addr} (E : Exa Z h a C) {argsL rest : List Value} (ha : (Value.ref a :: argsL).toArray = as') (hlen : ∀ sig, parseMethodDescriptor y0.desc = some sig → argsL.length = sig.parameters.length) (hstack : g.stack = argsL.reverse ++ .ref a :: rest) (hW : 2 * g.monitorRoom + (rest.map fun v => v.category).sum ≤ W)
    (hd : decode c.code g.pc = .ok (.invokeinterface index count, 5)) :
    ∃ (v : Option Value) (T' : State) (L : List Loc), Stand p l e R s m args below meth c T' (locs ++ L) (cells + rm.cells) (slots + rm.slots) ∧ Q v T'.heap L ∧ ∀ target, Steps p.tables e below (T'.setTop { g with pc := g.pc + 5, stack := v.toList ++ rest }) target → Steps p.tables e below (T.setTop g) target := by
  obtain ⟨cB, kB, qa, qb, qc⟩ := isOf hZ eT E
  obtain ⟨v, vm, ⟨T', L', k', n'⟩, -, X', ⟨L, hQ, e1, e2, e3⟩, st⟩ := X.interfaceBack hx hown (mvT hZ w1) (mvT hZ w2) (mvT hZ w7 (by simp [Cond.onTables, Cond.keepsFace, Cond.keeps, Cond.steady, Cond.faceAtom, hy.1, hy.2])) (mvT hZ w5) (mvT hZ w6) (mvT hZ w8) (mvT hZ w9) (mvT hZ w0) hy (OMet.back (W := W) hM hZ w4 w3 hf hl) qa qb qc (g := g) hg hsize (Steps.refl _) hlen hstack hW hd (fun _ _ => ⟨ha, eT, hc, hs⟩)
  dsimp only [Pt.U, Pt.locs, Pt.cells, Pt.slots] at X' e1 e2 e3 st hQ
  subst e1 e2 e3
  exact ⟨v, T', L, X', hQ, fun _ k => st.trans k⟩
end M
theorem nf_sel {C : String} {y : MethodName} (hZ : Z.Warmed39 s.vm) (w : (Jvm.Cond.selects C y y).before a0 Z = true) : NotFace s y := notFace_of_selects (args := #[]) (mvT hZ w)
/-- the returns -/
theorem own_ret (X : Stand p l e R s m args below meth c T locs cells slots) {rm : Room} {Q : Option Value → Heap → List Loc → Prop} {A : State} {v : Option Value} (hv : meth.sig.returnType = none → v = none) (hlk : meth.locks = false)
    (k : ∀ fs, (∀ (f : JFrame) (acts : List Action), f.method = m → f.locked = none → f.entered = [] → (doReturn e (T.setTop f) acts v).1 = T.setFrames fs) → Steps p.tables e below A (T.setFrames fs)) (hQ : Q v T.heap locs) (hc : cells ≤ rm.cells) (hs : slots ≤ rm.slots) : OGo p e below (ODone s rm Q) A := by
  obtain ⟨fs, hr, hrun, hended, hW, hsame⟩ := X.leave (v := v) hv hlk
  exact ⟨_, _, k fs hr, hrun, hended, v, locs, rfl, hQ, ⟨_, rfl⟩, hW, hsame.mono hc hs⟩
theorem own_retZ (X : Stand p l e R s m args below meth c T locs cells slots) (hx : p.tables.exec = Jvm.exec) {rm : Room} {Q : Option Value → Heap → List Loc → Prop} {pc : Nat} {Ls : Array Slot} {z : Int32} {rest : List Value} (hret : meth.sig.returnType = some .boolean) (hlk : meth.locks = false)
    (hd : decode c.code pc = .ok (.ireturn, 1)) (hQ : Q (some (.int (nar .boolean z))) T.heap locs) (hc : cells ≤ rm.cells) (hs : slots ≤ rm.slots) : OGo p e below (ODone s rm Q) (T.setTop (mkF m pc Ls (.int z :: rest))) :=
  own_ret X (fun h => by rw [hret] at h; cases h) hlk (fun fs hr => retN X hx hret (Or.inl rfl) hd hr) hQ hc hs
theorem own_retI (X : Stand p l e R s m args below meth c T locs cells slots) (hx : p.tables.exec = Jvm.exec) {rm : Room} {Q : Option Value → Heap → List Loc → Prop} {pc : Nat} {Ls : Array Slot} {z : Int32} {rest : List Value} (hret : meth.sig.returnType = some .int) (hlk : meth.locks = false)
    (hd : decode c.code pc = .ok (.ireturn, 1)) (hQ : Q (some (.int z)) T.heap locs) (hc : cells ≤ rm.cells) (hs : slots ≤ rm.slots) : OGo p e below (ODone s rm Q) (T.setTop (mkF m pc Ls (.int z :: rest))) :=
  own_ret X (fun h => by rw [hret] at h; cases h) hlk (fun fs hr => retOut X hx hret rfl (Or.inl ⟨rfl, Or.inl rfl, z, rfl⟩) hd hr) hQ hc hs
theorem own_retJ (X : Stand p l e R s m args below meth c T locs cells slots) (hx : p.tables.exec = Jvm.exec) {rm : Room} {Q : Option Value → Heap → List Loc → Prop} {pc : Nat} {Ls : Array Slot} {z : Int64} {rest : List Value} (hret : meth.sig.returnType = some .long) (hlk : meth.locks = false)
    (hd : decode c.code pc = .ok (.lreturn, 1)) (hQ : Q (some (.long z)) T.heap locs) (hc : cells ≤ rm.cells) (hs : slots ≤ rm.slots) : OGo p e below (ODone s rm Q) (T.setTop (mkF m pc Ls (.long z :: rest))) :=
  own_ret X (fun h => by rw [hret] at h; cases h) hlk (fun fs hr => retOut X hx hret rfl (Or.inr (Or.inl ⟨rfl, rfl, z, rfl⟩)) hd hr) hQ hc hs
theorem own_retA (X : Stand p l e R s m args below meth c T locs cells slots) (hx : p.tables.exec = Jvm.exec) {rm : Room} {Q : Option Value → Heap → List Loc → Prop} {pc : Nat} {Ls : Array Slot} {w : Value} {t : FieldType} {rest : List Value} (hret : meth.sig.returnType = some t) (hlk : meth.locks = false)
    (hn : narrow t w = w) (ht : t.isReference = true) (hw : w.isRef = true) (hd : decode c.code pc = .ok (.areturn, 1)) (hQ : Q (some w) T.heap locs) (hc : cells ≤ rm.cells) (hs : slots ≤ rm.slots) : OGo p e below (ODone s rm Q) (T.setTop (mkF m pc Ls (w :: rest))) :=
  own_ret X (fun h => by rw [hret] at h; cases h) hlk (fun fs hr => retOut X hx hret hn (Or.inr (Or.inr (Or.inr (Or.inr ⟨rfl, ht, hw⟩)))) hd hr) hQ hc hs
theorem own_ret0 (X : Stand p l e R s m args below meth c T locs cells slots) (hx : p.tables.exec = Jvm.exec) {rm : Room} {Q : Option Value → Heap → List Loc → Prop} {pc : Nat} {Ls : Array Slot} (hret : meth.sig.returnType = none) (hlk : meth.locks = false)
    (hd : decode c.code pc = .ok (.return_, 1)) (hQ : Q none T.heap locs) (hc : cells ≤ rm.cells) (hs : slots ≤ rm.slots) : OGo p e below (ODone s rm Q) (T.setTop (mkF m pc Ls [])) :=
  own_ret X (fun _ => rfl) hlk (fun fs hr => X.returnOut hx hret hd hr) hQ hc hs
/-- a body that returns r and leaves the heap as it was -/
def OPure (r : Option Value) (h0 : Heap) (n0 : Nat) (v : Option Value) (h : Heap) (L : List Loc) : Prop := v = r ∧ Fr n0 L ∧ h = h0
/-- the start's words -/
theorem own_int {k : Int32} {t : Term} (hq : (Jvm.Cond.eq t (.int k)).value args s none s [] = some true) : t.eval args s none [] s = some (.int k) := by
  obtain ⟨x, y, e1, e2, k1, k2⟩ := cmp_v (Or.inl hq)
  have e3 : y = .int k := (Option.some.inj e2).symm
  subst e3
  obtain ⟨z, rfl⟩ := k2
  have q : (Jvm.Cond.eq t (.int k)).value args s none s [] = some (decide (z = k)) := by simp [Jvm.Cond.value, e1, Term.eval]
  rw [e1, gotT q hq]
theorem own_long {k : Int64} {t : Term} (hq : (Jvm.Cond.eq t (.long k)).value args s none s [] = some true) : t.eval args s none [] s = some (.long k) := by
  obtain ⟨x, y, e1, e2, k1, k2⟩ := cmp_v (Or.inl hq)
  have e3 : y = .long k := (Option.some.inj e2).symm
  subst e3
  obtain ⟨z, rfl⟩ := k2
  have q : (Jvm.Cond.eq t (.long k)).value args s none s [] = some (decide (z = k)) := eq_L e1 e2
  rw [e1, gotT q hq]
theorem own_ord {k : Int32} {t : Term} {C n d : String} {x : Addr} (ht : t.eval args s none [] s = some (.ref x)) (hq : (Jvm.Cond.eq (.field t C n d) (.int k)).value args s none s [] = some true) : Fld s s.heap x C n d (.int k) :=
  Fld.start ((fld_at ht).symm.trans (own_int hq))
theorem own_ordL {k : Int64} {t : Term} {C n d : String} {x : Addr} (ht : t.eval args s none [] s = some (.ref x)) (hq : (Jvm.Cond.eq (.field t C n d) (.long k)).value args s none s [] = some true) : Fld s s.heap x C n d (.long k) :=
  Fld.start ((fld_at ht).symm.trans (own_long hq))
theorem own_sta {t : String × String × String} {C : String} (hq : (Jvm.Cond.exactly (.static t.1 t.2.1 t.2.2) C).value args s none s [] = some true) (w1 : (Jvm.Cond.initialized t.1).before args s = true) (w2 : (Jvm.Cond.laysStatic t.1 t.2.1 t.2.2).before args s = true) :
    ∃ a, (Term.static t.1 t.2.1 t.2.2).eval args s none [] s = some (.ref a) ∧ Sta s s.heap t.1 t.2.1 t.2.2 (.ref a) ∧ Exa s s.heap a C := by
  obtain ⟨a, ea⟩ := exa_v hq
  exact ⟨a, ea, Sta.start ea (Or.inr ⟨w1, w2⟩), Exa.start ea hq⟩
theorem own_len {t : Term} {a : Addr} {c : Cell} {z : Int32} (et : t.eval args s none [] s = some (.ref a)) (ha : s.arrayAt? a = some c) (hq : (Term.length t).eval args s none [] s = some (.int z)) : c.slots.size < 2 ^ 31 ∧ c.slots.size.toInt32 = z := by
  by_cases hl : c.slots.size < 2 ^ 31
  · rw [len_f et ha hl] at hq
    exact ⟨hl, Value.int.inj (Option.some.inj hq)⟩
  · simp [Term.eval, et, ha, hl] at hq
theorem own_b01 {z : Int32} (hz : z = 0 ∨ z = 1) : narrow .boolean (.int z) = .int z ∧ fits .boolean (.int z) = true ∧ nar .boolean z = z := by
  rcases hz with rfl | rfl <;> decide
theorem own_ns_root {O K : String} {n : Nat} (w : (Jvm.Cond.noSuperclass O).before a0 Z = true) (wi : (Jvm.Cond.instantiable K n).before a0 Z = true) (hn : O ≠ K) : NS Z O K := by
  obtain ⟨c, k, h1, h2, h3, -⟩ := Cond.noSuperclass_spec w
  obtain ⟨t, kt, g1, -⟩ := Cond.instantiable_spec wi
  refine ⟨c, t, h1, g1, fun f => ?_⟩
  cases f with
  | zero => rfl
  | succ f => simp [Vm.isSubclassAux, ids_ne h1 g1 hn, h2, h3]
theorem own_ns_no {C S K : String} {n : Nat} (w : (Jvm.Cond.superclass C S).before a0 Z = true) (wi : (Jvm.Cond.instantiable K n).before a0 Z = true) (N : NS Z C K) (hn : C ≠ K) : ∃ c t, Z.vm.findClass C = some c ∧ Z.vm.findClass K = some t ∧ Z.vm.assignable c t = false := by
  obtain ⟨c, t, h0, g0, n3⟩ := N
  obtain ⟨p, k, kp, -, h2, -, -, h5, -, h7⟩ := Cond.superclass_spec h0 w
  obtain ⟨t', kt, g1, g2, g3, g4, -⟩ := Cond.instantiable_spec wi
  cases g0.symm.trans g1
  have g5 : kt.isInterface = false := (Bool.or_eq_false_iff.mp g4).1
  refine ⟨c, t, h0, g0, ?_⟩
  show Z.vm.assignableAux (255 + 1) c t = false
  simp [Vm.assignableAux, ids_ne h0 g0 hn, h2, g2, h5, g3, g5, Vm.isSubclass, n3]
end Own
theorem d1_0 : decode jdk_29_method_66_code 0 = .ok (.lload_n 0, 1) := by decide +kernel
theorem d1_1 : decode jdk_29_method_66_code 1 = .ok (.lload_n 2, 1) := by decide +kernel
theorem d1_2 : decode jdk_29_method_66_code 2 = .ok (.lcmp, 1) := by decide +kernel
theorem d1_3 : decode jdk_29_method_66_code 3 = .ok (.ifCond .lt 7, 3) := by decide +kernel
theorem d1_6 : decode jdk_29_method_66_code 6 = .ok (.lload_n 0, 1) := by decide +kernel
theorem d1_7 : decode jdk_29_method_66_code 7 = .ok (.goto 4, 3) := by decide +kernel
theorem d1_10 : decode jdk_29_method_66_code 10 = .ok (.lload_n 2, 1) := by decide +kernel
theorem d1_11 : decode jdk_29_method_66_code 11 = .ok (.lreturn, 1) := by decide +kernel
theorem ef_rm1 (m : MethodId) (x0 : Int64) (x1 : Int64) : entryFrame m #[(.long x0), (.long x1)] 4 = mkF m 0 #[.val (.long x0), .second, .val (.long x1), .second] [] := by first | (simp [entryFrame, mkF, argsToLocals, Value.category]; done) | rfl
set_option maxRecDepth 65536 in
set_option maxHeartbeats 40000000 in
theorem rm1 (l : Launch) (Z : State) (a0 : Array Value) (hw : ∀ d ∈ tables_1, d.before a0 Z = true) (a b r : Int64) (h0 : Heap) (n0 : Nat) (hr : (if a < b then b else a) = r) :
    OMet l Z (⟨"java/lang/Math", "max", "(JJ)J"⟩ : MethodName) jdk_29_method_66_code 4 (some .long) [] ({ frames := 0, cells := 0, slots := 0, locals := 0 } : Room) #[(.long a), (.long b)] h0 (OPure (some (.long r)) h0 n0) := by
  refine OMet.of (Jvm.Free.JP.mathPlain rfl (by decide +kernel)) ?_
  intro p e s m below meth c s₁ hx hby hml hnd hown hnm hret hlk hZ X0 e0
  replace hown : s.vm.findClass "java/lang/Math" = some m.cls := hown
  replace hml : c.maxLocals = 4 := hml
  have N0 := Fr.nil n0
  rw [ef_rm1 m a b]
  refine OGo.st (B := s₁.setTop (mkF m 1 #[.val (.long a), .second, .val (.long b), .second] [(.long a)])) (fun _ kz => XS.lloadN X0.here hx rfl (hb hby d1_0) rfl kz) ?_
  refine OGo.st (B := s₁.setTop (mkF m 2 #[.val (.long a), .second, .val (.long b), .second] [(.long b), (.long a)])) (fun _ kz => XS.lloadN X0.here hx rfl (hb hby d1_1) rfl kz) ?_
  refine OGo.st (B := s₁.setTop (mkF m 3 #[.val (.long a), .second, .val (.long b), .second] [(.int (lcmpW a b))])) (fun _ kz => XS.lcmp X0.here hx rfl (hb hby d1_2) rfl kz) ?_
  by_cases h1 : a < b
  · skip
    refine OGo.st (B := s₁.setTop (mkF m 10 #[.val (.long a), .second, .val (.long b), .second] [])) (fun _ kz => XS.ifYes X0.here hx rfl (pc0 := 3) (pc' := 10) rfl (hb hby d1_3) rfl ((if0 _ _).trans (tlt ((lw_lt _ _).mpr h1)).1) (by decide) (by decide) kz) ?_
    refine OGo.st (B := s₁.setTop (mkF m 11 #[.val (.long a), .second, .val (.long b), .second] [(.long b)])) (fun _ kz => XS.lloadN X0.here hx rfl (hb hby d1_10) rfl kz) ?_
    exact own_retJ X0 hx hret hlk (hb hby d1_11) ⟨by rw [← hr, if_pos h1], N0, e0⟩ (by decide) (by decide)
  · skip
    refine OGo.st (B := s₁.setTop (mkF m 6 #[.val (.long a), .second, .val (.long b), .second] [])) (fun _ kz => XS.ifNo X0.here hx rfl (hb hby d1_3) rfl ((if0 _ _).trans (flt (mt (lw_lt _ _).mp h1)).1) kz) ?_
    refine OGo.st (B := s₁.setTop (mkF m 7 #[.val (.long a), .second, .val (.long b), .second] [(.long a)])) (fun _ kz => XS.lloadN X0.here hx rfl (hb hby d1_6) rfl kz) ?_
    refine OGo.st (B := s₁.setTop (mkF m 11 #[.val (.long a), .second, .val (.long b), .second] [(.long a)])) (fun _ kz => XS.goto X0.here hx rfl (pc0 := 7) (pc' := 11) rfl (hb hby d1_7) (by decide) (by decide) kz) ?_
    exact own_retJ X0 hx hret hlk (hb hby d1_11) ⟨by rw [← hr, if_neg h1], N0, e0⟩ (by decide) (by decide)
theorem d20_0 : decode jdk_18_method_1_code 0 = .ok (.aload_n 0, 1) := by decide +kernel
theorem d20_1 : decode jdk_18_method_1_code 1 = .ok (.invokespecial 1, 3) := by decide +kernel
theorem d20_4 : decode jdk_18_method_1_code 4 = .ok (.return_, 1) := by decide +kernel
theorem pn_java_lang_Number : plainName "java/lang/Number" = true := by first | (simp [plainName, overriddenIn]; done) | decide +kernel
theorem ef_rm20 (m : MethodId) (x0 : Addr) : entryFrame m #[(.ref x0)] 1 = mkF m 0 #[.val (.ref x0)] [] := by first | (simp [entryFrame, mkF, argsToLocals, Value.category]; done) | rfl
set_option maxRecDepth 65536 in
set_option maxHeartbeats 40000000 in
theorem rm20 (l : Launch) (Z : State) (a0 : Array Value) (hw : ∀ d ∈ tables_1, d.before a0 Z = true) (a : Addr) (h0 : Heap) (n0 : Nat) :
    OMet l Z (⟨"java/lang/Number", "<init>", "()V"⟩ : MethodName) jdk_18_method_1_code 1 none [] ({ frames := 1, cells := 0, slots := 0, locals := 12 } : Room) #[(.ref a)] h0 (OPure none h0 n0) := by
  refine OMet.of (plainFor_of_name pn_java_lang_Number) ?_
  intro p e s m below meth c s₁ hx hby hml hnd hown hnm hret hlk hZ X0 e0
  replace hown : s.vm.findClass "java/lang/Number" = some m.cls := hown
  replace hml : c.maxLocals = 1 := hml
  have N0 := Fr.nil n0
  rw [ef_rm20 m a]
  refine OGo.st (B := s₁.setTop (mkF m 1 #[.val (.ref a)] [(.ref a)])) (fun _ kz => XS.aloadN X0.here hx rfl (hb hby d20_0) rfl rfl kz) ?_
  obtain ⟨T1, X1, e1, st1⟩ := initO X0 hx hZ hown (hw _ (List.mem_of_getElem? (i := 45) rfl)) (hw _ (List.mem_of_getElem? (i := 23) rfl)) (hw _ (List.mem_of_getElem? (i := 24) rfl)) e0 (g := (mkF m 1 #[.val (.ref a)] [(.ref a)])) rfl (by rw [hml]; rfl) rfl (hb hby d20_1) (by decide) (W := 0) (by show 2 * 0 + _ ≤ _; exact Nat.le_of_eq rfl) (by decide)
  refine OGo.st (B := T1.setTop (mkF m 4 #[.val (.ref a)] [])) st1 ?_
  exact own_ret0 X1 hx hret hlk (hb hby d20_4) ⟨rfl, N0, e1⟩ (by decide) (by decide)
theorem pd_3 : parseMethodDescriptor "()V" = some ⟨[], none⟩ := by decide +kernel
theorem d21_0 : decode jdk_35_method_26_code 0 = .ok (.aload_n 0, 1) := by decide +kernel
theorem d21_1 : decode jdk_35_method_26_code 1 = .ok (.invokespecial 270, 3) := by decide +kernel
theorem d21_4 : decode jdk_35_method_26_code 4 = .ok (.aload_n 0, 1) := by decide +kernel
theorem d21_5 : decode jdk_35_method_26_code 5 = .ok (.lload_n 1, 1) := by decide +kernel
theorem d21_6 : decode jdk_35_method_26_code 6 = .ok (.putfield 273, 3) := by decide +kernel
theorem d21_9 : decode jdk_35_method_26_code 9 = .ok (.return_, 1) := by decide +kernel
theorem pn_java_lang_Long : plainName "java/lang/Long" = true := by first | (simp [plainName, overriddenIn]; done) | decide +kernel
theorem ef_rm21 (m : MethodId) (x0 : Addr) (x1 : Int64) : entryFrame m #[(.ref x0), (.long x1)] 3 = mkF m 0 #[.val (.ref x0), .val (.long x1), .second] [] := by first | (simp [entryFrame, mkF, argsToLocals, Value.category]; done) | rfl
set_option maxRecDepth 65536 in
set_option maxHeartbeats 40000000 in
theorem rm21 (l : Launch) (Z : State) (a0 : Array Value) (hw : ∀ d ∈ tables_1, d.before a0 Z = true) (a : Addr) (q : Int64) (h0 : Heap) (n0 : Nat) (Z0 : n0 ≤ h0.size) (E_a : Exa Z h0 a "java/lang/Long") (g_a : n0 ≤ a) (G : Fld Z h0 a "java/lang/Long" "value" "J" (.long (0 : Int64))) :
    OMet l Z (⟨"java/lang/Long", "<init>", "(J)V"⟩ : MethodName) jdk_35_method_26_code 3 none [] ({ frames := 2, cells := 0, slots := 0, locals := 24 } : Room) #[(.ref a), (.long q)] h0 (fun v h L => v = none ∧ Fr n0 L ∧ Keep h0 h [a] ∧ Exa Z h a "java/lang/Long" ∧ Fld Z h a "java/lang/Long" "value" "J" (.long q)) := by
  refine OMet.of (plainFor_of_name pn_java_lang_Long) ?_
  intro p e s m below meth c s₁ hx hby hml hnd hown hnm hret hlk hZ X0 e0
  replace hown : s.vm.findClass "java/lang/Long" = some m.cls := hown
  replace hml : c.maxLocals = 3 := hml
  have N0 := Fr.nil n0
  rw [ef_rm21 m a q]
  refine OGo.st (B := s₁.setTop (mkF m 1 #[.val (.ref a), .val (.long q), .second] [(.ref a)])) (fun _ kz => XS.aloadN X0.here hx rfl (hb hby d21_0) rfl rfl kz) ?_
  obtain ⟨v1, T1, L1, X1, hQ1, st1⟩ := (rm20 l Z a0 hw a h0 n0).init (W := 0) X0 hx hZ rfl hown (hw _ (List.mem_of_getElem? (i := 39) rfl)) (hw _ (List.mem_of_getElem? (i := 40) rfl)) (hw _ (List.mem_of_getElem? (i := 43) rfl)) (hw _ (List.mem_of_getElem? (i := 44) rfl)) (by decide) (by decide) (by decide) e0 (by decide) (by decide) (g := (mkF m 1 #[.val (.ref a), .val (.long q), .second] [(.ref a)])) rfl (by rw [hml]; rfl) (argsL := []) (rest := []) rfl (lenOf pd_3 rfl) rfl (by show 2 * 0 + _ ≤ _; exact Nat.le_of_eq rfl) (hb hby d21_1)
  obtain ⟨rfl, N1q, e1⟩ := hQ1
  have N1 := Fr.app N0 N1q
  refine OGo.st (B := T1.setTop (mkF m 4 #[.val (.ref a), .val (.long q), .second] [])) st1 ?_
  refine OGo.st (B := T1.setTop (mkF m 5 #[.val (.ref a), .val (.long q), .second] [(.ref a)])) (fun _ kz => XS.aloadN X1.here hx rfl (hb hby d21_4) rfl rfl kz) ?_
  refine OGo.st (B := T1.setTop (mkF m 6 #[.val (.ref a), .val (.long q), .second] [(.long q), (.ref a)])) (fun _ kz => XS.lloadN X1.here hx rfl (hb hby d21_5) rfl kz) ?_
  obtain ⟨T2, h2, X2, e2, W2, st2⟩ := putF X1 hx hZ hown (host := "") (Or.inl (hw _ (List.mem_of_getElem? (i := 46) rfl))) Via.refl e1 G E_a (Or.inr ⟨(hw _ (List.mem_of_getElem? (i := 47) rfl)), rfl, hnm⟩) (hw _ (List.mem_of_getElem? (i := 34) rfl)) (ty := .long) (by decide) rfl rfl (g := (mkF m 6 #[.val (.ref a), .val (.long q), .second] [(.long q), (.ref a)])) rfl rfl (hb hby d21_6)
  have F2_value := G.same W2
  have N2 := Fr.snoc X2 N1 g_a
  have K2 : Keep h0 h2 [a] := (Keep.refl h0 [a]).wr W2 (Or.inl (List.mem_of_getElem? (i := 0) rfl))
  refine OGo.st (B := T2.setTop (mkF m 9 #[.val (.ref a), .val (.long q), .second] [])) st2 ?_
  exact own_ret0 X2 hx hret hlk (hb hby d21_9) (by rw [e2]; exact ⟨rfl, N2, K2, (E_a.wr W2), F2_value⟩) (by decide) (by decide)
theorem own_idxL (q : Int64) (h1 : ¬ q < (-128 : Int64)) (h2 : ¬ (127 : Int64) < q) {c : Cell} (S : c.slots.size = (256 : Int32).toNatClampNeg) : ¬ (q.toInt32 + (128 : Int32) < 0 ∨ c.slots.size ≤ (q.toInt32 + (128 : Int32)).toNatClampNeg) ∧ (q.toInt32 + (128 : Int32) - 128).toInt64 = q := by
  have e1 : (-128 : Int64).toInt = -128 := rfl
  have e2 : (127 : Int64).toInt = 127 := rfl
  have e3 : (128 : Int32).toInt = 128 := rfl
  have e4 : (0 : Int32).toInt = 0 := rfl
  have e5 : (256 : Int32).toInt = 256 := rfl
  rw [Int64.lt_iff_toInt_lt] at h1 h2
  have k1 := c_l2i q
  have k2 := c_iadd q.toInt32 128
  have k3 := c_isub (q.toInt32 + 128) 128
  have r1 := rng32 q.toInt32
  have r2 := rng32 (q.toInt32 + 128)
  have r3 := rng32 (q.toInt32 + 128 - 128)
  refine ⟨inb_of S ?_, ?_⟩
  · rw [Int32.lt_iff_toInt_lt, Int32.lt_iff_toInt_lt]
    omega
  · apply Int64.toInt_inj.mp
    rw [c_i2l]
    omega
theorem pd_5 : parseMethodDescriptor "(J)V" = some ⟨[.long], none⟩ := by decide +kernel
theorem d22_0 : decode jdk_35_method_24_code 0 = .ok (.sipush 128, 3) := by decide +kernel
theorem d22_3 : decode jdk_35_method_24_code 3 = .ok (.istore_n 2, 1) := by decide +kernel
theorem d22_4 : decode jdk_35_method_24_code 4 = .ok (.lload_n 0, 1) := by decide +kernel
theorem d22_5 : decode jdk_35_method_24_code 5 = .ok (.ldc2_w 230, 3) := by decide +kernel
theorem d22_8 : decode jdk_35_method_24_code 8 = .ok (.lcmp, 1) := by decide +kernel
theorem d22_9 : decode jdk_35_method_24_code 9 = .ok (.ifCond .lt 22, 3) := by decide +kernel
theorem d22_12 : decode jdk_35_method_24_code 12 = .ok (.lload_n 0, 1) := by decide +kernel
theorem d22_13 : decode jdk_35_method_24_code 13 = .ok (.ldc2_w 232, 3) := by decide +kernel
theorem d22_16 : decode jdk_35_method_24_code 16 = .ok (.lcmp, 1) := by decide +kernel
theorem d22_17 : decode jdk_35_method_24_code 17 = .ok (.ifCond .gt 14, 3) := by decide +kernel
theorem d22_20 : decode jdk_35_method_24_code 20 = .ok (.getstatic 234, 3) := by decide +kernel
theorem d22_23 : decode jdk_35_method_24_code 23 = .ok (.lload_n 0, 1) := by decide +kernel
theorem d22_24 : decode jdk_35_method_24_code 24 = .ok (.l2i, 1) := by decide +kernel
theorem d22_25 : decode jdk_35_method_24_code 25 = .ok (.sipush 128, 3) := by decide +kernel
theorem d22_28 : decode jdk_35_method_24_code 28 = .ok (.iadd, 1) := by decide +kernel
theorem d22_29 : decode jdk_35_method_24_code 29 = .ok (.aaload, 1) := by decide +kernel
theorem d22_30 : decode jdk_35_method_24_code 30 = .ok (.areturn, 1) := by decide +kernel
theorem d22_31 : decode jdk_35_method_24_code 31 = .ok (.new 1, 3) := by decide +kernel
theorem d22_34 : decode jdk_35_method_24_code 34 = .ok (.dup, 1) := by decide +kernel
theorem d22_35 : decode jdk_35_method_24_code 35 = .ok (.lload_n 0, 1) := by decide +kernel
theorem d22_36 : decode jdk_35_method_24_code 36 = .ok (.invokespecial 240, 3) := by decide +kernel
theorem d22_39 : decode jdk_35_method_24_code 39 = .ok (.areturn, 1) := by decide +kernel
theorem ef_rm22 (m : MethodId) (x0 : Int64) : entryFrame m #[(.long x0)] 3 = mkF m 0 #[.val (.long x0), .second, .unset] [] := by first | (simp [entryFrame, mkF, argsToLocals, Value.category]; done) | rfl
set_option maxRecDepth 65536 in
set_option maxHeartbeats 40000000 in
theorem rm22 (l : Launch) (Z : State) (a0 : Array Value) (hw : ∀ d ∈ tables_1, d.before a0 Z = true) (q : Int64) (h0 : Heap) (n0 : Nat) (Z0 : n0 ≤ h0.size) (O0 : Old Z n0 h0) (ca : Addr) (cc : Cell) (S_cache : Sta Z Z.heap "java/lang/Long$LongCache" "cache" "[Ljava/lang/Long;" (.ref ca)) (BX : Bxs Z ca cc "java/lang/Long" "J" 256 (fun j => .long (j - 128).toInt64)) :
    OMet l Z (⟨"java/lang/Long", "valueOf", "(J)Ljava/lang/Long;"⟩ : MethodName) jdk_35_method_24_code 3 (some (.object "java/lang/Long")) [] ({ frames := 3, cells := 1, slots := 1, locals := 39 } : Room) #[(.long q)] h0 (fun v h L => ∃ a, v = some (.ref a) ∧ Fr n0 L ∧ Keep h0 h [] ∧ Exa Z h a "java/lang/Long" ∧ Fld Z h a "java/lang/Long" "value" "J" (.long q)) := by
  refine OMet.of (plainFor_of_name pn_java_lang_Long) ?_
  intro p e s m below meth c s₁ hx hby hml hnd hown hnm hret hlk hZ X0 e0
  replace hown : s.vm.findClass "java/lang/Long" = some m.cls := hown
  replace hml : c.maxLocals = 3 := hml
  have N0 := Fr.nil n0
  rw [ef_rm22 m q]
  refine OGo.st (B := s₁.setTop (mkF m 3 #[.val (.long q), .second, .unset] [(.int (128 : Int32))])) (fun _ kz => XS.sipush X0.here hx rfl (hb hby d22_0) kz) ?_
  refine OGo.st (B := s₁.setTop (mkF m 4 #[.val (.long q), .second, .val (.int (128 : Int32))] [])) (fun _ kz => XS.istoreN X0.here hx rfl (hb hby d22_3) rfl (l' := #[.val (.long q), .second, .val (.int (128 : Int32))]) rfl kz) ?_
  refine OGo.st (B := s₁.setTop (mkF m 5 #[.val (.long q), .second, .val (.int (128 : Int32))] [(.long q)])) (fun _ kz => XS.lloadN X0.here hx rfl (hb hby d22_4) rfl kz) ?_
  refine OGo.st (B := s₁.setTop (mkF m 8 #[.val (.long q), .second, .val (.int (128 : Int32))] [(.long (-128 : Int64)), (.long q)])) (X0.ldc2Long hx hown (mvT hZ (hw _ (List.mem_of_getElem? (i := 29) rfl))) (g := (mkF m 5 #[.val (.long q), .second, .val (.int (128 : Int32))] [(.long q)])) rfl (hb hby d22_5)) ?_
  refine OGo.st (B := s₁.setTop (mkF m 9 #[.val (.long q), .second, .val (.int (128 : Int32))] [(.int (lcmpW q (-128 : Int64)))])) (fun _ kz => XS.lcmp X0.here hx rfl (hb hby d22_8) rfl kz) ?_
  by_cases h1 : q < (-128 : Int64)
  · skip
    refine OGo.st (B := s₁.setTop (mkF m 31 #[.val (.long q), .second, .val (.int (128 : Int32))] [])) (fun _ kz => XS.ifYes X0.here hx rfl (pc0 := 9) (pc' := 31) rfl (hb hby d22_9) rfl ((if0 _ _).trans (tlt ((lw_lt _ _).mpr h1)).1) (by decide) (by decide) kz) ?_
    obtain ⟨T1, h1, X1, e1, E1, A1, D1, U1, st1⟩ := newO X0 hx hZ hown (hw _ (List.mem_of_getElem? (i := 33) rfl)) (hw _ (List.mem_of_getElem? (i := 34) rfl)) (hw _ (List.mem_of_getElem? (i := 27) rfl)) e0 (g := (mkF m 31 #[.val (.long q), .second, .val (.int (128 : Int32))] [])) rfl (hb hby d22_31) (by decide) (by decide)
    obtain ⟨ob, g1⟩ : ∃ z, z = h0.size := ⟨_, rfl⟩
    rw [← g1] at A1 D1 st1
    have g_ob : n0 ≤ ob := Nat.le_trans Z0 (Nat.le_trans (Keep.refl h0 []).1 (Nat.le_of_eq g1.symm))
    have sz_ob : h0.size ≤ ob := Nat.le_trans (Keep.refl h0 []).1 (Nat.le_of_eq g1.symm)
    have K1 : Keep h0 h1 [] := (Keep.refl h0 []).ext E1
    have O1 := O0.ext E1
    have F1_value : Fld Z h1 ob "java/lang/Long" "value" "J" (.long (0 : Int64)) := D1 (Or.inr (hw _ (List.mem_of_getElem? (i := 47) rfl))) (ty := .long) (by decide)
    refine OGo.st (B := T1.setTop (mkF m 34 #[.val (.long q), .second, .val (.int (128 : Int32))] [(.ref ob)])) st1 ?_
    refine OGo.st (B := T1.setTop (mkF m 35 #[.val (.long q), .second, .val (.int (128 : Int32))] [(.ref ob), (.ref ob)])) (fun _ kz => XS.dup X1.here hx rfl (hb hby d22_34) rfl rfl kz) ?_
    refine OGo.st (B := T1.setTop (mkF m 36 #[.val (.long q), .second, .val (.int (128 : Int32))] [(.long q), (.ref ob), (.ref ob)])) (fun _ kz => XS.lloadN X1.here hx rfl (hb hby d22_35) rfl kz) ?_
    obtain ⟨v2, T2, L2, X2, hQ2, st2⟩ := (rm21 l Z a0 hw ob q h1 n0 (Nat.le_trans Z0 K1.1) A1 g_ob F1_value).init (W := 1) X1 hx hZ rfl hown (hw _ (List.mem_of_getElem? (i := 35) rfl)) (hw _ (List.mem_of_getElem? (i := 36) rfl)) (hw _ (List.mem_of_getElem? (i := 27) rfl)) (hw _ (List.mem_of_getElem? (i := 38) rfl)) (by decide) (by decide) (by decide) e1 (by decide) (by decide) (g := (mkF m 36 #[.val (.long q), .second, .val (.int (128 : Int32))] [(.long q), (.ref ob), (.ref ob)])) rfl (by rw [hml]; rfl) (argsL := [(.long q)]) (rest := [(.ref ob)]) rfl (lenOf pd_5 rfl) rfl (by show 2 * 0 + _ ≤ _; exact Nat.le_of_eq rfl) (hb hby d22_36)
    obtain ⟨rfl, N2q, J2, Y2_0, Y2_1⟩ := hQ2
    have N2 := Fr.app N0 N2q
    have K2 : Keep h0 T2.heap [] := K1.trans J2 (allS (Or.inr sz_ob) all0)
    have O2 := O1.keep J2 (allS g_ob all0)
    refine OGo.st (B := T2.setTop (mkF m 39 #[.val (.long q), .second, .val (.int (128 : Int32))] [(.ref ob)])) st2 ?_
    exact own_retA X2 hx hret hlk rfl rfl rfl (hb hby d22_39) ⟨ob, rfl, N2, K2, Y2_0, Y2_1⟩ (by decide) (by decide)
  · skip
    refine OGo.st (B := s₁.setTop (mkF m 12 #[.val (.long q), .second, .val (.int (128 : Int32))] [])) (fun _ kz => XS.ifNo X0.here hx rfl (hb hby d22_9) rfl ((if0 _ _).trans (flt (mt (lw_lt _ _).mp h1)).1) kz) ?_
    refine OGo.st (B := s₁.setTop (mkF m 13 #[.val (.long q), .second, .val (.int (128 : Int32))] [(.long q)])) (fun _ kz => XS.lloadN X0.here hx rfl (hb hby d22_12) rfl kz) ?_
    refine OGo.st (B := s₁.setTop (mkF m 16 #[.val (.long q), .second, .val (.int (128 : Int32))] [(.long (127 : Int64)), (.long q)])) (X0.ldc2Long hx hown (mvT hZ (hw _ (List.mem_of_getElem? (i := 30) rfl))) (g := (mkF m 13 #[.val (.long q), .second, .val (.int (128 : Int32))] [(.long q)])) rfl (hb hby d22_13)) ?_
    refine OGo.st (B := s₁.setTop (mkF m 17 #[.val (.long q), .second, .val (.int (128 : Int32))] [(.int (lcmpW q (127 : Int64)))])) (fun _ kz => XS.lcmp X0.here hx rfl (hb hby d22_16) rfl kz) ?_
    by_cases h2 : (127 : Int64) < q
    · skip
      refine OGo.st (B := s₁.setTop (mkF m 31 #[.val (.long q), .second, .val (.int (128 : Int32))] [])) (fun _ kz => XS.ifYes X0.here hx rfl (pc0 := 17) (pc' := 31) rfl (hb hby d22_17) rfl ((if0 _ _).trans (tlt ((lw_gt _ _).mpr h2)).2.2.1) (by decide) (by decide) kz) ?_
      obtain ⟨T3, h3, X3, e3, E3, A3, D3, U3, st3⟩ := newO X0 hx hZ hown (hw _ (List.mem_of_getElem? (i := 33) rfl)) (hw _ (List.mem_of_getElem? (i := 34) rfl)) (hw _ (List.mem_of_getElem? (i := 27) rfl)) e0 (g := (mkF m 31 #[.val (.long q), .second, .val (.int (128 : Int32))] [])) rfl (hb hby d22_31) (by decide) (by decide)
      obtain ⟨ob, g3⟩ : ∃ z, z = h0.size := ⟨_, rfl⟩
      rw [← g3] at A3 D3 st3
      have g_ob : n0 ≤ ob := Nat.le_trans Z0 (Nat.le_trans (Keep.refl h0 []).1 (Nat.le_of_eq g3.symm))
      have sz_ob : h0.size ≤ ob := Nat.le_trans (Keep.refl h0 []).1 (Nat.le_of_eq g3.symm)
      have K3 : Keep h0 h3 [] := (Keep.refl h0 []).ext E3
      have O3 := O0.ext E3
      have F3_value : Fld Z h3 ob "java/lang/Long" "value" "J" (.long (0 : Int64)) := D3 (Or.inr (hw _ (List.mem_of_getElem? (i := 47) rfl))) (ty := .long) (by decide)
      refine OGo.st (B := T3.setTop (mkF m 34 #[.val (.long q), .second, .val (.int (128 : Int32))] [(.ref ob)])) st3 ?_
      refine OGo.st (B := T3.setTop (mkF m 35 #[.val (.long q), .second, .val (.int (128 : Int32))] [(.ref ob), (.ref ob)])) (fun _ kz => XS.dup X3.here hx rfl (hb hby d22_34) rfl rfl kz) ?_
      refine OGo.st (B := T3.setTop (mkF m 36 #[.val (.long q), .second, .val (.int (128 : Int32))] [(.long q), (.ref ob), (.ref ob)])) (fun _ kz => XS.lloadN X3.here hx rfl (hb hby d22_35) rfl kz) ?_
      obtain ⟨v4, T4, L4, X4, hQ4, st4⟩ := (rm21 l Z a0 hw ob q h3 n0 (Nat.le_trans Z0 K3.1) A3 g_ob F3_value).init (W := 1) X3 hx hZ rfl hown (hw _ (List.mem_of_getElem? (i := 35) rfl)) (hw _ (List.mem_of_getElem? (i := 36) rfl)) (hw _ (List.mem_of_getElem? (i := 27) rfl)) (hw _ (List.mem_of_getElem? (i := 38) rfl)) (by decide) (by decide) (by decide) e3 (by decide) (by decide) (g := (mkF m 36 #[.val (.long q), .second, .val (.int (128 : Int32))] [(.long q), (.ref ob), (.ref ob)])) rfl (by rw [hml]; rfl) (argsL := [(.long q)]) (rest := [(.ref ob)]) rfl (lenOf pd_5 rfl) rfl (by show 2 * 0 + _ ≤ _; exact Nat.le_of_eq rfl) (hb hby d22_36)
      obtain ⟨rfl, N4q, J4, Y4_0, Y4_1⟩ := hQ4
      have N4 := Fr.app N0 N4q
      have K4 : Keep h0 T4.heap [] := K3.trans J4 (allS (Or.inr sz_ob) all0)
      have O4 := O3.keep J4 (allS g_ob all0)
      refine OGo.st (B := T4.setTop (mkF m 39 #[.val (.long q), .second, .val (.int (128 : Int32))] [(.ref ob)])) st4 ?_
      exact own_retA X4 hx hret hlk rfl rfl rfl (hb hby d22_39) ⟨ob, rfl, N4, K4, Y4_0, Y4_1⟩ (by decide) (by decide)
    · skip
      refine OGo.st (B := s₁.setTop (mkF m 20 #[.val (.long q), .second, .val (.int (128 : Int32))] [])) (fun _ kz => XS.ifNo X0.here hx rfl (hb hby d22_17) rfl ((if0 _ _).trans (flt (mt (lw_gt _ _).mp h2)).2.2.1) kz) ?_
      obtain ⟨T5, X5, e5, st5⟩ := getS2 X0 hx hZ hown (host := "") (Or.inl (hw _ (List.mem_of_getElem? (i := 31) rfl))) Via.refl e0 (S_cache.ext O0.2) (g := (mkF m 20 #[.val (.long q), .second, .val (.int (128 : Int32))] [])) rfl (hb hby d22_20)
      refine OGo.st (B := T5.setTop (mkF m 23 #[.val (.long q), .second, .val (.int (128 : Int32))] [(.ref ca)])) st5 ?_
      refine OGo.st (B := T5.setTop (mkF m 24 #[.val (.long q), .second, .val (.int (128 : Int32))] [(.long q), (.ref ca)])) (fun _ kz => XS.lloadN X5.here hx rfl (hb hby d22_23) rfl kz) ?_
      refine OGo.st (B := T5.setTop (mkF m 25 #[.val (.long q), .second, .val (.int (128 : Int32))] [(.int (q.toInt32)), (.ref ca)])) (fun _ kz => XS.l2i X5.here hx rfl (hb hby d22_24) rfl kz) ?_
      refine OGo.st (B := T5.setTop (mkF m 28 #[.val (.long q), .second, .val (.int (128 : Int32))] [(.int (128 : Int32)), (.int (q.toInt32)), (.ref ca)])) (fun _ kz => XS.sipush X5.here hx rfl (hb hby d22_25) kz) ?_
      refine OGo.st (B := T5.setTop (mkF m 29 #[.val (.long q), .second, .val (.int (128 : Int32))] [(.int ((q.toInt32) + (128 : Int32))), (.ref ca)])) (fun _ kz => XS.iadd X5.here hx rfl (hb hby d22_28) rfl kz) ?_
      obtain ⟨ix, iq⟩ := own_idxL q h1 h2 BX.2.1
      obtain ⟨bx, hbx, bE, bF⟩ := BX.2.2.2 _ ix
      dsimp only at bF
      rw [iq] at bF
      have AC := BX.1.ext O0.2
      refine OGo.st (B := T5.setTop (mkF m 30 #[.val (.long q), .second, .val (.int (128 : Int32))] [(.ref bx)])) (X5.aaload hx (j := ((q.toInt32) + (128 : Int32))) (v := .ref bx) (by rw [e5]; exact AC.1) (State.isArrayOf_alike hZ.alike AC.2.1) rfl AC.2.2 ix hbx (g := (mkF m 29 #[.val (.long q), .second, .val (.int (128 : Int32))] [(.int ((q.toInt32) + (128 : Int32))), (.ref ca)])) rfl rfl (hb hby d22_29)) ?_
      exact own_retA X5 hx hret hlk rfl rfl rfl (hb hby d22_30) ⟨bx, rfl, N0, by rw [e5]; exact ⟨(Keep.refl h0 []), bE.ext O0.2, bF.ext O0.2⟩⟩ (by decide) (by decide)
theorem d23_0 : decode jdk_35_method_31_code 0 = .ok (.aload_n 0, 1) := by decide +kernel
theorem d23_1 : decode jdk_35_method_31_code 1 = .ok (.getfield 273, 3) := by decide +kernel
theorem d23_4 : decode jdk_35_method_31_code 4 = .ok (.lreturn, 1) := by decide +kernel
theorem ef_rm23 (m : MethodId) (x0 : Addr) : entryFrame m #[(.ref x0)] 1 = mkF m 0 #[.val (.ref x0)] [] := by first | (simp [entryFrame, mkF, argsToLocals, Value.category]; done) | rfl
set_option maxRecDepth 65536 in
set_option maxHeartbeats 40000000 in
theorem rm23 (l : Launch) (Z : State) (a0 : Array Value) (hw : ∀ d ∈ tables_1, d.before a0 Z = true) (a : Addr) (q : Int64) (h0 : Heap) (n0 : Nat) (F : Fld Z h0 a "java/lang/Long" "value" "J" (.long q)) :
    OMet l Z (⟨"java/lang/Long", "longValue", "()J"⟩ : MethodName) jdk_35_method_31_code 1 (some .long) [] ({ frames := 0, cells := 0, slots := 0, locals := 0 } : Room) #[(.ref a)] h0 (OPure (some (.long q)) h0 n0) := by
  refine OMet.of (plainFor_of_name pn_java_lang_Long) ?_
  intro p e s m below meth c s₁ hx hby hml hnd hown hnm hret hlk hZ X0 e0
  replace hown : s.vm.findClass "java/lang/Long" = some m.cls := hown
  replace hml : c.maxLocals = 1 := hml
  have N0 := Fr.nil n0
  rw [ef_rm23 m a]
  refine OGo.st (B := s₁.setTop (mkF m 1 #[.val (.ref a)] [(.ref a)])) (fun _ kz => XS.aloadN X0.here hx rfl (hb hby d23_0) rfl rfl kz) ?_
  obtain ⟨T1, X1, e1, st1⟩ := getF X0 hx hZ hown (host := "") (Or.inl (hw _ (List.mem_of_getElem? (i := 46) rfl))) Via.refl e0 F (g := (mkF m 1 #[.val (.ref a)] [(.ref a)])) rfl rfl (hb hby d23_1)
  refine OGo.st (B := T1.setTop (mkF m 4 #[.val (.ref a)] [(.long q)])) st1 ?_
  exact own_retJ X1 hx hret hlk (hb hby d23_4) ⟨rfl, N0, e1⟩ (by decide) (by decide)
theorem d30_0 : decode jdk_22_method_1_code 0 = .ok (.aload_n 0, 1) := by decide +kernel
theorem d30_1 : decode jdk_22_method_1_code 1 = .ok (.invokespecial 1, 3) := by decide +kernel
theorem d30_4 : decode jdk_22_method_1_code 4 = .ok (.return_, 1) := by decide +kernel
theorem pn_java_util_AbstractCollection : plainName "java/util/AbstractCollection" = true := by first | (simp [plainName, overriddenIn]; done) | decide +kernel
theorem ef_rm30 (m : MethodId) (x0 : Addr) : entryFrame m #[(.ref x0)] 1 = mkF m 0 #[.val (.ref x0)] [] := by first | (simp [entryFrame, mkF, argsToLocals, Value.category]; done) | rfl
set_option maxRecDepth 65536 in
set_option maxHeartbeats 40000000 in
theorem rm30 (l : Launch) (Z : State) (a0 : Array Value) (hw : ∀ d ∈ tables_1, d.before a0 Z = true) (a : Addr) (h0 : Heap) (n0 : Nat) :
    OMet l Z (⟨"java/util/AbstractCollection", "<init>", "()V"⟩ : MethodName) jdk_22_method_1_code 1 none [] ({ frames := 1, cells := 0, slots := 0, locals := 12 } : Room) #[(.ref a)] h0 (OPure none h0 n0) := by
  refine OMet.of (plainFor_of_name pn_java_util_AbstractCollection) ?_
  intro p e s m below meth c s₁ hx hby hml hnd hown hnm hret hlk hZ X0 e0
  replace hown : s.vm.findClass "java/util/AbstractCollection" = some m.cls := hown
  replace hml : c.maxLocals = 1 := hml
  have N0 := Fr.nil n0
  rw [ef_rm30 m a]
  refine OGo.st (B := s₁.setTop (mkF m 1 #[.val (.ref a)] [(.ref a)])) (fun _ kz => XS.aloadN X0.here hx rfl (hb hby d30_0) rfl rfl kz) ?_
  obtain ⟨T1, X1, e1, st1⟩ := initO X0 hx hZ hown (hw _ (List.mem_of_getElem? (i := 69) rfl)) (hw _ (List.mem_of_getElem? (i := 23) rfl)) (hw _ (List.mem_of_getElem? (i := 24) rfl)) e0 (g := (mkF m 1 #[.val (.ref a)] [(.ref a)])) rfl (by rw [hml]; rfl) rfl (hb hby d30_1) (by decide) (W := 0) (by show 2 * 0 + _ ≤ _; exact Nat.le_of_eq rfl) (by decide)
  refine OGo.st (B := T1.setTop (mkF m 4 #[.val (.ref a)] [])) st1 ?_
  exact own_ret0 X1 hx hret hlk (hb hby d30_4) ⟨rfl, N0, e1⟩ (by decide) (by decide)
theorem d31_0 : decode jdk_39_method_1_code 0 = .ok (.aload_n 0, 1) := by decide +kernel
theorem d31_1 : decode jdk_39_method_1_code 1 = .ok (.invokespecial 1, 3) := by decide +kernel
theorem d31_4 : decode jdk_39_method_1_code 4 = .ok (.aload_n 0, 1) := by decide +kernel
theorem d31_5 : decode jdk_39_method_1_code 5 = .ok (.iconst 0, 1) := by decide +kernel
theorem d31_6 : decode jdk_39_method_1_code 6 = .ok (.putfield 7, 3) := by decide +kernel
theorem d31_9 : decode jdk_39_method_1_code 9 = .ok (.return_, 1) := by decide +kernel
theorem pn_java_util_AbstractList : plainName "java/util/AbstractList" = true := by first | (simp [plainName, overriddenIn]; done) | decide +kernel
theorem ef_rm31 (m : MethodId) (x0 : Addr) : entryFrame m #[(.ref x0)] 1 = mkF m 0 #[.val (.ref x0)] [] := by first | (simp [entryFrame, mkF, argsToLocals, Value.category]; done) | rfl
set_option maxRecDepth 65536 in
set_option maxHeartbeats 40000000 in
theorem rm31 (l : Launch) (Z : State) (a0 : Array Value) (hw : ∀ d ∈ tables_1, d.before a0 Z = true) (a : Addr) (h0 : Heap) (n0 : Nat) (Z0 : n0 ≤ h0.size) (E_a : Exa Z h0 a "java/util/ArrayList") (g_a : n0 ≤ a) (G : Fld Z h0 a "java/util/AbstractList" "modCount" "I" (.int (0 : Int32))) :
    OMet l Z (⟨"java/util/AbstractList", "<init>", "()V"⟩ : MethodName) jdk_39_method_1_code 1 none [] ({ frames := 2, cells := 0, slots := 0, locals := 24 } : Room) #[(.ref a)] h0 (fun v h L => v = none ∧ Fr n0 L ∧ ∃ u, Wr h0 h a (RoadKit.slotOf Z "java/util/AbstractList" "modCount" "I") u) := by
  refine OMet.of (plainFor_of_name pn_java_util_AbstractList) ?_
  intro p e s m below meth c s₁ hx hby hml hnd hown hnm hret hlk hZ X0 e0
  replace hown : s.vm.findClass "java/util/AbstractList" = some m.cls := hown
  replace hml : c.maxLocals = 1 := hml
  have N0 := Fr.nil n0
  rw [ef_rm31 m a]
  refine OGo.st (B := s₁.setTop (mkF m 1 #[.val (.ref a)] [(.ref a)])) (fun _ kz => XS.aloadN X0.here hx rfl (hb hby d31_0) rfl rfl kz) ?_
  obtain ⟨v1, T1, L1, X1, hQ1, st1⟩ := (rm30 l Z a0 hw a h0 n0).init (W := 0) X0 hx hZ rfl hown (hw _ (List.mem_of_getElem? (i := 63) rfl)) (hw _ (List.mem_of_getElem? (i := 64) rfl)) (hw _ (List.mem_of_getElem? (i := 67) rfl)) (hw _ (List.mem_of_getElem? (i := 68) rfl)) (by decide) (by decide) (by decide) e0 (by decide) (by decide) (g := (mkF m 1 #[.val (.ref a)] [(.ref a)])) rfl (by rw [hml]; rfl) (argsL := []) (rest := []) rfl (lenOf pd_3 rfl) rfl (by show 2 * 0 + _ ≤ _; exact Nat.le_of_eq rfl) (hb hby d31_1)
  obtain ⟨rfl, N1q, e1⟩ := hQ1
  have N1 := Fr.app N0 N1q
  refine OGo.st (B := T1.setTop (mkF m 4 #[.val (.ref a)] [])) st1 ?_
  refine OGo.st (B := T1.setTop (mkF m 5 #[.val (.ref a)] [(.ref a)])) (fun _ kz => XS.aloadN X1.here hx rfl (hb hby d31_4) rfl rfl kz) ?_
  refine OGo.st (B := T1.setTop (mkF m 6 #[.val (.ref a)] [(.int (0 : Int32)), (.ref a)])) (fun _ kz => XS.iconst X1.here hx rfl (hb hby d31_5) kz) ?_
  obtain ⟨T2, h2, X2, e2, W2, st2⟩ := putF X1 hx hZ hown (host := "") (Or.inl (hw _ (List.mem_of_getElem? (i := 70) rfl))) Via.refl e1 G E_a (Or.inl (hw _ (List.mem_of_getElem? (i := 71) rfl))) (hw _ (List.mem_of_getElem? (i := 52) rfl)) (ty := .int) (by decide) rfl rfl (g := (mkF m 6 #[.val (.ref a)] [(.int (0 : Int32)), (.ref a)])) rfl rfl (hb hby d31_6)
  have F2_modCount := G.same W2
  have N2 := Fr.snoc X2 N1 g_a
  have K2 : Keep h0 h2 [a] := (Keep.refl h0 [a]).wr W2 (Or.inl (List.mem_of_getElem? (i := 0) rfl))
  refine OGo.st (B := T2.setTop (mkF m 9 #[.val (.ref a)] [])) st2 ?_
  exact own_ret0 X2 hx hret hlk (hb hby d31_9) (by rw [e2]; exact ⟨rfl, N2, _, W2⟩) (by decide) (by decide)
theorem d32_0 : decode jdk_38_method_2_code 0 = .ok (.aload_n 0, 1) := by decide +kernel
theorem d32_1 : decode jdk_38_method_2_code 1 = .ok (.invokespecial 1, 3) := by decide +kernel
theorem d32_4 : decode jdk_38_method_2_code 4 = .ok (.aload_n 0, 1) := by decide +kernel
theorem d32_5 : decode jdk_38_method_2_code 5 = .ok (.getstatic 39, 3) := by decide +kernel
theorem d32_8 : decode jdk_38_method_2_code 8 = .ok (.putfield 9, 3) := by decide +kernel
theorem d32_11 : decode jdk_38_method_2_code 11 = .ok (.return_, 1) := by decide +kernel
theorem pn_java_util_ArrayList : plainName "java/util/ArrayList" = true := by first | (simp [plainName, overriddenIn]; done) | decide +kernel
theorem ef_rm32 (m : MethodId) (x0 : Addr) : entryFrame m #[(.ref x0)] 1 = mkF m 0 #[.val (.ref x0)] [] := by first | (simp [entryFrame, mkF, argsToLocals, Value.category]; done) | rfl
set_option maxRecDepth 65536 in
set_option maxHeartbeats 40000000 in
theorem rm32 (l : Launch) (Z : State) (a0 : Array Value) (hw : ∀ d ∈ tables_1, d.before a0 Z = true) (a : Addr) (h0 : Heap) (n0 : Nat) (Z0 : n0 ≤ h0.size) (E_a : Exa Z h0 a "java/util/ArrayList") (g_a : n0 ≤ a) (O0 : Old Z n0 h0) (de : Addr) (S_dflt : Sta Z Z.heap "java/util/ArrayList" "DEFAULTCAPACITY_EMPTY_ELEMENTDATA" "[Ljava/lang/Object;" (.ref de)) (G : Fld Z h0 a "java/util/AbstractList" "modCount" "I" (.int (0 : Int32))) (G_e : Fld Z h0 a "java/util/ArrayList" "elementData" "[Ljava/lang/Object;" .null) (G_s : Fld Z h0 a "java/util/ArrayList" "size" "I" (.int (0 : Int32))) :
    OMet l Z (⟨"java/util/ArrayList", "<init>", "()V"⟩ : MethodName) jdk_38_method_2_code 1 none [] ({ frames := 3, cells := 0, slots := 0, locals := 36 } : Room) #[(.ref a)] h0 (fun v h L => v = none ∧ Fr n0 L ∧ Keep h0 h [a] ∧ Exa Z h a "java/util/ArrayList" ∧ Fld Z h a "java/util/ArrayList" "size" "I" (.int (0 : Int32))) := by
  refine OMet.of (plainFor_of_name pn_java_util_ArrayList) ?_
  intro p e s m below meth c s₁ hx hby hml hnd hown hnm hret hlk hZ X0 e0
  replace hown : s.vm.findClass "java/util/ArrayList" = some m.cls := hown
  replace hml : c.maxLocals = 1 := hml
  have N0 := Fr.nil n0
  rw [ef_rm32 m a]
  refine OGo.st (B := s₁.setTop (mkF m 1 #[.val (.ref a)] [(.ref a)])) (fun _ kz => XS.aloadN X0.here hx rfl (hb hby d32_0) rfl rfl kz) ?_
  obtain ⟨v1, T1, L1, X1, hQ1, st1⟩ := (rm31 l Z a0 hw a h0 n0 Z0 E_a g_a G).init (W := 0) X0 hx hZ rfl hown (hw _ (List.mem_of_getElem? (i := 57) rfl)) (hw _ (List.mem_of_getElem? (i := 58) rfl)) (hw _ (List.mem_of_getElem? (i := 61) rfl)) (hw _ (List.mem_of_getElem? (i := 62) rfl)) (by decide) (by decide) (by decide) e0 (by decide) (by decide) (g := (mkF m 1 #[.val (.ref a)] [(.ref a)])) rfl (by rw [hml]; rfl) (argsL := []) (rest := []) rfl (lenOf pd_3 rfl) rfl (by show 2 * 0 + _ ≤ _; exact Nat.le_of_eq rfl) (hb hby d32_1)
  obtain ⟨rfl, N1q, u1, W1⟩ := hQ1
  have N1 := Fr.app N0 N1q
  have K1 : Keep h0 T1.heap [a] := (Keep.refl h0 [a]).wr W1 (Or.inl (List.mem_of_getElem? (i := 0) rfl))
  have O1 := O0.wr W1 g_a
  refine OGo.st (B := T1.setTop (mkF m 4 #[.val (.ref a)] [])) st1 ?_
  refine OGo.st (B := T1.setTop (mkF m 5 #[.val (.ref a)] [(.ref a)])) (fun _ kz => XS.aloadN X1.here hx rfl (hb hby d32_4) rfl rfl kz) ?_
  obtain ⟨T2, X2, e2, st2⟩ := getS2 X1 hx hZ hown (host := "") (Or.inl (hw _ (List.mem_of_getElem? (i := 72) rfl))) Via.refl rfl (S_dflt.ext O1.2) (g := (mkF m 5 #[.val (.ref a)] [(.ref a)])) rfl (hb hby d32_5)
  refine OGo.st (B := T2.setTop (mkF m 8 #[.val (.ref a)] [(.ref de), (.ref a)])) st2 ?_
  obtain ⟨T3, h3, X3, e3, W3, st3⟩ := putF X2 hx hZ hown (host := "") (Or.inl (hw _ (List.mem_of_getElem? (i := 73) rfl))) Via.refl e2 (G_e.other W1 (Or.inr (slot_ne (Or.inl (hw _ (List.mem_of_getElem? (i := 74) rfl))) (Or.inl (hw _ (List.mem_of_getElem? (i := 71) rfl))) (by decide) (t := (.array (.object "java/lang/Object"))) (t' := .int) (by decide) (by decide)))) (E_a.wr W1) (Or.inl (hw _ (List.mem_of_getElem? (i := 74) rfl))) (hw _ (List.mem_of_getElem? (i := 52) rfl)) (ty := (.array (.object "java/lang/Object"))) (by decide) rfl rfl (g := (mkF m 8 #[.val (.ref a)] [(.ref de), (.ref a)])) rfl rfl (hb hby d32_8)
  have F3_elementData := (G_e.other W1 (Or.inr (slot_ne (Or.inl (hw _ (List.mem_of_getElem? (i := 74) rfl))) (Or.inl (hw _ (List.mem_of_getElem? (i := 71) rfl))) (by decide) (t := (.array (.object "java/lang/Object"))) (t' := .int) (by decide) (by decide)))).same W3
  have N3 := Fr.snoc X3 N1 g_a
  have K3 : Keep h0 h3 [a] := K1.wr W3 (Or.inl (List.mem_of_getElem? (i := 0) rfl))
  have O3 := O1.wr W3 g_a
  refine OGo.st (B := T3.setTop (mkF m 11 #[.val (.ref a)] [])) st3 ?_
  exact own_ret0 X3 hx hret hlk (hb hby d32_11) (by rw [e3]; exact ⟨rfl, N3, K3, ((E_a.wr W1).wr W3), ((G_s.other W1 (Or.inr (slot_ne (Or.inl (hw _ (List.mem_of_getElem? (i := 95) rfl))) (Or.inl (hw _ (List.mem_of_getElem? (i := 71) rfl))) (by decide) (t := .int) (t' := .int) (by decide) (by decide)))).other W3 (Or.inr (slot_ne (Or.inl (hw _ (List.mem_of_getElem? (i := 95) rfl))) (Or.inl (hw _ (List.mem_of_getElem? (i := 74) rfl))) (by decide) (t := .int) (t' := (.array (.object "java/lang/Object"))) (by decide) (by decide))))⟩) (by decide) (by decide)
theorem d33_0 : decode jdk_38_method_9_code 0 = .ok (.aload_n 0, 1) := by decide +kernel
theorem d33_1 : decode jdk_38_method_9_code 1 = .ok (.getfield 48, 3) := by decide +kernel
theorem d33_4 : decode jdk_38_method_9_code 4 = .ok (.ifCond .ne 7, 3) := by decide +kernel
theorem d33_7 : decode jdk_38_method_9_code 7 = .ok (.iconst 1, 1) := by decide +kernel
theorem d33_8 : decode jdk_38_method_9_code 8 = .ok (.goto 4, 3) := by decide +kernel
theorem d33_12 : decode jdk_38_method_9_code 12 = .ok (.ireturn, 1) := by decide +kernel
theorem ef_rm33 (m : MethodId) (x0 : Addr) : entryFrame m #[(.ref x0)] 1 = mkF m 0 #[.val (.ref x0)] [] := by first | (simp [entryFrame, mkF, argsToLocals, Value.category]; done) | rfl
set_option maxRecDepth 65536 in
set_option maxHeartbeats 40000000 in
theorem rm33 (l : Launch) (Z : State) (a0 : Array Value) (hw : ∀ d ∈ tables_1, d.before a0 Z = true) (a : Addr) (h0 : Heap) (n0 : Nat) (F : Fld Z h0 a "java/util/ArrayList" "size" "I" (.int (0 : Int32))) :
    OMet l Z (⟨"java/util/ArrayList", "isEmpty", "()Z"⟩ : MethodName) jdk_38_method_9_code 1 (some .boolean) [] ({ frames := 0, cells := 0, slots := 0, locals := 0 } : Room) #[(.ref a)] h0 (OPure (some (.int (1 : Int32))) h0 n0) := by
  refine OMet.of (plainFor_of_name pn_java_util_ArrayList) ?_
  intro p e s m below meth c s₁ hx hby hml hnd hown hnm hret hlk hZ X0 e0
  replace hown : s.vm.findClass "java/util/ArrayList" = some m.cls := hown
  replace hml : c.maxLocals = 1 := hml
  have N0 := Fr.nil n0
  rw [ef_rm33 m a]
  refine OGo.st (B := s₁.setTop (mkF m 1 #[.val (.ref a)] [(.ref a)])) (fun _ kz => XS.aloadN X0.here hx rfl (hb hby d33_0) rfl rfl kz) ?_
  obtain ⟨T1, X1, e1, st1⟩ := getF X0 hx hZ hown (host := "") (Or.inl (hw _ (List.mem_of_getElem? (i := 94) rfl))) Via.refl e0 F (g := (mkF m 1 #[.val (.ref a)] [(.ref a)])) rfl rfl (hb hby d33_1)
  refine OGo.st (B := T1.setTop (mkF m 4 #[.val (.ref a)] [(.int (0 : Int32))])) st1 ?_
  refine OGo.st (B := T1.setTop (mkF m 7 #[.val (.ref a)] [])) (fun _ kz => XS.ifNo X1.here hx rfl (hb hby d33_4) rfl (by decide) kz) ?_
  refine OGo.st (B := T1.setTop (mkF m 8 #[.val (.ref a)] [(.int (1 : Int32))])) (fun _ kz => XS.iconst X1.here hx rfl (hb hby d33_7) kz) ?_
  refine OGo.st (B := T1.setTop (mkF m 12 #[.val (.ref a)] [(.int (1 : Int32))])) (fun _ kz => XS.goto X1.here hx rfl (pc0 := 8) (pc' := 12) rfl (hb hby d33_8) (by decide) (by decide) kz) ?_
  exact own_retZ X1 hx hret hlk (hb hby d33_12) ⟨rfl, N0, e1⟩ (by decide) (by decide)
theorem pd_7 : parseMethodDescriptor "()J" = some ⟨[], some .long⟩ := by decide +kernel
theorem d41_0 : decode prog_18_method_2_code 0 = .ok (.new 35, 3) := by decide +kernel
theorem d41_3 : decode prog_18_method_2_code 3 = .ok (.dup, 1) := by decide +kernel
theorem d41_4 : decode prog_18_method_2_code 4 = .ok (.invokespecial 37, 3) := by decide +kernel
theorem d41_7 : decode prog_18_method_2_code 7 = .ok (.astore_n 3, 1) := by decide +kernel
theorem d41_8 : decode prog_18_method_2_code 8 = .ok (.aload_n 0, 1) := by decide +kernel
theorem d41_9 : decode prog_18_method_2_code 9 = .ok (.ifnull 28, 3) := by decide +kernel
theorem d41_12 : decode prog_18_method_2_code 12 = .ok (.aload_n 0, 1) := by decide +kernel
theorem d41_13 : decode prog_18_method_2_code 13 = .ok (.invokevirtual 38, 3) := by decide +kernel
theorem d41_16 : decode prog_18_method_2_code 16 = .ok (.lconst 1, 1) := by decide +kernel
theorem d41_17 : decode prog_18_method_2_code 17 = .ok (.lcmp, 1) := by decide +kernel
theorem d41_18 : decode prog_18_method_2_code 18 = .ok (.ifCond .ge 19, 3) := by decide +kernel
theorem d41_37 : decode prog_18_method_2_code 37 = .ok (.aload_n 1, 1) := by decide +kernel
theorem d41_38 : decode prog_18_method_2_code 38 = .ok (.ifnull 28, 3) := by decide +kernel
theorem d41_41 : decode prog_18_method_2_code 41 = .ok (.aload_n 1, 1) := by decide +kernel
theorem d41_42 : decode prog_18_method_2_code 42 = .ok (.invokevirtual 38, 3) := by decide +kernel
theorem d41_45 : decode prog_18_method_2_code 45 = .ok (.lconst 1, 1) := by decide +kernel
theorem d41_46 : decode prog_18_method_2_code 46 = .ok (.lcmp, 1) := by decide +kernel
theorem d41_47 : decode prog_18_method_2_code 47 = .ok (.ifCond .ge 19, 3) := by decide +kernel
theorem d41_66 : decode prog_18_method_2_code 66 = .ok (.aload_n 2, 1) := by decide +kernel
theorem d41_67 : decode prog_18_method_2_code 67 = .ok (.ifnull 31, 3) := by decide +kernel
theorem d41_70 : decode prog_18_method_2_code 70 = .ok (.aload_n 2, 1) := by decide +kernel
theorem d41_71 : decode prog_18_method_2_code 71 = .ok (.invokevirtual 38, 3) := by decide +kernel
theorem d41_74 : decode prog_18_method_2_code 74 = .ok (.lconst 1, 1) := by decide +kernel
theorem d41_75 : decode prog_18_method_2_code 75 = .ok (.lcmp, 1) := by decide +kernel
theorem d41_76 : decode prog_18_method_2_code 76 = .ok (.ifCond .ge 22, 3) := by decide +kernel
theorem d41_98 : decode prog_18_method_2_code 98 = .ok (.aload_n 2, 1) := by decide +kernel
theorem d41_99 : decode prog_18_method_2_code 99 = .ok (.ifnull 48, 3) := by decide +kernel
theorem d41_102 : decode prog_18_method_2_code 102 = .ok (.aload_n 1, 1) := by decide +kernel
theorem d41_103 : decode prog_18_method_2_code 103 = .ok (.ifnull 44, 3) := by decide +kernel
theorem d41_106 : decode prog_18_method_2_code 106 = .ok (.aload_n 1, 1) := by decide +kernel
theorem d41_107 : decode prog_18_method_2_code 107 = .ok (.invokevirtual 38, 3) := by decide +kernel
theorem d41_110 : decode prog_18_method_2_code 110 = .ok (.lconst 1, 1) := by decide +kernel
theorem d41_111 : decode prog_18_method_2_code 111 = .ok (.lcmp, 1) := by decide +kernel
theorem d41_112 : decode prog_18_method_2_code 112 = .ok (.ifCond .lt 35, 3) := by decide +kernel
theorem d41_115 : decode prog_18_method_2_code 115 = .ok (.aload_n 2, 1) := by decide +kernel
theorem d41_116 : decode prog_18_method_2_code 116 = .ok (.invokevirtual 38, 3) := by decide +kernel
theorem d41_119 : decode prog_18_method_2_code 119 = .ok (.ldc2_w 59, 3) := by decide +kernel
theorem d41_122 : decode prog_18_method_2_code 122 = .ok (.aload_n 1, 1) := by decide +kernel
theorem d41_123 : decode prog_18_method_2_code 123 = .ok (.invokevirtual 38, 3) := by decide +kernel
theorem d41_126 : decode prog_18_method_2_code 126 = .ok (.ldiv, 1) := by decide +kernel
theorem d41_127 : decode prog_18_method_2_code 127 = .ok (.lcmp, 1) := by decide +kernel
theorem d41_128 : decode prog_18_method_2_code 128 = .ok (.ifCond .le 19, 3) := by decide +kernel
theorem d41_147 : decode prog_18_method_2_code 147 = .ok (.aload_n 3, 1) := by decide +kernel
theorem d41_148 : decode prog_18_method_2_code 148 = .ok (.areturn, 1) := by decide +kernel
theorem pn_com_example_narrow_gate_narrowgate_Limit : plainName "com/example/narrow_gate/narrowgate/Limit" = true := by first | (simp [plainName, overriddenIn]; done) | decide +kernel
theorem ef_rm41 (m : MethodId) (x0 : Addr) (x1 : Addr) (x2 : Addr) : entryFrame m #[(.ref x0), (.ref x1), (.ref x2)] 4 = mkF m 0 #[.val (.ref x0), .val (.ref x1), .val (.ref x2), .unset] [] := by first | (simp [entryFrame, mkF, argsToLocals, Value.category]; done) | rfl
set_option maxRecDepth 65536 in
set_option maxHeartbeats 40000000 in
theorem rm41 (l : Launch) (Z : State) (a0 : Array Value) (hw : ∀ d ∈ tables_1, d.before a0 Z = true) (x1 x2 x3 : Addr) (q1 q2 q3 : Int64) (h0 : Heap) (n0 : Nat) (Z0 : n0 ≤ h0.size) (O0 : Old Z n0 h0) (de : Addr) (S_dflt : Sta Z Z.heap "java/util/ArrayList" "DEFAULTCAPACITY_EMPTY_ELEMENTDATA" "[Ljava/lang/Object;" (.ref de)) (E_x1 : Exa Z h0 x1 "java/lang/Long") (E_x2 : Exa Z h0 x2 "java/lang/Long") (E_x3 : Exa Z h0 x3 "java/lang/Long") (G_x1 : Fld Z h0 x1 "java/lang/Long" "value" "J" (.long q1)) (G_x2 : Fld Z h0 x2 "java/lang/Long" "value" "J" (.long q2)) (G_x3 : Fld Z h0 x3 "java/lang/Long" "value" "J" (.long q3)) (p1 : ¬ q1 < (1 : Int64)) (p2 : ¬ q2 < (1 : Int64)) (p3 : ¬ q3 < (1 : Int64)) (p4 : ¬ (9007199254740992 : Int64) / q2 < q3) :
    OMet l Z (⟨"com/example/narrow_gate/narrowgate/Limit", "problems", "(Ljava/lang/Long;Ljava/lang/Long;Ljava/lang/Long;)Ljava/util/List;"⟩ : MethodName) prog_18_method_2_code 4 (some (.object "java/util/List")) [] ({ frames := 4, cells := 1, slots := 3, locals := 49 } : Room) #[(.ref x1), (.ref x2), (.ref x3)] h0 (fun v h L => ∃ b, v = some (.ref b) ∧ Fr n0 L ∧ Keep h0 h [] ∧ Exa Z h b "java/util/ArrayList" ∧ Fld Z h b "java/util/ArrayList" "size" "I" (.int (0 : Int32))) := by
  refine OMet.of (plainFor_of_name pn_com_example_narrow_gate_narrowgate_Limit) ?_
  intro p e s m below meth c s₁ hx hby hml hnd hown hnm hret hlk hZ X0 e0
  replace hown : s.vm.findClass "com/example/narrow_gate/narrowgate/Limit" = some m.cls := hown
  replace hml : c.maxLocals = 4 := hml
  have N0 := Fr.nil n0
  rw [ef_rm41 m x1 x2 x3]
  obtain ⟨T1, h1, X1, e1, E1, A1, D1, U1, st1⟩ := newO X0 hx hZ hown (hw _ (List.mem_of_getElem? (i := 51) rfl)) (hw _ (List.mem_of_getElem? (i := 52) rfl)) (hw _ (List.mem_of_getElem? (i := 53) rfl)) e0 (g := (mkF m 0 #[.val (.ref x1), .val (.ref x2), .val (.ref x3), .unset] [])) rfl (hb hby d41_0) (by decide) (by decide)
  obtain ⟨ob, g1⟩ : ∃ z, z = h0.size := ⟨_, rfl⟩
  rw [← g1] at A1 D1 st1
  have ne_x1_ob : x1 ≠ ob := Nat.ne_of_lt (Nat.lt_of_lt_of_le E_x1.lt (Nat.le_of_eq g1.symm))
  have ne_x2_ob : x2 ≠ ob := Nat.ne_of_lt (Nat.lt_of_lt_of_le E_x2.lt (Nat.le_of_eq g1.symm))
  have ne_x3_ob : x3 ≠ ob := Nat.ne_of_lt (Nat.lt_of_lt_of_le E_x3.lt (Nat.le_of_eq g1.symm))
  have g_ob : n0 ≤ ob := Nat.le_trans Z0 (Nat.le_trans (Keep.refl h0 []).1 (Nat.le_of_eq g1.symm))
  have sz_ob : h0.size ≤ ob := Nat.le_trans (Keep.refl h0 []).1 (Nat.le_of_eq g1.symm)
  have K1 : Keep h0 h1 [] := (Keep.refl h0 []).ext E1
  have O1 := O0.ext E1
  have F1_modCount : Fld Z h1 ob "java/util/AbstractList" "modCount" "I" (.int (0 : Int32)) := D1 (Or.inl (hw _ (List.mem_of_getElem? (i := 71) rfl))) (ty := .int) (by decide)
  have F1_elementData : Fld Z h1 ob "java/util/ArrayList" "elementData" "[Ljava/lang/Object;" .null := D1 (Or.inl (hw _ (List.mem_of_getElem? (i := 74) rfl))) (ty := (.array (.object "java/lang/Object"))) (by decide)
  have F1_size : Fld Z h1 ob "java/util/ArrayList" "size" "I" (.int (0 : Int32)) := D1 (Or.inl (hw _ (List.mem_of_getElem? (i := 95) rfl))) (ty := .int) (by decide)
  refine OGo.st (B := T1.setTop (mkF m 3 #[.val (.ref x1), .val (.ref x2), .val (.ref x3), .unset] [(.ref ob)])) st1 ?_
  refine OGo.st (B := T1.setTop (mkF m 4 #[.val (.ref x1), .val (.ref x2), .val (.ref x3), .unset] [(.ref ob), (.ref ob)])) (fun _ kz => XS.dup X1.here hx rfl (hb hby d41_3) rfl rfl kz) ?_
  obtain ⟨v2, T2, L2, X2, hQ2, st2⟩ := (rm32 l Z a0 hw ob h1 n0 (Nat.le_trans Z0 K1.1) A1 g_ob O1 de S_dflt F1_modCount F1_elementData F1_size).init (W := 1) X1 hx hZ rfl hown (hw _ (List.mem_of_getElem? (i := 54) rfl)) (hw _ (List.mem_of_getElem? (i := 55) rfl)) (hw _ (List.mem_of_getElem? (i := 53) rfl)) (hw _ (List.mem_of_getElem? (i := 56) rfl)) (by decide) (by decide) (by decide) e1 (by decide) (by decide) (g := (mkF m 4 #[.val (.ref x1), .val (.ref x2), .val (.ref x3), .unset] [(.ref ob), (.ref ob)])) rfl (by rw [hml]; rfl) (argsL := []) (rest := [(.ref ob)]) rfl (lenOf pd_3 rfl) rfl (by show 2 * 0 + _ ≤ _; exact Nat.le_of_eq rfl) (hb hby d41_4)
  obtain ⟨rfl, N2q, J2, Y2_0, Y2_1⟩ := hQ2
  have N2 := Fr.app N0 N2q
  have K2 : Keep h0 T2.heap [] := K1.trans J2 (allS (Or.inr sz_ob) all0)
  have O2 := O1.keep J2 (allS g_ob all0)
  refine OGo.st (B := T2.setTop (mkF m 7 #[.val (.ref x1), .val (.ref x2), .val (.ref x3), .unset] [(.ref ob)])) st2 ?_
  refine OGo.st (B := T2.setTop (mkF m 8 #[.val (.ref x1), .val (.ref x2), .val (.ref x3), .val (.ref ob)] [])) (fun _ kz => XS.astoreN X2.here hx rfl (hb hby d41_7) rfl rfl (l' := #[.val (.ref x1), .val (.ref x2), .val (.ref x3), .val (.ref ob)]) rfl kz) ?_
  refine OGo.st (B := T2.setTop (mkF m 9 #[.val (.ref x1), .val (.ref x2), .val (.ref x3), .val (.ref ob)] [(.ref x1)])) (fun _ kz => XS.aloadN X2.here hx rfl (hb hby d41_8) rfl rfl kz) ?_
  refine OGo.st (B := T2.setTop (mkF m 12 #[.val (.ref x1), .val (.ref x2), .val (.ref x3), .val (.ref ob)] [])) (fun _ kz => XS.ifnullNo X2.here hx rfl (hb hby d41_9) rfl kz) ?_
  refine OGo.st (B := T2.setTop (mkF m 13 #[.val (.ref x1), .val (.ref x2), .val (.ref x3), .val (.ref ob)] [(.ref x1)])) (fun _ kz => XS.aloadN X2.here hx rfl (hb hby d41_12) rfl rfl kz) ?_
  obtain ⟨v3, T3, L3, X3, hQ3, st3⟩ := (rm23 l Z a0 hw x1 q1 T2.heap n0 ((G_x1.ext E1).keep J2 (ninS ne_x1_ob nin0))).virt (W := 0) X2 hx hZ hown (hw _ (List.mem_of_getElem? (i := 75) rfl)) (hw _ (List.mem_of_getElem? (i := 76) rfl)) (nf_sel hZ (hw _ (List.mem_of_getElem? (i := 78) rfl))) (hw _ (List.mem_of_getElem? (i := 78) rfl)) (hw _ (List.mem_of_getElem? (i := 77) rfl)) (hw _ (List.mem_of_getElem? (i := 27) rfl)) (hw _ (List.mem_of_getElem? (i := 79) rfl)) (by decide) (by decide) (by decide) rfl (by decide) (by decide) (g := (mkF m 13 #[.val (.ref x1), .val (.ref x2), .val (.ref x3), .val (.ref ob)] [(.ref x1)])) rfl (by rw [hml]; rfl) ((E_x1.ext E1).keep J2) (argsL := []) (rest := []) rfl (lenOf pd_7 rfl) rfl (by show 2 * 0 + _ ≤ _; exact Nat.le_of_eq rfl) (hb hby d41_13)
  obtain ⟨rfl, N3q, e3⟩ := hQ3
  have N3 := Fr.app N2 N3q
  refine OGo.st (B := T3.setTop (mkF m 16 #[.val (.ref x1), .val (.ref x2), .val (.ref x3), .val (.ref ob)] [(.long q1)])) st3 ?_
  refine OGo.st (B := T3.setTop (mkF m 17 #[.val (.ref x1), .val (.ref x2), .val (.ref x3), .val (.ref ob)] [(.long (1 : Int64)), (.long q1)])) (fun _ kz => XS.lconst X3.here hx rfl (hb hby d41_16) kz) ?_
  refine OGo.st (B := T3.setTop (mkF m 18 #[.val (.ref x1), .val (.ref x2), .val (.ref x3), .val (.ref ob)] [(.int (lcmpW q1 (1 : Int64)))])) (fun _ kz => XS.lcmp X3.here hx rfl (hb hby d41_17) rfl kz) ?_
  refine OGo.st (B := T3.setTop (mkF m 37 #[.val (.ref x1), .val (.ref x2), .val (.ref x3), .val (.ref ob)] [])) (fun _ kz => XS.ifYes X3.here hx rfl (pc0 := 18) (pc' := 37) rfl (hb hby d41_18) rfl ((if0 _ _).trans (flt (mt (lw_lt _ _).mp p1)).2.1) (by decide) (by decide) kz) ?_
  refine OGo.st (B := T3.setTop (mkF m 38 #[.val (.ref x1), .val (.ref x2), .val (.ref x3), .val (.ref ob)] [(.ref x2)])) (fun _ kz => XS.aloadN X3.here hx rfl (hb hby d41_37) rfl rfl kz) ?_
  refine OGo.st (B := T3.setTop (mkF m 41 #[.val (.ref x1), .val (.ref x2), .val (.ref x3), .val (.ref ob)] [])) (fun _ kz => XS.ifnullNo X3.here hx rfl (hb hby d41_38) rfl kz) ?_
  refine OGo.st (B := T3.setTop (mkF m 42 #[.val (.ref x1), .val (.ref x2), .val (.ref x3), .val (.ref ob)] [(.ref x2)])) (fun _ kz => XS.aloadN X3.here hx rfl (hb hby d41_41) rfl rfl kz) ?_
  obtain ⟨v4, T4, L4, X4, hQ4, st4⟩ := (rm23 l Z a0 hw x2 q2 T2.heap n0 ((G_x2.ext E1).keep J2 (ninS ne_x2_ob nin0))).virt (W := 0) X3 hx hZ hown (hw _ (List.mem_of_getElem? (i := 75) rfl)) (hw _ (List.mem_of_getElem? (i := 76) rfl)) (nf_sel hZ (hw _ (List.mem_of_getElem? (i := 78) rfl))) (hw _ (List.mem_of_getElem? (i := 78) rfl)) (hw _ (List.mem_of_getElem? (i := 77) rfl)) (hw _ (List.mem_of_getElem? (i := 27) rfl)) (hw _ (List.mem_of_getElem? (i := 79) rfl)) (by decide) (by decide) (by decide) e3 (by decide) (by decide) (g := (mkF m 42 #[.val (.ref x1), .val (.ref x2), .val (.ref x3), .val (.ref ob)] [(.ref x2)])) rfl (by rw [hml]; rfl) ((E_x2.ext E1).keep J2) (argsL := []) (rest := []) rfl (lenOf pd_7 rfl) rfl (by show 2 * 0 + _ ≤ _; exact Nat.le_of_eq rfl) (hb hby d41_42)
  obtain ⟨rfl, N4q, e4⟩ := hQ4
  have N4 := Fr.app N3 N4q
  refine OGo.st (B := T4.setTop (mkF m 45 #[.val (.ref x1), .val (.ref x2), .val (.ref x3), .val (.ref ob)] [(.long q2)])) st4 ?_
  refine OGo.st (B := T4.setTop (mkF m 46 #[.val (.ref x1), .val (.ref x2), .val (.ref x3), .val (.ref ob)] [(.long (1 : Int64)), (.long q2)])) (fun _ kz => XS.lconst X4.here hx rfl (hb hby d41_45) kz) ?_
  refine OGo.st (B := T4.setTop (mkF m 47 #[.val (.ref x1), .val (.ref x2), .val (.ref x3), .val (.ref ob)] [(.int (lcmpW q2 (1 : Int64)))])) (fun _ kz => XS.lcmp X4.here hx rfl (hb hby d41_46) rfl kz) ?_
  refine OGo.st (B := T4.setTop (mkF m 66 #[.val (.ref x1), .val (.ref x2), .val (.ref x3), .val (.ref ob)] [])) (fun _ kz => XS.ifYes X4.here hx rfl (pc0 := 47) (pc' := 66) rfl (hb hby d41_47) rfl ((if0 _ _).trans (flt (mt (lw_lt _ _).mp p2)).2.1) (by decide) (by decide) kz) ?_
  refine OGo.st (B := T4.setTop (mkF m 67 #[.val (.ref x1), .val (.ref x2), .val (.ref x3), .val (.ref ob)] [(.ref x3)])) (fun _ kz => XS.aloadN X4.here hx rfl (hb hby d41_66) rfl rfl kz) ?_
  refine OGo.st (B := T4.setTop (mkF m 70 #[.val (.ref x1), .val (.ref x2), .val (.ref x3), .val (.ref ob)] [])) (fun _ kz => XS.ifnullNo X4.here hx rfl (hb hby d41_67) rfl kz) ?_
  refine OGo.st (B := T4.setTop (mkF m 71 #[.val (.ref x1), .val (.ref x2), .val (.ref x3), .val (.ref ob)] [(.ref x3)])) (fun _ kz => XS.aloadN X4.here hx rfl (hb hby d41_70) rfl rfl kz) ?_
  obtain ⟨v5, T5, L5, X5, hQ5, st5⟩ := (rm23 l Z a0 hw x3 q3 T2.heap n0 ((G_x3.ext E1).keep J2 (ninS ne_x3_ob nin0))).virt (W := 0) X4 hx hZ hown (hw _ (List.mem_of_getElem? (i := 75) rfl)) (hw _ (List.mem_of_getElem? (i := 76) rfl)) (nf_sel hZ (hw _ (List.mem_of_getElem? (i := 78) rfl))) (hw _ (List.mem_of_getElem? (i := 78) rfl)) (hw _ (List.mem_of_getElem? (i := 77) rfl)) (hw _ (List.mem_of_getElem? (i := 27) rfl)) (hw _ (List.mem_of_getElem? (i := 79) rfl)) (by decide) (by decide) (by decide) e4 (by decide) (by decide) (g := (mkF m 71 #[.val (.ref x1), .val (.ref x2), .val (.ref x3), .val (.ref ob)] [(.ref x3)])) rfl (by rw [hml]; rfl) ((E_x3.ext E1).keep J2) (argsL := []) (rest := []) rfl (lenOf pd_7 rfl) rfl (by show 2 * 0 + _ ≤ _; exact Nat.le_of_eq rfl) (hb hby d41_71)
  obtain ⟨rfl, N5q, e5⟩ := hQ5
  have N5 := Fr.app N4 N5q
  refine OGo.st (B := T5.setTop (mkF m 74 #[.val (.ref x1), .val (.ref x2), .val (.ref x3), .val (.ref ob)] [(.long q3)])) st5 ?_
  refine OGo.st (B := T5.setTop (mkF m 75 #[.val (.ref x1), .val (.ref x2), .val (.ref x3), .val (.ref ob)] [(.long (1 : Int64)), (.long q3)])) (fun _ kz => XS.lconst X5.here hx rfl (hb hby d41_74) kz) ?_
  refine OGo.st (B := T5.setTop (mkF m 76 #[.val (.ref x1), .val (.ref x2), .val (.ref x3), .val (.ref ob)] [(.int (lcmpW q3 (1 : Int64)))])) (fun _ kz => XS.lcmp X5.here hx rfl (hb hby d41_75) rfl kz) ?_
  refine OGo.st (B := T5.setTop (mkF m 98 #[.val (.ref x1), .val (.ref x2), .val (.ref x3), .val (.ref ob)] [])) (fun _ kz => XS.ifYes X5.here hx rfl (pc0 := 76) (pc' := 98) rfl (hb hby d41_76) rfl ((if0 _ _).trans (flt (mt (lw_lt _ _).mp p3)).2.1) (by decide) (by decide) kz) ?_
  refine OGo.st (B := T5.setTop (mkF m 99 #[.val (.ref x1), .val (.ref x2), .val (.ref x3), .val (.ref ob)] [(.ref x3)])) (fun _ kz => XS.aloadN X5.here hx rfl (hb hby d41_98) rfl rfl kz) ?_
  refine OGo.st (B := T5.setTop (mkF m 102 #[.val (.ref x1), .val (.ref x2), .val (.ref x3), .val (.ref ob)] [])) (fun _ kz => XS.ifnullNo X5.here hx rfl (hb hby d41_99) rfl kz) ?_
  refine OGo.st (B := T5.setTop (mkF m 103 #[.val (.ref x1), .val (.ref x2), .val (.ref x3), .val (.ref ob)] [(.ref x2)])) (fun _ kz => XS.aloadN X5.here hx rfl (hb hby d41_102) rfl rfl kz) ?_
  refine OGo.st (B := T5.setTop (mkF m 106 #[.val (.ref x1), .val (.ref x2), .val (.ref x3), .val (.ref ob)] [])) (fun _ kz => XS.ifnullNo X5.here hx rfl (hb hby d41_103) rfl kz) ?_
  refine OGo.st (B := T5.setTop (mkF m 107 #[.val (.ref x1), .val (.ref x2), .val (.ref x3), .val (.ref ob)] [(.ref x2)])) (fun _ kz => XS.aloadN X5.here hx rfl (hb hby d41_106) rfl rfl kz) ?_
  obtain ⟨v6, T6, L6, X6, hQ6, st6⟩ := (rm23 l Z a0 hw x2 q2 T2.heap n0 ((G_x2.ext E1).keep J2 (ninS ne_x2_ob nin0))).virt (W := 0) X5 hx hZ hown (hw _ (List.mem_of_getElem? (i := 75) rfl)) (hw _ (List.mem_of_getElem? (i := 76) rfl)) (nf_sel hZ (hw _ (List.mem_of_getElem? (i := 78) rfl))) (hw _ (List.mem_of_getElem? (i := 78) rfl)) (hw _ (List.mem_of_getElem? (i := 77) rfl)) (hw _ (List.mem_of_getElem? (i := 27) rfl)) (hw _ (List.mem_of_getElem? (i := 79) rfl)) (by decide) (by decide) (by decide) e5 (by decide) (by decide) (g := (mkF m 107 #[.val (.ref x1), .val (.ref x2), .val (.ref x3), .val (.ref ob)] [(.ref x2)])) rfl (by rw [hml]; rfl) ((E_x2.ext E1).keep J2) (argsL := []) (rest := []) rfl (lenOf pd_7 rfl) rfl (by show 2 * 0 + _ ≤ _; exact Nat.le_of_eq rfl) (hb hby d41_107)
  obtain ⟨rfl, N6q, e6⟩ := hQ6
  have N6 := Fr.app N5 N6q
  refine OGo.st (B := T6.setTop (mkF m 110 #[.val (.ref x1), .val (.ref x2), .val (.ref x3), .val (.ref ob)] [(.long q2)])) st6 ?_
  refine OGo.st (B := T6.setTop (mkF m 111 #[.val (.ref x1), .val (.ref x2), .val (.ref x3), .val (.ref ob)] [(.long (1 : Int64)), (.long q2)])) (fun _ kz => XS.lconst X6.here hx rfl (hb hby d41_110) kz) ?_
  refine OGo.st (B := T6.setTop (mkF m 112 #[.val (.ref x1), .val (.ref x2), .val (.ref x3), .val (.ref ob)] [(.int (lcmpW q2 (1 : Int64)))])) (fun _ kz => XS.lcmp X6.here hx rfl (hb hby d41_111) rfl kz) ?_
  refine OGo.st (B := T6.setTop (mkF m 115 #[.val (.ref x1), .val (.ref x2), .val (.ref x3), .val (.ref ob)] [])) (fun _ kz => XS.ifNo X6.here hx rfl (hb hby d41_112) rfl ((if0 _ _).trans (flt (mt (lw_lt _ _).mp p2)).1) kz) ?_
  refine OGo.st (B := T6.setTop (mkF m 116 #[.val (.ref x1), .val (.ref x2), .val (.ref x3), .val (.ref ob)] [(.ref x3)])) (fun _ kz => XS.aloadN X6.here hx rfl (hb hby d41_115) rfl rfl kz) ?_
  obtain ⟨v7, T7, L7, X7, hQ7, st7⟩ := (rm23 l Z a0 hw x3 q3 T2.heap n0 ((G_x3.ext E1).keep J2 (ninS ne_x3_ob nin0))).virt (W := 0) X6 hx hZ hown (hw _ (List.mem_of_getElem? (i := 75) rfl)) (hw _ (List.mem_of_getElem? (i := 76) rfl)) (nf_sel hZ (hw _ (List.mem_of_getElem? (i := 78) rfl))) (hw _ (List.mem_of_getElem? (i := 78) rfl)) (hw _ (List.mem_of_getElem? (i := 77) rfl)) (hw _ (List.mem_of_getElem? (i := 27) rfl)) (hw _ (List.mem_of_getElem? (i := 79) rfl)) (by decide) (by decide) (by decide) e6 (by decide) (by decide) (g := (mkF m 116 #[.val (.ref x1), .val (.ref x2), .val (.ref x3), .val (.ref ob)] [(.ref x3)])) rfl (by rw [hml]; rfl) ((E_x3.ext E1).keep J2) (argsL := []) (rest := []) rfl (lenOf pd_7 rfl) rfl (by show 2 * 0 + _ ≤ _; exact Nat.le_of_eq rfl) (hb hby d41_116)
  obtain ⟨rfl, N7q, e7⟩ := hQ7
  have N7 := Fr.app N6 N7q
  refine OGo.st (B := T7.setTop (mkF m 119 #[.val (.ref x1), .val (.ref x2), .val (.ref x3), .val (.ref ob)] [(.long q3)])) st7 ?_
  refine OGo.st (B := T7.setTop (mkF m 122 #[.val (.ref x1), .val (.ref x2), .val (.ref x3), .val (.ref ob)] [(.long (9007199254740992 : Int64)), (.long q3)])) (X7.ldc2Long hx hown (mvT hZ (hw _ (List.mem_of_getElem? (i := 80) rfl))) (g := (mkF m 119 #[.val (.ref x1), .val (.ref x2), .val (.ref x3), .val (.ref ob)] [(.long q3)])) rfl (hb hby d41_119)) ?_
  refine OGo.st (B := T7.setTop (mkF m 123 #[.val (.ref x1), .val (.ref x2), .val (.ref x3), .val (.ref ob)] [(.ref x2), (.long (9007199254740992 : Int64)), (.long q3)])) (fun _ kz => XS.aloadN X7.here hx rfl (hb hby d41_122) rfl rfl kz) ?_
  obtain ⟨v8, T8, L8, X8, hQ8, st8⟩ := (rm23 l Z a0 hw x2 q2 T2.heap n0 ((G_x2.ext E1).keep J2 (ninS ne_x2_ob nin0))).virt (W := 4) X7 hx hZ hown (hw _ (List.mem_of_getElem? (i := 75) rfl)) (hw _ (List.mem_of_getElem? (i := 76) rfl)) (nf_sel hZ (hw _ (List.mem_of_getElem? (i := 78) rfl))) (hw _ (List.mem_of_getElem? (i := 78) rfl)) (hw _ (List.mem_of_getElem? (i := 77) rfl)) (hw _ (List.mem_of_getElem? (i := 27) rfl)) (hw _ (List.mem_of_getElem? (i := 79) rfl)) (by decide) (by decide) (by decide) e7 (by decide) (by decide) (g := (mkF m 123 #[.val (.ref x1), .val (.ref x2), .val (.ref x3), .val (.ref ob)] [(.ref x2), (.long (9007199254740992 : Int64)), (.long q3)])) rfl (by rw [hml]; rfl) ((E_x2.ext E1).keep J2) (argsL := []) (rest := [(.long (9007199254740992 : Int64)), (.long q3)]) rfl (lenOf pd_7 rfl) rfl (by show 2 * 0 + _ ≤ _; exact Nat.le_of_eq rfl) (hb hby d41_123)
  obtain ⟨rfl, N8q, e8⟩ := hQ8
  have N8 := Fr.app N7 N8q
  refine OGo.st (B := T8.setTop (mkF m 126 #[.val (.ref x1), .val (.ref x2), .val (.ref x3), .val (.ref ob)] [(.long q2), (.long (9007199254740992 : Int64)), (.long q3)])) st8 ?_
  have nz : q2 ≠ 0 := fun z => p2 (by rw [z]; decide)
  refine OGo.st (B := T8.setTop (mkF m 127 #[.val (.ref x1), .val (.ref x2), .val (.ref x3), .val (.ref ob)] [(.long ((9007199254740992 : Int64) / q2)), (.long q3)])) (fun _ kz => XS.ldiv X8.here hx rfl (hb hby d41_126) rfl nz kz) ?_
  refine OGo.st (B := T8.setTop (mkF m 128 #[.val (.ref x1), .val (.ref x2), .val (.ref x3), .val (.ref ob)] [(.int (lcmpW q3 ((9007199254740992 : Int64) / q2)))])) (fun _ kz => XS.lcmp X8.here hx rfl (hb hby d41_127) rfl kz) ?_
  refine OGo.st (B := T8.setTop (mkF m 147 #[.val (.ref x1), .val (.ref x2), .val (.ref x3), .val (.ref ob)] [])) (fun _ kz => XS.ifYes X8.here hx rfl (pc0 := 128) (pc' := 147) rfl (hb hby d41_128) rfl ((if0 _ _).trans (flt (mt (lw_gt _ _).mp p4)).2.2.2) (by decide) (by decide) kz) ?_
  refine OGo.st (B := T8.setTop (mkF m 148 #[.val (.ref x1), .val (.ref x2), .val (.ref x3), .val (.ref ob)] [(.ref ob)])) (fun _ kz => XS.aloadN X8.here hx rfl (hb hby d41_147) rfl rfl kz) ?_
  exact own_retA X8 hx hret hlk rfl rfl rfl (hb hby d41_148) ⟨ob, rfl, N8, by rw [e8]; exact ⟨K2, Y2_0, Y2_1⟩⟩ (by decide) (by decide)
theorem pd_9 : parseMethodDescriptor "()Z" = some ⟨[], some .boolean⟩ := by decide +kernel
theorem d42_0 : decode prog_16_method_2_code 0 = .ok (.aload_n 0, 1) := by decide +kernel
theorem d42_1 : decode prog_16_method_2_code 1 = .ok (.invokeinterface 13 1, 5) := by decide +kernel
theorem d42_6 : decode prog_16_method_2_code 6 = .ok (.ifCond .ne 15, 3) := by decide +kernel
theorem d42_21 : decode prog_16_method_2_code 21 = .ok (.return_, 1) := by decide +kernel
theorem pn_com_example_narrow_gate_narrowgate_InvalidLimitsException : plainName "com/example/narrow_gate/narrowgate/InvalidLimitsException" = true := by first | (simp [plainName, overriddenIn]; done) | decide +kernel
theorem ef_rm42 (m : MethodId) (x0 : Addr) : entryFrame m #[(.ref x0)] 1 = mkF m 0 #[.val (.ref x0)] [] := by first | (simp [entryFrame, mkF, argsToLocals, Value.category]; done) | rfl
set_option maxRecDepth 65536 in
set_option maxHeartbeats 40000000 in
theorem rm42 (l : Launch) (Z : State) (a0 : Array Value) (hw : ∀ d ∈ tables_1, d.before a0 Z = true) (a : Addr) (h0 : Heap) (n0 : Nat) (E : Exa Z h0 a "java/util/ArrayList") (F : Fld Z h0 a "java/util/ArrayList" "size" "I" (.int (0 : Int32))) :
    OMet l Z (⟨"com/example/narrow_gate/narrowgate/InvalidLimitsException", "refuseIfAny", "(Ljava/util/List;)V"⟩ : MethodName) prog_16_method_2_code 1 none [] ({ frames := 1, cells := 0, slots := 0, locals := 12 } : Room) #[(.ref a)] h0 (OPure none h0 n0) := by
  refine OMet.of (plainFor_of_name pn_com_example_narrow_gate_narrowgate_InvalidLimitsException) ?_
  intro p e s m below meth c s₁ hx hby hml hnd hown hnm hret hlk hZ X0 e0
  replace hown : s.vm.findClass "com/example/narrow_gate/narrowgate/InvalidLimitsException" = some m.cls := hown
  replace hml : c.maxLocals = 1 := hml
  have N0 := Fr.nil n0
  rw [ef_rm42 m a]
  refine OGo.st (B := s₁.setTop (mkF m 1 #[.val (.ref a)] [(.ref a)])) (fun _ kz => XS.aloadN X0.here hx rfl (hb hby d42_0) rfl rfl kz) ?_
  obtain ⟨v1, T1, L1, X1, hQ1, st1⟩ := (rm33 l Z a0 hw a h0 n0 F).iface (W := 0) X0 hx hZ hown (hw _ (List.mem_of_getElem? (i := 85) rfl)) (hw _ (List.mem_of_getElem? (i := 86) rfl)) (hw _ (List.mem_of_getElem? (i := 87) rfl)) (hw _ (List.mem_of_getElem? (i := 88) rfl)) (hw _ (List.mem_of_getElem? (i := 89) rfl)) (hw _ (List.mem_of_getElem? (i := 90) rfl)) (hw _ (List.mem_of_getElem? (i := 91) rfl)) (hw _ (List.mem_of_getElem? (i := 92) rfl)) (hw _ (List.mem_of_getElem? (i := 53) rfl)) (hw _ (List.mem_of_getElem? (i := 93) rfl)) (by decide) (by decide) (by decide) e0 (by decide) (by decide) (g := (mkF m 1 #[.val (.ref a)] [(.ref a)])) rfl (by rw [hml]; rfl) E (argsL := []) (rest := []) rfl (lenOf pd_9 rfl) rfl (by show 2 * 0 + _ ≤ _; exact Nat.le_of_eq rfl) (hb hby d42_1)
  obtain ⟨rfl, N1q, e1⟩ := hQ1
  have N1 := Fr.app N0 N1q
  refine OGo.st (B := T1.setTop (mkF m 6 #[.val (.ref a)] [(.int (1 : Int32))])) st1 ?_
  refine OGo.st (B := T1.setTop (mkF m 21 #[.val (.ref a)] [])) (fun _ kz => XS.ifYes X1.here hx rfl (pc0 := 6) (pc' := 21) rfl (hb hby d42_6) rfl (by decide) (by decide) (by decide) kz) ?_
  exact own_ret0 X1 hx hret hlk (hb hby d42_21) ⟨rfl, N1, e1⟩ (by decide) (by decide)
theorem pd_4 : parseMethodDescriptor "(J)Ljava/lang/Long;" = some ⟨[.long], some (.object "java/lang/Long")⟩ := by decide +kernel
theorem pd_6 : parseMethodDescriptor "(Ljava/lang/Long;Ljava/lang/Long;Ljava/lang/Long;)Ljava/util/List;" = some ⟨[(.object "java/lang/Long"), (.object "java/lang/Long"), (.object "java/lang/Long")], some (.object "java/util/List")⟩ := by decide +kernel
theorem pd_8 : parseMethodDescriptor "(Ljava/util/List;)V" = some ⟨[(.object "java/util/List")], none⟩ := by decide +kernel
theorem d43_0 : decode prog_18_method_1_code 0 = .ok (.aload_n 0, 1) := by decide +kernel
theorem d43_1 : decode prog_18_method_1_code 1 = .ok (.invokespecial 1, 3) := by decide +kernel
theorem d43_4 : decode prog_18_method_1_code 4 = .ok (.lload_n 1, 1) := by decide +kernel
theorem d43_5 : decode prog_18_method_1_code 5 = .ok (.invokestatic 7, 3) := by decide +kernel
theorem d43_8 : decode prog_18_method_1_code 8 = .ok (.lload_n 3, 1) := by decide +kernel
theorem d43_9 : decode prog_18_method_1_code 9 = .ok (.invokestatic 7, 3) := by decide +kernel
theorem d43_12 : decode prog_18_method_1_code 12 = .ok (.lload 5, 2) := by decide +kernel
theorem d43_14 : decode prog_18_method_1_code 14 = .ok (.invokestatic 7, 3) := by decide +kernel
theorem d43_17 : decode prog_18_method_1_code 17 = .ok (.invokestatic 13, 3) := by decide +kernel
theorem d43_20 : decode prog_18_method_1_code 20 = .ok (.invokestatic 19, 3) := by decide +kernel
theorem d43_23 : decode prog_18_method_1_code 23 = .ok (.aload_n 0, 1) := by decide +kernel
theorem d43_24 : decode prog_18_method_1_code 24 = .ok (.lload_n 1, 1) := by decide +kernel
theorem d43_25 : decode prog_18_method_1_code 25 = .ok (.putfield 25, 3) := by decide +kernel
theorem d43_28 : decode prog_18_method_1_code 28 = .ok (.aload_n 0, 1) := by decide +kernel
theorem d43_29 : decode prog_18_method_1_code 29 = .ok (.lload_n 3, 1) := by decide +kernel
theorem d43_30 : decode prog_18_method_1_code 30 = .ok (.putfield 29, 3) := by decide +kernel
theorem d43_33 : decode prog_18_method_1_code 33 = .ok (.aload_n 0, 1) := by decide +kernel
theorem d43_34 : decode prog_18_method_1_code 34 = .ok (.lload 5, 2) := by decide +kernel
theorem d43_36 : decode prog_18_method_1_code 36 = .ok (.putfield 32, 3) := by decide +kernel
theorem d43_39 : decode prog_18_method_1_code 39 = .ok (.return_, 1) := by decide +kernel
theorem ef_rm43 (m : MethodId) (x0 : Addr) (x1 : Int64) (x2 : Int64) (x3 : Int64) : entryFrame m #[(.ref x0), (.long x1), (.long x2), (.long x3)] 7 = mkF m 0 #[.val (.ref x0), .val (.long x1), .second, .val (.long x2), .second, .val (.long x3), .second] [] := by first | (simp [entryFrame, mkF, argsToLocals, Value.category]; done) | rfl
set_option maxRecDepth 65536 in
set_option maxHeartbeats 40000000 in
theorem rm43 (l : Launch) (Z : State) (a0 : Array Value) (hw : ∀ d ∈ tables_1, d.before a0 Z = true) (a : Addr) (q1 q2 q3 : Int64) (h0 : Heap) (n0 : Nat) (Z0 : n0 ≤ h0.size) (O0 : Old Z n0 h0) (ca : Addr) (cc : Cell) (S_cache : Sta Z Z.heap "java/lang/Long$LongCache" "cache" "[Ljava/lang/Long;" (.ref ca)) (BX : Bxs Z ca cc "java/lang/Long" "J" 256 (fun j => .long (j - 128).toInt64)) (de : Addr) (S_dflt : Sta Z Z.heap "java/util/ArrayList" "DEFAULTCAPACITY_EMPTY_ELEMENTDATA" "[Ljava/lang/Object;" (.ref de)) (E_a : Exa Z h0 a "com/example/narrow_gate/narrowgate/Limit") (g_a : n0 ≤ a) (G_rate : Fld Z h0 a "com/example/narrow_gate/narrowgate/Limit" "rate" "J" (.long (0 : Int64))) (G_periodMs : Fld Z h0 a "com/example/narrow_gate/narrowgate/Limit" "periodMs" "J" (.long (0 : Int64))) (G_burst : Fld Z h0 a "com/example/narrow_gate/narrowgate/Limit" "burst" "J" (.long (0 : Int64))) (p1 : ¬ q1 < (1 : Int64)) (p2 : ¬ q2 < (1 : Int64)) (p3 : ¬ q3 < (1 : Int64)) (p4 : ¬ (9007199254740992 : Int64) / q2 < q3) :
    OMet l Z (⟨"com/example/narrow_gate/narrowgate/Limit", "<init>", "(JJJ)V"⟩ : MethodName) prog_18_method_1_code 7 none [] ({ frames := 5, cells := 4, slots := 6, locals := 64 } : Room) #[(.ref a), (.long q1), (.long q2), (.long q3)] h0 (fun v h L => v = none ∧ Fr n0 L ∧ Keep h0 h [a] ∧ Exa Z h a "com/example/narrow_gate/narrowgate/Limit" ∧ Fld Z h a "com/example/narrow_gate/narrowgate/Limit" "rate" "J" (.long q1) ∧ Fld Z h a "com/example/narrow_gate/narrowgate/Limit" "periodMs" "J" (.long q2) ∧ Fld Z h a "com/example/narrow_gate/narrowgate/Limit" "burst" "J" (.long q3)) := by
  refine OMet.of (plainFor_of_name pn_com_example_narrow_gate_narrowgate_Limit) ?_
  intro p e s m below meth c s₁ hx hby hml hnd hown hnm hret hlk hZ X0 e0
  replace hown : s.vm.findClass "com/example/narrow_gate/narrowgate/Limit" = some m.cls := hown
  replace hml : c.maxLocals = 7 := hml
  have N0 := Fr.nil n0
  rw [ef_rm43 m a q1 q2 q3]
  refine OGo.st (B := s₁.setTop (mkF m 1 #[.val (.ref a), .val (.long q1), .second, .val (.long q2), .second, .val (.long q3), .second] [(.ref a)])) (fun _ kz => XS.aloadN X0.here hx rfl (hb hby d43_0) rfl rfl kz) ?_
  obtain ⟨T1, X1, e1, st1⟩ := initO X0 hx hZ hown (hw _ (List.mem_of_getElem? (i := 22) rfl)) (hw _ (List.mem_of_getElem? (i := 23) rfl)) (hw _ (List.mem_of_getElem? (i := 24) rfl)) e0 (g := (mkF m 1 #[.val (.ref a), .val (.long q1), .second, .val (.long q2), .second, .val (.long q3), .second] [(.ref a)])) rfl (by rw [hml]; rfl) rfl (hb hby d43_1) (by decide) (W := 0) (by show 2 * 0 + _ ≤ _; exact Nat.le_of_eq rfl) (by decide)
  refine OGo.st (B := T1.setTop (mkF m 4 #[.val (.ref a), .val (.long q1), .second, .val (.long q2), .second, .val (.long q3), .second] [])) st1 ?_
  refine OGo.st (B := T1.setTop (mkF m 5 #[.val (.ref a), .val (.long q1), .second, .val (.long q2), .second, .val (.long q3), .second] [(.long q1)])) (fun _ kz => XS.lloadN X1.here hx rfl (hb hby d43_4) rfl kz) ?_
  obtain ⟨v2, T2, L2, X2, hQ2, st2⟩ := (rm22 l Z a0 hw q1 h0 n0 (Nat.le_trans Z0 (Keep.refl h0 [a]).1) O0 ca cc S_cache BX).static (W := 0) X1 hx hZ hown (hw _ (List.mem_of_getElem? (i := 25) rfl)) (hw _ (List.mem_of_getElem? (i := 26) rfl)) (hw _ (List.mem_of_getElem? (i := 27) rfl)) (hw _ (List.mem_of_getElem? (i := 28) rfl)) (by decide) (by decide) (by decide) e1 (by decide) (by decide) (g := (mkF m 5 #[.val (.ref a), .val (.long q1), .second, .val (.long q2), .second, .val (.long q3), .second] [(.long q1)])) rfl (by rw [hml]; rfl) (argsL := [(.long q1)]) (rest := []) rfl (lenOf pd_4 rfl) rfl (by show 2 * 0 + _ ≤ _; exact Nat.le_of_eq rfl) (hb hby d43_5)
  obtain ⟨x2, rfl, N2q, J2, Y2_0, Y2_1⟩ := hQ2
  have N2 := Fr.app N0 N2q
  have K2 : Keep h0 T2.heap [a] := (Keep.refl h0 [a]).trans J2 all0
  have O2 := O0.keep J2 all0
  refine OGo.st (B := T2.setTop (mkF m 8 #[.val (.ref a), .val (.long q1), .second, .val (.long q2), .second, .val (.long q3), .second] [(.ref x2)])) st2 ?_
  have ne_a_x2 : a ≠ x2 := Exa.ne (E_a.keep J2) Y2_0 (by decide)
  refine OGo.st (B := T2.setTop (mkF m 9 #[.val (.ref a), .val (.long q1), .second, .val (.long q2), .second, .val (.long q3), .second] [(.long q2), (.ref x2)])) (fun _ kz => XS.lloadN X2.here hx rfl (hb hby d43_8) rfl kz) ?_
  obtain ⟨v3, T3, L3, X3, hQ3, st3⟩ := (rm22 l Z a0 hw q2 T2.heap n0 (Nat.le_trans Z0 K2.1) O2 ca cc S_cache BX).static (W := 1) X2 hx hZ hown (hw _ (List.mem_of_getElem? (i := 25) rfl)) (hw _ (List.mem_of_getElem? (i := 26) rfl)) (hw _ (List.mem_of_getElem? (i := 27) rfl)) (hw _ (List.mem_of_getElem? (i := 28) rfl)) (by decide) (by decide) (by decide) rfl (by decide) (by decide) (g := (mkF m 9 #[.val (.ref a), .val (.long q1), .second, .val (.long q2), .second, .val (.long q3), .second] [(.long q2), (.ref x2)])) rfl (by rw [hml]; rfl) (argsL := [(.long q2)]) (rest := [(.ref x2)]) rfl (lenOf pd_4 rfl) rfl (by show 2 * 0 + _ ≤ _; exact Nat.le_of_eq rfl) (hb hby d43_9)
  obtain ⟨x3, rfl, N3q, J3, Y3_0, Y3_1⟩ := hQ3
  have N3 := Fr.app N2 N3q
  have K3 : Keep h0 T3.heap [a] := K2.trans J3 all0
  have O3 := O2.keep J3 all0
  refine OGo.st (B := T3.setTop (mkF m 12 #[.val (.ref a), .val (.long q1), .second, .val (.long q2), .second, .val (.long q3), .second] [(.ref x3), (.ref x2)])) st3 ?_
  have ne_a_x3 : a ≠ x3 := Exa.ne ((E_a.keep J2).keep J3) Y3_0 (by decide)
  refine OGo.st (B := T3.setTop (mkF m 14 #[.val (.ref a), .val (.long q1), .second, .val (.long q2), .second, .val (.long q3), .second] [(.long q3), (.ref x3), (.ref x2)])) (fun _ kz => XS.lload X3.here hx rfl (hb hby d43_12) rfl kz) ?_
  obtain ⟨v4, T4, L4, X4, hQ4, st4⟩ := (rm22 l Z a0 hw q3 T3.heap n0 (Nat.le_trans Z0 K3.1) O3 ca cc S_cache BX).static (W := 2) X3 hx hZ hown (hw _ (List.mem_of_getElem? (i := 25) rfl)) (hw _ (List.mem_of_getElem? (i := 26) rfl)) (hw _ (List.mem_of_getElem? (i := 27) rfl)) (hw _ (List.mem_of_getElem? (i := 28) rfl)) (by decide) (by decide) (by decide) rfl (by decide) (by decide) (g := (mkF m 14 #[.val (.ref a), .val (.long q1), .second, .val (.long q2), .second, .val (.long q3), .second] [(.long q3), (.ref x3), (.ref x2)])) rfl (by rw [hml]; rfl) (argsL := [(.long q3)]) (rest := [(.ref x3), (.ref x2)]) rfl (lenOf pd_4 rfl) rfl (by show 2 * 0 + _ ≤ _; exact Nat.le_of_eq rfl) (hb hby d43_14)
  obtain ⟨x4, rfl, N4q, J4, Y4_0, Y4_1⟩ := hQ4
  have N4 := Fr.app N3 N4q
  have K4 : Keep h0 T4.heap [a] := K3.trans J4 all0
  have O4 := O3.keep J4 all0
  refine OGo.st (B := T4.setTop (mkF m 17 #[.val (.ref a), .val (.long q1), .second, .val (.long q2), .second, .val (.long q3), .second] [(.ref x4), (.ref x3), (.ref x2)])) st4 ?_
  have ne_a_x4 : a ≠ x4 := Exa.ne (((E_a.keep J2).keep J3).keep J4) Y4_0 (by decide)
  obtain ⟨v5, T5, L5, X5, hQ5, st5⟩ := (rm41 l Z a0 hw x2 x3 x4 q1 q2 q3 T4.heap n0 (Nat.le_trans Z0 K4.1) O4 de S_dflt ((Y2_0.keep J3).keep J4) (Y3_0.keep J4) Y4_0 ((Y2_1.keep J3 nin0).keep J4 nin0) (Y3_1.keep J4 nin0) Y4_1 p1 p2 p3 p4).static (W := 0) X4 hx hZ hown (hw _ (List.mem_of_getElem? (i := 48) rfl)) (hw _ (List.mem_of_getElem? (i := 49) rfl)) (hw _ (List.mem_of_getElem? (i := 18) rfl)) (hw _ (List.mem_of_getElem? (i := 50) rfl)) (by decide) (by decide) (by decide) rfl (by decide) (by decide) (g := (mkF m 17 #[.val (.ref a), .val (.long q1), .second, .val (.long q2), .second, .val (.long q3), .second] [(.ref x4), (.ref x3), (.ref x2)])) rfl (by rw [hml]; rfl) (argsL := [(.ref x2), (.ref x3), (.ref x4)]) (rest := []) rfl (lenOf pd_6 rfl) rfl (by show 2 * 0 + _ ≤ _; exact Nat.le_of_eq rfl) (hb hby d43_17)
  obtain ⟨b5, rfl, N5q, J5, Y5_0, Y5_1⟩ := hQ5
  have N5 := Fr.app N4 N5q
  have K5 : Keep h0 T5.heap [a] := K4.trans J5 all0
  have O5 := O4.keep J5 all0
  refine OGo.st (B := T5.setTop (mkF m 20 #[.val (.ref a), .val (.long q1), .second, .val (.long q2), .second, .val (.long q3), .second] [(.ref b5)])) st5 ?_
  obtain ⟨v6, T6, L6, X6, hQ6, st6⟩ := (rm42 l Z a0 hw b5 T5.heap n0 Y5_0 Y5_1).static (W := 0) X5 hx hZ hown (hw _ (List.mem_of_getElem? (i := 81) rfl)) (hw _ (List.mem_of_getElem? (i := 82) rfl)) (hw _ (List.mem_of_getElem? (i := 83) rfl)) (hw _ (List.mem_of_getElem? (i := 84) rfl)) (by decide) (by decide) (by decide) rfl (by decide) (by decide) (g := (mkF m 20 #[.val (.ref a), .val (.long q1), .second, .val (.long q2), .second, .val (.long q3), .second] [(.ref b5)])) rfl (by rw [hml]; rfl) (argsL := [(.ref b5)]) (rest := []) rfl (lenOf pd_8 rfl) rfl (by show 2 * 0 + _ ≤ _; exact Nat.le_of_eq rfl) (hb hby d43_20)
  obtain ⟨rfl, N6q, e6⟩ := hQ6
  have N6 := Fr.app N5 N6q
  refine OGo.st (B := T6.setTop (mkF m 23 #[.val (.ref a), .val (.long q1), .second, .val (.long q2), .second, .val (.long q3), .second] [])) st6 ?_
  refine OGo.st (B := T6.setTop (mkF m 24 #[.val (.ref a), .val (.long q1), .second, .val (.long q2), .second, .val (.long q3), .second] [(.ref a)])) (fun _ kz => XS.aloadN X6.here hx rfl (hb hby d43_23) rfl rfl kz) ?_
  refine OGo.st (B := T6.setTop (mkF m 25 #[.val (.ref a), .val (.long q1), .second, .val (.long q2), .second, .val (.long q3), .second] [(.long q1), (.ref a)])) (fun _ kz => XS.lloadN X6.here hx rfl (hb hby d43_24) rfl kz) ?_
  obtain ⟨T7, h7, X7, e7, W7, st7⟩ := putF X6 hx hZ hown (host := "") (Or.inl (hw _ (List.mem_of_getElem? (i := 96) rfl))) Via.refl e6 ((((G_rate.keep J2 nin0).keep J3 nin0).keep J4 nin0).keep J5 nin0) ((((E_a.keep J2).keep J3).keep J4).keep J5) (Or.inr ⟨(hw _ (List.mem_of_getElem? (i := 97) rfl)), rfl, hnm⟩) (hw _ (List.mem_of_getElem? (i := 17) rfl)) (ty := .long) (by decide) rfl rfl (g := (mkF m 25 #[.val (.ref a), .val (.long q1), .second, .val (.long q2), .second, .val (.long q3), .second] [(.long q1), (.ref a)])) rfl rfl (hb hby d43_25)
  have F7_rate := ((((G_rate.keep J2 nin0).keep J3 nin0).keep J4 nin0).keep J5 nin0).same W7
  have N7 := Fr.snoc X7 N6 g_a
  have K7 : Keep h0 h7 [a] := K5.wr W7 (Or.inl (List.mem_of_getElem? (i := 0) rfl))
  have O7 := O5.wr W7 g_a
  refine OGo.st (B := T7.setTop (mkF m 28 #[.val (.ref a), .val (.long q1), .second, .val (.long q2), .second, .val (.long q3), .second] [])) st7 ?_
  refine OGo.st (B := T7.setTop (mkF m 29 #[.val (.ref a), .val (.long q1), .second, .val (.long q2), .second, .val (.long q3), .second] [(.ref a)])) (fun _ kz => XS.aloadN X7.here hx rfl (hb hby d43_28) rfl rfl kz) ?_
  refine OGo.st (B := T7.setTop (mkF m 30 #[.val (.ref a), .val (.long q1), .second, .val (.long q2), .second, .val (.long q3), .second] [(.long q2), (.ref a)])) (fun _ kz => XS.lloadN X7.here hx rfl (hb hby d43_29) rfl kz) ?_
  obtain ⟨T8, h8, X8, e8, W8, st8⟩ := putF X7 hx hZ hown (host := "") (Or.inl (hw _ (List.mem_of_getElem? (i := 98) rfl))) Via.refl e7 (((((G_periodMs.keep J2 nin0).keep J3 nin0).keep J4 nin0).keep J5 nin0).other W7 (Or.inr (slot_ne (Or.inr (hw _ (List.mem_of_getElem? (i := 99) rfl))) (Or.inr (hw _ (List.mem_of_getElem? (i := 97) rfl))) (by decide) (t := .long) (t' := .long) (by decide) (by decide)))) (((((E_a.keep J2).keep J3).keep J4).keep J5).wr W7) (Or.inr ⟨(hw _ (List.mem_of_getElem? (i := 99) rfl)), rfl, hnm⟩) (hw _ (List.mem_of_getElem? (i := 17) rfl)) (ty := .long) (by decide) rfl rfl (g := (mkF m 30 #[.val (.ref a), .val (.long q1), .second, .val (.long q2), .second, .val (.long q3), .second] [(.long q2), (.ref a)])) rfl rfl (hb hby d43_30)
  have F8_periodMs := (((((G_periodMs.keep J2 nin0).keep J3 nin0).keep J4 nin0).keep J5 nin0).other W7 (Or.inr (slot_ne (Or.inr (hw _ (List.mem_of_getElem? (i := 99) rfl))) (Or.inr (hw _ (List.mem_of_getElem? (i := 97) rfl))) (by decide) (t := .long) (t' := .long) (by decide) (by decide)))).same W8
  have N8 := Fr.snoc X8 N7 g_a
  have K8 : Keep h0 h8 [a] := K7.wr W8 (Or.inl (List.mem_of_getElem? (i := 0) rfl))
  have O8 := O7.wr W8 g_a
  refine OGo.st (B := T8.setTop (mkF m 33 #[.val (.ref a), .val (.long q1), .second, .val (.long q2), .second, .val (.long q3), .second] [])) st8 ?_
  refine OGo.st (B := T8.setTop (mkF m 34 #[.val (.ref a), .val (.long q1), .second, .val (.long q2), .second, .val (.long q3), .second] [(.ref a)])) (fun _ kz => XS.aloadN X8.here hx rfl (hb hby d43_33) rfl rfl kz) ?_
  refine OGo.st (B := T8.setTop (mkF m 36 #[.val (.ref a), .val (.long q1), .second, .val (.long q2), .second, .val (.long q3), .second] [(.long q3), (.ref a)])) (fun _ kz => XS.lload X8.here hx rfl (hb hby d43_34) rfl kz) ?_
  obtain ⟨T9, h9, X9, e9, W9, st9⟩ := putF X8 hx hZ hown (host := "") (Or.inl (hw _ (List.mem_of_getElem? (i := 100) rfl))) Via.refl e8 ((((((G_burst.keep J2 nin0).keep J3 nin0).keep J4 nin0).keep J5 nin0).other W7 (Or.inr (slot_ne (Or.inr (hw _ (List.mem_of_getElem? (i := 101) rfl))) (Or.inr (hw _ (List.mem_of_getElem? (i := 97) rfl))) (by decide) (t := .long) (t' := .long) (by decide) (by decide)))).other W8 (Or.inr (slot_ne (Or.inr (hw _ (List.mem_of_getElem? (i := 101) rfl))) (Or.inr (hw _ (List.mem_of_getElem? (i := 99) rfl))) (by decide) (t := .long) (t' := .long) (by decide) (by decide)))) ((((((E_a.keep J2).keep J3).keep J4).keep J5).wr W7).wr W8) (Or.inr ⟨(hw _ (List.mem_of_getElem? (i := 101) rfl)), rfl, hnm⟩) (hw _ (List.mem_of_getElem? (i := 17) rfl)) (ty := .long) (by decide) rfl rfl (g := (mkF m 36 #[.val (.ref a), .val (.long q1), .second, .val (.long q2), .second, .val (.long q3), .second] [(.long q3), (.ref a)])) rfl rfl (hb hby d43_36)
  have F9_burst := ((((((G_burst.keep J2 nin0).keep J3 nin0).keep J4 nin0).keep J5 nin0).other W7 (Or.inr (slot_ne (Or.inr (hw _ (List.mem_of_getElem? (i := 101) rfl))) (Or.inr (hw _ (List.mem_of_getElem? (i := 97) rfl))) (by decide) (t := .long) (t' := .long) (by decide) (by decide)))).other W8 (Or.inr (slot_ne (Or.inr (hw _ (List.mem_of_getElem? (i := 101) rfl))) (Or.inr (hw _ (List.mem_of_getElem? (i := 99) rfl))) (by decide) (t := .long) (t' := .long) (by decide) (by decide)))).same W9
  have N9 := Fr.snoc X9 N8 g_a
  have K9 : Keep h0 h9 [a] := K8.wr W9 (Or.inl (List.mem_of_getElem? (i := 0) rfl))
  have O9 := O8.wr W9 g_a
  refine OGo.st (B := T9.setTop (mkF m 39 #[.val (.ref a), .val (.long q1), .second, .val (.long q2), .second, .val (.long q3), .second] [])) st9 ?_
  exact own_ret0 X9 hx hret hlk (hb hby d43_39) (by rw [e9]; exact ⟨rfl, N9, K9, (((((((E_a.keep J2).keep J3).keep J4).keep J5).wr W7).wr W8).wr W9), ((F7_rate.other W8 (Or.inr (slot_ne (Or.inr (hw _ (List.mem_of_getElem? (i := 97) rfl))) (Or.inr (hw _ (List.mem_of_getElem? (i := 99) rfl))) (by decide) (t := .long) (t' := .long) (by decide) (by decide)))).other W9 (Or.inr (slot_ne (Or.inr (hw _ (List.mem_of_getElem? (i := 97) rfl))) (Or.inr (hw _ (List.mem_of_getElem? (i := 101) rfl))) (by decide) (t := .long) (t' := .long) (by decide) (by decide)))), (F8_periodMs.other W9 (Or.inr (slot_ne (Or.inr (hw _ (List.mem_of_getElem? (i := 99) rfl))) (Or.inr (hw _ (List.mem_of_getElem? (i := 101) rfl))) (by decide) (t := .long) (t' := .long) (by decide) (by decide)))), F9_burst⟩) (by decide) (by decide)
theorem own_pos (x : Int64) : 0 ≤ (x &&& (9223372036854775807 : Int64)).toInt := by
  have := c_maskL x (9223372036854775807 : Int64) 63 (by decide) (by decide)
  have := rng64 x
  omega
theorem own_rate (x r : Int64) (hr : (if (1 : Int64) < (x &&& (9223372036854775807 : Int64)) then (x &&& (9223372036854775807 : Int64)) else (1 : Int64)) = r) : ¬ r < (1 : Int64) := by
  rw [← hr]
  split
  · rename_i h
    rw [Int64.lt_iff_toInt_lt] at *
    omega
  · decide
theorem own_per (x r : Int64) (hr : (1 : Int64) + ((x &&& (9223372036854775807 : Int64)) - ((x &&& (9223372036854775807 : Int64)) / (9007199254740992 : Int64)) * (9007199254740992 : Int64)) = r) : ¬ r < (1 : Int64) ∧ ¬ (9007199254740992 : Int64) < r := by
  have p := own_pos x
  have q := (c_lrem (x &&& (9223372036854775807 : Int64)) (9007199254740992 : Int64) 9007199254740992 rfl).1 p
  have k := c_ladd 1 ((x &&& (9223372036854775807 : Int64)) - ((x &&& (9223372036854775807 : Int64)) / (9007199254740992 : Int64)) * (9007199254740992 : Int64))
  rw [hr] at k
  have e1 : (1 : Int64).toInt = 1 := rfl
  have e2 : (9007199254740992 : Int64).toInt = 9007199254740992 := rfl
  have := rng64 r
  rw [Int64.lt_iff_toInt_lt, Int64.lt_iff_toInt_lt]
  omega
theorem own_cap (p : Int64) (h1 : ¬ p < (1 : Int64)) (h2 : ¬ (9007199254740992 : Int64) < p) : (1 : Int) ≤ ((9007199254740992 : Int64) / p).toInt ∧ ((9007199254740992 : Int64) / p).toInt ≤ 9007199254740992 := by
  have e1 : (1 : Int64).toInt = 1 := rfl
  have e2 : (9007199254740992 : Int64).toInt = 9007199254740992 := rfl
  rw [Int64.lt_iff_toInt_lt] at h1 h2
  have q := (c_ldiv (9007199254740992 : Int64) p p.toInt rfl (fun z => by rw [z] at h1; exact h1 (by decide))).1 (by rw [e2]; decide)
  rw [q, e2]
  rw [e1] at h1
  rw [e2] at h2
  have hp : 0 < p.toInt := by omega
  refine ⟨?_, ?_⟩
  · rw [Int.le_ediv_iff_mul_le hp]; omega
  · exact Int.ediv_le_self _ (by decide)
theorem own_bur (x p r : Int64) (h1 : ¬ p < (1 : Int64)) (h2 : ¬ (9007199254740992 : Int64) < p) (hr : (1 : Int64) + ((x &&& (9223372036854775807 : Int64)) - ((x &&& (9223372036854775807 : Int64)) / ((9007199254740992 : Int64) / p)) * ((9007199254740992 : Int64) / p)) = r) : ¬ r < (1 : Int64) ∧ ¬ (9007199254740992 : Int64) / p < r := by
  have c := own_cap p h1 h2
  have a := own_pos x
  have q := (c_lrem (x &&& (9223372036854775807 : Int64)) ((9007199254740992 : Int64) / p) ((9007199254740992 : Int64) / p).toInt rfl).1 a
  have k := c_ladd 1 ((x &&& (9223372036854775807 : Int64)) - ((x &&& (9223372036854775807 : Int64)) / ((9007199254740992 : Int64) / p)) * ((9007199254740992 : Int64) / p))
  rw [hr] at k
  have e1 : (1 : Int64).toInt = 1 := rfl
  have m1 := Int.emod_nonneg (x &&& (9223372036854775807 : Int64)).toInt (b := ((9007199254740992 : Int64) / p).toInt) (by omega)
  have m2 := Int.emod_lt_of_pos (x &&& (9223372036854775807 : Int64)).toInt (b := ((9007199254740992 : Int64) / p).toInt) (by omega)
  have := rng64 r
  rw [Int64.lt_iff_toInt_lt, Int64.lt_iff_toInt_lt]
  omega
theorem pd_1 : parseMethodDescriptor "(JJ)J" = some ⟨[.long, .long], some .long⟩ := by decide +kernel
theorem d2_0 : decode method_2_code 0 = .ok (.lconst 1, 1) := by decide +kernel
theorem d2_1 : decode method_2_code 1 = .ok (.lload_n 0, 1) := by decide +kernel
theorem d2_2 : decode method_2_code 2 = .ok (.ldc2_w 9, 3) := by decide +kernel
theorem d2_5 : decode method_2_code 5 = .ok (.land, 1) := by decide +kernel
theorem d2_6 : decode method_2_code 6 = .ok (.invokestatic 11, 3) := by decide +kernel
theorem d2_9 : decode method_2_code 9 = .ok (.lreturn, 1) := by decide +kernel
theorem pn_com_example_narrow_gate_narrowgate_LimitEqualsPinLaw : plainName "com/example/narrow_gate/narrowgate/LimitEqualsPinLaw" = true := by first | (simp [plainName, overriddenIn]; done) | decide +kernel
theorem ef_rm2 (m : MethodId) (x0 : Int64) : entryFrame m #[(.long x0)] 2 = mkF m 0 #[.val (.long x0), .second] [] := by first | (simp [entryFrame, mkF, argsToLocals, Value.category]; done) | rfl
set_option maxRecDepth 65536 in
set_option maxHeartbeats 40000000 in
theorem rm2 (l : Launch) (Z : State) (a0 : Array Value) (hw : ∀ d ∈ tables_1, d.before a0 Z = true) (q : Int64) (h0 : Heap) (n0 : Nat) :
    OMet l Z (⟨"com/example/narrow_gate/narrowgate/LimitEqualsPinLaw", "rateOf", "(J)J"⟩ : MethodName) method_2_code 2 (some .long) [] ({ frames := 1, cells := 0, slots := 0, locals := 15 } : Room) #[(.long q)] h0 (fun v h L => ∃ r, v = some (.long r) ∧ Fr n0 L ∧ h = h0 ∧ ¬ r < (1 : Int64)) := by
  refine OMet.of (plainFor_of_name pn_com_example_narrow_gate_narrowgate_LimitEqualsPinLaw) ?_
  intro p e s m below meth c s₁ hx hby hml hnd hown hnm hret hlk hZ X0 e0
  replace hown : s.vm.findClass "com/example/narrow_gate/narrowgate/LimitEqualsPinLaw" = some m.cls := hown
  replace hml : c.maxLocals = 2 := hml
  have N0 := Fr.nil n0
  rw [ef_rm2 m q]
  refine OGo.st (B := s₁.setTop (mkF m 1 #[.val (.long q), .second] [(.long (1 : Int64))])) (fun _ kz => XS.lconst X0.here hx rfl (hb hby d2_0) kz) ?_
  refine OGo.st (B := s₁.setTop (mkF m 2 #[.val (.long q), .second] [(.long q), (.long (1 : Int64))])) (fun _ kz => XS.lloadN X0.here hx rfl (hb hby d2_1) rfl kz) ?_
  refine OGo.st (B := s₁.setTop (mkF m 5 #[.val (.long q), .second] [(.long (9223372036854775807 : Int64)), (.long q), (.long (1 : Int64))])) (X0.ldc2Long hx hown (mvT hZ (hw _ (List.mem_of_getElem? (i := 4) rfl))) (g := (mkF m 2 #[.val (.long q), .second] [(.long q), (.long (1 : Int64))])) rfl (hb hby d2_2)) ?_
  refine OGo.st (B := s₁.setTop (mkF m 6 #[.val (.long q), .second] [(.long (q &&& (9223372036854775807 : Int64))), (.long (1 : Int64))])) (fun _ kz => XS.land X0.here hx rfl (hb hby d2_5) rfl kz) ?_
  obtain ⟨r, hr⟩ : ∃ r, (if (1 : Int64) < (q &&& (9223372036854775807 : Int64)) then (q &&& (9223372036854775807 : Int64)) else (1 : Int64)) = r := ⟨_, rfl⟩
  obtain ⟨v1, T1, L1, X1, hQ1, st1⟩ := (rm1 l Z a0 hw (1 : Int64) (q &&& (9223372036854775807 : Int64)) r h0 n0 hr).static (W := 0) X0 hx hZ hown (hw _ (List.mem_of_getElem? (i := 5) rfl)) (hw _ (List.mem_of_getElem? (i := 6) rfl)) (hw _ (List.mem_of_getElem? (i := 7) rfl)) (hw _ (List.mem_of_getElem? (i := 8) rfl)) (by decide) (by decide) (by decide) e0 (by decide) (by decide) (g := (mkF m 6 #[.val (.long q), .second] [(.long (q &&& (9223372036854775807 : Int64))), (.long (1 : Int64))])) rfl (by rw [hml]; rfl) (argsL := [(.long (1 : Int64)), (.long (q &&& (9223372036854775807 : Int64)))]) (rest := []) rfl (lenOf pd_1 rfl) rfl (by show 2 * 0 + _ ≤ _; exact Nat.le_of_eq rfl) (hb hby d2_6)
  obtain ⟨rfl, N1q, e1⟩ := hQ1
  have N1 := Fr.app N0 N1q
  refine OGo.st (B := T1.setTop (mkF m 9 #[.val (.long q), .second] [(.long r)])) st1 ?_
  exact own_retJ X1 hx hret hlk (hb hby d2_9) ⟨r, rfl, N1, e1, own_rate _ _ hr⟩ (by decide) (by decide)
theorem d3_0 : decode method_3_code 0 = .ok (.lconst 1, 1) := by decide +kernel
theorem d3_1 : decode method_3_code 1 = .ok (.lload_n 0, 1) := by decide +kernel
theorem d3_2 : decode method_3_code 2 = .ok (.ldc2_w 9, 3) := by decide +kernel
theorem d3_5 : decode method_3_code 5 = .ok (.land, 1) := by decide +kernel
theorem d3_6 : decode method_3_code 6 = .ok (.ldc2_w 17, 3) := by decide +kernel
theorem d3_9 : decode method_3_code 9 = .ok (.lrem, 1) := by decide +kernel
theorem d3_10 : decode method_3_code 10 = .ok (.ladd, 1) := by decide +kernel
theorem d3_11 : decode method_3_code 11 = .ok (.lreturn, 1) := by decide +kernel
theorem ef_rm3 (m : MethodId) (x0 : Int64) : entryFrame m #[(.long x0)] 2 = mkF m 0 #[.val (.long x0), .second] [] := by first | (simp [entryFrame, mkF, argsToLocals, Value.category]; done) | rfl
set_option maxRecDepth 65536 in
set_option maxHeartbeats 40000000 in
theorem rm3 (l : Launch) (Z : State) (a0 : Array Value) (hw : ∀ d ∈ tables_1, d.before a0 Z = true) (q : Int64) (h0 : Heap) (n0 : Nat) :
    OMet l Z (⟨"com/example/narrow_gate/narrowgate/LimitEqualsPinLaw", "periodOf", "(J)J"⟩ : MethodName) method_3_code 2 (some .long) [] ({ frames := 0, cells := 0, slots := 0, locals := 0 } : Room) #[(.long q)] h0 (fun v h L => ∃ r, v = some (.long r) ∧ Fr n0 L ∧ h = h0 ∧ ¬ r < (1 : Int64) ∧ ¬ (9007199254740992 : Int64) < r) := by
  refine OMet.of (plainFor_of_name pn_com_example_narrow_gate_narrowgate_LimitEqualsPinLaw) ?_
  intro p e s m below meth c s₁ hx hby hml hnd hown hnm hret hlk hZ X0 e0
  replace hown : s.vm.findClass "com/example/narrow_gate/narrowgate/LimitEqualsPinLaw" = some m.cls := hown
  replace hml : c.maxLocals = 2 := hml
  have N0 := Fr.nil n0
  rw [ef_rm3 m q]
  refine OGo.st (B := s₁.setTop (mkF m 1 #[.val (.long q), .second] [(.long (1 : Int64))])) (fun _ kz => XS.lconst X0.here hx rfl (hb hby d3_0) kz) ?_
  refine OGo.st (B := s₁.setTop (mkF m 2 #[.val (.long q), .second] [(.long q), (.long (1 : Int64))])) (fun _ kz => XS.lloadN X0.here hx rfl (hb hby d3_1) rfl kz) ?_
  refine OGo.st (B := s₁.setTop (mkF m 5 #[.val (.long q), .second] [(.long (9223372036854775807 : Int64)), (.long q), (.long (1 : Int64))])) (X0.ldc2Long hx hown (mvT hZ (hw _ (List.mem_of_getElem? (i := 4) rfl))) (g := (mkF m 2 #[.val (.long q), .second] [(.long q), (.long (1 : Int64))])) rfl (hb hby d3_2)) ?_
  refine OGo.st (B := s₁.setTop (mkF m 6 #[.val (.long q), .second] [(.long (q &&& (9223372036854775807 : Int64))), (.long (1 : Int64))])) (fun _ kz => XS.land X0.here hx rfl (hb hby d3_5) rfl kz) ?_
  refine OGo.st (B := s₁.setTop (mkF m 9 #[.val (.long q), .second] [(.long (9007199254740992 : Int64)), (.long (q &&& (9223372036854775807 : Int64))), (.long (1 : Int64))])) (X0.ldc2Long hx hown (mvT hZ (hw _ (List.mem_of_getElem? (i := 12) rfl))) (g := (mkF m 6 #[.val (.long q), .second] [(.long (q &&& (9223372036854775807 : Int64))), (.long (1 : Int64))])) rfl (hb hby d3_6)) ?_
  refine OGo.st (B := s₁.setTop (mkF m 10 #[.val (.long q), .second] [(.long ((q &&& (9223372036854775807 : Int64)) - ((q &&& (9223372036854775807 : Int64)) / (9007199254740992 : Int64)) * (9007199254740992 : Int64))), (.long (1 : Int64))])) (fun _ kz => XS.lrem X0.here hx rfl (hb hby d3_9) rfl (by decide) kz) ?_
  refine OGo.st (B := s₁.setTop (mkF m 11 #[.val (.long q), .second] [(.long ((1 : Int64) + ((q &&& (9223372036854775807 : Int64)) - ((q &&& (9223372036854775807 : Int64)) / (9007199254740992 : Int64)) * (9007199254740992 : Int64))))])) (fun _ kz => XS.ladd X0.here hx rfl (hb hby d3_10) rfl kz) ?_
  exact own_retJ X0 hx hret hlk (hb hby d3_11) ⟨_, rfl, N0, e0, own_per _ _ rfl⟩ (by decide) (by decide)
theorem d4_0 : decode method_4_code 0 = .ok (.ldc2_w 17, 3) := by decide +kernel
theorem d4_3 : decode method_4_code 3 = .ok (.lload_n 2, 1) := by decide +kernel
theorem d4_4 : decode method_4_code 4 = .ok (.ldiv, 1) := by decide +kernel
theorem d4_5 : decode method_4_code 5 = .ok (.lstore 4, 2) := by decide +kernel
theorem d4_7 : decode method_4_code 7 = .ok (.lconst 1, 1) := by decide +kernel
theorem d4_8 : decode method_4_code 8 = .ok (.lload_n 0, 1) := by decide +kernel
theorem d4_9 : decode method_4_code 9 = .ok (.ldc2_w 9, 3) := by decide +kernel
theorem d4_12 : decode method_4_code 12 = .ok (.land, 1) := by decide +kernel
theorem d4_13 : decode method_4_code 13 = .ok (.lload 4, 2) := by decide +kernel
theorem d4_15 : decode method_4_code 15 = .ok (.lrem, 1) := by decide +kernel
theorem d4_16 : decode method_4_code 16 = .ok (.ladd, 1) := by decide +kernel
theorem d4_17 : decode method_4_code 17 = .ok (.lreturn, 1) := by decide +kernel
theorem ef_rm4 (m : MethodId) (x0 : Int64) (x1 : Int64) : entryFrame m #[(.long x0), (.long x1)] 6 = mkF m 0 #[.val (.long x0), .second, .val (.long x1), .second, .unset, .unset] [] := by first | (simp [entryFrame, mkF, argsToLocals, Value.category]; done) | rfl
set_option maxRecDepth 65536 in
set_option maxHeartbeats 40000000 in
theorem rm4 (l : Launch) (Z : State) (a0 : Array Value) (hw : ∀ d ∈ tables_1, d.before a0 Z = true) (q p1 : Int64) (h0 : Heap) (n0 : Nat) (h1 : ¬ p1 < (1 : Int64)) (h2 : ¬ (9007199254740992 : Int64) < p1) :
    OMet l Z (⟨"com/example/narrow_gate/narrowgate/LimitEqualsPinLaw", "burstOf", "(JJ)J"⟩ : MethodName) method_4_code 6 (some .long) [] ({ frames := 0, cells := 0, slots := 0, locals := 0 } : Room) #[(.long q), (.long p1)] h0 (fun v h L => ∃ r, v = some (.long r) ∧ Fr n0 L ∧ h = h0 ∧ ¬ r < (1 : Int64) ∧ ¬ (9007199254740992 : Int64) / p1 < r) := by
  refine OMet.of (plainFor_of_name pn_com_example_narrow_gate_narrowgate_LimitEqualsPinLaw) ?_
  intro p e s m below meth c s₁ hx hby hml hnd hown hnm hret hlk hZ X0 e0
  replace hown : s.vm.findClass "com/example/narrow_gate/narrowgate/LimitEqualsPinLaw" = some m.cls := hown
  replace hml : c.maxLocals = 6 := hml
  have N0 := Fr.nil n0
  rw [ef_rm4 m q p1]
  refine OGo.st (B := s₁.setTop (mkF m 3 #[.val (.long q), .second, .val (.long p1), .second, .unset, .unset] [(.long (9007199254740992 : Int64))])) (X0.ldc2Long hx hown (mvT hZ (hw _ (List.mem_of_getElem? (i := 12) rfl))) (g := (mkF m 0 #[.val (.long q), .second, .val (.long p1), .second, .unset, .unset] [])) rfl (hb hby d4_0)) ?_
  refine OGo.st (B := s₁.setTop (mkF m 4 #[.val (.long q), .second, .val (.long p1), .second, .unset, .unset] [(.long p1), (.long (9007199254740992 : Int64))])) (fun _ kz => XS.lloadN X0.here hx rfl (hb hby d4_3) rfl kz) ?_
  have nz : p1 ≠ 0 := fun z => h1 (by rw [z]; decide)
  refine OGo.st (B := s₁.setTop (mkF m 5 #[.val (.long q), .second, .val (.long p1), .second, .unset, .unset] [(.long ((9007199254740992 : Int64) / p1))])) (fun _ kz => XS.ldiv X0.here hx rfl (hb hby d4_4) rfl nz kz) ?_
  refine OGo.st (B := s₁.setTop (mkF m 7 #[.val (.long q), .second, .val (.long p1), .second, .val (.long ((9007199254740992 : Int64) / p1)), .second] [])) (fun _ kz => XS.lstore X0.here hx rfl (hb hby d4_5) rfl (l' := #[.val (.long q), .second, .val (.long p1), .second, .val (.long ((9007199254740992 : Int64) / p1)), .second]) rfl kz) ?_
  refine OGo.st (B := s₁.setTop (mkF m 8 #[.val (.long q), .second, .val (.long p1), .second, .val (.long ((9007199254740992 : Int64) / p1)), .second] [(.long (1 : Int64))])) (fun _ kz => XS.lconst X0.here hx rfl (hb hby d4_7) kz) ?_
  refine OGo.st (B := s₁.setTop (mkF m 9 #[.val (.long q), .second, .val (.long p1), .second, .val (.long ((9007199254740992 : Int64) / p1)), .second] [(.long q), (.long (1 : Int64))])) (fun _ kz => XS.lloadN X0.here hx rfl (hb hby d4_8) rfl kz) ?_
  refine OGo.st (B := s₁.setTop (mkF m 12 #[.val (.long q), .second, .val (.long p1), .second, .val (.long ((9007199254740992 : Int64) / p1)), .second] [(.long (9223372036854775807 : Int64)), (.long q), (.long (1 : Int64))])) (X0.ldc2Long hx hown (mvT hZ (hw _ (List.mem_of_getElem? (i := 4) rfl))) (g := (mkF m 9 #[.val (.long q), .second, .val (.long p1), .second, .val (.long ((9007199254740992 : Int64) / p1)), .second] [(.long q), (.long (1 : Int64))])) rfl (hb hby d4_9)) ?_
  refine OGo.st (B := s₁.setTop (mkF m 13 #[.val (.long q), .second, .val (.long p1), .second, .val (.long ((9007199254740992 : Int64) / p1)), .second] [(.long (q &&& (9223372036854775807 : Int64))), (.long (1 : Int64))])) (fun _ kz => XS.land X0.here hx rfl (hb hby d4_12) rfl kz) ?_
  refine OGo.st (B := s₁.setTop (mkF m 15 #[.val (.long q), .second, .val (.long p1), .second, .val (.long ((9007199254740992 : Int64) / p1)), .second] [(.long ((9007199254740992 : Int64) / p1)), (.long (q &&& (9223372036854775807 : Int64))), (.long (1 : Int64))])) (fun _ kz => XS.lload X0.here hx rfl (hb hby d4_13) rfl kz) ?_
  have nc : (9007199254740992 : Int64) / p1 ≠ 0 := fun z => by
    have c := own_cap p1 h1 h2
    rw [z] at c
    have e0 : (0 : Int64).toInt = 0 := rfl
    omega
  refine OGo.st (B := s₁.setTop (mkF m 16 #[.val (.long q), .second, .val (.long p1), .second, .val (.long ((9007199254740992 : Int64) / p1)), .second] [(.long ((q &&& (9223372036854775807 : Int64)) - ((q &&& (9223372036854775807 : Int64)) / ((9007199254740992 : Int64) / p1)) * ((9007199254740992 : Int64) / p1))), (.long (1 : Int64))])) (fun _ kz => XS.lrem X0.here hx rfl (hb hby d4_15) rfl nc kz) ?_
  refine OGo.st (B := s₁.setTop (mkF m 17 #[.val (.long q), .second, .val (.long p1), .second, .val (.long ((9007199254740992 : Int64) / p1)), .second] [(.long ((1 : Int64) + ((q &&& (9223372036854775807 : Int64)) - ((q &&& (9223372036854775807 : Int64)) / ((9007199254740992 : Int64) / p1)) * ((9007199254740992 : Int64) / p1))))])) (fun _ kz => XS.ladd X0.here hx rfl (hb hby d4_16) rfl kz) ?_
  exact own_retJ X0 hx hret hlk (hb hby d4_17) ⟨_, rfl, N0, e0, own_bur _ _ _ h1 h2 rfl⟩ (by decide) (by decide)
theorem d50_0 : decode prog_18_method_7_code 0 = .ok (.aload_n 1, 1) := by decide +kernel
theorem d50_1 : decode prog_18_method_7_code 1 = .ok (.instanceof 14, 3) := by decide +kernel
theorem d50_4 : decode prog_18_method_7_code 4 = .ok (.ifCond .eq 48, 3) := by decide +kernel
theorem d50_52 : decode prog_18_method_7_code 52 = .ok (.iconst 0, 1) := by decide +kernel
theorem d50_53 : decode prog_18_method_7_code 53 = .ok (.ireturn, 1) := by decide +kernel
theorem ef_rm50n (m : MethodId) (x0 : Addr) : entryFrame m #[(.ref x0), .null] 3 = mkF m 0 #[.val (.ref x0), .val .null, .unset] [] := by first | (simp [entryFrame, mkF, argsToLocals, Value.category]; done) | rfl
set_option maxRecDepth 65536 in
set_option maxHeartbeats 40000000 in
theorem rm50n (l : Launch) (Z : State) (a0 : Array Value) (hw : ∀ d ∈ tables_1, d.before a0 Z = true) (a : Addr) (h0 : Heap) (n0 : Nat) :
    OMet l Z (⟨"com/example/narrow_gate/narrowgate/Limit", "equals", "(Ljava/lang/Object;)Z"⟩ : MethodName) prog_18_method_7_code 3 (some .boolean) [] ({ frames := 0, cells := 0, slots := 0, locals := 0 } : Room) #[(.ref a), .null] h0 (OPure (some (.int (0 : Int32))) h0 n0) := by
  refine OMet.of (plainFor_of_name pn_com_example_narrow_gate_narrowgate_Limit) ?_
  intro p e s m below meth c s₁ hx hby hml hnd hown hnm hret hlk hZ X0 e0
  replace hown : s.vm.findClass "com/example/narrow_gate/narrowgate/Limit" = some m.cls := hown
  replace hml : c.maxLocals = 3 := hml
  have N0 := Fr.nil n0
  rw [ef_rm50n m a]
  refine OGo.st (B := s₁.setTop (mkF m 1 #[.val (.ref a), .val .null, .unset] [.null])) (fun _ kz => XS.aloadN X0.here hx rfl (hb hby d50_0) rfl rfl kz) ?_
  refine OGo.st (B := s₁.setTop (mkF m 4 #[.val (.ref a), .val .null, .unset] [(.int (0 : Int32))])) (X0.instanceofNull hx (g := (mkF m 1 #[.val (.ref a), .val .null, .unset] [.null])) rfl rfl (hb hby d50_1)) ?_
  refine OGo.st (B := s₁.setTop (mkF m 52 #[.val (.ref a), .val .null, .unset] [])) (fun _ kz => XS.ifYes X0.here hx rfl (pc0 := 4) (pc' := 52) rfl (hb hby d50_4) rfl (by decide) (by decide) (by decide) kz) ?_
  refine OGo.st (B := s₁.setTop (mkF m 53 #[.val (.ref a), .val .null, .unset] [(.int (0 : Int32))])) (fun _ kz => XS.iconst X0.here hx rfl (hb hby d50_52) kz) ?_
  exact own_retZ X0 hx hret hlk (hb hby d50_53) ⟨rfl, N0, e0⟩ (by decide) (by decide)
theorem ef_rm50l (m : MethodId) (x0 : Addr) (x1 : Addr) : entryFrame m #[(.ref x0), (.ref x1)] 3 = mkF m 0 #[.val (.ref x0), .val (.ref x1), .unset] [] := by first | (simp [entryFrame, mkF, argsToLocals, Value.category]; done) | rfl
set_option maxRecDepth 65536 in
set_option maxHeartbeats 40000000 in
theorem rm50l (l : Launch) (Z : State) (a0 : Array Value) (hw : ∀ d ∈ tables_1, d.before a0 Z = true) (a b : Addr) (h0 : Heap) (n0 : Nat) (E : Exa Z h0 b "java/lang/Long") :
    OMet l Z (⟨"com/example/narrow_gate/narrowgate/Limit", "equals", "(Ljava/lang/Object;)Z"⟩ : MethodName) prog_18_method_7_code 3 (some .boolean) [] ({ frames := 0, cells := 0, slots := 0, locals := 0 } : Room) #[(.ref a), (.ref b)] h0 (OPure (some (.int (0 : Int32))) h0 n0) := by
  refine OMet.of (plainFor_of_name pn_com_example_narrow_gate_narrowgate_Limit) ?_
  intro p e s m below meth c s₁ hx hby hml hnd hown hnm hret hlk hZ X0 e0
  replace hown : s.vm.findClass "com/example/narrow_gate/narrowgate/Limit" = some m.cls := hown
  replace hml : c.maxLocals = 3 := hml
  have N0 := Fr.nil n0
  rw [ef_rm50l m a b]
  refine OGo.st (B := s₁.setTop (mkF m 1 #[.val (.ref a), .val (.ref b), .unset] [(.ref b)])) (fun _ kz => XS.aloadN X0.here hx rfl (hb hby d50_0) rfl rfl kz) ?_
  obtain ⟨T1, X1, e1, st1⟩ := instNo X0 hx hZ hown (hw _ (List.mem_of_getElem? (i := 107) rfl)) e0 E (own_ns_no (hw _ (List.mem_of_getElem? (i := 110) rfl)) (hw _ (List.mem_of_getElem? (i := 17) rfl)) (NS.step (hw _ (List.mem_of_getElem? (i := 110) rfl)) (NS.step (hw _ (List.mem_of_getElem? (i := 111) rfl)) (own_ns_root (hw _ (List.mem_of_getElem? (i := 112) rfl)) (hw _ (List.mem_of_getElem? (i := 17) rfl)) (by decide)) (by decide)) (by decide)) (by decide)) (g := (mkF m 1 #[.val (.ref a), .val (.ref b), .unset] [(.ref b)])) rfl rfl (hb hby d50_1)
  refine OGo.st (B := T1.setTop (mkF m 4 #[.val (.ref a), .val (.ref b), .unset] [(.int (0 : Int32))])) st1 ?_
  refine OGo.st (B := T1.setTop (mkF m 52 #[.val (.ref a), .val (.ref b), .unset] [])) (fun _ kz => XS.ifYes X1.here hx rfl (pc0 := 4) (pc' := 52) rfl (hb hby d50_4) rfl (by decide) (by decide) (by decide) kz) ?_
  refine OGo.st (B := T1.setTop (mkF m 53 #[.val (.ref a), .val (.ref b), .unset] [(.int (0 : Int32))])) (fun _ kz => XS.iconst X1.here hx rfl (hb hby d50_52) kz) ?_
  exact own_retZ X1 hx hret hlk (hb hby d50_53) ⟨rfl, N0, e1⟩ (by decide) (by decide)
theorem d50_7 : decode prog_18_method_7_code 7 = .ok (.aload_n 1, 1) := by decide +kernel
theorem d50_8 : decode prog_18_method_7_code 8 = .ok (.checkcast 14, 3) := by decide +kernel
theorem d50_11 : decode prog_18_method_7_code 11 = .ok (.astore_n 2, 1) := by decide +kernel
theorem d50_12 : decode prog_18_method_7_code 12 = .ok (.aload_n 2, 1) := by decide +kernel
theorem d50_13 : decode prog_18_method_7_code 13 = .ok (.getfield 25, 3) := by decide +kernel
theorem d50_16 : decode prog_18_method_7_code 16 = .ok (.aload_n 0, 1) := by decide +kernel
theorem d50_17 : decode prog_18_method_7_code 17 = .ok (.getfield 25, 3) := by decide +kernel
theorem d50_20 : decode prog_18_method_7_code 20 = .ok (.lcmp, 1) := by decide +kernel
theorem d50_21 : decode prog_18_method_7_code 21 = .ok (.ifCond .ne 31, 3) := by decide +kernel
theorem d50_24 : decode prog_18_method_7_code 24 = .ok (.aload_n 2, 1) := by decide +kernel
theorem d50_25 : decode prog_18_method_7_code 25 = .ok (.getfield 29, 3) := by decide +kernel
theorem d50_28 : decode prog_18_method_7_code 28 = .ok (.aload_n 0, 1) := by decide +kernel
theorem d50_29 : decode prog_18_method_7_code 29 = .ok (.getfield 29, 3) := by decide +kernel
theorem d50_32 : decode prog_18_method_7_code 32 = .ok (.lcmp, 1) := by decide +kernel
theorem d50_33 : decode prog_18_method_7_code 33 = .ok (.ifCond .ne 19, 3) := by decide +kernel
theorem d50_36 : decode prog_18_method_7_code 36 = .ok (.aload_n 2, 1) := by decide +kernel
theorem d50_37 : decode prog_18_method_7_code 37 = .ok (.getfield 32, 3) := by decide +kernel
theorem d50_40 : decode prog_18_method_7_code 40 = .ok (.aload_n 0, 1) := by decide +kernel
theorem d50_41 : decode prog_18_method_7_code 41 = .ok (.getfield 32, 3) := by decide +kernel
theorem d50_44 : decode prog_18_method_7_code 44 = .ok (.lcmp, 1) := by decide +kernel
theorem d50_45 : decode prog_18_method_7_code 45 = .ok (.ifCond .ne 7, 3) := by decide +kernel
theorem d50_48 : decode prog_18_method_7_code 48 = .ok (.iconst 1, 1) := by decide +kernel
theorem d50_49 : decode prog_18_method_7_code 49 = .ok (.goto 4, 3) := by decide +kernel
theorem ef_rm50y (m : MethodId) (x0 : Addr) (x1 : Addr) : entryFrame m #[(.ref x0), (.ref x1)] 3 = mkF m 0 #[.val (.ref x0), .val (.ref x1), .unset] [] := by first | (simp [entryFrame, mkF, argsToLocals, Value.category]; done) | rfl
set_option maxRecDepth 65536 in
set_option maxHeartbeats 40000000 in
theorem rm50y (l : Launch) (Z : State) (a0 : Array Value) (hw : ∀ d ∈ tables_1, d.before a0 Z = true) (a b : Addr) (f0 f1 f2 g0 g1 g2 : Int64) (r : Int32) (h0 : Heap) (n0 : Nat) (E : Exa Z h0 b "com/example/narrow_gate/narrowgate/Limit") (Frate : Fld Z h0 a "com/example/narrow_gate/narrowgate/Limit" "rate" "J" (.long f0)) (FperiodMs : Fld Z h0 a "com/example/narrow_gate/narrowgate/Limit" "periodMs" "J" (.long f1)) (Fburst : Fld Z h0 a "com/example/narrow_gate/narrowgate/Limit" "burst" "J" (.long f2)) (Grate : Fld Z h0 b "com/example/narrow_gate/narrowgate/Limit" "rate" "J" (.long g0)) (GperiodMs : Fld Z h0 b "com/example/narrow_gate/narrowgate/Limit" "periodMs" "J" (.long g1)) (Gburst : Fld Z h0 b "com/example/narrow_gate/narrowgate/Limit" "burst" "J" (.long g2)) (hr : (if g0 = f0 ∧ g1 = f1 ∧ g2 = f2 then (1 : Int32) else 0) = r) :
    OMet l Z (⟨"com/example/narrow_gate/narrowgate/Limit", "equals", "(Ljava/lang/Object;)Z"⟩ : MethodName) prog_18_method_7_code 3 (some .boolean) [] ({ frames := 0, cells := 0, slots := 0, locals := 0 } : Room) #[(.ref a), (.ref b)] h0 (OPure (some (.int r)) h0 n0) := by
  refine OMet.of (plainFor_of_name pn_com_example_narrow_gate_narrowgate_Limit) ?_
  intro p e s m below meth c s₁ hx hby hml hnd hown hnm hret hlk hZ X0 e0
  replace hown : s.vm.findClass "com/example/narrow_gate/narrowgate/Limit" = some m.cls := hown
  replace hml : c.maxLocals = 3 := hml
  have N0 := Fr.nil n0
  rw [ef_rm50y m a b]
  refine OGo.st (B := s₁.setTop (mkF m 1 #[.val (.ref a), .val (.ref b), .unset] [(.ref b)])) (fun _ kz => XS.aloadN X0.here hx rfl (hb hby d50_0) rfl rfl kz) ?_
  obtain ⟨T1, X1, e1, st1⟩ := instY X0 hx hZ hown (hw _ (List.mem_of_getElem? (i := 107) rfl)) e0 (Ins.self E) (g := (mkF m 1 #[.val (.ref a), .val (.ref b), .unset] [(.ref b)])) rfl rfl (hb hby d50_1)
  refine OGo.st (B := T1.setTop (mkF m 4 #[.val (.ref a), .val (.ref b), .unset] [(.int (1 : Int32))])) st1 ?_
  refine OGo.st (B := T1.setTop (mkF m 7 #[.val (.ref a), .val (.ref b), .unset] [])) (fun _ kz => XS.ifNo X1.here hx rfl (hb hby d50_4) rfl (by decide) kz) ?_
  refine OGo.st (B := T1.setTop (mkF m 8 #[.val (.ref a), .val (.ref b), .unset] [(.ref b)])) (fun _ kz => XS.aloadN X1.here hx rfl (hb hby d50_7) rfl rfl kz) ?_
  obtain ⟨T2, X2, e2, st2⟩ := castY X1 hx hZ hown (hw _ (List.mem_of_getElem? (i := 107) rfl)) e1 (Ins.self E) (g := (mkF m 8 #[.val (.ref a), .val (.ref b), .unset] [(.ref b)])) rfl rfl (hb hby d50_8)
  refine OGo.st (B := T2.setTop (mkF m 11 #[.val (.ref a), .val (.ref b), .unset] [(.ref b)])) st2 ?_
  refine OGo.st (B := T2.setTop (mkF m 12 #[.val (.ref a), .val (.ref b), .val (.ref b)] [])) (fun _ kz => XS.astoreN X2.here hx rfl (hb hby d50_11) rfl rfl (l' := #[.val (.ref a), .val (.ref b), .val (.ref b)]) rfl kz) ?_
  refine OGo.st (B := T2.setTop (mkF m 13 #[.val (.ref a), .val (.ref b), .val (.ref b)] [(.ref b)])) (fun _ kz => XS.aloadN X2.here hx rfl (hb hby d50_12) rfl rfl kz) ?_
  obtain ⟨T3, X3, e3, st3⟩ := getF X2 hx hZ hown (host := "") (Or.inl (hw _ (List.mem_of_getElem? (i := 96) rfl))) Via.refl e2 Grate (g := (mkF m 13 #[.val (.ref a), .val (.ref b), .val (.ref b)] [(.ref b)])) rfl rfl (hb hby d50_13)
  refine OGo.st (B := T3.setTop (mkF m 16 #[.val (.ref a), .val (.ref b), .val (.ref b)] [(.long g0)])) st3 ?_
  refine OGo.st (B := T3.setTop (mkF m 17 #[.val (.ref a), .val (.ref b), .val (.ref b)] [(.ref a), (.long g0)])) (fun _ kz => XS.aloadN X3.here hx rfl (hb hby d50_16) rfl rfl kz) ?_
  obtain ⟨T4, X4, e4, st4⟩ := getF X3 hx hZ hown (host := "") (Or.inl (hw _ (List.mem_of_getElem? (i := 96) rfl))) Via.refl e3 Frate (g := (mkF m 17 #[.val (.ref a), .val (.ref b), .val (.ref b)] [(.ref a), (.long g0)])) rfl rfl (hb hby d50_17)
  refine OGo.st (B := T4.setTop (mkF m 20 #[.val (.ref a), .val (.ref b), .val (.ref b)] [(.long f0), (.long g0)])) st4 ?_
  refine OGo.st (B := T4.setTop (mkF m 21 #[.val (.ref a), .val (.ref b), .val (.ref b)] [(.int (lcmpW g0 f0))])) (fun _ kz => XS.lcmp X4.here hx rfl (hb hby d50_20) rfl kz) ?_
  by_cases h0 : g0 = f0
  · skip
    refine OGo.st (B := T4.setTop (mkF m 24 #[.val (.ref a), .val (.ref b), .val (.ref b)] [])) (fun _ kz => XS.ifNo X4.here hx rfl (hb hby d50_21) rfl ((if0 _ _).trans (teq ((lw_eq _ _).mpr h0)).2) kz) ?_
    refine OGo.st (B := T4.setTop (mkF m 25 #[.val (.ref a), .val (.ref b), .val (.ref b)] [(.ref b)])) (fun _ kz => XS.aloadN X4.here hx rfl (hb hby d50_24) rfl rfl kz) ?_
    obtain ⟨T5, X5, e5, st5⟩ := getF X4 hx hZ hown (host := "") (Or.inl (hw _ (List.mem_of_getElem? (i := 98) rfl))) Via.refl e4 GperiodMs (g := (mkF m 25 #[.val (.ref a), .val (.ref b), .val (.ref b)] [(.ref b)])) rfl rfl (hb hby d50_25)
    refine OGo.st (B := T5.setTop (mkF m 28 #[.val (.ref a), .val (.ref b), .val (.ref b)] [(.long g1)])) st5 ?_
    refine OGo.st (B := T5.setTop (mkF m 29 #[.val (.ref a), .val (.ref b), .val (.ref b)] [(.ref a), (.long g1)])) (fun _ kz => XS.aloadN X5.here hx rfl (hb hby d50_28) rfl rfl kz) ?_
    obtain ⟨T6, X6, e6, st6⟩ := getF X5 hx hZ hown (host := "") (Or.inl (hw _ (List.mem_of_getElem? (i := 98) rfl))) Via.refl e5 FperiodMs (g := (mkF m 29 #[.val (.ref a), .val (.ref b), .val (.ref b)] [(.ref a), (.long g1)])) rfl rfl (hb hby d50_29)
    refine OGo.st (B := T6.setTop (mkF m 32 #[.val (.ref a), .val (.ref b), .val (.ref b)] [(.long f1), (.long g1)])) st6 ?_
    refine OGo.st (B := T6.setTop (mkF m 33 #[.val (.ref a), .val (.ref b), .val (.ref b)] [(.int (lcmpW g1 f1))])) (fun _ kz => XS.lcmp X6.here hx rfl (hb hby d50_32) rfl kz) ?_
    by_cases h1 : g1 = f1
    · skip
      refine OGo.st (B := T6.setTop (mkF m 36 #[.val (.ref a), .val (.ref b), .val (.ref b)] [])) (fun _ kz => XS.ifNo X6.here hx rfl (hb hby d50_33) rfl ((if0 _ _).trans (teq ((lw_eq _ _).mpr h1)).2) kz) ?_
      refine OGo.st (B := T6.setTop (mkF m 37 #[.val (.ref a), .val (.ref b), .val (.ref b)] [(.ref b)])) (fun _ kz => XS.aloadN X6.here hx rfl (hb hby d50_36) rfl rfl kz) ?_
      obtain ⟨T7, X7, e7, st7⟩ := getF X6 hx hZ hown (host := "") (Or.inl (hw _ (List.mem_of_getElem? (i := 100) rfl))) Via.refl e6 Gburst (g := (mkF m 37 #[.val (.ref a), .val (.ref b), .val (.ref b)] [(.ref b)])) rfl rfl (hb hby d50_37)
      refine OGo.st (B := T7.setTop (mkF m 40 #[.val (.ref a), .val (.ref b), .val (.ref b)] [(.long g2)])) st7 ?_
      refine OGo.st (B := T7.setTop (mkF m 41 #[.val (.ref a), .val (.ref b), .val (.ref b)] [(.ref a), (.long g2)])) (fun _ kz => XS.aloadN X7.here hx rfl (hb hby d50_40) rfl rfl kz) ?_
      obtain ⟨T8, X8, e8, st8⟩ := getF X7 hx hZ hown (host := "") (Or.inl (hw _ (List.mem_of_getElem? (i := 100) rfl))) Via.refl e7 Fburst (g := (mkF m 41 #[.val (.ref a), .val (.ref b), .val (.ref b)] [(.ref a), (.long g2)])) rfl rfl (hb hby d50_41)
      refine OGo.st (B := T8.setTop (mkF m 44 #[.val (.ref a), .val (.ref b), .val (.ref b)] [(.long f2), (.long g2)])) st8 ?_
      refine OGo.st (B := T8.setTop (mkF m 45 #[.val (.ref a), .val (.ref b), .val (.ref b)] [(.int (lcmpW g2 f2))])) (fun _ kz => XS.lcmp X8.here hx rfl (hb hby d50_44) rfl kz) ?_
      by_cases h2 : g2 = f2
      · skip
        refine OGo.st (B := T8.setTop (mkF m 48 #[.val (.ref a), .val (.ref b), .val (.ref b)] [])) (fun _ kz => XS.ifNo X8.here hx rfl (hb hby d50_45) rfl ((if0 _ _).trans (teq ((lw_eq _ _).mpr h2)).2) kz) ?_
        refine OGo.st (B := T8.setTop (mkF m 49 #[.val (.ref a), .val (.ref b), .val (.ref b)] [(.int (1 : Int32))])) (fun _ kz => XS.iconst X8.here hx rfl (hb hby d50_48) kz) ?_
        refine OGo.st (B := T8.setTop (mkF m 53 #[.val (.ref a), .val (.ref b), .val (.ref b)] [(.int (1 : Int32))])) (fun _ kz => XS.goto X8.here hx rfl (pc0 := 49) (pc' := 53) rfl (hb hby d50_49) (by decide) (by decide) kz) ?_
        exact own_retZ X8 hx hret hlk (hb hby d50_53) ⟨by rw [← hr]; simp [h0, h1, h2, nar], N0, e8⟩ (by decide) (by decide)
      · skip
        refine OGo.st (B := T8.setTop (mkF m 52 #[.val (.ref a), .val (.ref b), .val (.ref b)] [])) (fun _ kz => XS.ifYes X8.here hx rfl (pc0 := 45) (pc' := 52) rfl (hb hby d50_45) rfl ((if0 _ _).trans (feq (mt (lw_eq _ _).mp h2)).2) (by decide) (by decide) kz) ?_
        refine OGo.st (B := T8.setTop (mkF m 53 #[.val (.ref a), .val (.ref b), .val (.ref b)] [(.int (0 : Int32))])) (fun _ kz => XS.iconst X8.here hx rfl (hb hby d50_52) kz) ?_
        exact own_retZ X8 hx hret hlk (hb hby d50_53) ⟨by rw [← hr]; simp [h0, h1, h2, nar], N0, e8⟩ (by decide) (by decide)
    · skip
      refine OGo.st (B := T6.setTop (mkF m 52 #[.val (.ref a), .val (.ref b), .val (.ref b)] [])) (fun _ kz => XS.ifYes X6.here hx rfl (pc0 := 33) (pc' := 52) rfl (hb hby d50_33) rfl ((if0 _ _).trans (feq (mt (lw_eq _ _).mp h1)).2) (by decide) (by decide) kz) ?_
      refine OGo.st (B := T6.setTop (mkF m 53 #[.val (.ref a), .val (.ref b), .val (.ref b)] [(.int (0 : Int32))])) (fun _ kz => XS.iconst X6.here hx rfl (hb hby d50_52) kz) ?_
      exact own_retZ X6 hx hret hlk (hb hby d50_53) ⟨by rw [← hr]; simp [h0, h1, nar], N0, e6⟩ (by decide) (by decide)
  · skip
    refine OGo.st (B := T4.setTop (mkF m 52 #[.val (.ref a), .val (.ref b), .val (.ref b)] [])) (fun _ kz => XS.ifYes X4.here hx rfl (pc0 := 21) (pc' := 52) rfl (hb hby d50_21) rfl ((if0 _ _).trans (feq (mt (lw_eq _ _).mp h0)).2) (by decide) (by decide) kz) ?_
    refine OGo.st (B := T4.setTop (mkF m 53 #[.val (.ref a), .val (.ref b), .val (.ref b)] [(.int (0 : Int32))])) (fun _ kz => XS.iconst X4.here hx rfl (hb hby d50_52) kz) ?_
    exact own_retZ X4 hx hret hlk (hb hby d50_53) ⟨by rw [← hr]; simp [h0, nar], N0, e4⟩ (by decide) (by decide)
theorem pd_0 : parseMethodDescriptor "(J)J" = some ⟨[.long], some .long⟩ := by decide +kernel
theorem pd_2 : parseMethodDescriptor "(JJJ)V" = some ⟨[.long, .long, .long], none⟩ := by decide +kernel
theorem pd_10 : parseMethodDescriptor "(Ljava/lang/Object;)Z" = some ⟨[(.object "java/lang/Object")], some .boolean⟩ := by decide +kernel
theorem ef_rm0 (m : MethodId) (x0 : Int64) (x1 : Int64) (x2 : Int64) (x3 : Int64) (x4 : Int32) : entryFrame m #[(.long x0), (.long x1), (.long x2), (.long x3), (.int x4)] maxLocals = mkF m 0 #[.val (.long x0), .second, .val (.long x1), .second, .val (.long x2), .second, .val (.long x3), .second, .val (.int x4), .unset, .unset, .unset, .unset, .unset, .unset, .unset, .unset, .unset, .unset, .unset, .unset, .unset, .unset, .unset, .unset] [] := by first | (simp [entryFrame, mkF, argsToLocals, Value.category, maxLocals]; done) | rfl
set_option maxRecDepth 65536 in
set_option maxHeartbeats 40000000 in
theorem rm0 (l : Launch) (Z : State) (a0 : Array Value) (hw : ∀ d ∈ tables_1, d.before a0 Z = true) (r p1 b1 d : Int64) (sel : Int32) (h0 : Heap) (n0 : Nat) (Z0 : n0 ≤ h0.size) (O0 : Old Z n0 h0) (ca : Addr) (cc : Cell) (S_cache : Sta Z Z.heap "java/lang/Long$LongCache" "cache" "[Ljava/lang/Long;" (.ref ca)) (BX : Bxs Z ca cc "java/lang/Long" "J" 256 (fun j => .long (j - 128).toInt64)) (de : Addr) (S_dflt : Sta Z Z.heap "java/util/ArrayList" "DEFAULTCAPACITY_EMPTY_ELEMENTDATA" "[Ljava/lang/Object;" (.ref de)) :
    OMet l Z x code maxLocals ret tables_1 room_1 #[(.long r), (.long p1), (.long b1), (.long d), (.int sel)] h0 (fun v _ L => v = some (.int (1 : Int32)) ∧ Fr n0 L) := by
  refine OMet.of (plainFor_of_name pn_com_example_narrow_gate_narrowgate_LimitEqualsPinLaw) ?_
  intro p e s m below meth c s₁ hx hby hml hnd hown hnm hret hlk hZ X0 e0
  replace hown : s.vm.findClass "com/example/narrow_gate/narrowgate/LimitEqualsPinLaw" = some m.cls := hown
  replace hml : c.maxLocals = 25 := hml
  have N0 := Fr.nil n0
  replace hret : meth.sig.returnType = some .boolean := hret
  rw [ef_rm0 m r p1 b1 d sel]
  refine OGo.st (B := s₁.setTop (mkF m 1 #[.val (.long r), .second, .val (.long p1), .second, .val (.long b1), .second, .val (.long d), .second, .val (.int sel), .unset, .unset, .unset, .unset, .unset, .unset, .unset, .unset, .unset, .unset, .unset, .unset, .unset, .unset, .unset, .unset] [(.long r)])) (fun _ kz => XS.lloadN X0.here hx rfl (hb hby at_0) rfl kz) ?_
  obtain ⟨v1, T1, L1, X1, hQ1, st1⟩ := (rm2 l Z a0 hw r h0 n0).static (W := 0) X0 hx hZ hown (hw _ (List.mem_of_getElem? (i := 0) rfl)) (hw _ (List.mem_of_getElem? (i := 1) rfl)) (hw _ (List.mem_of_getElem? (i := 2) rfl)) (hw _ (List.mem_of_getElem? (i := 3) rfl)) (by decide) (by decide) (by decide) e0 (by decide) (by decide) (g := (mkF m 1 #[.val (.long r), .second, .val (.long p1), .second, .val (.long b1), .second, .val (.long d), .second, .val (.int sel), .unset, .unset, .unset, .unset, .unset, .unset, .unset, .unset, .unset, .unset, .unset, .unset, .unset, .unset, .unset, .unset] [(.long r)])) rfl (by rw [hml]; rfl) (argsL := [(.long r)]) (rest := []) rfl (lenOf pd_0 rfl) rfl (by show 2 * 0 + _ ≤ _; exact Nat.le_of_eq rfl) (hb hby at_1)
  obtain ⟨x1, rfl, N1q, e1, a1⟩ := hQ1
  have N1 := Fr.app N0 N1q
  refine OGo.st (B := T1.setTop (mkF m 4 #[.val (.long r), .second, .val (.long p1), .second, .val (.long b1), .second, .val (.long d), .second, .val (.int sel), .unset, .unset, .unset, .unset, .unset, .unset, .unset, .unset, .unset, .unset, .unset, .unset, .unset, .unset, .unset, .unset] [(.long x1)])) st1 ?_
  refine OGo.st (B := T1.setTop (mkF m 6 #[.val (.long r), .second, .val (.long p1), .second, .val (.long b1), .second, .val (.long d), .second, .val (.int sel), .val (.long x1), .second, .unset, .unset, .unset, .unset, .unset, .unset, .unset, .unset, .unset, .unset, .unset, .unset, .unset, .unset] [])) (fun _ kz => XS.lstore X1.here hx rfl (hb hby at_4) rfl (l' := #[.val (.long r), .second, .val (.long p1), .second, .val (.long b1), .second, .val (.long d), .second, .val (.int sel), .val (.long x1), .second, .unset, .unset, .unset, .unset, .unset, .unset, .unset, .unset, .unset, .unset, .unset, .unset, .unset, .unset]) rfl kz) ?_
  refine OGo.st (B := T1.setTop (mkF m 7 #[.val (.long r), .second, .val (.long p1), .second, .val (.long b1), .second, .val (.long d), .second, .val (.int sel), .val (.long x1), .second, .unset, .unset, .unset, .unset, .unset, .unset, .unset, .unset, .unset, .unset, .unset, .unset, .unset, .unset] [(.long p1)])) (fun _ kz => XS.lloadN X1.here hx rfl (hb hby at_6) rfl kz) ?_
  obtain ⟨v2, T2, L2, X2, hQ2, st2⟩ := (rm3 l Z a0 hw p1 h0 n0).static (W := 0) X1 hx hZ hown (hw _ (List.mem_of_getElem? (i := 9) rfl)) (hw _ (List.mem_of_getElem? (i := 10) rfl)) (hw _ (List.mem_of_getElem? (i := 2) rfl)) (hw _ (List.mem_of_getElem? (i := 11) rfl)) (by decide) (by decide) (by decide) e1 (by decide) (by decide) (g := (mkF m 7 #[.val (.long r), .second, .val (.long p1), .second, .val (.long b1), .second, .val (.long d), .second, .val (.int sel), .val (.long x1), .second, .unset, .unset, .unset, .unset, .unset, .unset, .unset, .unset, .unset, .unset, .unset, .unset, .unset, .unset] [(.long p1)])) rfl (by rw [hml]; rfl) (argsL := [(.long p1)]) (rest := []) rfl (lenOf pd_0 rfl) rfl (by show 2 * 0 + _ ≤ _; exact Nat.le_of_eq rfl) (hb hby at_7)
  obtain ⟨x2, rfl, N2q, e2, a2, b2⟩ := hQ2
  have N2 := Fr.app N1 N2q
  refine OGo.st (B := T2.setTop (mkF m 10 #[.val (.long r), .second, .val (.long p1), .second, .val (.long b1), .second, .val (.long d), .second, .val (.int sel), .val (.long x1), .second, .unset, .unset, .unset, .unset, .unset, .unset, .unset, .unset, .unset, .unset, .unset, .unset, .unset, .unset] [(.long x2)])) st2 ?_
  refine OGo.st (B := T2.setTop (mkF m 12 #[.val (.long r), .second, .val (.long p1), .second, .val (.long b1), .second, .val (.long d), .second, .val (.int sel), .val (.long x1), .second, .val (.long x2), .second, .unset, .unset, .unset, .unset, .unset, .unset, .unset, .unset, .unset, .unset, .unset, .unset] [])) (fun _ kz => XS.lstore X2.here hx rfl (hb hby at_10) rfl (l' := #[.val (.long r), .second, .val (.long p1), .second, .val (.long b1), .second, .val (.long d), .second, .val (.int sel), .val (.long x1), .second, .val (.long x2), .second, .unset, .unset, .unset, .unset, .unset, .unset, .unset, .unset, .unset, .unset, .unset, .unset]) rfl kz) ?_
  refine OGo.st (B := T2.setTop (mkF m 14 #[.val (.long r), .second, .val (.long p1), .second, .val (.long b1), .second, .val (.long d), .second, .val (.int sel), .val (.long x1), .second, .val (.long x2), .second, .unset, .unset, .unset, .unset, .unset, .unset, .unset, .unset, .unset, .unset, .unset, .unset] [(.long b1)])) (fun _ kz => XS.lload X2.here hx rfl (hb hby at_12) rfl kz) ?_
  refine OGo.st (B := T2.setTop (mkF m 16 #[.val (.long r), .second, .val (.long p1), .second, .val (.long b1), .second, .val (.long d), .second, .val (.int sel), .val (.long x1), .second, .val (.long x2), .second, .unset, .unset, .unset, .unset, .unset, .unset, .unset, .unset, .unset, .unset, .unset, .unset] [(.long x2), (.long b1)])) (fun _ kz => XS.lload X2.here hx rfl (hb hby at_14) rfl kz) ?_
  obtain ⟨v3, T3, L3, X3, hQ3, st3⟩ := (rm4 l Z a0 hw b1 x2 h0 n0 a2 b2).static (W := 0) X2 hx hZ hown (hw _ (List.mem_of_getElem? (i := 13) rfl)) (hw _ (List.mem_of_getElem? (i := 14) rfl)) (hw _ (List.mem_of_getElem? (i := 2) rfl)) (hw _ (List.mem_of_getElem? (i := 15) rfl)) (by decide) (by decide) (by decide) e2 (by decide) (by decide) (g := (mkF m 16 #[.val (.long r), .second, .val (.long p1), .second, .val (.long b1), .second, .val (.long d), .second, .val (.int sel), .val (.long x1), .second, .val (.long x2), .second, .unset, .unset, .unset, .unset, .unset, .unset, .unset, .unset, .unset, .unset, .unset, .unset] [(.long x2), (.long b1)])) rfl (by rw [hml]; rfl) (argsL := [(.long b1), (.long x2)]) (rest := []) rfl (lenOf pd_1 rfl) rfl (by show 2 * 0 + _ ≤ _; exact Nat.le_of_eq rfl) (hb hby at_16)
  obtain ⟨x3, rfl, N3q, e3, a3, b3⟩ := hQ3
  have N3 := Fr.app N2 N3q
  refine OGo.st (B := T3.setTop (mkF m 19 #[.val (.long r), .second, .val (.long p1), .second, .val (.long b1), .second, .val (.long d), .second, .val (.int sel), .val (.long x1), .second, .val (.long x2), .second, .unset, .unset, .unset, .unset, .unset, .unset, .unset, .unset, .unset, .unset, .unset, .unset] [(.long x3)])) st3 ?_
  refine OGo.st (B := T3.setTop (mkF m 21 #[.val (.long r), .second, .val (.long p1), .second, .val (.long b1), .second, .val (.long d), .second, .val (.int sel), .val (.long x1), .second, .val (.long x2), .second, .val (.long x3), .second, .unset, .unset, .unset, .unset, .unset, .unset, .unset, .unset, .unset, .unset] [])) (fun _ kz => XS.lstore X3.here hx rfl (hb hby at_19) rfl (l' := #[.val (.long r), .second, .val (.long p1), .second, .val (.long b1), .second, .val (.long d), .second, .val (.int sel), .val (.long x1), .second, .val (.long x2), .second, .val (.long x3), .second, .unset, .unset, .unset, .unset, .unset, .unset, .unset, .unset, .unset, .unset]) rfl kz) ?_
  refine OGo.st (B := T3.setTop (mkF m 23 #[.val (.long r), .second, .val (.long p1), .second, .val (.long b1), .second, .val (.long d), .second, .val (.int sel), .val (.long x1), .second, .val (.long x2), .second, .val (.long x3), .second, .unset, .unset, .unset, .unset, .unset, .unset, .unset, .unset, .unset, .unset] [(.int sel)])) (fun _ kz => XS.iload X3.here hx rfl (hb hby at_21) rfl kz) ?_
  refine OGo.st (B := T3.setTop (mkF m 24 #[.val (.long r), .second, .val (.long p1), .second, .val (.long b1), .second, .val (.long d), .second, .val (.int sel), .val (.long x1), .second, .val (.long x2), .second, .val (.long x3), .second, .unset, .unset, .unset, .unset, .unset, .unset, .unset, .unset, .unset, .unset] [(.int (1 : Int32)), (.int sel)])) (fun _ kz => XS.iconst X3.here hx rfl (hb hby at_23) kz) ?_
  refine OGo.st (B := T3.setTop (mkF m 25 #[.val (.long r), .second, .val (.long p1), .second, .val (.long b1), .second, .val (.long d), .second, .val (.int sel), .val (.long x1), .second, .val (.long x2), .second, .val (.long x3), .second, .unset, .unset, .unset, .unset, .unset, .unset, .unset, .unset, .unset, .unset] [(.int (sel &&& (1 : Int32)))])) (fun _ kz => XS.iand X3.here hx rfl (hb hby at_24) rfl kz) ?_
  refine OGo.join (fun (z1 : Int64) => T3.setTop (mkF m 34 #[.val (.long r), .second, .val (.long p1), .second, .val (.long b1), .second, .val (.long d), .second, .val (.int sel), .val (.long x1), .second, .val (.long x2), .second, .val (.long x3), .second, .unset, .unset, .unset, .unset, .unset, .unset, .unset, .unset, .unset, .unset] [(.long z1)])) (fun z1 => True) ?_ ?_
  · skip
    intro z1 h_z1
    show OGo p e below _ (T3.setTop (mkF m 34 #[.val (.long r), .second, .val (.long p1), .second, .val (.long b1), .second, .val (.long d), .second, .val (.int sel), .val (.long x1), .second, .val (.long x2), .second, .val (.long x3), .second, .unset, .unset, .unset, .unset, .unset, .unset, .unset, .unset, .unset, .unset] [(.long z1)]))
    obtain ⟨v5, T5, L5, X5, hQ5, st5⟩ := (rm2 l Z a0 hw z1 h0 n0).static (W := 0) X3 hx hZ hown (hw _ (List.mem_of_getElem? (i := 0) rfl)) (hw _ (List.mem_of_getElem? (i := 1) rfl)) (hw _ (List.mem_of_getElem? (i := 2) rfl)) (hw _ (List.mem_of_getElem? (i := 3) rfl)) (by decide) (by decide) (by decide) e3 (by decide) (by decide) (g := (mkF m 34 #[.val (.long r), .second, .val (.long p1), .second, .val (.long b1), .second, .val (.long d), .second, .val (.int sel), .val (.long x1), .second, .val (.long x2), .second, .val (.long x3), .second, .unset, .unset, .unset, .unset, .unset, .unset, .unset, .unset, .unset, .unset] [(.long z1)])) rfl (by rw [hml]; rfl) (argsL := [(.long z1)]) (rest := []) rfl (lenOf pd_0 rfl) rfl (by show 2 * 0 + _ ≤ _; exact Nat.le_of_eq rfl) (hb hby at_34)
    obtain ⟨x5, rfl, N5q, e5, a5⟩ := hQ5
    have N5 := Fr.app N3 N5q
    refine OGo.st (B := T5.setTop (mkF m 37 #[.val (.long r), .second, .val (.long p1), .second, .val (.long b1), .second, .val (.long d), .second, .val (.int sel), .val (.long x1), .second, .val (.long x2), .second, .val (.long x3), .second, .unset, .unset, .unset, .unset, .unset, .unset, .unset, .unset, .unset, .unset] [(.long x5)])) st5 ?_
    refine OGo.st (B := T5.setTop (mkF m 39 #[.val (.long r), .second, .val (.long p1), .second, .val (.long b1), .second, .val (.long d), .second, .val (.int sel), .val (.long x1), .second, .val (.long x2), .second, .val (.long x3), .second, .val (.long x5), .second, .unset, .unset, .unset, .unset, .unset, .unset, .unset, .unset] [])) (fun _ kz => XS.lstore X5.here hx rfl (hb hby at_37) rfl (l' := #[.val (.long r), .second, .val (.long p1), .second, .val (.long b1), .second, .val (.long d), .second, .val (.int sel), .val (.long x1), .second, .val (.long x2), .second, .val (.long x3), .second, .val (.long x5), .second, .unset, .unset, .unset, .unset, .unset, .unset, .unset, .unset]) rfl kz) ?_
    refine OGo.st (B := T5.setTop (mkF m 41 #[.val (.long r), .second, .val (.long p1), .second, .val (.long b1), .second, .val (.long d), .second, .val (.int sel), .val (.long x1), .second, .val (.long x2), .second, .val (.long x3), .second, .val (.long x5), .second, .unset, .unset, .unset, .unset, .unset, .unset, .unset, .unset] [(.int sel)])) (fun _ kz => XS.iload X5.here hx rfl (hb hby at_39) rfl kz) ?_
    refine OGo.st (B := T5.setTop (mkF m 42 #[.val (.long r), .second, .val (.long p1), .second, .val (.long b1), .second, .val (.long d), .second, .val (.int sel), .val (.long x1), .second, .val (.long x2), .second, .val (.long x3), .second, .val (.long x5), .second, .unset, .unset, .unset, .unset, .unset, .unset, .unset, .unset] [(.int (2 : Int32)), (.int sel)])) (fun _ kz => XS.iconst X5.here hx rfl (hb hby at_41) kz) ?_
    refine OGo.st (B := T5.setTop (mkF m 43 #[.val (.long r), .second, .val (.long p1), .second, .val (.long b1), .second, .val (.long d), .second, .val (.int sel), .val (.long x1), .second, .val (.long x2), .second, .val (.long x3), .second, .val (.long x5), .second, .unset, .unset, .unset, .unset, .unset, .unset, .unset, .unset] [(.int (sel &&& (2 : Int32)))])) (fun _ kz => XS.iand X5.here hx rfl (hb hby at_42) rfl kz) ?_
    refine OGo.join (fun (z2 : Int64) => T5.setTop (mkF m 52 #[.val (.long r), .second, .val (.long p1), .second, .val (.long b1), .second, .val (.long d), .second, .val (.int sel), .val (.long x1), .second, .val (.long x2), .second, .val (.long x3), .second, .val (.long x5), .second, .unset, .unset, .unset, .unset, .unset, .unset, .unset, .unset] [(.long z2)])) (fun z2 => True) ?_ ?_
    · skip
      intro z2 h_z2
      show OGo p e below _ (T5.setTop (mkF m 52 #[.val (.long r), .second, .val (.long p1), .second, .val (.long b1), .second, .val (.long d), .second, .val (.int sel), .val (.long x1), .second, .val (.long x2), .second, .val (.long x3), .second, .val (.long x5), .second, .unset, .unset, .unset, .unset, .unset, .unset, .unset, .unset] [(.long z2)]))
      obtain ⟨v7, T7, L7, X7, hQ7, st7⟩ := (rm3 l Z a0 hw z2 h0 n0).static (W := 0) X5 hx hZ hown (hw _ (List.mem_of_getElem? (i := 9) rfl)) (hw _ (List.mem_of_getElem? (i := 10) rfl)) (hw _ (List.mem_of_getElem? (i := 2) rfl)) (hw _ (List.mem_of_getElem? (i := 11) rfl)) (by decide) (by decide) (by decide) e5 (by decide) (by decide) (g := (mkF m 52 #[.val (.long r), .second, .val (.long p1), .second, .val (.long b1), .second, .val (.long d), .second, .val (.int sel), .val (.long x1), .second, .val (.long x2), .second, .val (.long x3), .second, .val (.long x5), .second, .unset, .unset, .unset, .unset, .unset, .unset, .unset, .unset] [(.long z2)])) rfl (by rw [hml]; rfl) (argsL := [(.long z2)]) (rest := []) rfl (lenOf pd_0 rfl) rfl (by show 2 * 0 + _ ≤ _; exact Nat.le_of_eq rfl) (hb hby at_52)
      obtain ⟨x7, rfl, N7q, e7, a7, b7⟩ := hQ7
      have N7 := Fr.app N5 N7q
      refine OGo.st (B := T7.setTop (mkF m 55 #[.val (.long r), .second, .val (.long p1), .second, .val (.long b1), .second, .val (.long d), .second, .val (.int sel), .val (.long x1), .second, .val (.long x2), .second, .val (.long x3), .second, .val (.long x5), .second, .unset, .unset, .unset, .unset, .unset, .unset, .unset, .unset] [(.long x7)])) st7 ?_
      refine OGo.st (B := T7.setTop (mkF m 57 #[.val (.long r), .second, .val (.long p1), .second, .val (.long b1), .second, .val (.long d), .second, .val (.int sel), .val (.long x1), .second, .val (.long x2), .second, .val (.long x3), .second, .val (.long x5), .second, .val (.long x7), .second, .unset, .unset, .unset, .unset, .unset, .unset] [])) (fun _ kz => XS.lstore X7.here hx rfl (hb hby at_55) rfl (l' := #[.val (.long r), .second, .val (.long p1), .second, .val (.long b1), .second, .val (.long d), .second, .val (.int sel), .val (.long x1), .second, .val (.long x2), .second, .val (.long x3), .second, .val (.long x5), .second, .val (.long x7), .second, .unset, .unset, .unset, .unset, .unset, .unset]) rfl kz) ?_
      refine OGo.st (B := T7.setTop (mkF m 59 #[.val (.long r), .second, .val (.long p1), .second, .val (.long b1), .second, .val (.long d), .second, .val (.int sel), .val (.long x1), .second, .val (.long x2), .second, .val (.long x3), .second, .val (.long x5), .second, .val (.long x7), .second, .unset, .unset, .unset, .unset, .unset, .unset] [(.int sel)])) (fun _ kz => XS.iload X7.here hx rfl (hb hby at_57) rfl kz) ?_
      refine OGo.st (B := T7.setTop (mkF m 60 #[.val (.long r), .second, .val (.long p1), .second, .val (.long b1), .second, .val (.long d), .second, .val (.int sel), .val (.long x1), .second, .val (.long x2), .second, .val (.long x3), .second, .val (.long x5), .second, .val (.long x7), .second, .unset, .unset, .unset, .unset, .unset, .unset] [(.int (4 : Int32)), (.int sel)])) (fun _ kz => XS.iconst X7.here hx rfl (hb hby at_59) kz) ?_
      refine OGo.st (B := T7.setTop (mkF m 61 #[.val (.long r), .second, .val (.long p1), .second, .val (.long b1), .second, .val (.long d), .second, .val (.int sel), .val (.long x1), .second, .val (.long x2), .second, .val (.long x3), .second, .val (.long x5), .second, .val (.long x7), .second, .unset, .unset, .unset, .unset, .unset, .unset] [(.int (sel &&& (4 : Int32)))])) (fun _ kz => XS.iand X7.here hx rfl (hb hby at_60) rfl kz) ?_
      refine OGo.join (fun (z3 : Int64) => T7.setTop (mkF m 71 #[.val (.long r), .second, .val (.long p1), .second, .val (.long b1), .second, .val (.long d), .second, .val (.int sel), .val (.long x1), .second, .val (.long x2), .second, .val (.long x3), .second, .val (.long x5), .second, .val (.long x7), .second, .unset, .unset, .unset, .unset, .unset, .unset] [(.long z3)])) (fun z3 => True) ?_ ?_
      · skip
        intro z3 h_z3
        show OGo p e below _ (T7.setTop (mkF m 71 #[.val (.long r), .second, .val (.long p1), .second, .val (.long b1), .second, .val (.long d), .second, .val (.int sel), .val (.long x1), .second, .val (.long x2), .second, .val (.long x3), .second, .val (.long x5), .second, .val (.long x7), .second, .unset, .unset, .unset, .unset, .unset, .unset] [(.long z3)]))
        refine OGo.st (B := T7.setTop (mkF m 73 #[.val (.long r), .second, .val (.long p1), .second, .val (.long b1), .second, .val (.long d), .second, .val (.int sel), .val (.long x1), .second, .val (.long x2), .second, .val (.long x3), .second, .val (.long x5), .second, .val (.long x7), .second, .unset, .unset, .unset, .unset, .unset, .unset] [(.long x7), (.long z3)])) (fun _ kz => XS.lload X7.here hx rfl (hb hby at_71) rfl kz) ?_
        obtain ⟨v9, T9, L9, X9, hQ9, st9⟩ := (rm4 l Z a0 hw z3 x7 h0 n0 a7 b7).static (W := 0) X7 hx hZ hown (hw _ (List.mem_of_getElem? (i := 13) rfl)) (hw _ (List.mem_of_getElem? (i := 14) rfl)) (hw _ (List.mem_of_getElem? (i := 2) rfl)) (hw _ (List.mem_of_getElem? (i := 15) rfl)) (by decide) (by decide) (by decide) e7 (by decide) (by decide) (g := (mkF m 73 #[.val (.long r), .second, .val (.long p1), .second, .val (.long b1), .second, .val (.long d), .second, .val (.int sel), .val (.long x1), .second, .val (.long x2), .second, .val (.long x3), .second, .val (.long x5), .second, .val (.long x7), .second, .unset, .unset, .unset, .unset, .unset, .unset] [(.long x7), (.long z3)])) rfl (by rw [hml]; rfl) (argsL := [(.long z3), (.long x7)]) (rest := []) rfl (lenOf pd_1 rfl) rfl (by show 2 * 0 + _ ≤ _; exact Nat.le_of_eq rfl) (hb hby at_73)
        obtain ⟨x9, rfl, N9q, e9, a9, b9⟩ := hQ9
        have N9 := Fr.app N7 N9q
        refine OGo.st (B := T9.setTop (mkF m 76 #[.val (.long r), .second, .val (.long p1), .second, .val (.long b1), .second, .val (.long d), .second, .val (.int sel), .val (.long x1), .second, .val (.long x2), .second, .val (.long x3), .second, .val (.long x5), .second, .val (.long x7), .second, .unset, .unset, .unset, .unset, .unset, .unset] [(.long x9)])) st9 ?_
        refine OGo.st (B := T9.setTop (mkF m 78 #[.val (.long r), .second, .val (.long p1), .second, .val (.long b1), .second, .val (.long d), .second, .val (.int sel), .val (.long x1), .second, .val (.long x2), .second, .val (.long x3), .second, .val (.long x5), .second, .val (.long x7), .second, .val (.long x9), .second, .unset, .unset, .unset, .unset] [])) (fun _ kz => XS.lstore X9.here hx rfl (hb hby at_76) rfl (l' := #[.val (.long r), .second, .val (.long p1), .second, .val (.long b1), .second, .val (.long d), .second, .val (.int sel), .val (.long x1), .second, .val (.long x2), .second, .val (.long x3), .second, .val (.long x5), .second, .val (.long x7), .second, .val (.long x9), .second, .unset, .unset, .unset, .unset]) rfl kz) ?_
        obtain ⟨T10, h10, X10, e10, E10, A10, D10, U10, st10⟩ := newO X9 hx hZ hown (hw _ (List.mem_of_getElem? (i := 16) rfl)) (hw _ (List.mem_of_getElem? (i := 17) rfl)) (hw _ (List.mem_of_getElem? (i := 18) rfl)) e9 (g := (mkF m 78 #[.val (.long r), .second, .val (.long p1), .second, .val (.long b1), .second, .val (.long d), .second, .val (.int sel), .val (.long x1), .second, .val (.long x2), .second, .val (.long x3), .second, .val (.long x5), .second, .val (.long x7), .second, .val (.long x9), .second, .unset, .unset, .unset, .unset] [])) rfl (hb hby at_78) (by decide) (by decide)
        obtain ⟨oa, g10⟩ : ∃ z, z = h0.size := ⟨_, rfl⟩
        rw [← g10] at A10 D10 st10
        have g_oa : n0 ≤ oa := Nat.le_trans Z0 (Nat.le_trans (Keep.refl h0 []).1 (Nat.le_of_eq g10.symm))
        have sz_oa : h0.size ≤ oa := Nat.le_trans (Keep.refl h0 []).1 (Nat.le_of_eq g10.symm)
        have K10 : Keep h0 h10 [] := (Keep.refl h0 []).ext E10
        have O10 := O0.ext E10
        have F10_rate : Fld Z h10 oa "com/example/narrow_gate/narrowgate/Limit" "rate" "J" (.long (0 : Int64)) := D10 (Or.inr (hw _ (List.mem_of_getElem? (i := 97) rfl))) (ty := .long) (by decide)
        have F10_periodMs : Fld Z h10 oa "com/example/narrow_gate/narrowgate/Limit" "periodMs" "J" (.long (0 : Int64)) := D10 (Or.inr (hw _ (List.mem_of_getElem? (i := 99) rfl))) (ty := .long) (by decide)
        have F10_burst : Fld Z h10 oa "com/example/narrow_gate/narrowgate/Limit" "burst" "J" (.long (0 : Int64)) := D10 (Or.inr (hw _ (List.mem_of_getElem? (i := 101) rfl))) (ty := .long) (by decide)
        refine OGo.st (B := T10.setTop (mkF m 81 #[.val (.long r), .second, .val (.long p1), .second, .val (.long b1), .second, .val (.long d), .second, .val (.int sel), .val (.long x1), .second, .val (.long x2), .second, .val (.long x3), .second, .val (.long x5), .second, .val (.long x7), .second, .val (.long x9), .second, .unset, .unset, .unset, .unset] [(.ref oa)])) st10 ?_
        refine OGo.st (B := T10.setTop (mkF m 82 #[.val (.long r), .second, .val (.long p1), .second, .val (.long b1), .second, .val (.long d), .second, .val (.int sel), .val (.long x1), .second, .val (.long x2), .second, .val (.long x3), .second, .val (.long x5), .second, .val (.long x7), .second, .val (.long x9), .second, .unset, .unset, .unset, .unset] [(.ref oa), (.ref oa)])) (fun _ kz => XS.dup X10.here hx rfl (hb hby at_81) rfl rfl kz) ?_
        refine OGo.st (B := T10.setTop (mkF m 84 #[.val (.long r), .second, .val (.long p1), .second, .val (.long b1), .second, .val (.long d), .second, .val (.int sel), .val (.long x1), .second, .val (.long x2), .second, .val (.long x3), .second, .val (.long x5), .second, .val (.long x7), .second, .val (.long x9), .second, .unset, .unset, .unset, .unset] [(.long x1), (.ref oa), (.ref oa)])) (fun _ kz => XS.lload X10.here hx rfl (hb hby at_82) rfl kz) ?_
        refine OGo.st (B := T10.setTop (mkF m 86 #[.val (.long r), .second, .val (.long p1), .second, .val (.long b1), .second, .val (.long d), .second, .val (.int sel), .val (.long x1), .second, .val (.long x2), .second, .val (.long x3), .second, .val (.long x5), .second, .val (.long x7), .second, .val (.long x9), .second, .unset, .unset, .unset, .unset] [(.long x2), (.long x1), (.ref oa), (.ref oa)])) (fun _ kz => XS.lload X10.here hx rfl (hb hby at_84) rfl kz) ?_
        refine OGo.st (B := T10.setTop (mkF m 88 #[.val (.long r), .second, .val (.long p1), .second, .val (.long b1), .second, .val (.long d), .second, .val (.int sel), .val (.long x1), .second, .val (.long x2), .second, .val (.long x3), .second, .val (.long x5), .second, .val (.long x7), .second, .val (.long x9), .second, .unset, .unset, .unset, .unset] [(.long x3), (.long x2), (.long x1), (.ref oa), (.ref oa)])) (fun _ kz => XS.lload X10.here hx rfl (hb hby at_86) rfl kz) ?_
        obtain ⟨v11, T11, L11, X11, hQ11, st11⟩ := (rm43 l Z a0 hw oa x1 x2 x3 h10 n0 (Nat.le_trans Z0 K10.1) O10 ca cc S_cache BX de S_dflt A10 g_oa F10_rate F10_periodMs F10_burst a1 a2 a3 b3).init (W := 1) X10 hx hZ rfl hown (hw _ (List.mem_of_getElem? (i := 19) rfl)) (hw _ (List.mem_of_getElem? (i := 20) rfl)) (hw _ (List.mem_of_getElem? (i := 18) rfl)) (hw _ (List.mem_of_getElem? (i := 21) rfl)) (by decide) (by decide) (by decide) e10 (by decide) (by decide) (g := (mkF m 88 #[.val (.long r), .second, .val (.long p1), .second, .val (.long b1), .second, .val (.long d), .second, .val (.int sel), .val (.long x1), .second, .val (.long x2), .second, .val (.long x3), .second, .val (.long x5), .second, .val (.long x7), .second, .val (.long x9), .second, .unset, .unset, .unset, .unset] [(.long x3), (.long x2), (.long x1), (.ref oa), (.ref oa)])) rfl (by rw [hml]; rfl) (argsL := [(.long x1), (.long x2), (.long x3)]) (rest := [(.ref oa)]) rfl (lenOf pd_2 rfl) rfl (by show 2 * 0 + _ ≤ _; exact Nat.le_of_eq rfl) (hb hby at_88)
        obtain ⟨rfl, N11q, J11, Y11_0, Y11_1, Y11_2, Y11_3⟩ := hQ11
        have N11 := Fr.app N9 N11q
        have K11 : Keep h0 T11.heap [] := K10.trans J11 (allS (Or.inr sz_oa) all0)
        have O11 := O10.keep J11 (allS g_oa all0)
        refine OGo.st (B := T11.setTop (mkF m 91 #[.val (.long r), .second, .val (.long p1), .second, .val (.long b1), .second, .val (.long d), .second, .val (.int sel), .val (.long x1), .second, .val (.long x2), .second, .val (.long x3), .second, .val (.long x5), .second, .val (.long x7), .second, .val (.long x9), .second, .unset, .unset, .unset, .unset] [(.ref oa)])) st11 ?_
        refine OGo.st (B := T11.setTop (mkF m 93 #[.val (.long r), .second, .val (.long p1), .second, .val (.long b1), .second, .val (.long d), .second, .val (.int sel), .val (.long x1), .second, .val (.long x2), .second, .val (.long x3), .second, .val (.long x5), .second, .val (.long x7), .second, .val (.long x9), .second, .val (.ref oa), .unset, .unset, .unset] [])) (fun _ kz => XS.astore X11.here hx rfl (hb hby at_91) rfl rfl (l' := #[.val (.long r), .second, .val (.long p1), .second, .val (.long b1), .second, .val (.long d), .second, .val (.int sel), .val (.long x1), .second, .val (.long x2), .second, .val (.long x3), .second, .val (.long x5), .second, .val (.long x7), .second, .val (.long x9), .second, .val (.ref oa), .unset, .unset, .unset]) rfl kz) ?_
        refine OGo.st (B := T11.setTop (mkF m 95 #[.val (.long r), .second, .val (.long p1), .second, .val (.long b1), .second, .val (.long d), .second, .val (.int sel), .val (.long x1), .second, .val (.long x2), .second, .val (.long x3), .second, .val (.long x5), .second, .val (.long x7), .second, .val (.long x9), .second, .val (.ref oa), .unset, .unset, .unset] [(.int sel)])) (fun _ kz => XS.iload X11.here hx rfl (hb hby at_93) rfl kz) ?_
        refine OGo.st (B := T11.setTop (mkF m 96 #[.val (.long r), .second, .val (.long p1), .second, .val (.long b1), .second, .val (.long d), .second, .val (.int sel), .val (.long x1), .second, .val (.long x2), .second, .val (.long x3), .second, .val (.long x5), .second, .val (.long x7), .second, .val (.long x9), .second, .val (.ref oa), .unset, .unset, .unset] [(.int (3 : Int32)), (.int sel)])) (fun _ kz => XS.iconst X11.here hx rfl (hb hby at_95) kz) ?_
        refine OGo.st (B := T11.setTop (mkF m 97 #[.val (.long r), .second, .val (.long p1), .second, .val (.long b1), .second, .val (.long d), .second, .val (.int sel), .val (.long x1), .second, .val (.long x2), .second, .val (.long x3), .second, .val (.long x5), .second, .val (.long x7), .second, .val (.long x9), .second, .val (.ref oa), .unset, .unset, .unset] [(.int ((sel.toUInt32 >>> ((3 : Int32) &&& 31).toUInt32).toInt32))])) (fun _ kz => XS.iushr X11.here hx rfl (hb hby at_96) rfl kz) ?_
        refine OGo.st (B := T11.setTop (mkF m 98 #[.val (.long r), .second, .val (.long p1), .second, .val (.long b1), .second, .val (.long d), .second, .val (.int sel), .val (.long x1), .second, .val (.long x2), .second, .val (.long x3), .second, .val (.long x5), .second, .val (.long x7), .second, .val (.long x9), .second, .val (.ref oa), .unset, .unset, .unset] [(.int (3 : Int32)), (.int ((sel.toUInt32 >>> ((3 : Int32) &&& 31).toUInt32).toInt32))])) (fun _ kz => XS.iconst X11.here hx rfl (hb hby at_97) kz) ?_
        refine OGo.st (B := T11.setTop (mkF m 99 #[.val (.long r), .second, .val (.long p1), .second, .val (.long b1), .second, .val (.long d), .second, .val (.int sel), .val (.long x1), .second, .val (.long x2), .second, .val (.long x3), .second, .val (.long x5), .second, .val (.long x7), .second, .val (.long x9), .second, .val (.ref oa), .unset, .unset, .unset] [(.int (((sel.toUInt32 >>> ((3 : Int32) &&& 31).toUInt32).toInt32) &&& (3 : Int32)))])) (fun _ kz => XS.iand X11.here hx rfl (hb hby at_98) rfl kz) ?_
        refine OGo.st (B := T11.setTop (mkF m 101 #[.val (.long r), .second, .val (.long p1), .second, .val (.long b1), .second, .val (.long d), .second, .val (.int sel), .val (.long x1), .second, .val (.long x2), .second, .val (.long x3), .second, .val (.long x5), .second, .val (.long x7), .second, .val (.long x9), .second, .val (.ref oa), .val (.int (((sel.toUInt32 >>> ((3 : Int32) &&& 31).toUInt32).toInt32) &&& (3 : Int32))), .unset, .unset] [])) (fun _ kz => XS.istore X11.here hx rfl (hb hby at_99) rfl (l' := #[.val (.long r), .second, .val (.long p1), .second, .val (.long b1), .second, .val (.long d), .second, .val (.int sel), .val (.long x1), .second, .val (.long x2), .second, .val (.long x3), .second, .val (.long x5), .second, .val (.long x7), .second, .val (.long x9), .second, .val (.ref oa), .val (.int (((sel.toUInt32 >>> ((3 : Int32) &&& 31).toUInt32).toInt32) &&& (3 : Int32))), .unset, .unset]) rfl kz) ?_
        refine OGo.st (B := T11.setTop (mkF m 103 #[.val (.long r), .second, .val (.long p1), .second, .val (.long b1), .second, .val (.long d), .second, .val (.int sel), .val (.long x1), .second, .val (.long x2), .second, .val (.long x3), .second, .val (.long x5), .second, .val (.long x7), .second, .val (.long x9), .second, .val (.ref oa), .val (.int (((sel.toUInt32 >>> ((3 : Int32) &&& 31).toUInt32).toInt32) &&& (3 : Int32))), .unset, .unset] [(.int (((sel.toUInt32 >>> ((3 : Int32) &&& 31).toUInt32).toInt32) &&& (3 : Int32)))])) (fun _ kz => XS.iload X11.here hx rfl (hb hby at_101) rfl kz) ?_
        refine OGo.st (B := T11.setTop (mkF m 104 #[.val (.long r), .second, .val (.long p1), .second, .val (.long b1), .second, .val (.long d), .second, .val (.int sel), .val (.long x1), .second, .val (.long x2), .second, .val (.long x3), .second, .val (.long x5), .second, .val (.long x7), .second, .val (.long x9), .second, .val (.ref oa), .val (.int (((sel.toUInt32 >>> ((3 : Int32) &&& 31).toUInt32).toInt32) &&& (3 : Int32))), .unset, .unset] [(.int (1 : Int32)), (.int (((sel.toUInt32 >>> ((3 : Int32) &&& 31).toUInt32).toInt32) &&& (3 : Int32)))])) (fun _ kz => XS.iconst X11.here hx rfl (hb hby at_103) kz) ?_
        obtain ⟨kd, hkd⟩ : ∃ kd, (((sel.toUInt32 >>> ((3 : Int32) &&& 31).toUInt32).toInt32) &&& (3 : Int32)) = kd := ⟨_, rfl⟩
        rw [hkd]
        by_cases c1 : kd = (1 : Int32)
        · skip
          refine OGo.st (B := T11.setTop (mkF m 107 #[.val (.long r), .second, .val (.long p1), .second, .val (.long b1), .second, .val (.long d), .second, .val (.int sel), .val (.long x1), .second, .val (.long x2), .second, .val (.long x3), .second, .val (.long x5), .second, .val (.long x7), .second, .val (.long x9), .second, .val (.ref oa), .val (.int kd), .unset, .unset] [])) (fun _ kz => XS.icmpNo X11.here hx rfl (hb hby at_104) rfl (teq c1).2 kz) ?_
          refine OGo.st (B := T11.setTop (mkF m 109 #[.val (.long r), .second, .val (.long p1), .second, .val (.long b1), .second, .val (.long d), .second, .val (.int sel), .val (.long x1), .second, .val (.long x2), .second, .val (.long x3), .second, .val (.long x5), .second, .val (.long x7), .second, .val (.long x9), .second, .val (.ref oa), .val (.int kd), .unset, .unset] [(.ref oa)])) (fun _ kz => XS.aload X11.here hx rfl (hb hby at_107) rfl rfl kz) ?_
          refine OGo.st (B := T11.setTop (mkF m 110 #[.val (.long r), .second, .val (.long p1), .second, .val (.long b1), .second, .val (.long d), .second, .val (.int sel), .val (.long x1), .second, .val (.long x2), .second, .val (.long x3), .second, .val (.long x5), .second, .val (.long x7), .second, .val (.long x9), .second, .val (.ref oa), .val (.int kd), .unset, .unset] [.null, (.ref oa)])) (fun _ kz => XS.aconstNull X11.here hx rfl (hb hby at_109) kz) ?_
          obtain ⟨v12, T12, L12, X12, hQ12, st12⟩ := (rm50n l Z a0 hw oa T11.heap n0).virt (W := 0) X11 hx hZ hown (hw _ (List.mem_of_getElem? (i := 102) rfl)) (hw _ (List.mem_of_getElem? (i := 103) rfl)) (nf_sel hZ (hw _ (List.mem_of_getElem? (i := 105) rfl))) (hw _ (List.mem_of_getElem? (i := 105) rfl)) (hw _ (List.mem_of_getElem? (i := 104) rfl)) (hw _ (List.mem_of_getElem? (i := 18) rfl)) (hw _ (List.mem_of_getElem? (i := 106) rfl)) (by decide) (by decide) (by decide) rfl (by decide) (by decide) (g := (mkF m 110 #[.val (.long r), .second, .val (.long p1), .second, .val (.long b1), .second, .val (.long d), .second, .val (.int sel), .val (.long x1), .second, .val (.long x2), .second, .val (.long x3), .second, .val (.long x5), .second, .val (.long x7), .second, .val (.long x9), .second, .val (.ref oa), .val (.int kd), .unset, .unset] [.null, (.ref oa)])) rfl (by rw [hml]; rfl) Y11_0 (argsL := [.null]) (rest := []) rfl (lenOf pd_10 rfl) rfl (by show 2 * 0 + _ ≤ _; exact Nat.le_of_eq rfl) (hb hby at_110)
          obtain ⟨rfl, N12q, e12⟩ := hQ12
          have N12 := Fr.app N11 N12q
          refine OGo.st (B := T12.setTop (mkF m 113 #[.val (.long r), .second, .val (.long p1), .second, .val (.long b1), .second, .val (.long d), .second, .val (.int sel), .val (.long x1), .second, .val (.long x2), .second, .val (.long x3), .second, .val (.long x5), .second, .val (.long x7), .second, .val (.long x9), .second, .val (.ref oa), .val (.int kd), .unset, .unset] [(.int (0 : Int32))])) st12 ?_
          refine OGo.st (B := T12.setTop (mkF m 116 #[.val (.long r), .second, .val (.long p1), .second, .val (.long b1), .second, .val (.long d), .second, .val (.int sel), .val (.long x1), .second, .val (.long x2), .second, .val (.long x3), .second, .val (.long x5), .second, .val (.long x7), .second, .val (.long x9), .second, .val (.ref oa), .val (.int kd), .unset, .unset] [])) (fun _ kz => XS.ifNo X12.here hx rfl (hb hby at_113) rfl (by decide) kz) ?_
          refine OGo.st (B := T12.setTop (mkF m 118 #[.val (.long r), .second, .val (.long p1), .second, .val (.long b1), .second, .val (.long d), .second, .val (.int sel), .val (.long x1), .second, .val (.long x2), .second, .val (.long x3), .second, .val (.long x5), .second, .val (.long x7), .second, .val (.long x9), .second, .val (.ref oa), .val (.int kd), .unset, .unset] [(.ref oa)])) (fun _ kz => XS.aload X12.here hx rfl (hb hby at_116) rfl rfl kz) ?_
          refine OGo.st (B := T12.setTop (mkF m 120 #[.val (.long r), .second, .val (.long p1), .second, .val (.long b1), .second, .val (.long d), .second, .val (.int sel), .val (.long x1), .second, .val (.long x2), .second, .val (.long x3), .second, .val (.long x5), .second, .val (.long x7), .second, .val (.long x9), .second, .val (.ref oa), .val (.int kd), .unset, .unset] [(.ref oa), (.ref oa)])) (fun _ kz => XS.aload X12.here hx rfl (hb hby at_118) rfl rfl kz) ?_
          obtain ⟨v13, T13, L13, X13, hQ13, st13⟩ := (rm50y l Z a0 hw oa oa x1 x2 x3 x1 x2 x3 (1 : Int32) T11.heap n0 Y11_0 Y11_1 Y11_2 Y11_3 Y11_1 Y11_2 Y11_3 (if_pos ⟨rfl, rfl, rfl⟩)).virt (W := 0) X12 hx hZ hown (hw _ (List.mem_of_getElem? (i := 102) rfl)) (hw _ (List.mem_of_getElem? (i := 103) rfl)) (nf_sel hZ (hw _ (List.mem_of_getElem? (i := 105) rfl))) (hw _ (List.mem_of_getElem? (i := 105) rfl)) (hw _ (List.mem_of_getElem? (i := 104) rfl)) (hw _ (List.mem_of_getElem? (i := 18) rfl)) (hw _ (List.mem_of_getElem? (i := 106) rfl)) (by decide) (by decide) (by decide) e12 (by decide) (by decide) (g := (mkF m 120 #[.val (.long r), .second, .val (.long p1), .second, .val (.long b1), .second, .val (.long d), .second, .val (.int sel), .val (.long x1), .second, .val (.long x2), .second, .val (.long x3), .second, .val (.long x5), .second, .val (.long x7), .second, .val (.long x9), .second, .val (.ref oa), .val (.int kd), .unset, .unset] [(.ref oa), (.ref oa)])) rfl (by rw [hml]; rfl) Y11_0 (argsL := [(.ref oa)]) (rest := []) rfl (lenOf pd_10 rfl) rfl (by show 2 * 0 + _ ≤ _; exact Nat.le_of_eq rfl) (hb hby at_120)
          obtain ⟨rfl, N13q, e13⟩ := hQ13
          have N13 := Fr.app N12 N13q
          refine OGo.st (B := T13.setTop (mkF m 123 #[.val (.long r), .second, .val (.long p1), .second, .val (.long b1), .second, .val (.long d), .second, .val (.int sel), .val (.long x1), .second, .val (.long x2), .second, .val (.long x3), .second, .val (.long x5), .second, .val (.long x7), .second, .val (.long x9), .second, .val (.ref oa), .val (.int kd), .unset, .unset] [(.int (1 : Int32))])) st13 ?_
          refine OGo.st (B := T13.setTop (mkF m 126 #[.val (.long r), .second, .val (.long p1), .second, .val (.long b1), .second, .val (.long d), .second, .val (.int sel), .val (.long x1), .second, .val (.long x2), .second, .val (.long x3), .second, .val (.long x5), .second, .val (.long x7), .second, .val (.long x9), .second, .val (.ref oa), .val (.int kd), .unset, .unset] [])) (fun _ kz => XS.ifNo X13.here hx rfl (hb hby at_123) rfl (by decide) kz) ?_
          refine OGo.st (B := T13.setTop (mkF m 127 #[.val (.long r), .second, .val (.long p1), .second, .val (.long b1), .second, .val (.long d), .second, .val (.int sel), .val (.long x1), .second, .val (.long x2), .second, .val (.long x3), .second, .val (.long x5), .second, .val (.long x7), .second, .val (.long x9), .second, .val (.ref oa), .val (.int kd), .unset, .unset] [(.int (1 : Int32))])) (fun _ kz => XS.iconst X13.here hx rfl (hb hby at_126) kz) ?_
          refine OGo.st (B := T13.setTop (mkF m 131 #[.val (.long r), .second, .val (.long p1), .second, .val (.long b1), .second, .val (.long d), .second, .val (.int sel), .val (.long x1), .second, .val (.long x2), .second, .val (.long x3), .second, .val (.long x5), .second, .val (.long x7), .second, .val (.long x9), .second, .val (.ref oa), .val (.int kd), .unset, .unset] [(.int (1 : Int32))])) (fun _ kz => XS.goto X13.here hx rfl (pc0 := 127) (pc' := 131) rfl (hb hby at_127) (by decide) (by decide) kz) ?_
          exact own_retZ X13 hx hret hlk (hb hby at_131) ⟨rfl, N13⟩ (by decide) (by decide)
        · skip
          refine OGo.st (B := T11.setTop (mkF m 132 #[.val (.long r), .second, .val (.long p1), .second, .val (.long b1), .second, .val (.long d), .second, .val (.int sel), .val (.long x1), .second, .val (.long x2), .second, .val (.long x3), .second, .val (.long x5), .second, .val (.long x7), .second, .val (.long x9), .second, .val (.ref oa), .val (.int kd), .unset, .unset] [])) (fun _ kz => XS.icmpYes X11.here hx rfl (pc0 := 104) (pc' := 132) rfl (hb hby at_104) rfl (feq c1).2 (by decide) (by decide) kz) ?_
          refine OGo.st (B := T11.setTop (mkF m 134 #[.val (.long r), .second, .val (.long p1), .second, .val (.long b1), .second, .val (.long d), .second, .val (.int sel), .val (.long x1), .second, .val (.long x2), .second, .val (.long x3), .second, .val (.long x5), .second, .val (.long x7), .second, .val (.long x9), .second, .val (.ref oa), .val (.int kd), .unset, .unset] [(.int kd)])) (fun _ kz => XS.iload X11.here hx rfl (hb hby at_132) rfl kz) ?_
          refine OGo.st (B := T11.setTop (mkF m 135 #[.val (.long r), .second, .val (.long p1), .second, .val (.long b1), .second, .val (.long d), .second, .val (.int sel), .val (.long x1), .second, .val (.long x2), .second, .val (.long x3), .second, .val (.long x5), .second, .val (.long x7), .second, .val (.long x9), .second, .val (.ref oa), .val (.int kd), .unset, .unset] [(.int (2 : Int32)), (.int kd)])) (fun _ kz => XS.iconst X11.here hx rfl (hb hby at_134) kz) ?_
          by_cases c2 : kd = (2 : Int32)
          · skip
            refine OGo.st (B := T11.setTop (mkF m 138 #[.val (.long r), .second, .val (.long p1), .second, .val (.long b1), .second, .val (.long d), .second, .val (.int sel), .val (.long x1), .second, .val (.long x2), .second, .val (.long x3), .second, .val (.long x5), .second, .val (.long x7), .second, .val (.long x9), .second, .val (.ref oa), .val (.int kd), .unset, .unset] [])) (fun _ kz => XS.icmpNo X11.here hx rfl (hb hby at_135) rfl (teq c2).2 kz) ?_
            refine OGo.st (B := T11.setTop (mkF m 140 #[.val (.long r), .second, .val (.long p1), .second, .val (.long b1), .second, .val (.long d), .second, .val (.int sel), .val (.long x1), .second, .val (.long x2), .second, .val (.long x3), .second, .val (.long x5), .second, .val (.long x7), .second, .val (.long x9), .second, .val (.ref oa), .val (.int kd), .unset, .unset] [(.ref oa)])) (fun _ kz => XS.aload X11.here hx rfl (hb hby at_138) rfl rfl kz) ?_
            refine OGo.st (B := T11.setTop (mkF m 142 #[.val (.long r), .second, .val (.long p1), .second, .val (.long b1), .second, .val (.long d), .second, .val (.int sel), .val (.long x1), .second, .val (.long x2), .second, .val (.long x3), .second, .val (.long x5), .second, .val (.long x7), .second, .val (.long x9), .second, .val (.ref oa), .val (.int kd), .unset, .unset] [(.long x1), (.ref oa)])) (fun _ kz => XS.lload X11.here hx rfl (hb hby at_140) rfl kz) ?_
            obtain ⟨v14, T14, L14, X14, hQ14, st14⟩ := (rm22 l Z a0 hw x1 T11.heap n0 (Nat.le_trans Z0 K11.1) O11 ca cc S_cache BX).static (W := 1) X11 hx hZ hown (hw _ (List.mem_of_getElem? (i := 109) rfl)) (hw _ (List.mem_of_getElem? (i := 26) rfl)) (hw _ (List.mem_of_getElem? (i := 27) rfl)) (hw _ (List.mem_of_getElem? (i := 28) rfl)) (by decide) (by decide) (by decide) rfl (by decide) (by decide) (g := (mkF m 142 #[.val (.long r), .second, .val (.long p1), .second, .val (.long b1), .second, .val (.long d), .second, .val (.int sel), .val (.long x1), .second, .val (.long x2), .second, .val (.long x3), .second, .val (.long x5), .second, .val (.long x7), .second, .val (.long x9), .second, .val (.ref oa), .val (.int kd), .unset, .unset] [(.long x1), (.ref oa)])) rfl (by rw [hml]; rfl) (argsL := [(.long x1)]) (rest := [(.ref oa)]) rfl (lenOf pd_4 rfl) rfl (by show 2 * 0 + _ ≤ _; exact Nat.le_of_eq rfl) (hb hby at_142)
            obtain ⟨x14, rfl, N14q, J14, Y14_0, Y14_1⟩ := hQ14
            have N14 := Fr.app N11 N14q
            have K14 : Keep h0 T14.heap [] := K11.trans J14 all0
            have O14 := O11.keep J14 all0
            refine OGo.st (B := T14.setTop (mkF m 145 #[.val (.long r), .second, .val (.long p1), .second, .val (.long b1), .second, .val (.long d), .second, .val (.int sel), .val (.long x1), .second, .val (.long x2), .second, .val (.long x3), .second, .val (.long x5), .second, .val (.long x7), .second, .val (.long x9), .second, .val (.ref oa), .val (.int kd), .unset, .unset] [(.ref x14), (.ref oa)])) st14 ?_
            obtain ⟨v15, T15, L15, X15, hQ15, st15⟩ := (rm50l l Z a0 hw oa x14 T14.heap n0 Y14_0).virt (W := 0) X14 hx hZ hown (hw _ (List.mem_of_getElem? (i := 102) rfl)) (hw _ (List.mem_of_getElem? (i := 103) rfl)) (nf_sel hZ (hw _ (List.mem_of_getElem? (i := 105) rfl))) (hw _ (List.mem_of_getElem? (i := 105) rfl)) (hw _ (List.mem_of_getElem? (i := 104) rfl)) (hw _ (List.mem_of_getElem? (i := 18) rfl)) (hw _ (List.mem_of_getElem? (i := 106) rfl)) (by decide) (by decide) (by decide) rfl (by decide) (by decide) (g := (mkF m 145 #[.val (.long r), .second, .val (.long p1), .second, .val (.long b1), .second, .val (.long d), .second, .val (.int sel), .val (.long x1), .second, .val (.long x2), .second, .val (.long x3), .second, .val (.long x5), .second, .val (.long x7), .second, .val (.long x9), .second, .val (.ref oa), .val (.int kd), .unset, .unset] [(.ref x14), (.ref oa)])) rfl (by rw [hml]; rfl) (Y11_0.keep J14) (argsL := [(.ref x14)]) (rest := []) rfl (lenOf pd_10 rfl) rfl (by show 2 * 0 + _ ≤ _; exact Nat.le_of_eq rfl) (hb hby at_145)
            obtain ⟨rfl, N15q, e15⟩ := hQ15
            have N15 := Fr.app N14 N15q
            refine OGo.st (B := T15.setTop (mkF m 148 #[.val (.long r), .second, .val (.long p1), .second, .val (.long b1), .second, .val (.long d), .second, .val (.int sel), .val (.long x1), .second, .val (.long x2), .second, .val (.long x3), .second, .val (.long x5), .second, .val (.long x7), .second, .val (.long x9), .second, .val (.ref oa), .val (.int kd), .unset, .unset] [(.int (0 : Int32))])) st15 ?_
            refine OGo.st (B := T15.setTop (mkF m 151 #[.val (.long r), .second, .val (.long p1), .second, .val (.long b1), .second, .val (.long d), .second, .val (.int sel), .val (.long x1), .second, .val (.long x2), .second, .val (.long x3), .second, .val (.long x5), .second, .val (.long x7), .second, .val (.long x9), .second, .val (.ref oa), .val (.int kd), .unset, .unset] [])) (fun _ kz => XS.ifNo X15.here hx rfl (hb hby at_148) rfl (by decide) kz) ?_
            refine OGo.st (B := T15.setTop (mkF m 153 #[.val (.long r), .second, .val (.long p1), .second, .val (.long b1), .second, .val (.long d), .second, .val (.int sel), .val (.long x1), .second, .val (.long x2), .second, .val (.long x3), .second, .val (.long x5), .second, .val (.long x7), .second, .val (.long x9), .second, .val (.ref oa), .val (.int kd), .unset, .unset] [(.ref oa)])) (fun _ kz => XS.aload X15.here hx rfl (hb hby at_151) rfl rfl kz) ?_
            refine OGo.st (B := T15.setTop (mkF m 155 #[.val (.long r), .second, .val (.long p1), .second, .val (.long b1), .second, .val (.long d), .second, .val (.int sel), .val (.long x1), .second, .val (.long x2), .second, .val (.long x3), .second, .val (.long x5), .second, .val (.long x7), .second, .val (.long x9), .second, .val (.ref oa), .val (.int kd), .unset, .unset] [(.ref oa), (.ref oa)])) (fun _ kz => XS.aload X15.here hx rfl (hb hby at_153) rfl rfl kz) ?_
            obtain ⟨v16, T16, L16, X16, hQ16, st16⟩ := (rm50y l Z a0 hw oa oa x1 x2 x3 x1 x2 x3 (1 : Int32) T14.heap n0 (Y11_0.keep J14) (Y11_1.keep J14 nin0) (Y11_2.keep J14 nin0) (Y11_3.keep J14 nin0) (Y11_1.keep J14 nin0) (Y11_2.keep J14 nin0) (Y11_3.keep J14 nin0) (if_pos ⟨rfl, rfl, rfl⟩)).virt (W := 0) X15 hx hZ hown (hw _ (List.mem_of_getElem? (i := 102) rfl)) (hw _ (List.mem_of_getElem? (i := 103) rfl)) (nf_sel hZ (hw _ (List.mem_of_getElem? (i := 105) rfl))) (hw _ (List.mem_of_getElem? (i := 105) rfl)) (hw _ (List.mem_of_getElem? (i := 104) rfl)) (hw _ (List.mem_of_getElem? (i := 18) rfl)) (hw _ (List.mem_of_getElem? (i := 106) rfl)) (by decide) (by decide) (by decide) e15 (by decide) (by decide) (g := (mkF m 155 #[.val (.long r), .second, .val (.long p1), .second, .val (.long b1), .second, .val (.long d), .second, .val (.int sel), .val (.long x1), .second, .val (.long x2), .second, .val (.long x3), .second, .val (.long x5), .second, .val (.long x7), .second, .val (.long x9), .second, .val (.ref oa), .val (.int kd), .unset, .unset] [(.ref oa), (.ref oa)])) rfl (by rw [hml]; rfl) (Y11_0.keep J14) (argsL := [(.ref oa)]) (rest := []) rfl (lenOf pd_10 rfl) rfl (by show 2 * 0 + _ ≤ _; exact Nat.le_of_eq rfl) (hb hby at_155)
            obtain ⟨rfl, N16q, e16⟩ := hQ16
            have N16 := Fr.app N15 N16q
            refine OGo.st (B := T16.setTop (mkF m 158 #[.val (.long r), .second, .val (.long p1), .second, .val (.long b1), .second, .val (.long d), .second, .val (.int sel), .val (.long x1), .second, .val (.long x2), .second, .val (.long x3), .second, .val (.long x5), .second, .val (.long x7), .second, .val (.long x9), .second, .val (.ref oa), .val (.int kd), .unset, .unset] [(.int (1 : Int32))])) st16 ?_
            refine OGo.st (B := T16.setTop (mkF m 161 #[.val (.long r), .second, .val (.long p1), .second, .val (.long b1), .second, .val (.long d), .second, .val (.int sel), .val (.long x1), .second, .val (.long x2), .second, .val (.long x3), .second, .val (.long x5), .second, .val (.long x7), .second, .val (.long x9), .second, .val (.ref oa), .val (.int kd), .unset, .unset] [])) (fun _ kz => XS.ifNo X16.here hx rfl (hb hby at_158) rfl (by decide) kz) ?_
            refine OGo.st (B := T16.setTop (mkF m 162 #[.val (.long r), .second, .val (.long p1), .second, .val (.long b1), .second, .val (.long d), .second, .val (.int sel), .val (.long x1), .second, .val (.long x2), .second, .val (.long x3), .second, .val (.long x5), .second, .val (.long x7), .second, .val (.long x9), .second, .val (.ref oa), .val (.int kd), .unset, .unset] [(.int (1 : Int32))])) (fun _ kz => XS.iconst X16.here hx rfl (hb hby at_161) kz) ?_
            refine OGo.st (B := T16.setTop (mkF m 166 #[.val (.long r), .second, .val (.long p1), .second, .val (.long b1), .second, .val (.long d), .second, .val (.int sel), .val (.long x1), .second, .val (.long x2), .second, .val (.long x3), .second, .val (.long x5), .second, .val (.long x7), .second, .val (.long x9), .second, .val (.ref oa), .val (.int kd), .unset, .unset] [(.int (1 : Int32))])) (fun _ kz => XS.goto X16.here hx rfl (pc0 := 162) (pc' := 166) rfl (hb hby at_162) (by decide) (by decide) kz) ?_
            exact own_retZ X16 hx hret hlk (hb hby at_166) ⟨rfl, N16⟩ (by decide) (by decide)
          · skip
            refine OGo.st (B := T11.setTop (mkF m 167 #[.val (.long r), .second, .val (.long p1), .second, .val (.long b1), .second, .val (.long d), .second, .val (.int sel), .val (.long x1), .second, .val (.long x2), .second, .val (.long x3), .second, .val (.long x5), .second, .val (.long x7), .second, .val (.long x9), .second, .val (.ref oa), .val (.int kd), .unset, .unset] [])) (fun _ kz => XS.icmpYes X11.here hx rfl (pc0 := 135) (pc' := 167) rfl (hb hby at_135) rfl (feq c2).2 (by decide) (by decide) kz) ?_
            obtain ⟨T17, h17, X17, e17, E17, A17, D17, U17, st17⟩ := newO X11 hx hZ hown (hw _ (List.mem_of_getElem? (i := 16) rfl)) (hw _ (List.mem_of_getElem? (i := 17) rfl)) (hw _ (List.mem_of_getElem? (i := 18) rfl)) rfl (g := (mkF m 167 #[.val (.long r), .second, .val (.long p1), .second, .val (.long b1), .second, .val (.long d), .second, .val (.int sel), .val (.long x1), .second, .val (.long x2), .second, .val (.long x3), .second, .val (.long x5), .second, .val (.long x7), .second, .val (.long x9), .second, .val (.ref oa), .val (.int kd), .unset, .unset] [])) rfl (hb hby at_167) (by decide) (by decide)
            obtain ⟨oc, g17⟩ : ∃ z, z = T11.heap.size := ⟨_, rfl⟩
            rw [← g17] at A17 D17 st17
            have ne_oa_oc : oa ≠ oc := Nat.ne_of_lt (Nat.lt_of_lt_of_le Y11_0.lt (Nat.le_of_eq g17.symm))
            have g_oc : n0 ≤ oc := Nat.le_trans Z0 (Nat.le_trans K11.1 (Nat.le_of_eq g17.symm))
            have sz_oc : h0.size ≤ oc := Nat.le_trans K11.1 (Nat.le_of_eq g17.symm)
            have K17 : Keep h0 h17 [] := K11.ext E17
            have O17 := O11.ext E17
            have F17_rate : Fld Z h17 oc "com/example/narrow_gate/narrowgate/Limit" "rate" "J" (.long (0 : Int64)) := D17 (Or.inr (hw _ (List.mem_of_getElem? (i := 97) rfl))) (ty := .long) (by decide)
            have F17_periodMs : Fld Z h17 oc "com/example/narrow_gate/narrowgate/Limit" "periodMs" "J" (.long (0 : Int64)) := D17 (Or.inr (hw _ (List.mem_of_getElem? (i := 99) rfl))) (ty := .long) (by decide)
            have F17_burst : Fld Z h17 oc "com/example/narrow_gate/narrowgate/Limit" "burst" "J" (.long (0 : Int64)) := D17 (Or.inr (hw _ (List.mem_of_getElem? (i := 101) rfl))) (ty := .long) (by decide)
            refine OGo.st (B := T17.setTop (mkF m 170 #[.val (.long r), .second, .val (.long p1), .second, .val (.long b1), .second, .val (.long d), .second, .val (.int sel), .val (.long x1), .second, .val (.long x2), .second, .val (.long x3), .second, .val (.long x5), .second, .val (.long x7), .second, .val (.long x9), .second, .val (.ref oa), .val (.int kd), .unset, .unset] [(.ref oc)])) st17 ?_
            refine OGo.st (B := T17.setTop (mkF m 171 #[.val (.long r), .second, .val (.long p1), .second, .val (.long b1), .second, .val (.long d), .second, .val (.int sel), .val (.long x1), .second, .val (.long x2), .second, .val (.long x3), .second, .val (.long x5), .second, .val (.long x7), .second, .val (.long x9), .second, .val (.ref oa), .val (.int kd), .unset, .unset] [(.ref oc), (.ref oc)])) (fun _ kz => XS.dup X17.here hx rfl (hb hby at_170) rfl rfl kz) ?_
            refine OGo.st (B := T17.setTop (mkF m 173 #[.val (.long r), .second, .val (.long p1), .second, .val (.long b1), .second, .val (.long d), .second, .val (.int sel), .val (.long x1), .second, .val (.long x2), .second, .val (.long x3), .second, .val (.long x5), .second, .val (.long x7), .second, .val (.long x9), .second, .val (.ref oa), .val (.int kd), .unset, .unset] [(.long x5), (.ref oc), (.ref oc)])) (fun _ kz => XS.lload X17.here hx rfl (hb hby at_171) rfl kz) ?_
            refine OGo.st (B := T17.setTop (mkF m 175 #[.val (.long r), .second, .val (.long p1), .second, .val (.long b1), .second, .val (.long d), .second, .val (.int sel), .val (.long x1), .second, .val (.long x2), .second, .val (.long x3), .second, .val (.long x5), .second, .val (.long x7), .second, .val (.long x9), .second, .val (.ref oa), .val (.int kd), .unset, .unset] [(.long x7), (.long x5), (.ref oc), (.ref oc)])) (fun _ kz => XS.lload X17.here hx rfl (hb hby at_173) rfl kz) ?_
            refine OGo.st (B := T17.setTop (mkF m 177 #[.val (.long r), .second, .val (.long p1), .second, .val (.long b1), .second, .val (.long d), .second, .val (.int sel), .val (.long x1), .second, .val (.long x2), .second, .val (.long x3), .second, .val (.long x5), .second, .val (.long x7), .second, .val (.long x9), .second, .val (.ref oa), .val (.int kd), .unset, .unset] [(.long x9), (.long x7), (.long x5), (.ref oc), (.ref oc)])) (fun _ kz => XS.lload X17.here hx rfl (hb hby at_175) rfl kz) ?_
            obtain ⟨v18, T18, L18, X18, hQ18, st18⟩ := (rm43 l Z a0 hw oc x5 x7 x9 h17 n0 (Nat.le_trans Z0 K17.1) O17 ca cc S_cache BX de S_dflt A17 g_oc F17_rate F17_periodMs F17_burst a5 a7 a9 b9).init (W := 1) X17 hx hZ rfl hown (hw _ (List.mem_of_getElem? (i := 19) rfl)) (hw _ (List.mem_of_getElem? (i := 20) rfl)) (hw _ (List.mem_of_getElem? (i := 18) rfl)) (hw _ (List.mem_of_getElem? (i := 21) rfl)) (by decide) (by decide) (by decide) e17 (by decide) (by decide) (g := (mkF m 177 #[.val (.long r), .second, .val (.long p1), .second, .val (.long b1), .second, .val (.long d), .second, .val (.int sel), .val (.long x1), .second, .val (.long x2), .second, .val (.long x3), .second, .val (.long x5), .second, .val (.long x7), .second, .val (.long x9), .second, .val (.ref oa), .val (.int kd), .unset, .unset] [(.long x9), (.long x7), (.long x5), (.ref oc), (.ref oc)])) rfl (by rw [hml]; rfl) (argsL := [(.long x5), (.long x7), (.long x9)]) (rest := [(.ref oc)]) rfl (lenOf pd_2 rfl) rfl (by show 2 * 0 + _ ≤ _; exact Nat.le_of_eq rfl) (hb hby at_177)
            obtain ⟨rfl, N18q, J18, Y18_0, Y18_1, Y18_2, Y18_3⟩ := hQ18
            have N18 := Fr.app N11 N18q
            have K18 : Keep h0 T18.heap [] := K17.trans J18 (allS (Or.inr sz_oc) all0)
            have O18 := O17.keep J18 (allS g_oc all0)
            refine OGo.st (B := T18.setTop (mkF m 180 #[.val (.long r), .second, .val (.long p1), .second, .val (.long b1), .second, .val (.long d), .second, .val (.int sel), .val (.long x1), .second, .val (.long x2), .second, .val (.long x3), .second, .val (.long x5), .second, .val (.long x7), .second, .val (.long x9), .second, .val (.ref oa), .val (.int kd), .unset, .unset] [(.ref oc)])) st18 ?_
            refine OGo.st (B := T18.setTop (mkF m 182 #[.val (.long r), .second, .val (.long p1), .second, .val (.long b1), .second, .val (.long d), .second, .val (.int sel), .val (.long x1), .second, .val (.long x2), .second, .val (.long x3), .second, .val (.long x5), .second, .val (.long x7), .second, .val (.long x9), .second, .val (.ref oa), .val (.int kd), .val (.ref oc), .unset] [])) (fun _ kz => XS.astore X18.here hx rfl (hb hby at_180) rfl rfl (l' := #[.val (.long r), .second, .val (.long p1), .second, .val (.long b1), .second, .val (.long d), .second, .val (.int sel), .val (.long x1), .second, .val (.long x2), .second, .val (.long x3), .second, .val (.long x5), .second, .val (.long x7), .second, .val (.long x9), .second, .val (.ref oa), .val (.int kd), .val (.ref oc), .unset]) rfl kz) ?_
            refine OGo.st (B := T18.setTop (mkF m 184 #[.val (.long r), .second, .val (.long p1), .second, .val (.long b1), .second, .val (.long d), .second, .val (.int sel), .val (.long x1), .second, .val (.long x2), .second, .val (.long x3), .second, .val (.long x5), .second, .val (.long x7), .second, .val (.long x9), .second, .val (.ref oa), .val (.int kd), .val (.ref oc), .unset] [(.long x1)])) (fun _ kz => XS.lload X18.here hx rfl (hb hby at_182) rfl kz) ?_
            refine OGo.st (B := T18.setTop (mkF m 186 #[.val (.long r), .second, .val (.long p1), .second, .val (.long b1), .second, .val (.long d), .second, .val (.int sel), .val (.long x1), .second, .val (.long x2), .second, .val (.long x3), .second, .val (.long x5), .second, .val (.long x7), .second, .val (.long x9), .second, .val (.ref oa), .val (.int kd), .val (.ref oc), .unset] [(.long x5), (.long x1)])) (fun _ kz => XS.lload X18.here hx rfl (hb hby at_184) rfl kz) ?_
            refine OGo.st (B := T18.setTop (mkF m 187 #[.val (.long r), .second, .val (.long p1), .second, .val (.long b1), .second, .val (.long d), .second, .val (.int sel), .val (.long x1), .second, .val (.long x2), .second, .val (.long x3), .second, .val (.long x5), .second, .val (.long x7), .second, .val (.long x9), .second, .val (.ref oa), .val (.int kd), .val (.ref oc), .unset] [(.int (lcmpW x1 x5))])) (fun _ kz => XS.lcmp X18.here hx rfl (hb hby at_186) rfl kz) ?_
            by_cases m0 : x1 = x5
            · skip
              refine OGo.st (B := T18.setTop (mkF m 190 #[.val (.long r), .second, .val (.long p1), .second, .val (.long b1), .second, .val (.long d), .second, .val (.int sel), .val (.long x1), .second, .val (.long x2), .second, .val (.long x3), .second, .val (.long x5), .second, .val (.long x7), .second, .val (.long x9), .second, .val (.ref oa), .val (.int kd), .val (.ref oc), .unset] [])) (fun _ kz => XS.ifNo X18.here hx rfl (hb hby at_187) rfl ((if0 _ _).trans (teq ((lw_eq _ _).mpr m0)).2) kz) ?_
              refine OGo.st (B := T18.setTop (mkF m 192 #[.val (.long r), .second, .val (.long p1), .second, .val (.long b1), .second, .val (.long d), .second, .val (.int sel), .val (.long x1), .second, .val (.long x2), .second, .val (.long x3), .second, .val (.long x5), .second, .val (.long x7), .second, .val (.long x9), .second, .val (.ref oa), .val (.int kd), .val (.ref oc), .unset] [(.long x2)])) (fun _ kz => XS.lload X18.here hx rfl (hb hby at_190) rfl kz) ?_
              refine OGo.st (B := T18.setTop (mkF m 194 #[.val (.long r), .second, .val (.long p1), .second, .val (.long b1), .second, .val (.long d), .second, .val (.int sel), .val (.long x1), .second, .val (.long x2), .second, .val (.long x3), .second, .val (.long x5), .second, .val (.long x7), .second, .val (.long x9), .second, .val (.ref oa), .val (.int kd), .val (.ref oc), .unset] [(.long x7), (.long x2)])) (fun _ kz => XS.lload X18.here hx rfl (hb hby at_192) rfl kz) ?_
              refine OGo.st (B := T18.setTop (mkF m 195 #[.val (.long r), .second, .val (.long p1), .second, .val (.long b1), .second, .val (.long d), .second, .val (.int sel), .val (.long x1), .second, .val (.long x2), .second, .val (.long x3), .second, .val (.long x5), .second, .val (.long x7), .second, .val (.long x9), .second, .val (.ref oa), .val (.int kd), .val (.ref oc), .unset] [(.int (lcmpW x2 x7))])) (fun _ kz => XS.lcmp X18.here hx rfl (hb hby at_194) rfl kz) ?_
              by_cases m1 : x2 = x7
              · skip
                refine OGo.st (B := T18.setTop (mkF m 198 #[.val (.long r), .second, .val (.long p1), .second, .val (.long b1), .second, .val (.long d), .second, .val (.int sel), .val (.long x1), .second, .val (.long x2), .second, .val (.long x3), .second, .val (.long x5), .second, .val (.long x7), .second, .val (.long x9), .second, .val (.ref oa), .val (.int kd), .val (.ref oc), .unset] [])) (fun _ kz => XS.ifNo X18.here hx rfl (hb hby at_195) rfl ((if0 _ _).trans (teq ((lw_eq _ _).mpr m1)).2) kz) ?_
                refine OGo.st (B := T18.setTop (mkF m 200 #[.val (.long r), .second, .val (.long p1), .second, .val (.long b1), .second, .val (.long d), .second, .val (.int sel), .val (.long x1), .second, .val (.long x2), .second, .val (.long x3), .second, .val (.long x5), .second, .val (.long x7), .second, .val (.long x9), .second, .val (.ref oa), .val (.int kd), .val (.ref oc), .unset] [(.long x3)])) (fun _ kz => XS.lload X18.here hx rfl (hb hby at_198) rfl kz) ?_
                refine OGo.st (B := T18.setTop (mkF m 202 #[.val (.long r), .second, .val (.long p1), .second, .val (.long b1), .second, .val (.long d), .second, .val (.int sel), .val (.long x1), .second, .val (.long x2), .second, .val (.long x3), .second, .val (.long x5), .second, .val (.long x7), .second, .val (.long x9), .second, .val (.ref oa), .val (.int kd), .val (.ref oc), .unset] [(.long x9), (.long x3)])) (fun _ kz => XS.lload X18.here hx rfl (hb hby at_200) rfl kz) ?_
                refine OGo.st (B := T18.setTop (mkF m 203 #[.val (.long r), .second, .val (.long p1), .second, .val (.long b1), .second, .val (.long d), .second, .val (.int sel), .val (.long x1), .second, .val (.long x2), .second, .val (.long x3), .second, .val (.long x5), .second, .val (.long x7), .second, .val (.long x9), .second, .val (.ref oa), .val (.int kd), .val (.ref oc), .unset] [(.int (lcmpW x3 x9))])) (fun _ kz => XS.lcmp X18.here hx rfl (hb hby at_202) rfl kz) ?_
                by_cases m2 : x3 = x9
                · skip
                  refine OGo.st (B := T18.setTop (mkF m 206 #[.val (.long r), .second, .val (.long p1), .second, .val (.long b1), .second, .val (.long d), .second, .val (.int sel), .val (.long x1), .second, .val (.long x2), .second, .val (.long x3), .second, .val (.long x5), .second, .val (.long x7), .second, .val (.long x9), .second, .val (.ref oa), .val (.int kd), .val (.ref oc), .unset] [])) (fun _ kz => XS.ifNo X18.here hx rfl (hb hby at_203) rfl ((if0 _ _).trans (teq ((lw_eq _ _).mpr m2)).2) kz) ?_
                  refine OGo.st (B := T18.setTop (mkF m 207 #[.val (.long r), .second, .val (.long p1), .second, .val (.long b1), .second, .val (.long d), .second, .val (.int sel), .val (.long x1), .second, .val (.long x2), .second, .val (.long x3), .second, .val (.long x5), .second, .val (.long x7), .second, .val (.long x9), .second, .val (.ref oa), .val (.int kd), .val (.ref oc), .unset] [(.int (1 : Int32))])) (fun _ kz => XS.iconst X18.here hx rfl (hb hby at_206) kz) ?_
                  refine OGo.st (B := T18.setTop (mkF m 211 #[.val (.long r), .second, .val (.long p1), .second, .val (.long b1), .second, .val (.long d), .second, .val (.int sel), .val (.long x1), .second, .val (.long x2), .second, .val (.long x3), .second, .val (.long x5), .second, .val (.long x7), .second, .val (.long x9), .second, .val (.ref oa), .val (.int kd), .val (.ref oc), .unset] [(.int (1 : Int32))])) (fun _ kz => XS.goto X18.here hx rfl (pc0 := 207) (pc' := 211) rfl (hb hby at_207) (by decide) (by decide) kz) ?_
                  refine OGo.st (B := T18.setTop (mkF m 213 #[.val (.long r), .second, .val (.long p1), .second, .val (.long b1), .second, .val (.long d), .second, .val (.int sel), .val (.long x1), .second, .val (.long x2), .second, .val (.long x3), .second, .val (.long x5), .second, .val (.long x7), .second, .val (.long x9), .second, .val (.ref oa), .val (.int kd), .val (.ref oc), .val (.int (1 : Int32))] [])) (fun _ kz => XS.istore X18.here hx rfl (hb hby at_211) rfl (l' := #[.val (.long r), .second, .val (.long p1), .second, .val (.long b1), .second, .val (.long d), .second, .val (.int sel), .val (.long x1), .second, .val (.long x2), .second, .val (.long x3), .second, .val (.long x5), .second, .val (.long x7), .second, .val (.long x9), .second, .val (.ref oa), .val (.int kd), .val (.ref oc), .val (.int (1 : Int32))]) rfl kz) ?_
                  refine OGo.st (B := T18.setTop (mkF m 215 #[.val (.long r), .second, .val (.long p1), .second, .val (.long b1), .second, .val (.long d), .second, .val (.int sel), .val (.long x1), .second, .val (.long x2), .second, .val (.long x3), .second, .val (.long x5), .second, .val (.long x7), .second, .val (.long x9), .second, .val (.ref oa), .val (.int kd), .val (.ref oc), .val (.int (1 : Int32))] [(.ref oa)])) (fun _ kz => XS.aload X18.here hx rfl (hb hby at_213) rfl rfl kz) ?_
                  refine OGo.st (B := T18.setTop (mkF m 217 #[.val (.long r), .second, .val (.long p1), .second, .val (.long b1), .second, .val (.long d), .second, .val (.int sel), .val (.long x1), .second, .val (.long x2), .second, .val (.long x3), .second, .val (.long x5), .second, .val (.long x7), .second, .val (.long x9), .second, .val (.ref oa), .val (.int kd), .val (.ref oc), .val (.int (1 : Int32))] [(.ref oc), (.ref oa)])) (fun _ kz => XS.aload X18.here hx rfl (hb hby at_215) rfl rfl kz) ?_
                  obtain ⟨v19, T19, L19, X19, hQ19, st19⟩ := (rm50y l Z a0 hw oa oc x1 x2 x3 x5 x7 x9 (1 : Int32) T18.heap n0 Y18_0 ((Y11_1.ext E17).keep J18 (ninS ne_oa_oc nin0)) ((Y11_2.ext E17).keep J18 (ninS ne_oa_oc nin0)) ((Y11_3.ext E17).keep J18 (ninS ne_oa_oc nin0)) Y18_1 Y18_2 Y18_3 (if_pos ⟨m0.symm, m1.symm, m2.symm⟩)).virt (W := 0) X18 hx hZ hown (hw _ (List.mem_of_getElem? (i := 102) rfl)) (hw _ (List.mem_of_getElem? (i := 103) rfl)) (nf_sel hZ (hw _ (List.mem_of_getElem? (i := 105) rfl))) (hw _ (List.mem_of_getElem? (i := 105) rfl)) (hw _ (List.mem_of_getElem? (i := 104) rfl)) (hw _ (List.mem_of_getElem? (i := 18) rfl)) (hw _ (List.mem_of_getElem? (i := 106) rfl)) (by decide) (by decide) (by decide) rfl (by decide) (by decide) (g := (mkF m 217 #[.val (.long r), .second, .val (.long p1), .second, .val (.long b1), .second, .val (.long d), .second, .val (.int sel), .val (.long x1), .second, .val (.long x2), .second, .val (.long x3), .second, .val (.long x5), .second, .val (.long x7), .second, .val (.long x9), .second, .val (.ref oa), .val (.int kd), .val (.ref oc), .val (.int (1 : Int32))] [(.ref oc), (.ref oa)])) rfl (by rw [hml]; rfl) ((Y11_0.ext E17).keep J18) (argsL := [(.ref oc)]) (rest := []) rfl (lenOf pd_10 rfl) rfl (by show 2 * 0 + _ ≤ _; exact Nat.le_of_eq rfl) (hb hby at_217)
                  obtain ⟨rfl, N19q, e19⟩ := hQ19
                  have N19 := Fr.app N18 N19q
                  refine OGo.st (B := T19.setTop (mkF m 220 #[.val (.long r), .second, .val (.long p1), .second, .val (.long b1), .second, .val (.long d), .second, .val (.int sel), .val (.long x1), .second, .val (.long x2), .second, .val (.long x3), .second, .val (.long x5), .second, .val (.long x7), .second, .val (.long x9), .second, .val (.ref oa), .val (.int kd), .val (.ref oc), .val (.int (1 : Int32))] [(.int (1 : Int32))])) st19 ?_
                  refine OGo.st (B := T19.setTop (mkF m 222 #[.val (.long r), .second, .val (.long p1), .second, .val (.long b1), .second, .val (.long d), .second, .val (.int sel), .val (.long x1), .second, .val (.long x2), .second, .val (.long x3), .second, .val (.long x5), .second, .val (.long x7), .second, .val (.long x9), .second, .val (.ref oa), .val (.int kd), .val (.ref oc), .val (.int (1 : Int32))] [(.int (1 : Int32)), (.int (1 : Int32))])) (fun _ kz => XS.iload X19.here hx rfl (hb hby at_220) rfl kz) ?_
                  refine OGo.st (B := T19.setTop (mkF m 225 #[.val (.long r), .second, .val (.long p1), .second, .val (.long b1), .second, .val (.long d), .second, .val (.int sel), .val (.long x1), .second, .val (.long x2), .second, .val (.long x3), .second, .val (.long x5), .second, .val (.long x7), .second, .val (.long x9), .second, .val (.ref oa), .val (.int kd), .val (.ref oc), .val (.int (1 : Int32))] [])) (fun _ kz => XS.icmpNo X19.here hx rfl (hb hby at_222) rfl (by decide) kz) ?_
                  refine OGo.st (B := T19.setTop (mkF m 227 #[.val (.long r), .second, .val (.long p1), .second, .val (.long b1), .second, .val (.long d), .second, .val (.int sel), .val (.long x1), .second, .val (.long x2), .second, .val (.long x3), .second, .val (.long x5), .second, .val (.long x7), .second, .val (.long x9), .second, .val (.ref oa), .val (.int kd), .val (.ref oc), .val (.int (1 : Int32))] [(.ref oc)])) (fun _ kz => XS.aload X19.here hx rfl (hb hby at_225) rfl rfl kz) ?_
                  refine OGo.st (B := T19.setTop (mkF m 229 #[.val (.long r), .second, .val (.long p1), .second, .val (.long b1), .second, .val (.long d), .second, .val (.int sel), .val (.long x1), .second, .val (.long x2), .second, .val (.long x3), .second, .val (.long x5), .second, .val (.long x7), .second, .val (.long x9), .second, .val (.ref oa), .val (.int kd), .val (.ref oc), .val (.int (1 : Int32))] [(.ref oa), (.ref oc)])) (fun _ kz => XS.aload X19.here hx rfl (hb hby at_227) rfl rfl kz) ?_
                  obtain ⟨v20, T20, L20, X20, hQ20, st20⟩ := (rm50y l Z a0 hw oc oa x5 x7 x9 x1 x2 x3 (1 : Int32) T18.heap n0 ((Y11_0.ext E17).keep J18) Y18_1 Y18_2 Y18_3 ((Y11_1.ext E17).keep J18 (ninS ne_oa_oc nin0)) ((Y11_2.ext E17).keep J18 (ninS ne_oa_oc nin0)) ((Y11_3.ext E17).keep J18 (ninS ne_oa_oc nin0)) (if_pos ⟨m0, m1, m2⟩)).virt (W := 0) X19 hx hZ hown (hw _ (List.mem_of_getElem? (i := 102) rfl)) (hw _ (List.mem_of_getElem? (i := 103) rfl)) (nf_sel hZ (hw _ (List.mem_of_getElem? (i := 105) rfl))) (hw _ (List.mem_of_getElem? (i := 105) rfl)) (hw _ (List.mem_of_getElem? (i := 104) rfl)) (hw _ (List.mem_of_getElem? (i := 18) rfl)) (hw _ (List.mem_of_getElem? (i := 106) rfl)) (by decide) (by decide) (by decide) e19 (by decide) (by decide) (g := (mkF m 229 #[.val (.long r), .second, .val (.long p1), .second, .val (.long b1), .second, .val (.long d), .second, .val (.int sel), .val (.long x1), .second, .val (.long x2), .second, .val (.long x3), .second, .val (.long x5), .second, .val (.long x7), .second, .val (.long x9), .second, .val (.ref oa), .val (.int kd), .val (.ref oc), .val (.int (1 : Int32))] [(.ref oa), (.ref oc)])) rfl (by rw [hml]; rfl) Y18_0 (argsL := [(.ref oa)]) (rest := []) rfl (lenOf pd_10 rfl) rfl (by show 2 * 0 + _ ≤ _; exact Nat.le_of_eq rfl) (hb hby at_229)
                  obtain ⟨rfl, N20q, e20⟩ := hQ20
                  have N20 := Fr.app N19 N20q
                  refine OGo.st (B := T20.setTop (mkF m 232 #[.val (.long r), .second, .val (.long p1), .second, .val (.long b1), .second, .val (.long d), .second, .val (.int sel), .val (.long x1), .second, .val (.long x2), .second, .val (.long x3), .second, .val (.long x5), .second, .val (.long x7), .second, .val (.long x9), .second, .val (.ref oa), .val (.int kd), .val (.ref oc), .val (.int (1 : Int32))] [(.int (1 : Int32))])) st20 ?_
                  refine OGo.st (B := T20.setTop (mkF m 234 #[.val (.long r), .second, .val (.long p1), .second, .val (.long b1), .second, .val (.long d), .second, .val (.int sel), .val (.long x1), .second, .val (.long x2), .second, .val (.long x3), .second, .val (.long x5), .second, .val (.long x7), .second, .val (.long x9), .second, .val (.ref oa), .val (.int kd), .val (.ref oc), .val (.int (1 : Int32))] [(.int (1 : Int32)), (.int (1 : Int32))])) (fun _ kz => XS.iload X20.here hx rfl (hb hby at_232) rfl kz) ?_
                  refine OGo.st (B := T20.setTop (mkF m 237 #[.val (.long r), .second, .val (.long p1), .second, .val (.long b1), .second, .val (.long d), .second, .val (.int sel), .val (.long x1), .second, .val (.long x2), .second, .val (.long x3), .second, .val (.long x5), .second, .val (.long x7), .second, .val (.long x9), .second, .val (.ref oa), .val (.int kd), .val (.ref oc), .val (.int (1 : Int32))] [])) (fun _ kz => XS.icmpNo X20.here hx rfl (hb hby at_234) rfl (by decide) kz) ?_
                  refine OGo.st (B := T20.setTop (mkF m 239 #[.val (.long r), .second, .val (.long p1), .second, .val (.long b1), .second, .val (.long d), .second, .val (.int sel), .val (.long x1), .second, .val (.long x2), .second, .val (.long x3), .second, .val (.long x5), .second, .val (.long x7), .second, .val (.long x9), .second, .val (.ref oa), .val (.int kd), .val (.ref oc), .val (.int (1 : Int32))] [(.ref oa)])) (fun _ kz => XS.aload X20.here hx rfl (hb hby at_237) rfl rfl kz) ?_
                  refine OGo.st (B := T20.setTop (mkF m 241 #[.val (.long r), .second, .val (.long p1), .second, .val (.long b1), .second, .val (.long d), .second, .val (.int sel), .val (.long x1), .second, .val (.long x2), .second, .val (.long x3), .second, .val (.long x5), .second, .val (.long x7), .second, .val (.long x9), .second, .val (.ref oa), .val (.int kd), .val (.ref oc), .val (.int (1 : Int32))] [(.ref oa), (.ref oa)])) (fun _ kz => XS.aload X20.here hx rfl (hb hby at_239) rfl rfl kz) ?_
                  obtain ⟨v21, T21, L21, X21, hQ21, st21⟩ := (rm50y l Z a0 hw oa oa x1 x2 x3 x1 x2 x3 (1 : Int32) T18.heap n0 ((Y11_0.ext E17).keep J18) ((Y11_1.ext E17).keep J18 (ninS ne_oa_oc nin0)) ((Y11_2.ext E17).keep J18 (ninS ne_oa_oc nin0)) ((Y11_3.ext E17).keep J18 (ninS ne_oa_oc nin0)) ((Y11_1.ext E17).keep J18 (ninS ne_oa_oc nin0)) ((Y11_2.ext E17).keep J18 (ninS ne_oa_oc nin0)) ((Y11_3.ext E17).keep J18 (ninS ne_oa_oc nin0)) (if_pos ⟨rfl, rfl, rfl⟩)).virt (W := 0) X20 hx hZ hown (hw _ (List.mem_of_getElem? (i := 102) rfl)) (hw _ (List.mem_of_getElem? (i := 103) rfl)) (nf_sel hZ (hw _ (List.mem_of_getElem? (i := 105) rfl))) (hw _ (List.mem_of_getElem? (i := 105) rfl)) (hw _ (List.mem_of_getElem? (i := 104) rfl)) (hw _ (List.mem_of_getElem? (i := 18) rfl)) (hw _ (List.mem_of_getElem? (i := 106) rfl)) (by decide) (by decide) (by decide) e20 (by decide) (by decide) (g := (mkF m 241 #[.val (.long r), .second, .val (.long p1), .second, .val (.long b1), .second, .val (.long d), .second, .val (.int sel), .val (.long x1), .second, .val (.long x2), .second, .val (.long x3), .second, .val (.long x5), .second, .val (.long x7), .second, .val (.long x9), .second, .val (.ref oa), .val (.int kd), .val (.ref oc), .val (.int (1 : Int32))] [(.ref oa), (.ref oa)])) rfl (by rw [hml]; rfl) ((Y11_0.ext E17).keep J18) (argsL := [(.ref oa)]) (rest := []) rfl (lenOf pd_10 rfl) rfl (by show 2 * 0 + _ ≤ _; exact Nat.le_of_eq rfl) (hb hby at_241)
                  obtain ⟨rfl, N21q, e21⟩ := hQ21
                  have N21 := Fr.app N20 N21q
                  refine OGo.st (B := T21.setTop (mkF m 244 #[.val (.long r), .second, .val (.long p1), .second, .val (.long b1), .second, .val (.long d), .second, .val (.int sel), .val (.long x1), .second, .val (.long x2), .second, .val (.long x3), .second, .val (.long x5), .second, .val (.long x7), .second, .val (.long x9), .second, .val (.ref oa), .val (.int kd), .val (.ref oc), .val (.int (1 : Int32))] [(.int (1 : Int32))])) st21 ?_
                  refine OGo.st (B := T21.setTop (mkF m 247 #[.val (.long r), .second, .val (.long p1), .second, .val (.long b1), .second, .val (.long d), .second, .val (.int sel), .val (.long x1), .second, .val (.long x2), .second, .val (.long x3), .second, .val (.long x5), .second, .val (.long x7), .second, .val (.long x9), .second, .val (.ref oa), .val (.int kd), .val (.ref oc), .val (.int (1 : Int32))] [])) (fun _ kz => XS.ifNo X21.here hx rfl (hb hby at_244) rfl (by decide) kz) ?_
                  refine OGo.st (B := T21.setTop (mkF m 248 #[.val (.long r), .second, .val (.long p1), .second, .val (.long b1), .second, .val (.long d), .second, .val (.int sel), .val (.long x1), .second, .val (.long x2), .second, .val (.long x3), .second, .val (.long x5), .second, .val (.long x7), .second, .val (.long x9), .second, .val (.ref oa), .val (.int kd), .val (.ref oc), .val (.int (1 : Int32))] [(.int (1 : Int32))])) (fun _ kz => XS.iconst X21.here hx rfl (hb hby at_247) kz) ?_
                  refine OGo.st (B := T21.setTop (mkF m 252 #[.val (.long r), .second, .val (.long p1), .second, .val (.long b1), .second, .val (.long d), .second, .val (.int sel), .val (.long x1), .second, .val (.long x2), .second, .val (.long x3), .second, .val (.long x5), .second, .val (.long x7), .second, .val (.long x9), .second, .val (.ref oa), .val (.int kd), .val (.ref oc), .val (.int (1 : Int32))] [(.int (1 : Int32))])) (fun _ kz => XS.goto X21.here hx rfl (pc0 := 248) (pc' := 252) rfl (hb hby at_248) (by decide) (by decide) kz) ?_
                  exact own_retZ X21 hx hret hlk (hb hby at_252) ⟨rfl, N21⟩ (by decide) (by decide)
                · skip
                  refine OGo.st (B := T18.setTop (mkF m 210 #[.val (.long r), .second, .val (.long p1), .second, .val (.long b1), .second, .val (.long d), .second, .val (.int sel), .val (.long x1), .second, .val (.long x2), .second, .val (.long x3), .second, .val (.long x5), .second, .val (.long x7), .second, .val (.long x9), .second, .val (.ref oa), .val (.int kd), .val (.ref oc), .unset] [])) (fun _ kz => XS.ifYes X18.here hx rfl (pc0 := 203) (pc' := 210) rfl (hb hby at_203) rfl ((if0 _ _).trans (feq (mt (lw_eq _ _).mp m2)).2) (by decide) (by decide) kz) ?_
                  refine OGo.st (B := T18.setTop (mkF m 211 #[.val (.long r), .second, .val (.long p1), .second, .val (.long b1), .second, .val (.long d), .second, .val (.int sel), .val (.long x1), .second, .val (.long x2), .second, .val (.long x3), .second, .val (.long x5), .second, .val (.long x7), .second, .val (.long x9), .second, .val (.ref oa), .val (.int kd), .val (.ref oc), .unset] [(.int (0 : Int32))])) (fun _ kz => XS.iconst X18.here hx rfl (hb hby at_210) kz) ?_
                  refine OGo.st (B := T18.setTop (mkF m 213 #[.val (.long r), .second, .val (.long p1), .second, .val (.long b1), .second, .val (.long d), .second, .val (.int sel), .val (.long x1), .second, .val (.long x2), .second, .val (.long x3), .second, .val (.long x5), .second, .val (.long x7), .second, .val (.long x9), .second, .val (.ref oa), .val (.int kd), .val (.ref oc), .val (.int (0 : Int32))] [])) (fun _ kz => XS.istore X18.here hx rfl (hb hby at_211) rfl (l' := #[.val (.long r), .second, .val (.long p1), .second, .val (.long b1), .second, .val (.long d), .second, .val (.int sel), .val (.long x1), .second, .val (.long x2), .second, .val (.long x3), .second, .val (.long x5), .second, .val (.long x7), .second, .val (.long x9), .second, .val (.ref oa), .val (.int kd), .val (.ref oc), .val (.int (0 : Int32))]) rfl kz) ?_
                  refine OGo.st (B := T18.setTop (mkF m 215 #[.val (.long r), .second, .val (.long p1), .second, .val (.long b1), .second, .val (.long d), .second, .val (.int sel), .val (.long x1), .second, .val (.long x2), .second, .val (.long x3), .second, .val (.long x5), .second, .val (.long x7), .second, .val (.long x9), .second, .val (.ref oa), .val (.int kd), .val (.ref oc), .val (.int (0 : Int32))] [(.ref oa)])) (fun _ kz => XS.aload X18.here hx rfl (hb hby at_213) rfl rfl kz) ?_
                  refine OGo.st (B := T18.setTop (mkF m 217 #[.val (.long r), .second, .val (.long p1), .second, .val (.long b1), .second, .val (.long d), .second, .val (.int sel), .val (.long x1), .second, .val (.long x2), .second, .val (.long x3), .second, .val (.long x5), .second, .val (.long x7), .second, .val (.long x9), .second, .val (.ref oa), .val (.int kd), .val (.ref oc), .val (.int (0 : Int32))] [(.ref oc), (.ref oa)])) (fun _ kz => XS.aload X18.here hx rfl (hb hby at_215) rfl rfl kz) ?_
                  obtain ⟨v22, T22, L22, X22, hQ22, st22⟩ := (rm50y l Z a0 hw oa oc x1 x2 x3 x5 x7 x9 (0 : Int32) T18.heap n0 Y18_0 ((Y11_1.ext E17).keep J18 (ninS ne_oa_oc nin0)) ((Y11_2.ext E17).keep J18 (ninS ne_oa_oc nin0)) ((Y11_3.ext E17).keep J18 (ninS ne_oa_oc nin0)) Y18_1 Y18_2 Y18_3 (if_neg (fun z => m2 z.2.2.symm))).virt (W := 0) X18 hx hZ hown (hw _ (List.mem_of_getElem? (i := 102) rfl)) (hw _ (List.mem_of_getElem? (i := 103) rfl)) (nf_sel hZ (hw _ (List.mem_of_getElem? (i := 105) rfl))) (hw _ (List.mem_of_getElem? (i := 105) rfl)) (hw _ (List.mem_of_getElem? (i := 104) rfl)) (hw _ (List.mem_of_getElem? (i := 18) rfl)) (hw _ (List.mem_of_getElem? (i := 106) rfl)) (by decide) (by decide) (by decide) rfl (by decide) (by decide) (g := (mkF m 217 #[.val (.long r), .second, .val (.long p1), .second, .val (.long b1), .second, .val (.long d), .second, .val (.int sel), .val (.long x1), .second, .val (.long x2), .second, .val (.long x3), .second, .val (.long x5), .second, .val (.long x7), .second, .val (.long x9), .second, .val (.ref oa), .val (.int kd), .val (.ref oc), .val (.int (0 : Int32))] [(.ref oc), (.ref oa)])) rfl (by rw [hml]; rfl) ((Y11_0.ext E17).keep J18) (argsL := [(.ref oc)]) (rest := []) rfl (lenOf pd_10 rfl) rfl (by show 2 * 0 + _ ≤ _; exact Nat.le_of_eq rfl) (hb hby at_217)
                  obtain ⟨rfl, N22q, e22⟩ := hQ22
                  have N22 := Fr.app N18 N22q
                  refine OGo.st (B := T22.setTop (mkF m 220 #[.val (.long r), .second, .val (.long p1), .second, .val (.long b1), .second, .val (.long d), .second, .val (.int sel), .val (.long x1), .second, .val (.long x2), .second, .val (.long x3), .second, .val (.long x5), .second, .val (.long x7), .second, .val (.long x9), .second, .val (.ref oa), .val (.int kd), .val (.ref oc), .val (.int (0 : Int32))] [(.int (0 : Int32))])) st22 ?_
                  refine OGo.st (B := T22.setTop (mkF m 222 #[.val (.long r), .second, .val (.long p1), .second, .val (.long b1), .second, .val (.long d), .second, .val (.int sel), .val (.long x1), .second, .val (.long x2), .second, .val (.long x3), .second, .val (.long x5), .second, .val (.long x7), .second, .val (.long x9), .second, .val (.ref oa), .val (.int kd), .val (.ref oc), .val (.int (0 : Int32))] [(.int (0 : Int32)), (.int (0 : Int32))])) (fun _ kz => XS.iload X22.here hx rfl (hb hby at_220) rfl kz) ?_
                  refine OGo.st (B := T22.setTop (mkF m 225 #[.val (.long r), .second, .val (.long p1), .second, .val (.long b1), .second, .val (.long d), .second, .val (.int sel), .val (.long x1), .second, .val (.long x2), .second, .val (.long x3), .second, .val (.long x5), .second, .val (.long x7), .second, .val (.long x9), .second, .val (.ref oa), .val (.int kd), .val (.ref oc), .val (.int (0 : Int32))] [])) (fun _ kz => XS.icmpNo X22.here hx rfl (hb hby at_222) rfl (by decide) kz) ?_
                  refine OGo.st (B := T22.setTop (mkF m 227 #[.val (.long r), .second, .val (.long p1), .second, .val (.long b1), .second, .val (.long d), .second, .val (.int sel), .val (.long x1), .second, .val (.long x2), .second, .val (.long x3), .second, .val (.long x5), .second, .val (.long x7), .second, .val (.long x9), .second, .val (.ref oa), .val (.int kd), .val (.ref oc), .val (.int (0 : Int32))] [(.ref oc)])) (fun _ kz => XS.aload X22.here hx rfl (hb hby at_225) rfl rfl kz) ?_
                  refine OGo.st (B := T22.setTop (mkF m 229 #[.val (.long r), .second, .val (.long p1), .second, .val (.long b1), .second, .val (.long d), .second, .val (.int sel), .val (.long x1), .second, .val (.long x2), .second, .val (.long x3), .second, .val (.long x5), .second, .val (.long x7), .second, .val (.long x9), .second, .val (.ref oa), .val (.int kd), .val (.ref oc), .val (.int (0 : Int32))] [(.ref oa), (.ref oc)])) (fun _ kz => XS.aload X22.here hx rfl (hb hby at_227) rfl rfl kz) ?_
                  obtain ⟨v23, T23, L23, X23, hQ23, st23⟩ := (rm50y l Z a0 hw oc oa x5 x7 x9 x1 x2 x3 (0 : Int32) T18.heap n0 ((Y11_0.ext E17).keep J18) Y18_1 Y18_2 Y18_3 ((Y11_1.ext E17).keep J18 (ninS ne_oa_oc nin0)) ((Y11_2.ext E17).keep J18 (ninS ne_oa_oc nin0)) ((Y11_3.ext E17).keep J18 (ninS ne_oa_oc nin0)) (if_neg (fun z => m2 z.2.2))).virt (W := 0) X22 hx hZ hown (hw _ (List.mem_of_getElem? (i := 102) rfl)) (hw _ (List.mem_of_getElem? (i := 103) rfl)) (nf_sel hZ (hw _ (List.mem_of_getElem? (i := 105) rfl))) (hw _ (List.mem_of_getElem? (i := 105) rfl)) (hw _ (List.mem_of_getElem? (i := 104) rfl)) (hw _ (List.mem_of_getElem? (i := 18) rfl)) (hw _ (List.mem_of_getElem? (i := 106) rfl)) (by decide) (by decide) (by decide) e22 (by decide) (by decide) (g := (mkF m 229 #[.val (.long r), .second, .val (.long p1), .second, .val (.long b1), .second, .val (.long d), .second, .val (.int sel), .val (.long x1), .second, .val (.long x2), .second, .val (.long x3), .second, .val (.long x5), .second, .val (.long x7), .second, .val (.long x9), .second, .val (.ref oa), .val (.int kd), .val (.ref oc), .val (.int (0 : Int32))] [(.ref oa), (.ref oc)])) rfl (by rw [hml]; rfl) Y18_0 (argsL := [(.ref oa)]) (rest := []) rfl (lenOf pd_10 rfl) rfl (by show 2 * 0 + _ ≤ _; exact Nat.le_of_eq rfl) (hb hby at_229)
                  obtain ⟨rfl, N23q, e23⟩ := hQ23
                  have N23 := Fr.app N22 N23q
                  refine OGo.st (B := T23.setTop (mkF m 232 #[.val (.long r), .second, .val (.long p1), .second, .val (.long b1), .second, .val (.long d), .second, .val (.int sel), .val (.long x1), .second, .val (.long x2), .second, .val (.long x3), .second, .val (.long x5), .second, .val (.long x7), .second, .val (.long x9), .second, .val (.ref oa), .val (.int kd), .val (.ref oc), .val (.int (0 : Int32))] [(.int (0 : Int32))])) st23 ?_
                  refine OGo.st (B := T23.setTop (mkF m 234 #[.val (.long r), .second, .val (.long p1), .second, .val (.long b1), .second, .val (.long d), .second, .val (.int sel), .val (.long x1), .second, .val (.long x2), .second, .val (.long x3), .second, .val (.long x5), .second, .val (.long x7), .second, .val (.long x9), .second, .val (.ref oa), .val (.int kd), .val (.ref oc), .val (.int (0 : Int32))] [(.int (0 : Int32)), (.int (0 : Int32))])) (fun _ kz => XS.iload X23.here hx rfl (hb hby at_232) rfl kz) ?_
                  refine OGo.st (B := T23.setTop (mkF m 237 #[.val (.long r), .second, .val (.long p1), .second, .val (.long b1), .second, .val (.long d), .second, .val (.int sel), .val (.long x1), .second, .val (.long x2), .second, .val (.long x3), .second, .val (.long x5), .second, .val (.long x7), .second, .val (.long x9), .second, .val (.ref oa), .val (.int kd), .val (.ref oc), .val (.int (0 : Int32))] [])) (fun _ kz => XS.icmpNo X23.here hx rfl (hb hby at_234) rfl (by decide) kz) ?_
                  refine OGo.st (B := T23.setTop (mkF m 239 #[.val (.long r), .second, .val (.long p1), .second, .val (.long b1), .second, .val (.long d), .second, .val (.int sel), .val (.long x1), .second, .val (.long x2), .second, .val (.long x3), .second, .val (.long x5), .second, .val (.long x7), .second, .val (.long x9), .second, .val (.ref oa), .val (.int kd), .val (.ref oc), .val (.int (0 : Int32))] [(.ref oa)])) (fun _ kz => XS.aload X23.here hx rfl (hb hby at_237) rfl rfl kz) ?_
                  refine OGo.st (B := T23.setTop (mkF m 241 #[.val (.long r), .second, .val (.long p1), .second, .val (.long b1), .second, .val (.long d), .second, .val (.int sel), .val (.long x1), .second, .val (.long x2), .second, .val (.long x3), .second, .val (.long x5), .second, .val (.long x7), .second, .val (.long x9), .second, .val (.ref oa), .val (.int kd), .val (.ref oc), .val (.int (0 : Int32))] [(.ref oa), (.ref oa)])) (fun _ kz => XS.aload X23.here hx rfl (hb hby at_239) rfl rfl kz) ?_
                  obtain ⟨v24, T24, L24, X24, hQ24, st24⟩ := (rm50y l Z a0 hw oa oa x1 x2 x3 x1 x2 x3 (1 : Int32) T18.heap n0 ((Y11_0.ext E17).keep J18) ((Y11_1.ext E17).keep J18 (ninS ne_oa_oc nin0)) ((Y11_2.ext E17).keep J18 (ninS ne_oa_oc nin0)) ((Y11_3.ext E17).keep J18 (ninS ne_oa_oc nin0)) ((Y11_1.ext E17).keep J18 (ninS ne_oa_oc nin0)) ((Y11_2.ext E17).keep J18 (ninS ne_oa_oc nin0)) ((Y11_3.ext E17).keep J18 (ninS ne_oa_oc nin0)) (if_pos ⟨rfl, rfl, rfl⟩)).virt (W := 0) X23 hx hZ hown (hw _ (List.mem_of_getElem? (i := 102) rfl)) (hw _ (List.mem_of_getElem? (i := 103) rfl)) (nf_sel hZ (hw _ (List.mem_of_getElem? (i := 105) rfl))) (hw _ (List.mem_of_getElem? (i := 105) rfl)) (hw _ (List.mem_of_getElem? (i := 104) rfl)) (hw _ (List.mem_of_getElem? (i := 18) rfl)) (hw _ (List.mem_of_getElem? (i := 106) rfl)) (by decide) (by decide) (by decide) e23 (by decide) (by decide) (g := (mkF m 241 #[.val (.long r), .second, .val (.long p1), .second, .val (.long b1), .second, .val (.long d), .second, .val (.int sel), .val (.long x1), .second, .val (.long x2), .second, .val (.long x3), .second, .val (.long x5), .second, .val (.long x7), .second, .val (.long x9), .second, .val (.ref oa), .val (.int kd), .val (.ref oc), .val (.int (0 : Int32))] [(.ref oa), (.ref oa)])) rfl (by rw [hml]; rfl) ((Y11_0.ext E17).keep J18) (argsL := [(.ref oa)]) (rest := []) rfl (lenOf pd_10 rfl) rfl (by show 2 * 0 + _ ≤ _; exact Nat.le_of_eq rfl) (hb hby at_241)
                  obtain ⟨rfl, N24q, e24⟩ := hQ24
                  have N24 := Fr.app N23 N24q
                  refine OGo.st (B := T24.setTop (mkF m 244 #[.val (.long r), .second, .val (.long p1), .second, .val (.long b1), .second, .val (.long d), .second, .val (.int sel), .val (.long x1), .second, .val (.long x2), .second, .val (.long x3), .second, .val (.long x5), .second, .val (.long x7), .second, .val (.long x9), .second, .val (.ref oa), .val (.int kd), .val (.ref oc), .val (.int (0 : Int32))] [(.int (1 : Int32))])) st24 ?_
                  refine OGo.st (B := T24.setTop (mkF m 247 #[.val (.long r), .second, .val (.long p1), .second, .val (.long b1), .second, .val (.long d), .second, .val (.int sel), .val (.long x1), .second, .val (.long x2), .second, .val (.long x3), .second, .val (.long x5), .second, .val (.long x7), .second, .val (.long x9), .second, .val (.ref oa), .val (.int kd), .val (.ref oc), .val (.int (0 : Int32))] [])) (fun _ kz => XS.ifNo X24.here hx rfl (hb hby at_244) rfl (by decide) kz) ?_
                  refine OGo.st (B := T24.setTop (mkF m 248 #[.val (.long r), .second, .val (.long p1), .second, .val (.long b1), .second, .val (.long d), .second, .val (.int sel), .val (.long x1), .second, .val (.long x2), .second, .val (.long x3), .second, .val (.long x5), .second, .val (.long x7), .second, .val (.long x9), .second, .val (.ref oa), .val (.int kd), .val (.ref oc), .val (.int (0 : Int32))] [(.int (1 : Int32))])) (fun _ kz => XS.iconst X24.here hx rfl (hb hby at_247) kz) ?_
                  refine OGo.st (B := T24.setTop (mkF m 252 #[.val (.long r), .second, .val (.long p1), .second, .val (.long b1), .second, .val (.long d), .second, .val (.int sel), .val (.long x1), .second, .val (.long x2), .second, .val (.long x3), .second, .val (.long x5), .second, .val (.long x7), .second, .val (.long x9), .second, .val (.ref oa), .val (.int kd), .val (.ref oc), .val (.int (0 : Int32))] [(.int (1 : Int32))])) (fun _ kz => XS.goto X24.here hx rfl (pc0 := 248) (pc' := 252) rfl (hb hby at_248) (by decide) (by decide) kz) ?_
                  exact own_retZ X24 hx hret hlk (hb hby at_252) ⟨rfl, N24⟩ (by decide) (by decide)
              · skip
                refine OGo.st (B := T18.setTop (mkF m 210 #[.val (.long r), .second, .val (.long p1), .second, .val (.long b1), .second, .val (.long d), .second, .val (.int sel), .val (.long x1), .second, .val (.long x2), .second, .val (.long x3), .second, .val (.long x5), .second, .val (.long x7), .second, .val (.long x9), .second, .val (.ref oa), .val (.int kd), .val (.ref oc), .unset] [])) (fun _ kz => XS.ifYes X18.here hx rfl (pc0 := 195) (pc' := 210) rfl (hb hby at_195) rfl ((if0 _ _).trans (feq (mt (lw_eq _ _).mp m1)).2) (by decide) (by decide) kz) ?_
                refine OGo.st (B := T18.setTop (mkF m 211 #[.val (.long r), .second, .val (.long p1), .second, .val (.long b1), .second, .val (.long d), .second, .val (.int sel), .val (.long x1), .second, .val (.long x2), .second, .val (.long x3), .second, .val (.long x5), .second, .val (.long x7), .second, .val (.long x9), .second, .val (.ref oa), .val (.int kd), .val (.ref oc), .unset] [(.int (0 : Int32))])) (fun _ kz => XS.iconst X18.here hx rfl (hb hby at_210) kz) ?_
                refine OGo.st (B := T18.setTop (mkF m 213 #[.val (.long r), .second, .val (.long p1), .second, .val (.long b1), .second, .val (.long d), .second, .val (.int sel), .val (.long x1), .second, .val (.long x2), .second, .val (.long x3), .second, .val (.long x5), .second, .val (.long x7), .second, .val (.long x9), .second, .val (.ref oa), .val (.int kd), .val (.ref oc), .val (.int (0 : Int32))] [])) (fun _ kz => XS.istore X18.here hx rfl (hb hby at_211) rfl (l' := #[.val (.long r), .second, .val (.long p1), .second, .val (.long b1), .second, .val (.long d), .second, .val (.int sel), .val (.long x1), .second, .val (.long x2), .second, .val (.long x3), .second, .val (.long x5), .second, .val (.long x7), .second, .val (.long x9), .second, .val (.ref oa), .val (.int kd), .val (.ref oc), .val (.int (0 : Int32))]) rfl kz) ?_
                refine OGo.st (B := T18.setTop (mkF m 215 #[.val (.long r), .second, .val (.long p1), .second, .val (.long b1), .second, .val (.long d), .second, .val (.int sel), .val (.long x1), .second, .val (.long x2), .second, .val (.long x3), .second, .val (.long x5), .second, .val (.long x7), .second, .val (.long x9), .second, .val (.ref oa), .val (.int kd), .val (.ref oc), .val (.int (0 : Int32))] [(.ref oa)])) (fun _ kz => XS.aload X18.here hx rfl (hb hby at_213) rfl rfl kz) ?_
                refine OGo.st (B := T18.setTop (mkF m 217 #[.val (.long r), .second, .val (.long p1), .second, .val (.long b1), .second, .val (.long d), .second, .val (.int sel), .val (.long x1), .second, .val (.long x2), .second, .val (.long x3), .second, .val (.long x5), .second, .val (.long x7), .second, .val (.long x9), .second, .val (.ref oa), .val (.int kd), .val (.ref oc), .val (.int (0 : Int32))] [(.ref oc), (.ref oa)])) (fun _ kz => XS.aload X18.here hx rfl (hb hby at_215) rfl rfl kz) ?_
                obtain ⟨v25, T25, L25, X25, hQ25, st25⟩ := (rm50y l Z a0 hw oa oc x1 x2 x3 x5 x7 x9 (0 : Int32) T18.heap n0 Y18_0 ((Y11_1.ext E17).keep J18 (ninS ne_oa_oc nin0)) ((Y11_2.ext E17).keep J18 (ninS ne_oa_oc nin0)) ((Y11_3.ext E17).keep J18 (ninS ne_oa_oc nin0)) Y18_1 Y18_2 Y18_3 (if_neg (fun z => m1 z.2.1.symm))).virt (W := 0) X18 hx hZ hown (hw _ (List.mem_of_getElem? (i := 102) rfl)) (hw _ (List.mem_of_getElem? (i := 103) rfl)) (nf_sel hZ (hw _ (List.mem_of_getElem? (i := 105) rfl))) (hw _ (List.mem_of_getElem? (i := 105) rfl)) (hw _ (List.mem_of_getElem? (i := 104) rfl)) (hw _ (List.mem_of_getElem? (i := 18) rfl)) (hw _ (List.mem_of_getElem? (i := 106) rfl)) (by decide) (by decide) (by decide) rfl (by decide) (by decide) (g := (mkF m 217 #[.val (.long r), .second, .val (.long p1), .second, .val (.long b1), .second, .val (.long d), .second, .val (.int sel), .val (.long x1), .second, .val (.long x2), .second, .val (.long x3), .second, .val (.long x5), .second, .val (.long x7), .second, .val (.long x9), .second, .val (.ref oa), .val (.int kd), .val (.ref oc), .val (.int (0 : Int32))] [(.ref oc), (.ref oa)])) rfl (by rw [hml]; rfl) ((Y11_0.ext E17).keep J18) (argsL := [(.ref oc)]) (rest := []) rfl (lenOf pd_10 rfl) rfl (by show 2 * 0 + _ ≤ _; exact Nat.le_of_eq rfl) (hb hby at_217)
                obtain ⟨rfl, N25q, e25⟩ := hQ25
                have N25 := Fr.app N18 N25q
                refine OGo.st (B := T25.setTop (mkF m 220 #[.val (.long r), .second, .val (.long p1), .second, .val (.long b1), .second, .val (.long d), .second, .val (.int sel), .val (.long x1), .second, .val (.long x2), .second, .val (.long x3), .second, .val (.long x5), .second, .val (.long x7), .second, .val (.long x9), .second, .val (.ref oa), .val (.int kd), .val (.ref oc), .val (.int (0 : Int32))] [(.int (0 : Int32))])) st25 ?_
                refine OGo.st (B := T25.setTop (mkF m 222 #[.val (.long r), .second, .val (.long p1), .second, .val (.long b1), .second, .val (.long d), .second, .val (.int sel), .val (.long x1), .second, .val (.long x2), .second, .val (.long x3), .second, .val (.long x5), .second, .val (.long x7), .second, .val (.long x9), .second, .val (.ref oa), .val (.int kd), .val (.ref oc), .val (.int (0 : Int32))] [(.int (0 : Int32)), (.int (0 : Int32))])) (fun _ kz => XS.iload X25.here hx rfl (hb hby at_220) rfl kz) ?_
                refine OGo.st (B := T25.setTop (mkF m 225 #[.val (.long r), .second, .val (.long p1), .second, .val (.long b1), .second, .val (.long d), .second, .val (.int sel), .val (.long x1), .second, .val (.long x2), .second, .val (.long x3), .second, .val (.long x5), .second, .val (.long x7), .second, .val (.long x9), .second, .val (.ref oa), .val (.int kd), .val (.ref oc), .val (.int (0 : Int32))] [])) (fun _ kz => XS.icmpNo X25.here hx rfl (hb hby at_222) rfl (by decide) kz) ?_
                refine OGo.st (B := T25.setTop (mkF m 227 #[.val (.long r), .second, .val (.long p1), .second, .val (.long b1), .second, .val (.long d), .second, .val (.int sel), .val (.long x1), .second, .val (.long x2), .second, .val (.long x3), .second, .val (.long x5), .second, .val (.long x7), .second, .val (.long x9), .second, .val (.ref oa), .val (.int kd), .val (.ref oc), .val (.int (0 : Int32))] [(.ref oc)])) (fun _ kz => XS.aload X25.here hx rfl (hb hby at_225) rfl rfl kz) ?_
                refine OGo.st (B := T25.setTop (mkF m 229 #[.val (.long r), .second, .val (.long p1), .second, .val (.long b1), .second, .val (.long d), .second, .val (.int sel), .val (.long x1), .second, .val (.long x2), .second, .val (.long x3), .second, .val (.long x5), .second, .val (.long x7), .second, .val (.long x9), .second, .val (.ref oa), .val (.int kd), .val (.ref oc), .val (.int (0 : Int32))] [(.ref oa), (.ref oc)])) (fun _ kz => XS.aload X25.here hx rfl (hb hby at_227) rfl rfl kz) ?_
                obtain ⟨v26, T26, L26, X26, hQ26, st26⟩ := (rm50y l Z a0 hw oc oa x5 x7 x9 x1 x2 x3 (0 : Int32) T18.heap n0 ((Y11_0.ext E17).keep J18) Y18_1 Y18_2 Y18_3 ((Y11_1.ext E17).keep J18 (ninS ne_oa_oc nin0)) ((Y11_2.ext E17).keep J18 (ninS ne_oa_oc nin0)) ((Y11_3.ext E17).keep J18 (ninS ne_oa_oc nin0)) (if_neg (fun z => m1 z.2.1))).virt (W := 0) X25 hx hZ hown (hw _ (List.mem_of_getElem? (i := 102) rfl)) (hw _ (List.mem_of_getElem? (i := 103) rfl)) (nf_sel hZ (hw _ (List.mem_of_getElem? (i := 105) rfl))) (hw _ (List.mem_of_getElem? (i := 105) rfl)) (hw _ (List.mem_of_getElem? (i := 104) rfl)) (hw _ (List.mem_of_getElem? (i := 18) rfl)) (hw _ (List.mem_of_getElem? (i := 106) rfl)) (by decide) (by decide) (by decide) e25 (by decide) (by decide) (g := (mkF m 229 #[.val (.long r), .second, .val (.long p1), .second, .val (.long b1), .second, .val (.long d), .second, .val (.int sel), .val (.long x1), .second, .val (.long x2), .second, .val (.long x3), .second, .val (.long x5), .second, .val (.long x7), .second, .val (.long x9), .second, .val (.ref oa), .val (.int kd), .val (.ref oc), .val (.int (0 : Int32))] [(.ref oa), (.ref oc)])) rfl (by rw [hml]; rfl) Y18_0 (argsL := [(.ref oa)]) (rest := []) rfl (lenOf pd_10 rfl) rfl (by show 2 * 0 + _ ≤ _; exact Nat.le_of_eq rfl) (hb hby at_229)
                obtain ⟨rfl, N26q, e26⟩ := hQ26
                have N26 := Fr.app N25 N26q
                refine OGo.st (B := T26.setTop (mkF m 232 #[.val (.long r), .second, .val (.long p1), .second, .val (.long b1), .second, .val (.long d), .second, .val (.int sel), .val (.long x1), .second, .val (.long x2), .second, .val (.long x3), .second, .val (.long x5), .second, .val (.long x7), .second, .val (.long x9), .second, .val (.ref oa), .val (.int kd), .val (.ref oc), .val (.int (0 : Int32))] [(.int (0 : Int32))])) st26 ?_
                refine OGo.st (B := T26.setTop (mkF m 234 #[.val (.long r), .second, .val (.long p1), .second, .val (.long b1), .second, .val (.long d), .second, .val (.int sel), .val (.long x1), .second, .val (.long x2), .second, .val (.long x3), .second, .val (.long x5), .second, .val (.long x7), .second, .val (.long x9), .second, .val (.ref oa), .val (.int kd), .val (.ref oc), .val (.int (0 : Int32))] [(.int (0 : Int32)), (.int (0 : Int32))])) (fun _ kz => XS.iload X26.here hx rfl (hb hby at_232) rfl kz) ?_
                refine OGo.st (B := T26.setTop (mkF m 237 #[.val (.long r), .second, .val (.long p1), .second, .val (.long b1), .second, .val (.long d), .second, .val (.int sel), .val (.long x1), .second, .val (.long x2), .second, .val (.long x3), .second, .val (.long x5), .second, .val (.long x7), .second, .val (.long x9), .second, .val (.ref oa), .val (.int kd), .val (.ref oc), .val (.int (0 : Int32))] [])) (fun _ kz => XS.icmpNo X26.here hx rfl (hb hby at_234) rfl (by decide) kz) ?_
                refine OGo.st (B := T26.setTop (mkF m 239 #[.val (.long r), .second, .val (.long p1), .second, .val (.long b1), .second, .val (.long d), .second, .val (.int sel), .val (.long x1), .second, .val (.long x2), .second, .val (.long x3), .second, .val (.long x5), .second, .val (.long x7), .second, .val (.long x9), .second, .val (.ref oa), .val (.int kd), .val (.ref oc), .val (.int (0 : Int32))] [(.ref oa)])) (fun _ kz => XS.aload X26.here hx rfl (hb hby at_237) rfl rfl kz) ?_
                refine OGo.st (B := T26.setTop (mkF m 241 #[.val (.long r), .second, .val (.long p1), .second, .val (.long b1), .second, .val (.long d), .second, .val (.int sel), .val (.long x1), .second, .val (.long x2), .second, .val (.long x3), .second, .val (.long x5), .second, .val (.long x7), .second, .val (.long x9), .second, .val (.ref oa), .val (.int kd), .val (.ref oc), .val (.int (0 : Int32))] [(.ref oa), (.ref oa)])) (fun _ kz => XS.aload X26.here hx rfl (hb hby at_239) rfl rfl kz) ?_
                obtain ⟨v27, T27, L27, X27, hQ27, st27⟩ := (rm50y l Z a0 hw oa oa x1 x2 x3 x1 x2 x3 (1 : Int32) T18.heap n0 ((Y11_0.ext E17).keep J18) ((Y11_1.ext E17).keep J18 (ninS ne_oa_oc nin0)) ((Y11_2.ext E17).keep J18 (ninS ne_oa_oc nin0)) ((Y11_3.ext E17).keep J18 (ninS ne_oa_oc nin0)) ((Y11_1.ext E17).keep J18 (ninS ne_oa_oc nin0)) ((Y11_2.ext E17).keep J18 (ninS ne_oa_oc nin0)) ((Y11_3.ext E17).keep J18 (ninS ne_oa_oc nin0)) (if_pos ⟨rfl, rfl, rfl⟩)).virt (W := 0) X26 hx hZ hown (hw _ (List.mem_of_getElem? (i := 102) rfl)) (hw _ (List.mem_of_getElem? (i := 103) rfl)) (nf_sel hZ (hw _ (List.mem_of_getElem? (i := 105) rfl))) (hw _ (List.mem_of_getElem? (i := 105) rfl)) (hw _ (List.mem_of_getElem? (i := 104) rfl)) (hw _ (List.mem_of_getElem? (i := 18) rfl)) (hw _ (List.mem_of_getElem? (i := 106) rfl)) (by decide) (by decide) (by decide) e26 (by decide) (by decide) (g := (mkF m 241 #[.val (.long r), .second, .val (.long p1), .second, .val (.long b1), .second, .val (.long d), .second, .val (.int sel), .val (.long x1), .second, .val (.long x2), .second, .val (.long x3), .second, .val (.long x5), .second, .val (.long x7), .second, .val (.long x9), .second, .val (.ref oa), .val (.int kd), .val (.ref oc), .val (.int (0 : Int32))] [(.ref oa), (.ref oa)])) rfl (by rw [hml]; rfl) ((Y11_0.ext E17).keep J18) (argsL := [(.ref oa)]) (rest := []) rfl (lenOf pd_10 rfl) rfl (by show 2 * 0 + _ ≤ _; exact Nat.le_of_eq rfl) (hb hby at_241)
                obtain ⟨rfl, N27q, e27⟩ := hQ27
                have N27 := Fr.app N26 N27q
                refine OGo.st (B := T27.setTop (mkF m 244 #[.val (.long r), .second, .val (.long p1), .second, .val (.long b1), .second, .val (.long d), .second, .val (.int sel), .val (.long x1), .second, .val (.long x2), .second, .val (.long x3), .second, .val (.long x5), .second, .val (.long x7), .second, .val (.long x9), .second, .val (.ref oa), .val (.int kd), .val (.ref oc), .val (.int (0 : Int32))] [(.int (1 : Int32))])) st27 ?_
                refine OGo.st (B := T27.setTop (mkF m 247 #[.val (.long r), .second, .val (.long p1), .second, .val (.long b1), .second, .val (.long d), .second, .val (.int sel), .val (.long x1), .second, .val (.long x2), .second, .val (.long x3), .second, .val (.long x5), .second, .val (.long x7), .second, .val (.long x9), .second, .val (.ref oa), .val (.int kd), .val (.ref oc), .val (.int (0 : Int32))] [])) (fun _ kz => XS.ifNo X27.here hx rfl (hb hby at_244) rfl (by decide) kz) ?_
                refine OGo.st (B := T27.setTop (mkF m 248 #[.val (.long r), .second, .val (.long p1), .second, .val (.long b1), .second, .val (.long d), .second, .val (.int sel), .val (.long x1), .second, .val (.long x2), .second, .val (.long x3), .second, .val (.long x5), .second, .val (.long x7), .second, .val (.long x9), .second, .val (.ref oa), .val (.int kd), .val (.ref oc), .val (.int (0 : Int32))] [(.int (1 : Int32))])) (fun _ kz => XS.iconst X27.here hx rfl (hb hby at_247) kz) ?_
                refine OGo.st (B := T27.setTop (mkF m 252 #[.val (.long r), .second, .val (.long p1), .second, .val (.long b1), .second, .val (.long d), .second, .val (.int sel), .val (.long x1), .second, .val (.long x2), .second, .val (.long x3), .second, .val (.long x5), .second, .val (.long x7), .second, .val (.long x9), .second, .val (.ref oa), .val (.int kd), .val (.ref oc), .val (.int (0 : Int32))] [(.int (1 : Int32))])) (fun _ kz => XS.goto X27.here hx rfl (pc0 := 248) (pc' := 252) rfl (hb hby at_248) (by decide) (by decide) kz) ?_
                exact own_retZ X27 hx hret hlk (hb hby at_252) ⟨rfl, N27⟩ (by decide) (by decide)
            · skip
              refine OGo.st (B := T18.setTop (mkF m 210 #[.val (.long r), .second, .val (.long p1), .second, .val (.long b1), .second, .val (.long d), .second, .val (.int sel), .val (.long x1), .second, .val (.long x2), .second, .val (.long x3), .second, .val (.long x5), .second, .val (.long x7), .second, .val (.long x9), .second, .val (.ref oa), .val (.int kd), .val (.ref oc), .unset] [])) (fun _ kz => XS.ifYes X18.here hx rfl (pc0 := 187) (pc' := 210) rfl (hb hby at_187) rfl ((if0 _ _).trans (feq (mt (lw_eq _ _).mp m0)).2) (by decide) (by decide) kz) ?_
              refine OGo.st (B := T18.setTop (mkF m 211 #[.val (.long r), .second, .val (.long p1), .second, .val (.long b1), .second, .val (.long d), .second, .val (.int sel), .val (.long x1), .second, .val (.long x2), .second, .val (.long x3), .second, .val (.long x5), .second, .val (.long x7), .second, .val (.long x9), .second, .val (.ref oa), .val (.int kd), .val (.ref oc), .unset] [(.int (0 : Int32))])) (fun _ kz => XS.iconst X18.here hx rfl (hb hby at_210) kz) ?_
              refine OGo.st (B := T18.setTop (mkF m 213 #[.val (.long r), .second, .val (.long p1), .second, .val (.long b1), .second, .val (.long d), .second, .val (.int sel), .val (.long x1), .second, .val (.long x2), .second, .val (.long x3), .second, .val (.long x5), .second, .val (.long x7), .second, .val (.long x9), .second, .val (.ref oa), .val (.int kd), .val (.ref oc), .val (.int (0 : Int32))] [])) (fun _ kz => XS.istore X18.here hx rfl (hb hby at_211) rfl (l' := #[.val (.long r), .second, .val (.long p1), .second, .val (.long b1), .second, .val (.long d), .second, .val (.int sel), .val (.long x1), .second, .val (.long x2), .second, .val (.long x3), .second, .val (.long x5), .second, .val (.long x7), .second, .val (.long x9), .second, .val (.ref oa), .val (.int kd), .val (.ref oc), .val (.int (0 : Int32))]) rfl kz) ?_
              refine OGo.st (B := T18.setTop (mkF m 215 #[.val (.long r), .second, .val (.long p1), .second, .val (.long b1), .second, .val (.long d), .second, .val (.int sel), .val (.long x1), .second, .val (.long x2), .second, .val (.long x3), .second, .val (.long x5), .second, .val (.long x7), .second, .val (.long x9), .second, .val (.ref oa), .val (.int kd), .val (.ref oc), .val (.int (0 : Int32))] [(.ref oa)])) (fun _ kz => XS.aload X18.here hx rfl (hb hby at_213) rfl rfl kz) ?_
              refine OGo.st (B := T18.setTop (mkF m 217 #[.val (.long r), .second, .val (.long p1), .second, .val (.long b1), .second, .val (.long d), .second, .val (.int sel), .val (.long x1), .second, .val (.long x2), .second, .val (.long x3), .second, .val (.long x5), .second, .val (.long x7), .second, .val (.long x9), .second, .val (.ref oa), .val (.int kd), .val (.ref oc), .val (.int (0 : Int32))] [(.ref oc), (.ref oa)])) (fun _ kz => XS.aload X18.here hx rfl (hb hby at_215) rfl rfl kz) ?_
              obtain ⟨v28, T28, L28, X28, hQ28, st28⟩ := (rm50y l Z a0 hw oa oc x1 x2 x3 x5 x7 x9 (0 : Int32) T18.heap n0 Y18_0 ((Y11_1.ext E17).keep J18 (ninS ne_oa_oc nin0)) ((Y11_2.ext E17).keep J18 (ninS ne_oa_oc nin0)) ((Y11_3.ext E17).keep J18 (ninS ne_oa_oc nin0)) Y18_1 Y18_2 Y18_3 (if_neg (fun z => m0 z.1.symm))).virt (W := 0) X18 hx hZ hown (hw _ (List.mem_of_getElem? (i := 102) rfl)) (hw _ (List.mem_of_getElem? (i := 103) rfl)) (nf_sel hZ (hw _ (List.mem_of_getElem? (i := 105) rfl))) (hw _ (List.mem_of_getElem? (i := 105) rfl)) (hw _ (List.mem_of_getElem? (i := 104) rfl)) (hw _ (List.mem_of_getElem? (i := 18) rfl)) (hw _ (List.mem_of_getElem? (i := 106) rfl)) (by decide) (by decide) (by decide) rfl (by decide) (by decide) (g := (mkF m 217 #[.val (.long r), .second, .val (.long p1), .second, .val (.long b1), .second, .val (.long d), .second, .val (.int sel), .val (.long x1), .second, .val (.long x2), .second, .val (.long x3), .second, .val (.long x5), .second, .val (.long x7), .second, .val (.long x9), .second, .val (.ref oa), .val (.int kd), .val (.ref oc), .val (.int (0 : Int32))] [(.ref oc), (.ref oa)])) rfl (by rw [hml]; rfl) ((Y11_0.ext E17).keep J18) (argsL := [(.ref oc)]) (rest := []) rfl (lenOf pd_10 rfl) rfl (by show 2 * 0 + _ ≤ _; exact Nat.le_of_eq rfl) (hb hby at_217)
              obtain ⟨rfl, N28q, e28⟩ := hQ28
              have N28 := Fr.app N18 N28q
              refine OGo.st (B := T28.setTop (mkF m 220 #[.val (.long r), .second, .val (.long p1), .second, .val (.long b1), .second, .val (.long d), .second, .val (.int sel), .val (.long x1), .second, .val (.long x2), .second, .val (.long x3), .second, .val (.long x5), .second, .val (.long x7), .second, .val (.long x9), .second, .val (.ref oa), .val (.int kd), .val (.ref oc), .val (.int (0 : Int32))] [(.int (0 : Int32))])) st28 ?_
              refine OGo.st (B := T28.setTop (mkF m 222 #[.val (.long r), .second, .val (.long p1), .second, .val (.long b1), .second, .val (.long d), .second, .val (.int sel), .val (.long x1), .second, .val (.long x2), .second, .val (.long x3), .second, .val (.long x5), .second, .val (.long x7), .second, .val (.long x9), .second, .val (.ref oa), .val (.int kd), .val (.ref oc), .val (.int (0 : Int32))] [(.int (0 : Int32)), (.int (0 : Int32))])) (fun _ kz => XS.iload X28.here hx rfl (hb hby at_220) rfl kz) ?_
              refine OGo.st (B := T28.setTop (mkF m 225 #[.val (.long r), .second, .val (.long p1), .second, .val (.long b1), .second, .val (.long d), .second, .val (.int sel), .val (.long x1), .second, .val (.long x2), .second, .val (.long x3), .second, .val (.long x5), .second, .val (.long x7), .second, .val (.long x9), .second, .val (.ref oa), .val (.int kd), .val (.ref oc), .val (.int (0 : Int32))] [])) (fun _ kz => XS.icmpNo X28.here hx rfl (hb hby at_222) rfl (by decide) kz) ?_
              refine OGo.st (B := T28.setTop (mkF m 227 #[.val (.long r), .second, .val (.long p1), .second, .val (.long b1), .second, .val (.long d), .second, .val (.int sel), .val (.long x1), .second, .val (.long x2), .second, .val (.long x3), .second, .val (.long x5), .second, .val (.long x7), .second, .val (.long x9), .second, .val (.ref oa), .val (.int kd), .val (.ref oc), .val (.int (0 : Int32))] [(.ref oc)])) (fun _ kz => XS.aload X28.here hx rfl (hb hby at_225) rfl rfl kz) ?_
              refine OGo.st (B := T28.setTop (mkF m 229 #[.val (.long r), .second, .val (.long p1), .second, .val (.long b1), .second, .val (.long d), .second, .val (.int sel), .val (.long x1), .second, .val (.long x2), .second, .val (.long x3), .second, .val (.long x5), .second, .val (.long x7), .second, .val (.long x9), .second, .val (.ref oa), .val (.int kd), .val (.ref oc), .val (.int (0 : Int32))] [(.ref oa), (.ref oc)])) (fun _ kz => XS.aload X28.here hx rfl (hb hby at_227) rfl rfl kz) ?_
              obtain ⟨v29, T29, L29, X29, hQ29, st29⟩ := (rm50y l Z a0 hw oc oa x5 x7 x9 x1 x2 x3 (0 : Int32) T18.heap n0 ((Y11_0.ext E17).keep J18) Y18_1 Y18_2 Y18_3 ((Y11_1.ext E17).keep J18 (ninS ne_oa_oc nin0)) ((Y11_2.ext E17).keep J18 (ninS ne_oa_oc nin0)) ((Y11_3.ext E17).keep J18 (ninS ne_oa_oc nin0)) (if_neg (fun z => m0 z.1))).virt (W := 0) X28 hx hZ hown (hw _ (List.mem_of_getElem? (i := 102) rfl)) (hw _ (List.mem_of_getElem? (i := 103) rfl)) (nf_sel hZ (hw _ (List.mem_of_getElem? (i := 105) rfl))) (hw _ (List.mem_of_getElem? (i := 105) rfl)) (hw _ (List.mem_of_getElem? (i := 104) rfl)) (hw _ (List.mem_of_getElem? (i := 18) rfl)) (hw _ (List.mem_of_getElem? (i := 106) rfl)) (by decide) (by decide) (by decide) e28 (by decide) (by decide) (g := (mkF m 229 #[.val (.long r), .second, .val (.long p1), .second, .val (.long b1), .second, .val (.long d), .second, .val (.int sel), .val (.long x1), .second, .val (.long x2), .second, .val (.long x3), .second, .val (.long x5), .second, .val (.long x7), .second, .val (.long x9), .second, .val (.ref oa), .val (.int kd), .val (.ref oc), .val (.int (0 : Int32))] [(.ref oa), (.ref oc)])) rfl (by rw [hml]; rfl) Y18_0 (argsL := [(.ref oa)]) (rest := []) rfl (lenOf pd_10 rfl) rfl (by show 2 * 0 + _ ≤ _; exact Nat.le_of_eq rfl) (hb hby at_229)
              obtain ⟨rfl, N29q, e29⟩ := hQ29
              have N29 := Fr.app N28 N29q
              refine OGo.st (B := T29.setTop (mkF m 232 #[.val (.long r), .second, .val (.long p1), .second, .val (.long b1), .second, .val (.long d), .second, .val (.int sel), .val (.long x1), .second, .val (.long x2), .second, .val (.long x3), .second, .val (.long x5), .second, .val (.long x7), .second, .val (.long x9), .second, .val (.ref oa), .val (.int kd), .val (.ref oc), .val (.int (0 : Int32))] [(.int (0 : Int32))])) st29 ?_
              refine OGo.st (B := T29.setTop (mkF m 234 #[.val (.long r), .second, .val (.long p1), .second, .val (.long b1), .second, .val (.long d), .second, .val (.int sel), .val (.long x1), .second, .val (.long x2), .second, .val (.long x3), .second, .val (.long x5), .second, .val (.long x7), .second, .val (.long x9), .second, .val (.ref oa), .val (.int kd), .val (.ref oc), .val (.int (0 : Int32))] [(.int (0 : Int32)), (.int (0 : Int32))])) (fun _ kz => XS.iload X29.here hx rfl (hb hby at_232) rfl kz) ?_
              refine OGo.st (B := T29.setTop (mkF m 237 #[.val (.long r), .second, .val (.long p1), .second, .val (.long b1), .second, .val (.long d), .second, .val (.int sel), .val (.long x1), .second, .val (.long x2), .second, .val (.long x3), .second, .val (.long x5), .second, .val (.long x7), .second, .val (.long x9), .second, .val (.ref oa), .val (.int kd), .val (.ref oc), .val (.int (0 : Int32))] [])) (fun _ kz => XS.icmpNo X29.here hx rfl (hb hby at_234) rfl (by decide) kz) ?_
              refine OGo.st (B := T29.setTop (mkF m 239 #[.val (.long r), .second, .val (.long p1), .second, .val (.long b1), .second, .val (.long d), .second, .val (.int sel), .val (.long x1), .second, .val (.long x2), .second, .val (.long x3), .second, .val (.long x5), .second, .val (.long x7), .second, .val (.long x9), .second, .val (.ref oa), .val (.int kd), .val (.ref oc), .val (.int (0 : Int32))] [(.ref oa)])) (fun _ kz => XS.aload X29.here hx rfl (hb hby at_237) rfl rfl kz) ?_
              refine OGo.st (B := T29.setTop (mkF m 241 #[.val (.long r), .second, .val (.long p1), .second, .val (.long b1), .second, .val (.long d), .second, .val (.int sel), .val (.long x1), .second, .val (.long x2), .second, .val (.long x3), .second, .val (.long x5), .second, .val (.long x7), .second, .val (.long x9), .second, .val (.ref oa), .val (.int kd), .val (.ref oc), .val (.int (0 : Int32))] [(.ref oa), (.ref oa)])) (fun _ kz => XS.aload X29.here hx rfl (hb hby at_239) rfl rfl kz) ?_
              obtain ⟨v30, T30, L30, X30, hQ30, st30⟩ := (rm50y l Z a0 hw oa oa x1 x2 x3 x1 x2 x3 (1 : Int32) T18.heap n0 ((Y11_0.ext E17).keep J18) ((Y11_1.ext E17).keep J18 (ninS ne_oa_oc nin0)) ((Y11_2.ext E17).keep J18 (ninS ne_oa_oc nin0)) ((Y11_3.ext E17).keep J18 (ninS ne_oa_oc nin0)) ((Y11_1.ext E17).keep J18 (ninS ne_oa_oc nin0)) ((Y11_2.ext E17).keep J18 (ninS ne_oa_oc nin0)) ((Y11_3.ext E17).keep J18 (ninS ne_oa_oc nin0)) (if_pos ⟨rfl, rfl, rfl⟩)).virt (W := 0) X29 hx hZ hown (hw _ (List.mem_of_getElem? (i := 102) rfl)) (hw _ (List.mem_of_getElem? (i := 103) rfl)) (nf_sel hZ (hw _ (List.mem_of_getElem? (i := 105) rfl))) (hw _ (List.mem_of_getElem? (i := 105) rfl)) (hw _ (List.mem_of_getElem? (i := 104) rfl)) (hw _ (List.mem_of_getElem? (i := 18) rfl)) (hw _ (List.mem_of_getElem? (i := 106) rfl)) (by decide) (by decide) (by decide) e29 (by decide) (by decide) (g := (mkF m 241 #[.val (.long r), .second, .val (.long p1), .second, .val (.long b1), .second, .val (.long d), .second, .val (.int sel), .val (.long x1), .second, .val (.long x2), .second, .val (.long x3), .second, .val (.long x5), .second, .val (.long x7), .second, .val (.long x9), .second, .val (.ref oa), .val (.int kd), .val (.ref oc), .val (.int (0 : Int32))] [(.ref oa), (.ref oa)])) rfl (by rw [hml]; rfl) ((Y11_0.ext E17).keep J18) (argsL := [(.ref oa)]) (rest := []) rfl (lenOf pd_10 rfl) rfl (by show 2 * 0 + _ ≤ _; exact Nat.le_of_eq rfl) (hb hby at_241)
              obtain ⟨rfl, N30q, e30⟩ := hQ30
              have N30 := Fr.app N29 N30q
              refine OGo.st (B := T30.setTop (mkF m 244 #[.val (.long r), .second, .val (.long p1), .second, .val (.long b1), .second, .val (.long d), .second, .val (.int sel), .val (.long x1), .second, .val (.long x2), .second, .val (.long x3), .second, .val (.long x5), .second, .val (.long x7), .second, .val (.long x9), .second, .val (.ref oa), .val (.int kd), .val (.ref oc), .val (.int (0 : Int32))] [(.int (1 : Int32))])) st30 ?_
              refine OGo.st (B := T30.setTop (mkF m 247 #[.val (.long r), .second, .val (.long p1), .second, .val (.long b1), .second, .val (.long d), .second, .val (.int sel), .val (.long x1), .second, .val (.long x2), .second, .val (.long x3), .second, .val (.long x5), .second, .val (.long x7), .second, .val (.long x9), .second, .val (.ref oa), .val (.int kd), .val (.ref oc), .val (.int (0 : Int32))] [])) (fun _ kz => XS.ifNo X30.here hx rfl (hb hby at_244) rfl (by decide) kz) ?_
              refine OGo.st (B := T30.setTop (mkF m 248 #[.val (.long r), .second, .val (.long p1), .second, .val (.long b1), .second, .val (.long d), .second, .val (.int sel), .val (.long x1), .second, .val (.long x2), .second, .val (.long x3), .second, .val (.long x5), .second, .val (.long x7), .second, .val (.long x9), .second, .val (.ref oa), .val (.int kd), .val (.ref oc), .val (.int (0 : Int32))] [(.int (1 : Int32))])) (fun _ kz => XS.iconst X30.here hx rfl (hb hby at_247) kz) ?_
              refine OGo.st (B := T30.setTop (mkF m 252 #[.val (.long r), .second, .val (.long p1), .second, .val (.long b1), .second, .val (.long d), .second, .val (.int sel), .val (.long x1), .second, .val (.long x2), .second, .val (.long x3), .second, .val (.long x5), .second, .val (.long x7), .second, .val (.long x9), .second, .val (.ref oa), .val (.int kd), .val (.ref oc), .val (.int (0 : Int32))] [(.int (1 : Int32))])) (fun _ kz => XS.goto X30.here hx rfl (pc0 := 248) (pc' := 252) rfl (hb hby at_248) (by decide) (by decide) kz) ?_
              exact own_retZ X30 hx hret hlk (hb hby at_252) ⟨rfl, N30⟩ (by decide) (by decide)
      · skip
        intro hj8
        by_cases s3 : (sel &&& (4 : Int32)) = (0 : Int32)
        · skip
          refine OGo.st (B := T7.setTop (mkF m 69 #[.val (.long r), .second, .val (.long p1), .second, .val (.long b1), .second, .val (.long d), .second, .val (.int sel), .val (.long x1), .second, .val (.long x2), .second, .val (.long x3), .second, .val (.long x5), .second, .val (.long x7), .second, .unset, .unset, .unset, .unset, .unset, .unset] [])) (fun _ kz => XS.ifYes X7.here hx rfl (pc0 := 61) (pc' := 69) rfl (hb hby at_61) rfl ((if0 _ _).trans (teq s3).1) (by decide) (by decide) kz) ?_
          refine OGo.st (B := T7.setTop (mkF m 71 #[.val (.long r), .second, .val (.long p1), .second, .val (.long b1), .second, .val (.long d), .second, .val (.int sel), .val (.long x1), .second, .val (.long x2), .second, .val (.long x3), .second, .val (.long x5), .second, .val (.long x7), .second, .unset, .unset, .unset, .unset, .unset, .unset] [(.long b1)])) (fun _ kz => XS.lload X7.here hx rfl (hb hby at_69) rfl kz) ?_
          exact hj8 b1 trivial
        · skip
          refine OGo.st (B := T7.setTop (mkF m 64 #[.val (.long r), .second, .val (.long p1), .second, .val (.long b1), .second, .val (.long d), .second, .val (.int sel), .val (.long x1), .second, .val (.long x2), .second, .val (.long x3), .second, .val (.long x5), .second, .val (.long x7), .second, .unset, .unset, .unset, .unset, .unset, .unset] [])) (fun _ kz => XS.ifNo X7.here hx rfl (hb hby at_61) rfl ((if0 _ _).trans (feq s3).1) kz) ?_
          refine OGo.st (B := T7.setTop (mkF m 66 #[.val (.long r), .second, .val (.long p1), .second, .val (.long b1), .second, .val (.long d), .second, .val (.int sel), .val (.long x1), .second, .val (.long x2), .second, .val (.long x3), .second, .val (.long x5), .second, .val (.long x7), .second, .unset, .unset, .unset, .unset, .unset, .unset] [(.long d)])) (fun _ kz => XS.lload X7.here hx rfl (hb hby at_64) rfl kz) ?_
          refine OGo.st (B := T7.setTop (mkF m 71 #[.val (.long r), .second, .val (.long p1), .second, .val (.long b1), .second, .val (.long d), .second, .val (.int sel), .val (.long x1), .second, .val (.long x2), .second, .val (.long x3), .second, .val (.long x5), .second, .val (.long x7), .second, .unset, .unset, .unset, .unset, .unset, .unset] [(.long d)])) (fun _ kz => XS.goto X7.here hx rfl (pc0 := 66) (pc' := 71) rfl (hb hby at_66) (by decide) (by decide) kz) ?_
          exact hj8 d trivial
    · skip
      intro hj6
      by_cases s2 : (sel &&& (2 : Int32)) = (0 : Int32)
      · skip
        refine OGo.st (B := T5.setTop (mkF m 51 #[.val (.long r), .second, .val (.long p1), .second, .val (.long b1), .second, .val (.long d), .second, .val (.int sel), .val (.long x1), .second, .val (.long x2), .second, .val (.long x3), .second, .val (.long x5), .second, .unset, .unset, .unset, .unset, .unset, .unset, .unset, .unset] [])) (fun _ kz => XS.ifYes X5.here hx rfl (pc0 := 43) (pc' := 51) rfl (hb hby at_43) rfl ((if0 _ _).trans (teq s2).1) (by decide) (by decide) kz) ?_
        refine OGo.st (B := T5.setTop (mkF m 52 #[.val (.long r), .second, .val (.long p1), .second, .val (.long b1), .second, .val (.long d), .second, .val (.int sel), .val (.long x1), .second, .val (.long x2), .second, .val (.long x3), .second, .val (.long x5), .second, .unset, .unset, .unset, .unset, .unset, .unset, .unset, .unset] [(.long p1)])) (fun _ kz => XS.lloadN X5.here hx rfl (hb hby at_51) rfl kz) ?_
        exact hj6 p1 trivial
      · skip
        refine OGo.st (B := T5.setTop (mkF m 46 #[.val (.long r), .second, .val (.long p1), .second, .val (.long b1), .second, .val (.long d), .second, .val (.int sel), .val (.long x1), .second, .val (.long x2), .second, .val (.long x3), .second, .val (.long x5), .second, .unset, .unset, .unset, .unset, .unset, .unset, .unset, .unset] [])) (fun _ kz => XS.ifNo X5.here hx rfl (hb hby at_43) rfl ((if0 _ _).trans (feq s2).1) kz) ?_
        refine OGo.st (B := T5.setTop (mkF m 48 #[.val (.long r), .second, .val (.long p1), .second, .val (.long b1), .second, .val (.long d), .second, .val (.int sel), .val (.long x1), .second, .val (.long x2), .second, .val (.long x3), .second, .val (.long x5), .second, .unset, .unset, .unset, .unset, .unset, .unset, .unset, .unset] [(.long d)])) (fun _ kz => XS.lload X5.here hx rfl (hb hby at_46) rfl kz) ?_
        refine OGo.st (B := T5.setTop (mkF m 52 #[.val (.long r), .second, .val (.long p1), .second, .val (.long b1), .second, .val (.long d), .second, .val (.int sel), .val (.long x1), .second, .val (.long x2), .second, .val (.long x3), .second, .val (.long x5), .second, .unset, .unset, .unset, .unset, .unset, .unset, .unset, .unset] [(.long d)])) (fun _ kz => XS.goto X5.here hx rfl (pc0 := 48) (pc' := 52) rfl (hb hby at_48) (by decide) (by decide) kz) ?_
        exact hj6 d trivial
  · skip
    intro hj4
    by_cases s1 : (sel &&& (1 : Int32)) = (0 : Int32)
    · skip
      refine OGo.st (B := T3.setTop (mkF m 33 #[.val (.long r), .second, .val (.long p1), .second, .val (.long b1), .second, .val (.long d), .second, .val (.int sel), .val (.long x1), .second, .val (.long x2), .second, .val (.long x3), .second, .unset, .unset, .unset, .unset, .unset, .unset, .unset, .unset, .unset, .unset] [])) (fun _ kz => XS.ifYes X3.here hx rfl (pc0 := 25) (pc' := 33) rfl (hb hby at_25) rfl ((if0 _ _).trans (teq s1).1) (by decide) (by decide) kz) ?_
      refine OGo.st (B := T3.setTop (mkF m 34 #[.val (.long r), .second, .val (.long p1), .second, .val (.long b1), .second, .val (.long d), .second, .val (.int sel), .val (.long x1), .second, .val (.long x2), .second, .val (.long x3), .second, .unset, .unset, .unset, .unset, .unset, .unset, .unset, .unset, .unset, .unset] [(.long r)])) (fun _ kz => XS.lloadN X3.here hx rfl (hb hby at_33) rfl kz) ?_
      exact hj4 r trivial
    · skip
      refine OGo.st (B := T3.setTop (mkF m 28 #[.val (.long r), .second, .val (.long p1), .second, .val (.long b1), .second, .val (.long d), .second, .val (.int sel), .val (.long x1), .second, .val (.long x2), .second, .val (.long x3), .second, .unset, .unset, .unset, .unset, .unset, .unset, .unset, .unset, .unset, .unset] [])) (fun _ kz => XS.ifNo X3.here hx rfl (hb hby at_25) rfl ((if0 _ _).trans (feq s1).1) kz) ?_
      refine OGo.st (B := T3.setTop (mkF m 30 #[.val (.long r), .second, .val (.long p1), .second, .val (.long b1), .second, .val (.long d), .second, .val (.int sel), .val (.long x1), .second, .val (.long x2), .second, .val (.long x3), .second, .unset, .unset, .unset, .unset, .unset, .unset, .unset, .unset, .unset, .unset] [(.long d)])) (fun _ kz => XS.lload X3.here hx rfl (hb hby at_28) rfl kz) ?_
      refine OGo.st (B := T3.setTop (mkF m 34 #[.val (.long r), .second, .val (.long p1), .second, .val (.long b1), .second, .val (.long d), .second, .val (.int sel), .val (.long x1), .second, .val (.long x2), .second, .val (.long x3), .second, .unset, .unset, .unset, .unset, .unset, .unset, .unset, .unset, .unset, .unset] [(.long d)])) (fun _ kz => XS.goto X3.here hx rfl (pc0 := 30) (pc' := 34) rfl (hb hby at_30) (by decide) (by decide) kz) ?_
      exact hj4 d trivial
set_option maxRecDepth 65536 in
set_option maxHeartbeats 40000000 in
theorem comes_1 {Post : Tables → Env → Array Value → State → Outcome → State → Prop} (hpost : ∀ tb e args s v u, (limb_1_1.after args s (.returned v) u = true ∧ limb_1_2.after args s (.returned v) u = true ∧ True) → FrameEnd s (.returned v) u (Jvm.fieldLocs frame_1_writes args s ++ Jvm.arrayLocs frame_1_arrays args s ++ Jvm.staticLocs frame_1_statics s) 32 128 → Post tb e args s (.returned v) u) :
    ArmFor flags0 classFile x code maxLocals ret World_1 tables_1 room_1 Calls_1 rest_1 Pre_1 Post := by
  intro l hfl _ _ p e ha hc hk s m args below hf hA hF happ hP
  obtain ⟨hcalls, hrest, hpre⟩ := hP
  obtain ⟨-, -, -, hnamed, -, -, -, hat⟩ := (Spec.applies_iff hf).mp happ
  obtain ⟨hg, hn⟩ := and_e (Cond.before_iff.mp (show (Jvm.Cond.and given_1 narrow_1).before args s = true from hpre))
  obtain ⟨q1, q2⟩ := and_e hg
  obtain ⟨q3, q4⟩ := and_e q2
  obtain ⟨q5, q6⟩ := and_e q4
  obtain ⟨q7, q8⟩ := and_e q6
  obtain ⟨q9, q10⟩ := and_e q8
  obtain ⟨w0, w1, w2, w3, w4, rfl⟩ : ∃ w0 w1 w2 w3 w4 : Value, args = #[w0, w1, w2, w3, w4] := by
    have hs : args.size = 5 := by simpa [Cond.value, given_1] using q1
    obtain ⟨L⟩ := args
    match L, hs with
    | [w0, w1, w2, w3, w4], _ => exact ⟨w0, w1, w2, w3, w4, rfl⟩
  have hw := fun d (hd : d ∈ tables_1) => atoms_spec (ws := Jvm.Cond.code x code maxLocals ret :: tables_1) hat d (List.mem_cons_of_mem _ hd)
  obtain ⟨i0, ei0⟩ := isL_v q3
  obtain rfl : w0 = (.long i0) := Option.some.inj ei0
  obtain ⟨i1, ei1⟩ := isL_v q5
  obtain rfl : w1 = (.long i1) := Option.some.inj ei1
  obtain ⟨i2, ei2⟩ := isL_v q7
  obtain rfl : w2 = (.long i2) := Option.some.inj ei2
  obtain ⟨i3, ei3⟩ := isL_v q9
  obtain rfl : w3 = (.long i3) := Option.some.inj ei3
  obtain ⟨i4, ei4⟩ := is_v q10
  obtain rfl : w4 = (.int i4) := Option.some.inj ei4
  obtain ⟨hsets, hown0⟩ := atoms_of _ (rest_1_c_eq ▸ (show rest_1_c.before _ s = true from hrest))
  obtain ⟨ca, eca⟩ := arr_v (Cond.before_iff.mp (hsets _ (List.mem_of_getElem? (i := 2) rfl)))
  have S_cache := Sta.start eca (Or.inl (hsets _ (List.mem_of_getElem? (i := 1) rfl)))
  obtain ⟨cc, Ac⟩ := Arr.start eca (Cond.before_iff.mp (hsets _ (List.mem_of_getElem? (i := 2) rfl)))
  have hlen := own_len eca (Ac.fin (Vm.Alike.refl _)) (own_int (Cond.before_iff.mp (hsets _ (List.mem_of_getElem? (i := 4) rfl))))
  have BX : Bxs s ca cc "java/lang/Long" "J" 256 (fun j => .long (j - 128).toInt64) := Bxs.start (fun _ => eca) Ac hlen.1 hlen.2 (by decide) (Cond.before_iff.mp (hsets _ (List.mem_of_getElem? (i := 5) rfl))) (fun X j nn hq => eqv_l (i2l_at (by simp [Term.eval, (back32 nn).1])) hq)
  obtain ⟨de, ede⟩ := arr_v (Cond.before_iff.mp (hsets _ (List.mem_of_getElem? (i := 12) rfl)))
  have S_dflt := Sta.start ede (Or.inr ⟨(hw _ (List.mem_of_getElem? (i := 53) rfl)), (hsets _ (List.mem_of_getElem? (i := 8) rfl))⟩)
  obtain ⟨n, o, h1, h2, h3, _, L, rfl, ⟨rfl, N⟩, hq⟩ := rm0 l s _ hw i0 i1 i2 i3 i4 s.heap s.heap.size (Nat.le_refl _) (Old.start s) ca cc S_cache BX de S_dflt p e ha hc hk s m _ below hf ((Spec.applies_iff_loose hf).mp happ).1 ⟨rfl, State.Warmed39.refl s, rfl⟩ trivial
  refine ⟨n, _, h1, h2, h3, hpost _ _ _ _ _ _ ⟨Cond.after_iff.mpr rfl, Cond.after_iff.mpr (eq_i res_at (Term.int_eval (1)) rfl), trivial⟩ ⟨hq.1, hq.2.1, (hq.2.2.sift fun y hy => Or.inr (N y hy)).mono (by decide) (by decide)⟩⟩
theorem main_1_1 : Claimed_1_1 := comes_1 fun _ _ _ _ _ _ h hF => ⟨h.1, hF⟩
theorem main_1_2 : Claimed_1_2 := comes_1 fun _ _ _ _ _ _ h hF => ⟨h.2.1, hF⟩
end Jvm.Pilot.@@N@@
namespace Jvm.Pilot.@@N@@
open Jvm Jvm.ClassFile Sem Op Lib Jvm.Free Jvm.Stand Jvm.Pilot.@@N@@.Jvm.D
/-! MADE BY PROGRAM (witnessworld.py) out of the Statement's table words and the real class files: 29 classes; the members and pool entries that the words name. The judged class is class 1, her method 4. -/
namespace start1
open Jvm.ClassFile
def u (s : String) : CpInfo := .utf8 (stringToUtf16 s)
/-- a pool by its gaps: so many unusable entries, then the entry; so many at the end -/
def gap : Nat → List CpInfo → List CpInfo
  | 0, r => r
  | n + 1, r => .unusable :: gap n r
def poolList (es : List (Nat × CpInfo)) (last : Nat) : List CpInfo := es.foldr (fun e r => gap e.1 (e.2 :: r)) (gap last [])
def pool (es : List (Nat × CpInfo)) (last : Nat) : Array CpInfo := ⟨poolList es last⟩
def fileOf (pool : Array CpInfo) (this : Nat) (attrs : Array Attribute := #[]) (ms : Array MethodInfo := #[]) (fl : Nat := 33) (sup : Nat := 0) (ifs : Array Nat := #[]) (fds : Array FieldInfo := #[]) : ClassFile where
  minorVersion := 0
  majorVersion := 65
  constantPool := pool
  accessFlags := fl
  thisClass := this
  superClass := sup
  interfaces := ifs
  fields := fds
  methods := ms
  attributes := attrs
def plain (name : String) (sup : Option ClassId) : Class where
  name := name
  kind := .ordinary
  loader := none
  accessFlags := 33
  super := sup
  interfaces := #[]
  cf := none
  fields := #[]
  methods := #[]
  instanceTypes := #[]
  staticTypes := #[]
  resolved := #[]
  callSites := []
  init := .initialized
  statics := none
  mirror := none

def pool0 : Array CpInfo := pool [(5, u "<init>"), (0, u "()V"), (1, .class_ 10), (1, u "java/lang/Object")] 113

def k0c0 : Code := { maxStack := 0, maxLocals := 1, code := object_method_1_code, exceptionTable := #[], attributes := #[] }
def k0m0 : Method := { name := "<init>", desc := "()V", sig := { parameters := [], returnType := none }, accessFlags := 1, code := some k0c0 }
/-- java/lang/Object -/
def k0 : Class := { plain "java/lang/Object" none with
  accessFlags := 33
  interfaces := #[]
  cf := some (fileOf pool0 8 #[] #[{ accessFlags := 1, nameIndex := 5, descriptorIndex := 6, attributes := #[] }] 33 0 #[] #[])
  fields := #[]
  methods := #[k0m0]
  instanceTypes := #[]
  staticTypes := #[]
  resolved := Array.replicate 124 none
  statics := none }

def pool1 : Array CpInfo := pool [(2, .class_ 4), (1, u "java/lang/Object"), (0, u "<init>"), (0, u "()V"), (0, .class_ 8), (0, u "java/lang/Long"), (0, .long 9223372036854775807), (1, .methodref 12 13), (0, .class_ 14), (0, .nameAndType 15 16), (0, u "java/lang/Math"), (0, u "max"), (0, u "(JJ)J"), (0, .long 9007199254740992), (1, .methodref 20 21), (0, .class_ 22), (0, .nameAndType 23 24), (0, u "com/example/narrow_gate/narrowgate/LimitEqualsPinLaw"), (0, u "rateOf"), (0, u "(J)J"), (0, .methodref 20 26), (0, .nameAndType 27 24), (0, u "periodOf"), (0, .methodref 20 29), (0, .nameAndType 30 16), (0, u "burstOf"), (0, .class_ 32), (0, u "com/example/narrow_gate/narrowgate/Limit"), (0, .methodref 31 34), (0, .nameAndType 5 35), (0, u "(JJJ)V"), (0, .methodref 31 37), (0, .nameAndType 38 39), (0, u "equals"), (0, u "(Ljava/lang/Object;)Z"), (0, .methodref 7 41), (0, .nameAndType 42 43), (0, u "valueOf"), (0, u "(J)Ljava/lang/Long;"), (2, u "law"), (0, u "(JJJJI)Z")] 3

def k1m0 : Method := { name := "<init>", desc := "()V", sig := { parameters := [], returnType := none }, accessFlags := 1, code := none }
def k1c1 : Code := { maxStack := 6, maxLocals := 2, code := method_2_code, exceptionTable := #[], attributes := #[] }
def k1m1 : Method := { name := "rateOf", desc := "(J)J", sig := { parameters := [.long], returnType := some .long }, accessFlags := 10, code := some k1c1 }
def k1c2 : Code := { maxStack := 6, maxLocals := 2, code := method_3_code, exceptionTable := #[], attributes := #[] }
def k1m2 : Method := { name := "periodOf", desc := "(J)J", sig := { parameters := [.long], returnType := some .long }, accessFlags := 10, code := some k1c2 }
def k1c3 : Code := { maxStack := 6, maxLocals := 6, code := method_4_code, exceptionTable := #[], attributes := #[] }
def k1m3 : Method := { name := "burstOf", desc := "(JJ)J", sig := { parameters := [.long, .long], returnType := some .long }, accessFlags := 10, code := some k1c3 }
def k1c4 : Code := { maxStack := 8, maxLocals := 25, code := code, exceptionTable := #[], attributes := #[] }
def k1m4 : Method := { name := "law", desc := "(JJJJI)Z", sig := { parameters := [.long, .long, .long, .long, .int], returnType := some .boolean }, accessFlags := 9, code := some k1c4 }
/-- com/example/narrow_gate/narrowgate/LimitEqualsPinLaw -/
def k1 : Class := { plain "com/example/narrow_gate/narrowgate/LimitEqualsPinLaw" (some 0) with
  accessFlags := 49
  interfaces := #[]
  cf := some (fileOf pool1 20 #[] #[{ accessFlags := 1, nameIndex := 5, descriptorIndex := 6, attributes := #[] }, { accessFlags := 10, nameIndex := 23, descriptorIndex := 24, attributes := #[] }, { accessFlags := 10, nameIndex := 27, descriptorIndex := 24, attributes := #[] }, { accessFlags := 10, nameIndex := 30, descriptorIndex := 16, attributes := #[] }, { accessFlags := 9, nameIndex := 46, descriptorIndex := 47, attributes := #[] }] 49 2 #[] #[])
  fields := #[]
  methods := #[k1m0, k1m1, k1m2, k1m3, k1m4]
  instanceTypes := #[]
  staticTypes := #[]
  resolved := Array.replicate 51 none
  statics := none }

def pool2 : Array CpInfo := pool [(1, .class_ 2), (0, u "java/lang/Math"), (1, .class_ 6), (1, u "java/lang/Object"), (0, u "<init>"), (0, u "()V"), (89, .class_ 100), (1, u "java/lang/Math$RandomNumberGeneratorHolder"), (20, u "(JJ)J"), (50, u "negativeZeroFloatBits"), (0, u "J"), (2, u "negativeZeroDoubleBits"), (21, u "max"), (46, u "$assertionsDisabled"), (0, u "Z"), (91, u "twoToTheDoubleScaleDown"), (0, u "D"), (4, u "twoToTheDoubleScaleUp"), (9, u "E"), (3, u "PI"), (2, u "TAU"), (2, u "DEGREES_TO_RADIANS"), (0, u "RADIANS_TO_DEGREES")] 94

def k2m0 : Method := { name := "<init>", desc := "()V", sig := { parameters := [], returnType := none }, accessFlags := 2, code := none }
def k2c1 : Code := { maxStack := 4, maxLocals := 4, code := jdk_29_method_66_code, exceptionTable := #[], attributes := #[] }
def k2m1 : Method := { name := "max", desc := "(JJ)J", sig := { parameters := [.long, .long], returnType := some .long }, accessFlags := 9, code := some k2c1 }
/-- java/lang/Math -/
def k2 : Class := { plain "java/lang/Math" (some 0) with
  accessFlags := 49
  interfaces := #[]
  cf := some (fileOf pool2 1 #[.nestMembers #[98]] #[{ accessFlags := 2, nameIndex := 7, descriptorIndex := 8, attributes := #[] }, { accessFlags := 9, nameIndex := 198, descriptorIndex := 121, attributes := #[] }] 49 4 #[] #[{ accessFlags := 25, nameIndex := 354, descriptorIndex := 339, attributes := #[] }, { accessFlags := 25, nameIndex := 358, descriptorIndex := 339, attributes := #[] }, { accessFlags := 25, nameIndex := 361, descriptorIndex := 339, attributes := #[] }, { accessFlags := 26, nameIndex := 364, descriptorIndex := 339, attributes := #[] }, { accessFlags := 26, nameIndex := 365, descriptorIndex := 339, attributes := #[] }, { accessFlags := 26, nameIndex := 172, descriptorIndex := 173, attributes := #[] }, { accessFlags := 26, nameIndex := 176, descriptorIndex := 173, attributes := #[] }, { accessFlags := 8, nameIndex := 344, descriptorIndex := 339, attributes := #[] }, { accessFlags := 8, nameIndex := 338, descriptorIndex := 339, attributes := #[] }, { accessFlags := 4120, nameIndex := 245, descriptorIndex := 246, attributes := #[] }])
  fields := #[{ name := "E", type := .double, accessFlags := 25, slot := 0, constantValue := 0 }, { name := "PI", type := .double, accessFlags := 25, slot := 1, constantValue := 0 }, { name := "TAU", type := .double, accessFlags := 25, slot := 2, constantValue := 0 }, { name := "DEGREES_TO_RADIANS", type := .double, accessFlags := 26, slot := 3, constantValue := 0 }, { name := "RADIANS_TO_DEGREES", type := .double, accessFlags := 26, slot := 4, constantValue := 0 }, { name := "negativeZeroFloatBits", type := .long, accessFlags := 26, slot := 5, constantValue := 0 }, { name := "negativeZeroDoubleBits", type := .long, accessFlags := 26, slot := 6, constantValue := 0 }, { name := "twoToTheDoubleScaleUp", type := .double, accessFlags := 8, slot := 7, constantValue := 0 }, { name := "twoToTheDoubleScaleDown", type := .double, accessFlags := 8, slot := 8, constantValue := 0 }, { name := "$assertionsDisabled", type := .boolean, accessFlags := 4120, slot := 9, constantValue := 0 }]
  methods := #[k2m0, k2m1]
  instanceTypes := #[]
  staticTypes := #[.double, .double, .double, .double, .double, .long, .long, .double, .double, .boolean]
  resolved := Array.replicate 460 none
  statics := none }

def pool3 : Array CpInfo := pool [(1, .methodref 2 3), (0, .class_ 4), (0, .nameAndType 5 6), (0, u "java/lang/Object"), (0, u "<init>"), (0, u "()V"), (0, .methodref 8 9), (0, .class_ 10), (0, .nameAndType 11 12), (0, u "java/lang/Long"), (0, u "valueOf"), (0, u "(J)Ljava/lang/Long;"), (0, .methodref 14 15), (0, .class_ 16), (0, .nameAndType 17 18), (0, u "com/example/narrow_gate/narrowgate/Limit"), (0, u "problems"), (0, u "(Ljava/lang/Long;Ljava/lang/Long;Ljava/lang/Long;)Ljava/util/List;"), (0, .methodref 20 21), (0, .class_ 22), (0, .nameAndType 23 24), (0, u "com/example/narrow_gate/narrowgate/InvalidLimitsException"), (0, u "refuseIfAny"), (0, u "(Ljava/util/List;)V"), (0, .fieldref 14 26), (0, .nameAndType 27 28), (0, u "rate"), (0, u "J"), (0, .fieldref 14 30), (0, .nameAndType 31 28), (0, u "periodMs"), (0, .fieldref 14 33), (0, .nameAndType 34 28), (0, u "burst"), (0, .class_ 36), (0, u "java/util/ArrayList"), (0, .methodref 35 3), (0, .methodref 8 39), (0, .nameAndType 40 41), (0, u "longValue"), (0, u "()J"), (11, u "(Ljava/lang/Object;)Z"), (5, .long 9007199254740992), (62, u "(JJJ)V"), (0, u "MAX_BURST_PERIOD_PRODUCT"), (1, u "RATE"), (0, u "Ljava/lang/String;"), (0, u "PERIOD"), (0, u "BURST"), (7, u "equals")] 21

def k3c0 : Code := { maxStack := 4, maxLocals := 7, code := prog_18_method_1_code, exceptionTable := #[], attributes := #[] }
def k3m0 : Method := { name := "<init>", desc := "(JJJ)V", sig := { parameters := [.long, .long, .long], returnType := none }, accessFlags := 1, code := some k3c0 }
def k3c1 : Code := { maxStack := 6, maxLocals := 4, code := prog_18_method_2_code, exceptionTable := #[], attributes := #[] }
def k3m1 : Method := { name := "problems", desc := "(Ljava/lang/Long;Ljava/lang/Long;Ljava/lang/Long;)Ljava/util/List;", sig := { parameters := [(.object "java/lang/Long"), (.object "java/lang/Long"), (.object "java/lang/Long")], returnType := some (.object "java/util/List") }, accessFlags := 8, code := some k3c1 }
def k3c2 : Code := { maxStack := 4, maxLocals := 3, code := prog_18_method_7_code, exceptionTable := #[], attributes := #[] }
def k3m2 : Method := { name := "equals", desc := "(Ljava/lang/Object;)Z", sig := { parameters := [(.object "java/lang/Object")], returnType := some .boolean }, accessFlags := 1, code := some k3c2 }
/-- com/example/narrow_gate/narrowgate/Limit -/
def k3 : Class := { plain "com/example/narrow_gate/narrowgate/Limit" (some 0) with
  accessFlags := 49
  interfaces := #[]
  cf := some (fileOf pool3 14 #[] #[{ accessFlags := 1, nameIndex := 5, descriptorIndex := 122, attributes := #[] }, { accessFlags := 8, nameIndex := 17, descriptorIndex := 18, attributes := #[] }, { accessFlags := 1, nameIndex := 136, descriptorIndex := 53, attributes := #[] }] 49 2 #[] #[{ accessFlags := 25, nameIndex := 123, descriptorIndex := 28, attributes := #[] }, { accessFlags := 24, nameIndex := 125, descriptorIndex := 126, attributes := #[] }, { accessFlags := 24, nameIndex := 127, descriptorIndex := 126, attributes := #[] }, { accessFlags := 24, nameIndex := 128, descriptorIndex := 126, attributes := #[] }, { accessFlags := 18, nameIndex := 27, descriptorIndex := 28, attributes := #[] }, { accessFlags := 18, nameIndex := 31, descriptorIndex := 28, attributes := #[] }, { accessFlags := 18, nameIndex := 34, descriptorIndex := 28, attributes := #[] }])
  fields := #[{ name := "MAX_BURST_PERIOD_PRODUCT", type := .long, accessFlags := 25, slot := 0, constantValue := 0 }, { name := "RATE", type := (.object "java/lang/String"), accessFlags := 24, slot := 1, constantValue := 0 }, { name := "PERIOD", type := (.object "java/lang/String"), accessFlags := 24, slot := 2, constantValue := 0 }, { name := "BURST", type := (.object "java/lang/String"), accessFlags := 24, slot := 3, constantValue := 0 }, { name := "rate", type := .long, accessFlags := 18, slot := 0, constantValue := 0 }, { name := "periodMs", type := .long, accessFlags := 18, slot := 1, constantValue := 0 }, { name := "burst", type := .long, accessFlags := 18, slot := 2, constantValue := 0 }]
  methods := #[k3m0, k3m1, k3m2]
  instanceTypes := #[.long, .long, .long]
  staticTypes := #[.long, (.object "java/lang/String"), (.object "java/lang/String"), (.object "java/lang/String")]
  resolved := Array.replicate 158 none
  statics := none }

def pool4 : Array CpInfo := pool [(1, .class_ 2), (0, u "java/io/Serializable"), (0, .class_ 4), (0, u "java/lang/Object")] 2

/-- java/io/Serializable -/
def k4 : Class := { plain "java/io/Serializable" (some 0) with
  accessFlags := 1537
  interfaces := #[]
  cf := some (fileOf pool4 1 #[] #[] 1537 3 #[] #[])
  fields := #[]
  methods := #[]
  instanceTypes := #[]
  staticTypes := #[]
  resolved := Array.replicate 7 none
  statics := none }

def pool5 : Array CpInfo := pool [(1, .methodref 2 3), (0, .class_ 4), (0, .nameAndType 5 6), (0, u "java/lang/Object"), (0, u "<init>"), (0, u "()V"), (1, .class_ 10), (1, u "java/lang/Number"), (2, .class_ 14), (0, u "java/io/Serializable"), (0, u "serialVersionUID"), (0, u "J")] 20

def k5c0 : Code := { maxStack := 1, maxLocals := 1, code := jdk_18_method_1_code, exceptionTable := #[], attributes := #[] }
def k5m0 : Method := { name := "<init>", desc := "()V", sig := { parameters := [], returnType := none }, accessFlags := 1, code := some k5c0 }
/-- java/lang/Number -/
def k5 : Class := { plain "java/lang/Number" (some 0) with
  accessFlags := 1057
  interfaces := #[4]
  cf := some (fileOf pool5 8 #[] #[{ accessFlags := 1, nameIndex := 5, descriptorIndex := 6, attributes := #[] }] 1057 2 #[13] #[{ accessFlags := 26, nameIndex := 15, descriptorIndex := 16, attributes := #[] }])
  fields := #[{ name := "serialVersionUID", type := .long, accessFlags := 26, slot := 0, constantValue := 0 }]
  methods := #[k5m0]
  instanceTypes := #[]
  staticTypes := #[.long]
  resolved := Array.replicate 37 none
  statics := none }

def pool6 : Array CpInfo := pool [(1, .class_ 2), (0, u "java/lang/Comparable"), (0, .class_ 4), (0, u "java/lang/Object")] 7

/-- java/lang/Comparable -/
def k6 : Class := { plain "java/lang/Comparable" (some 0) with
  accessFlags := 1537
  interfaces := #[]
  cf := some (fileOf pool6 1 #[] #[] 1537 3 #[] #[])
  fields := #[]
  methods := #[]
  instanceTypes := #[]
  staticTypes := #[]
  resolved := Array.replicate 12 none
  statics := none }

def pool7 : Array CpInfo := pool [(1, .class_ 2), (0, u "java/lang/constant/Constable"), (0, .class_ 4), (0, u "java/lang/Object")] 6

/-- java/lang/constant/Constable -/
def k7 : Class := { plain "java/lang/constant/Constable" (some 0) with
  accessFlags := 1537
  interfaces := #[]
  cf := some (fileOf pool7 1 #[] #[] 1537 3 #[] #[])
  fields := #[]
  methods := #[]
  instanceTypes := #[]
  staticTypes := #[]
  resolved := Array.replicate 11 none
  statics := none }

def pool8 : Array CpInfo := pool [(1, .class_ 2), (0, u "java/lang/constant/ConstantDesc"), (0, .class_ 4), (0, u "java/lang/Object")] 32

/-- java/lang/constant/ConstantDesc -/
def k8 : Class := { plain "java/lang/constant/ConstantDesc" (some 0) with
  accessFlags := 1537
  interfaces := #[]
  cf := some (fileOf pool8 1 #[] #[] 1537 3 #[] #[])
  fields := #[]
  methods := #[]
  instanceTypes := #[]
  staticTypes := #[]
  resolved := Array.replicate 37 none
  statics := none }

def pool9 : Array CpInfo := pool [(1, .class_ 2), (0, u "java/lang/Long"), (55, .nameAndType 59 60), (0, u "<init>"), (0, u "()V"), (24, u "valueOf"), (143, u "(J)Ljava/lang/Long;"), (0, .long 18446744073709551488), (1, .long 127), (1, .fieldref 235 236), (0, .class_ 237), (0, .nameAndType 238 239), (0, u "java/lang/Long$LongCache"), (0, u "cache"), (0, u "[Ljava/lang/Long;"), (0, .methodref 1 241), (0, .nameAndType 59 242), (0, u "(J)V"), (27, .methodref 271 58), (0, .class_ 272), (0, u "java/lang/Number"), (0, .fieldref 1 274), (0, .nameAndType 275 276), (0, u "value"), (0, u "J"), (5, u "longValue"), (0, u "()J"), (77, u "TYPE"), (0, u "Ljava/lang/Class;"), (0, .class_ 364), (0, u "java/lang/Comparable"), (0, .class_ 366), (0, u "java/lang/constant/Constable"), (0, .class_ 368), (0, u "java/lang/constant/ConstantDesc"), (0, u "MIN_VALUE"), (1, u "MAX_VALUE"), (4, u "SIZE"), (0, u "I"), (1, u "BYTES"), (1, u "serialVersionUID")] 142

def k9c0 : Code := { maxStack := 4, maxLocals := 3, code := jdk_35_method_24_code, exceptionTable := #[], attributes := #[] }
def k9m0 : Method := { name := "valueOf", desc := "(J)Ljava/lang/Long;", sig := { parameters := [.long], returnType := some (.object "java/lang/Long") }, accessFlags := 9, code := some k9c0 }
def k9c1 : Code := { maxStack := 3, maxLocals := 3, code := jdk_35_method_26_code, exceptionTable := #[], attributes := #[] }
def k9m1 : Method := { name := "<init>", desc := "(J)V", sig := { parameters := [.long], returnType := none }, accessFlags := 1, code := some k9c1 }
def k9c2 : Code := { maxStack := 2, maxLocals := 1, code := jdk_35_method_31_code, exceptionTable := #[], attributes := #[] }
def k9m2 : Method := { name := "longValue", desc := "()J", sig := { parameters := [], returnType := some .long }, accessFlags := 1, code := some k9c2 }
/-- java/lang/Long -/
def k9 : Class := { plain "java/lang/Long" (some 5) with
  accessFlags := 49
  interfaces := #[6, 7, 8]
  cf := some (fileOf pool9 1 #[.nestMembers #[235]] #[{ accessFlags := 9, nameIndex := 85, descriptorIndex := 229, attributes := #[] }, { accessFlags := 1, nameIndex := 59, descriptorIndex := 242, attributes := #[] }, { accessFlags := 1, nameIndex := 282, descriptorIndex := 283, attributes := #[] }] 49 271 #[363, 365, 367] #[{ accessFlags := 25, nameIndex := 369, descriptorIndex := 276, attributes := #[] }, { accessFlags := 25, nameIndex := 371, descriptorIndex := 276, attributes := #[] }, { accessFlags := 25, nameIndex := 361, descriptorIndex := 362, attributes := #[] }, { accessFlags := 18, nameIndex := 275, descriptorIndex := 276, attributes := #[] }, { accessFlags := 25, nameIndex := 376, descriptorIndex := 377, attributes := #[] }, { accessFlags := 25, nameIndex := 379, descriptorIndex := 377, attributes := #[] }, { accessFlags := 26, nameIndex := 381, descriptorIndex := 276, attributes := #[] }])
  fields := #[{ name := "MIN_VALUE", type := .long, accessFlags := 25, slot := 0, constantValue := 0 }, { name := "MAX_VALUE", type := .long, accessFlags := 25, slot := 1, constantValue := 0 }, { name := "TYPE", type := (.object "java/lang/Class"), accessFlags := 25, slot := 2, constantValue := 0 }, { name := "value", type := .long, accessFlags := 18, slot := 0, constantValue := 0 }, { name := "SIZE", type := .int, accessFlags := 25, slot := 3, constantValue := 0 }, { name := "BYTES", type := .int, accessFlags := 25, slot := 4, constantValue := 0 }, { name := "serialVersionUID", type := .long, accessFlags := 26, slot := 5, constantValue := 0 }]
  methods := #[k9m0, k9m1, k9m2]
  instanceTypes := #[.long]
  staticTypes := #[.long, .long, (.object "java/lang/Class"), .int, .int, .long]
  resolved := Array.replicate 524 none
  statics := none }

def pool10 : Array CpInfo := pool [(2, .class_ 4), (1, u "java/lang/Object"), (0, u "<init>"), (0, u "()V"), (0, .class_ 8), (0, u "java/lang/Long"), (7, .class_ 18), (1, u "java/lang/Long$LongCache"), (0, u "$assertionsDisabled"), (0, u "Z"), (8, u "archivedCache"), (0, u "[Ljava/lang/Long;"), (7, u "cache")] 24

def k10m0 : Method := { name := "<init>", desc := "()V", sig := { parameters := [], returnType := none }, accessFlags := 2, code := none }
/-- java/lang/Long$LongCache -/
def k10 : Class := { plain "java/lang/Long$LongCache" (some 0) with
  accessFlags := 48
  interfaces := #[]
  cf := some (fileOf pool10 16 #[.nestHost 7] #[{ accessFlags := 2, nameIndex := 5, descriptorIndex := 6, attributes := #[] }] 48 2 #[] #[{ accessFlags := 24, nameIndex := 38, descriptorIndex := 30, attributes := #[] }, { accessFlags := 8, nameIndex := 29, descriptorIndex := 30, attributes := #[] }, { accessFlags := 4120, nameIndex := 19, descriptorIndex := 20, attributes := #[] }])
  fields := #[{ name := "cache", type := (.array (.object "java/lang/Long")), accessFlags := 24, slot := 0, constantValue := 0 }, { name := "archivedCache", type := (.array (.object "java/lang/Long")), accessFlags := 8, slot := 1, constantValue := 0 }, { name := "$assertionsDisabled", type := .boolean, accessFlags := 4120, slot := 2, constantValue := 0 }]
  methods := #[k10m0]
  instanceTypes := #[]
  staticTypes := #[(.array (.object "java/lang/Long")), (.array (.object "java/lang/Long")), .boolean]
  resolved := Array.replicate 63 none
  statics := some 0 }

def pool11 : Array CpInfo := pool [(8, .class_ 10), (1, u "java/lang/Iterable"), (24, .class_ 36), (0, u "java/lang/Object")] 25

/-- java/lang/Iterable -/
def k11 : Class := { plain "java/lang/Iterable" (some 0) with
  accessFlags := 1537
  interfaces := #[]
  cf := some (fileOf pool11 8 #[] #[] 1537 35 #[] #[])
  fields := #[]
  methods := #[]
  instanceTypes := #[]
  staticTypes := #[]
  resolved := Array.replicate 62 none
  statics := none }

def pool12 : Array CpInfo := pool [(10, .class_ 12), (1, u "java/util/Collection"), (47, .class_ 61), (0, u "java/lang/Object"), (0, .class_ 63), (0, u "java/lang/Iterable")] 51

/-- java/util/Collection -/
def k12 : Class := { plain "java/util/Collection" (some 0) with
  accessFlags := 1537
  interfaces := #[11]
  cf := some (fileOf pool12 10 #[] #[] 1537 60 #[62] #[])
  fields := #[]
  methods := #[]
  instanceTypes := #[]
  staticTypes := #[]
  resolved := Array.replicate 115 none
  statics := none }

def pool13 : Array CpInfo := pool [(1, .methodref 2 3), (0, .class_ 4), (0, .nameAndType 5 6), (0, u "java/lang/Object"), (0, u "<init>"), (0, u "()V"), (1, .class_ 10), (1, u "java/util/AbstractCollection"), (66, .class_ 78), (0, u "java/util/Collection")] 81

def k13c0 : Code := { maxStack := 1, maxLocals := 1, code := jdk_22_method_1_code, exceptionTable := #[], attributes := #[] }
def k13m0 : Method := { name := "<init>", desc := "()V", sig := { parameters := [], returnType := none }, accessFlags := 4, code := some k13c0 }
/-- java/util/AbstractCollection -/
def k13 : Class := { plain "java/util/AbstractCollection" (some 0) with
  accessFlags := 1057
  interfaces := #[12]
  cf := some (fileOf pool13 8 #[] #[{ accessFlags := 4, nameIndex := 5, descriptorIndex := 6, attributes := #[] }] 1057 2 #[77] #[])
  fields := #[]
  methods := #[k13m0]
  instanceTypes := #[]
  staticTypes := #[]
  resolved := Array.replicate 160 none
  statics := none }

def pool14 : Array CpInfo := pool [(8, .class_ 10), (1, u "java/util/SequencedCollection"), (15, .class_ 27), (0, u "java/lang/Object"), (0, .class_ 29), (0, u "java/util/Collection")] 27

/-- java/util/SequencedCollection -/
def k14 : Class := { plain "java/util/SequencedCollection" (some 0) with
  accessFlags := 1537
  interfaces := #[12]
  cf := some (fileOf pool14 8 #[] #[] 1537 26 #[28] #[])
  fields := #[]
  methods := #[]
  instanceTypes := #[]
  staticTypes := #[]
  resolved := Array.replicate 57 none
  statics := none }

def pool15 : Array CpInfo := pool [(8, .class_ 10), (1, u "java/util/List"), (7, u "()Z"), (48, u "isEmpty"), (35, .class_ 104), (0, u "java/lang/Object"), (15, .class_ 121), (0, u "java/util/SequencedCollection")] 129

def k15m0 : Method := { name := "isEmpty", desc := "()Z", sig := { parameters := [], returnType := some .boolean }, accessFlags := 1025, code := none }
/-- java/util/List -/
def k15 : Class := { plain "java/util/List" (some 0) with
  accessFlags := 1537
  interfaces := #[14]
  cf := some (fileOf pool15 8 #[] #[{ accessFlags := 1025, nameIndex := 67, descriptorIndex := 18, attributes := #[] }] 1537 103 #[120] #[])
  fields := #[]
  methods := #[k15m0]
  instanceTypes := #[]
  staticTypes := #[]
  resolved := Array.replicate 251 none
  statics := none }

def pool16 : Array CpInfo := pool [(1, .methodref 2 3), (0, .class_ 4), (0, .nameAndType 5 6), (0, u "java/util/AbstractCollection"), (0, u "<init>"), (0, u "()V"), (0, .fieldref 8 9), (0, .class_ 10), (0, .nameAndType 11 12), (0, u "java/util/AbstractList"), (0, u "modCount"), (0, u "I"), (64, .class_ 78), (0, u "java/util/AbstractList$Itr"), (3, .class_ 83), (0, u "java/util/AbstractList$ListItr"), (9, .class_ 94), (0, u "java/util/AbstractList$RandomAccessSubList"), (3, .class_ 99), (0, u "java/util/AbstractList$SubList"), (33, .class_ 134), (0, u "java/util/List"), (73, .class_ 209), (0, u "java/util/AbstractList$SubList$1"), (0, .class_ 211), (0, u "java/util/AbstractList$RandomAccessSpliterator")] 6

def k16c0 : Code := { maxStack := 2, maxLocals := 1, code := jdk_39_method_1_code, exceptionTable := #[], attributes := #[] }
def k16m0 : Method := { name := "<init>", desc := "()V", sig := { parameters := [], returnType := none }, accessFlags := 4, code := some k16c0 }
/-- java/util/AbstractList -/
def k16 : Class := { plain "java/util/AbstractList" (some 13) with
  accessFlags := 1057
  interfaces := #[15]
  cf := some (fileOf pool16 8 #[.nestMembers #[93, 98, 208, 210, 82, 77]] #[{ accessFlags := 4, nameIndex := 5, descriptorIndex := 6, attributes := #[] }] 1057 2 #[133] #[{ accessFlags := 132, nameIndex := 11, descriptorIndex := 12, attributes := #[] }])
  fields := #[{ name := "modCount", type := .int, accessFlags := 132, slot := 0, constantValue := 0 }]
  methods := #[k16m0]
  instanceTypes := #[.int]
  staticTypes := #[]
  resolved := Array.replicate 218 none
  statics := none }

def pool17 : Array CpInfo := pool [(1, .class_ 2), (0, u "java/util/RandomAccess"), (0, .class_ 4), (0, u "java/lang/Object")] 2

/-- java/util/RandomAccess -/
def k17 : Class := { plain "java/util/RandomAccess" (some 0) with
  accessFlags := 1537
  interfaces := #[]
  cf := some (fileOf pool17 1 #[] #[] 1537 3 #[] #[])
  fields := #[]
  methods := #[]
  instanceTypes := #[]
  staticTypes := #[]
  resolved := Array.replicate 7 none
  statics := none }

def pool18 : Array CpInfo := pool [(1, .class_ 2), (0, u "java/lang/Cloneable"), (0, .class_ 4), (0, u "java/lang/Object")] 2

/-- java/lang/Cloneable -/
def k18 : Class := { plain "java/lang/Cloneable" (some 0) with
  accessFlags := 1537
  interfaces := #[]
  cf := some (fileOf pool18 1 #[] #[] 1537 3 #[] #[])
  fields := #[]
  methods := #[]
  instanceTypes := #[]
  staticTypes := #[]
  resolved := Array.replicate 7 none
  statics := none }

def pool19 : Array CpInfo := pool [(1, .methodref 2 3), (0, .class_ 4), (0, .nameAndType 5 6), (0, u "java/util/AbstractList"), (0, u "<init>"), (0, u "()V"), (2, .fieldref 10 11), (0, .class_ 12), (0, .nameAndType 13 14), (0, u "java/util/ArrayList"), (0, u "elementData"), (0, u "[Ljava/lang/Object;"), (2, u "EMPTY_ELEMENTDATA"), (21, .fieldref 10 40), (0, .nameAndType 41 14), (0, u "DEFAULTCAPACITY_EMPTY_ELEMENTDATA"), (6, .fieldref 10 49), (0, .nameAndType 50 51), (0, u "size"), (0, u "I"), (96, .class_ 149), (0, u "java/util/List"), (23, u "()Z"), (88, .class_ 263), (0, u "java/util/ArrayList$ListItr"), (3, .class_ 268), (0, u "java/util/ArrayList$Itr"), (7, .class_ 277), (0, u "java/util/ArrayList$SubList"), (12, .class_ 291), (0, u "java/util/ArrayList$ArrayListSpliterator"), (37, .class_ 330), (0, u "java/util/RandomAccess"), (0, .class_ 332), (0, u "java/lang/Cloneable"), (0, .class_ 334), (0, u "java/io/Serializable"), (0, u "serialVersionUID"), (0, u "J"), (3, u "DEFAULT_CAPACITY"), (22, u "isEmpty"), (136, .class_ 501), (0, u "java/util/ArrayList$SubList$2"), (0, .class_ 503), (0, u "java/util/ArrayList$SubList$1")] 5

def k19c0 : Code := { maxStack := 2, maxLocals := 1, code := jdk_38_method_2_code, exceptionTable := #[], attributes := #[] }
def k19m0 : Method := { name := "<init>", desc := "()V", sig := { parameters := [], returnType := none }, accessFlags := 1, code := some k19c0 }
def k19c1 : Code := { maxStack := 1, maxLocals := 1, code := jdk_38_method_9_code, exceptionTable := #[], attributes := #[] }
def k19m1 : Method := { name := "isEmpty", desc := "()Z", sig := { parameters := [], returnType := some .boolean }, accessFlags := 1, code := some k19c1 }
/-- java/util/ArrayList -/
def k19 : Class := { plain "java/util/ArrayList" (some 16) with
  accessFlags := 33
  interfaces := #[15, 17, 18, 4]
  cf := some (fileOf pool19 10 #[.nestMembers #[290, 276, 500, 502, 262, 267]] #[{ accessFlags := 1, nameIndex := 5, descriptorIndex := 6, attributes := #[] }, { accessFlags := 1, nameIndex := 363, descriptorIndex := 173, attributes := #[] }] 33 2 #[148, 329, 331, 333] #[{ accessFlags := 26, nameIndex := 335, descriptorIndex := 336, attributes := #[] }, { accessFlags := 26, nameIndex := 340, descriptorIndex := 51, attributes := #[] }, { accessFlags := 26, nameIndex := 17, descriptorIndex := 14, attributes := #[] }, { accessFlags := 26, nameIndex := 41, descriptorIndex := 14, attributes := #[] }, { accessFlags := 128, nameIndex := 13, descriptorIndex := 14, attributes := #[] }, { accessFlags := 2, nameIndex := 50, descriptorIndex := 51, attributes := #[] }])
  fields := #[{ name := "serialVersionUID", type := .long, accessFlags := 26, slot := 0, constantValue := 0 }, { name := "DEFAULT_CAPACITY", type := .int, accessFlags := 26, slot := 1, constantValue := 0 }, { name := "EMPTY_ELEMENTDATA", type := (.array (.object "java/lang/Object")), accessFlags := 26, slot := 2, constantValue := 0 }, { name := "DEFAULTCAPACITY_EMPTY_ELEMENTDATA", type := (.array (.object "java/lang/Object")), accessFlags := 26, slot := 3, constantValue := 0 }, { name := "elementData", type := (.array (.object "java/lang/Object")), accessFlags := 128, slot := 1, constantValue := 0 }, { name := "size", type := .int, accessFlags := 2, slot := 2, constantValue := 0 }]
  methods := #[k19m0, k19m1]
  instanceTypes := #[.int, (.array (.object "java/lang/Object")), .int]
  staticTypes := #[.long, .int, (.array (.object "java/lang/Object")), (.array (.object "java/lang/Object"))]
  resolved := Array.replicate 509 none
  statics := some 1 }

def pool20 : Array CpInfo := pool [(2, .class_ 4), (1, u "java/lang/Object"), (0, u "<init>"), (0, u "()V"), (1, .class_ 10), (1, u "java/lang/Throwable"), (0, u "cause"), (0, u "Ljava/lang/Throwable;"), (2, u "UNASSIGNED_STACK"), (0, u "[Ljava/lang/StackTraceElement;"), (2, u "stackTrace"), (2, u "SUPPRESSED_SENTINEL"), (0, u "Ljava/util/List;"), (2, u "suppressedExceptions"), (6, u "detailMessage"), (0, u "Ljava/lang/String;"), (58, .class_ 94), (0, u "java/lang/Throwable$WrappedPrintStream"), (6, .class_ 103), (1, u "java/lang/Throwable$PrintStreamOrWriter"), (61, u "$assertionsDisabled"), (0, u "Z"), (26, .class_ 194), (0, u "java/lang/Throwable$WrappedPrintWriter"), (5, u "backtrace"), (0, u "Ljava/lang/Object;"), (9, u "depth"), (0, u "I"), (56, .class_ 271), (1, u "java/lang/Throwable$SentinelHolder"), (32, u "EMPTY_THROWABLE_ARRAY"), (0, u "[Ljava/lang/Throwable;"), (12, .class_ 319), (0, u "java/io/Serializable"), (0, u "serialVersionUID"), (0, u "J"), (5, u "NULL_CAUSE_MESSAGE"), (0, u "SELF_SUPPRESSION_MESSAGE"), (0, u "CAUSE_CAPTION"), (0, u "SUPPRESSED_CAPTION")] 73

def k20m0 : Method := { name := "<init>", desc := "()V", sig := { parameters := [], returnType := none }, accessFlags := 1, code := none }
/-- java/lang/Throwable -/
def k20 : Class := { plain "java/lang/Throwable" (some 0) with
  accessFlags := 33
  interfaces := #[4]
  cf := some (fileOf pool20 8 #[.nestMembers #[193, 93, 101, 269]] #[{ accessFlags := 1, nameIndex := 5, descriptorIndex := 6, attributes := #[] }] 33 2 #[318] #[{ accessFlags := 26, nameIndex := 320, descriptorIndex := 321, attributes := #[] }, { accessFlags := 130, nameIndex := 200, descriptorIndex := 201, attributes := #[] }, { accessFlags := 2, nameIndex := 33, descriptorIndex := 34, attributes := #[] }, { accessFlags := 26, nameIndex := 15, descriptorIndex := 16, attributes := #[] }, { accessFlags := 2, nameIndex := 11, descriptorIndex := 12, attributes := #[] }, { accessFlags := 2, nameIndex := 19, descriptorIndex := 16, attributes := #[] }, { accessFlags := 130, nameIndex := 211, descriptorIndex := 212, attributes := #[] }, { accessFlags := 26, nameIndex := 22, descriptorIndex := 23, attributes := #[] }, { accessFlags := 2, nameIndex := 26, descriptorIndex := 23, attributes := #[] }, { accessFlags := 26, nameIndex := 327, descriptorIndex := 34, attributes := #[] }, { accessFlags := 26, nameIndex := 328, descriptorIndex := 34, attributes := #[] }, { accessFlags := 26, nameIndex := 329, descriptorIndex := 34, attributes := #[] }, { accessFlags := 26, nameIndex := 330, descriptorIndex := 34, attributes := #[] }, { accessFlags := 26, nameIndex := 304, descriptorIndex := 305, attributes := #[] }, { accessFlags := 4120, nameIndex := 165, descriptorIndex := 166, attributes := #[] }])
  fields := #[{ name := "serialVersionUID", type := .long, accessFlags := 26, slot := 0, constantValue := 0 }, { name := "backtrace", type := (.object "java/lang/Object"), accessFlags := 130, slot := 0, constantValue := 0 }, { name := "detailMessage", type := (.object "java/lang/String"), accessFlags := 2, slot := 1, constantValue := 0 }, { name := "UNASSIGNED_STACK", type := (.array (.object "java/lang/StackTraceElement")), accessFlags := 26, slot := 1, constantValue := 0 }, { name := "cause", type := (.object "java/lang/Throwable"), accessFlags := 2, slot := 2, constantValue := 0 }, { name := "stackTrace", type := (.array (.object "java/lang/StackTraceElement")), accessFlags := 2, slot := 3, constantValue := 0 }, { name := "depth", type := .int, accessFlags := 130, slot := 4, constantValue := 0 }, { name := "SUPPRESSED_SENTINEL", type := (.object "java/util/List"), accessFlags := 26, slot := 2, constantValue := 0 }, { name := "suppressedExceptions", type := (.object "java/util/List"), accessFlags := 2, slot := 5, constantValue := 0 }, { name := "NULL_CAUSE_MESSAGE", type := (.object "java/lang/String"), accessFlags := 26, slot := 3, constantValue := 0 }, { name := "SELF_SUPPRESSION_MESSAGE", type := (.object "java/lang/String"), accessFlags := 26, slot := 4, constantValue := 0 }, { name := "CAUSE_CAPTION", type := (.object "java/lang/String"), accessFlags := 26, slot := 5, constantValue := 0 }, { name := "SUPPRESSED_CAPTION", type := (.object "java/lang/String"), accessFlags := 26, slot := 6, constantValue := 0 }, { name := "EMPTY_THROWABLE_ARRAY", type := (.array (.object "java/lang/Throwable")), accessFlags := 26, slot := 7, constantValue := 0 }, { name := "$assertionsDisabled", type := .boolean, accessFlags := 4120, slot := 8, constantValue := 0 }]
  methods := #[k20m0]
  instanceTypes := #[(.object "java/lang/Object"), (.object "java/lang/String"), (.object "java/lang/Throwable"), (.array (.object "java/lang/StackTraceElement")), .int, (.object "java/util/List")]
  staticTypes := #[.long, (.array (.object "java/lang/StackTraceElement")), (.object "java/util/List"), (.object "java/lang/String"), (.object "java/lang/String"), (.object "java/lang/String"), (.object "java/lang/String"), (.array (.object "java/lang/Throwable")), .boolean]
  resolved := Array.replicate 404 none
  statics := none }

def pool21 : Array CpInfo := pool [(2, .class_ 4), (1, u "java/lang/Throwable"), (0, u "<init>"), (0, u "()V"), (12, .class_ 20), (0, u "java/lang/Exception"), (0, u "serialVersionUID"), (0, u "J")] 17

def k21m0 : Method := { name := "<init>", desc := "()V", sig := { parameters := [], returnType := none }, accessFlags := 1, code := none }
/-- java/lang/Exception -/
def k21 : Class := { plain "java/lang/Exception" (some 20) with
  accessFlags := 33
  interfaces := #[]
  cf := some (fileOf pool21 19 #[] #[{ accessFlags := 1, nameIndex := 5, descriptorIndex := 6, attributes := #[] }] 33 2 #[] #[{ accessFlags := 24, nameIndex := 21, descriptorIndex := 22, attributes := #[] }])
  fields := #[{ name := "serialVersionUID", type := .long, accessFlags := 24, slot := 0, constantValue := 0 }]
  methods := #[k21m0]
  instanceTypes := #[(.object "java/lang/Object"), (.object "java/lang/String"), (.object "java/lang/Throwable"), (.array (.object "java/lang/StackTraceElement")), .int, (.object "java/util/List")]
  staticTypes := #[.long]
  resolved := Array.replicate 40 none
  statics := none }

def pool22 : Array CpInfo := pool [(2, .class_ 4), (1, u "com/example/narrow_gate/narrowgate/InvalidLimitsException"), (3, .class_ 10), (1, u "java/lang/Exception"), (2, .interfaceMethodref 14 15), (0, .class_ 16), (0, .nameAndType 17 18), (0, u "java/util/List"), (0, u "isEmpty"), (0, u "()Z"), (5, .class_ 25), (0, u "com/example/narrow_gate/narrowgate/InvalidLimitsException$Problem"), (5, u "[Lcom/example/narrow_gate/narrowgate/InvalidLimitsException$Problem;"), (2, u "problems"), (52, u "serialVersionUID"), (0, u "J"), (3, u "(Ljava/util/List;)V"), (5, u "refuseIfAny")] 37

def k22c0 : Code := { maxStack := 3, maxLocals := 1, code := prog_16_method_2_code, exceptionTable := #[], attributes := #[] }
def k22m0 : Method := { name := "refuseIfAny", desc := "(Ljava/util/List;)V", sig := { parameters := [(.object "java/util/List")], returnType := none }, accessFlags := 8, code := some k22c0 }
/-- com/example/narrow_gate/narrowgate/InvalidLimitsException -/
def k22 : Class := { plain "com/example/narrow_gate/narrowgate/InvalidLimitsException" (some 21) with
  accessFlags := 49
  interfaces := #[]
  cf := some (fileOf pool22 2 #[.nestMembers #[24]] #[{ accessFlags := 8, nameIndex := 98, descriptorIndex := 92, attributes := #[] }] 49 8 #[] #[{ accessFlags := 26, nameIndex := 87, descriptorIndex := 88, attributes := #[] }, { accessFlags := 18, nameIndex := 34, descriptorIndex := 31, attributes := #[] }])
  fields := #[{ name := "serialVersionUID", type := .long, accessFlags := 26, slot := 0, constantValue := 0 }, { name := "problems", type := (.array (.object "com/example/narrow_gate/narrowgate/InvalidLimitsException$Problem")), accessFlags := 18, slot := 6, constantValue := 0 }]
  methods := #[k22m0]
  instanceTypes := #[(.object "java/lang/Object"), (.object "java/lang/String"), (.object "java/lang/Throwable"), (.array (.object "java/lang/StackTraceElement")), .int, (.object "java/util/List"), (.array (.object "com/example/narrow_gate/narrowgate/InvalidLimitsException$Problem"))]
  staticTypes := #[.long]
  resolved := Array.replicate 136 none
  statics := none }

/-- the primitive byte -/
def k23 : Class := { plain "byte" none with kind := .primitive 'B', accessFlags := 0x411 }
/-- [B -/
def k24 : Class := { plain "[B" (some 0) with kind := .array 23 .byte, interfaces := #[18, 4], accessFlags := 1041 }

/-- the primitive int -/
def k25 : Class := { plain "int" none with kind := .primitive 'I', accessFlags := 0x411 }
/-- [I -/
def k26 : Class := { plain "[I" (some 0) with kind := .array 25 .int, interfaces := #[18, 4], accessFlags := 1041 }

/-- [Ljava/lang/Long; -/
def k27 : Class := { plain "[Ljava/lang/Long;" (some 0) with kind := .array 9 (.object "java/lang/Long"), interfaces := #[18, 4], accessFlags := 1041 }

/-- [Ljava/lang/Object; -/
def k28 : Class := { plain "[Ljava/lang/Object;" (some 0) with kind := .array 0 (.object "java/lang/Object"), interfaces := #[18, 4], accessFlags := 1041 }

def heap : Heap := #[{ cls := 10, slots := #[.ref 2, .null, .int 0], vm := .statics 10 },
  { cls := 19, slots := #[.long 0, .int 0, .ref 259, .ref 260], vm := .statics 19 },
  { cls := 27, slots := #[.ref 3, .ref 4, .ref 5, .ref 6, .ref 7, .ref 8, .ref 9, .ref 10, .ref 11, .ref 12, .ref 13, .ref 14, .ref 15, .ref 16, .ref 17, .ref 18, .ref 19, .ref 20, .ref 21, .ref 22, .ref 23, .ref 24, .ref 25, .ref 26, .ref 27, .ref 28, .ref 29, .ref 30, .ref 31, .ref 32, .ref 33, .ref 34, .ref 35, .ref 36, .ref 37, .ref 38, .ref 39, .ref 40, .ref 41, .ref 42, .ref 43, .ref 44, .ref 45, .ref 46, .ref 47, .ref 48, .ref 49, .ref 50, .ref 51, .ref 52, .ref 53, .ref 54, .ref 55, .ref 56, .ref 57, .ref 58, .ref 59, .ref 60, .ref 61, .ref 62, .ref 63, .ref 64, .ref 65, .ref 66, .ref 67, .ref 68, .ref 69, .ref 70, .ref 71, .ref 72, .ref 73, .ref 74, .ref 75, .ref 76, .ref 77, .ref 78, .ref 79, .ref 80, .ref 81, .ref 82, .ref 83, .ref 84, .ref 85, .ref 86, .ref 87, .ref 88, .ref 89, .ref 90, .ref 91, .ref 92, .ref 93, .ref 94, .ref 95, .ref 96, .ref 97, .ref 98, .ref 99, .ref 100, .ref 101, .ref 102, .ref 103, .ref 104, .ref 105, .ref 106, .ref 107, .ref 108, .ref 109, .ref 110, .ref 111, .ref 112, .ref 113, .ref 114, .ref 115, .ref 116, .ref 117, .ref 118, .ref 119, .ref 120, .ref 121, .ref 122, .ref 123, .ref 124, .ref 125, .ref 126, .ref 127, .ref 128, .ref 129, .ref 130, .ref 131, .ref 132, .ref 133, .ref 134, .ref 135, .ref 136, .ref 137, .ref 138, .ref 139, .ref 140, .ref 141, .ref 142, .ref 143, .ref 144, .ref 145, .ref 146, .ref 147, .ref 148, .ref 149, .ref 150, .ref 151, .ref 152, .ref 153, .ref 154, .ref 155, .ref 156, .ref 157, .ref 158, .ref 159, .ref 160, .ref 161, .ref 162, .ref 163, .ref 164, .ref 165, .ref 166, .ref 167, .ref 168, .ref 169, .ref 170, .ref 171, .ref 172, .ref 173, .ref 174, .ref 175, .ref 176, .ref 177, .ref 178, .ref 179, .ref 180, .ref 181, .ref 182, .ref 183, .ref 184, .ref 185, .ref 186, .ref 187, .ref 188, .ref 189, .ref 190, .ref 191, .ref 192, .ref 193, .ref 194, .ref 195, .ref 196, .ref 197, .ref 198, .ref 199, .ref 200, .ref 201, .ref 202, .ref 203, .ref 204, .ref 205, .ref 206, .ref 207, .ref 208, .ref 209, .ref 210, .ref 211, .ref 212, .ref 213, .ref 214, .ref 215, .ref 216, .ref 217, .ref 218, .ref 219, .ref 220, .ref 221, .ref 222, .ref 223, .ref 224, .ref 225, .ref 226, .ref 227, .ref 228, .ref 229, .ref 230, .ref 231, .ref 232, .ref 233, .ref 234, .ref 235, .ref 236, .ref 237, .ref 238, .ref 239, .ref 240, .ref 241, .ref 242, .ref 243, .ref 244, .ref 245, .ref 246, .ref 247, .ref 248, .ref 249, .ref 250, .ref 251, .ref 252, .ref 253, .ref 254, .ref 255, .ref 256, .ref 257, .ref 258], vm := .none },
  { cls := 9, slots := #[.long (-128)], vm := .none },
  { cls := 9, slots := #[.long (-127)], vm := .none },
  { cls := 9, slots := #[.long (-126)], vm := .none },
  { cls := 9, slots := #[.long (-125)], vm := .none },
  { cls := 9, slots := #[.long (-124)], vm := .none },
  { cls := 9, slots := #[.long (-123)], vm := .none },
  { cls := 9, slots := #[.long (-122)], vm := .none },
  { cls := 9, slots := #[.long (-121)], vm := .none },
  { cls := 9, slots := #[.long (-120)], vm := .none },
  { cls := 9, slots := #[.long (-119)], vm := .none },
  { cls := 9, slots := #[.long (-118)], vm := .none },
  { cls := 9, slots := #[.long (-117)], vm := .none },
  { cls := 9, slots := #[.long (-116)], vm := .none },
  { cls := 9, slots := #[.long (-115)], vm := .none },
  { cls := 9, slots := #[.long (-114)], vm := .none },
  { cls := 9, slots := #[.long (-113)], vm := .none },
  { cls := 9, slots := #[.long (-112)], vm := .none },
  { cls := 9, slots := #[.long (-111)], vm := .none },
  { cls := 9, slots := #[.long (-110)], vm := .none },
  { cls := 9, slots := #[.long (-109)], vm := .none },
  { cls := 9, slots := #[.long (-108)], vm := .none },
  { cls := 9, slots := #[.long (-107)], vm := .none },
  { cls := 9, slots := #[.long (-106)], vm := .none },
  { cls := 9, slots := #[.long (-105)], vm := .none },
  { cls := 9, slots := #[.long (-104)], vm := .none },
  { cls := 9, slots := #[.long (-103)], vm := .none },
  { cls := 9, slots := #[.long (-102)], vm := .none },
  { cls := 9, slots := #[.long (-101)], vm := .none },
  { cls := 9, slots := #[.long (-100)], vm := .none },
  { cls := 9, slots := #[.long (-99)], vm := .none },
  { cls := 9, slots := #[.long (-98)], vm := .none },
  { cls := 9, slots := #[.long (-97)], vm := .none },
  { cls := 9, slots := #[.long (-96)], vm := .none },
  { cls := 9, slots := #[.long (-95)], vm := .none },
  { cls := 9, slots := #[.long (-94)], vm := .none },
  { cls := 9, slots := #[.long (-93)], vm := .none },
  { cls := 9, slots := #[.long (-92)], vm := .none },
  { cls := 9, slots := #[.long (-91)], vm := .none },
  { cls := 9, slots := #[.long (-90)], vm := .none },
  { cls := 9, slots := #[.long (-89)], vm := .none },
  { cls := 9, slots := #[.long (-88)], vm := .none },
  { cls := 9, slots := #[.long (-87)], vm := .none },
  { cls := 9, slots := #[.long (-86)], vm := .none },
  { cls := 9, slots := #[.long (-85)], vm := .none },
  { cls := 9, slots := #[.long (-84)], vm := .none },
  { cls := 9, slots := #[.long (-83)], vm := .none },
  { cls := 9, slots := #[.long (-82)], vm := .none },
  { cls := 9, slots := #[.long (-81)], vm := .none },
  { cls := 9, slots := #[.long (-80)], vm := .none },
  { cls := 9, slots := #[.long (-79)], vm := .none },
  { cls := 9, slots := #[.long (-78)], vm := .none },
  { cls := 9, slots := #[.long (-77)], vm := .none },
  { cls := 9, slots := #[.long (-76)], vm := .none },
  { cls := 9, slots := #[.long (-75)], vm := .none },
  { cls := 9, slots := #[.long (-74)], vm := .none },
  { cls := 9, slots := #[.long (-73)], vm := .none },
  { cls := 9, slots := #[.long (-72)], vm := .none },
  { cls := 9, slots := #[.long (-71)], vm := .none },
  { cls := 9, slots := #[.long (-70)], vm := .none },
  { cls := 9, slots := #[.long (-69)], vm := .none },
  { cls := 9, slots := #[.long (-68)], vm := .none },
  { cls := 9, slots := #[.long (-67)], vm := .none },
  { cls := 9, slots := #[.long (-66)], vm := .none },
  { cls := 9, slots := #[.long (-65)], vm := .none },
  { cls := 9, slots := #[.long (-64)], vm := .none },
  { cls := 9, slots := #[.long (-63)], vm := .none },
  { cls := 9, slots := #[.long (-62)], vm := .none },
  { cls := 9, slots := #[.long (-61)], vm := .none },
  { cls := 9, slots := #[.long (-60)], vm := .none },
  { cls := 9, slots := #[.long (-59)], vm := .none },
  { cls := 9, slots := #[.long (-58)], vm := .none },
  { cls := 9, slots := #[.long (-57)], vm := .none },
  { cls := 9, slots := #[.long (-56)], vm := .none },
  { cls := 9, slots := #[.long (-55)], vm := .none },
  { cls := 9, slots := #[.long (-54)], vm := .none },
  { cls := 9, slots := #[.long (-53)], vm := .none },
  { cls := 9, slots := #[.long (-52)], vm := .none },
  { cls := 9, slots := #[.long (-51)], vm := .none },
  { cls := 9, slots := #[.long (-50)], vm := .none },
  { cls := 9, slots := #[.long (-49)], vm := .none },
  { cls := 9, slots := #[.long (-48)], vm := .none },
  { cls := 9, slots := #[.long (-47)], vm := .none },
  { cls := 9, slots := #[.long (-46)], vm := .none },
  { cls := 9, slots := #[.long (-45)], vm := .none },
  { cls := 9, slots := #[.long (-44)], vm := .none },
  { cls := 9, slots := #[.long (-43)], vm := .none },
  { cls := 9, slots := #[.long (-42)], vm := .none },
  { cls := 9, slots := #[.long (-41)], vm := .none },
  { cls := 9, slots := #[.long (-40)], vm := .none },
  { cls := 9, slots := #[.long (-39)], vm := .none },
  { cls := 9, slots := #[.long (-38)], vm := .none },
  { cls := 9, slots := #[.long (-37)], vm := .none },
  { cls := 9, slots := #[.long (-36)], vm := .none },
  { cls := 9, slots := #[.long (-35)], vm := .none },
  { cls := 9, slots := #[.long (-34)], vm := .none },
  { cls := 9, slots := #[.long (-33)], vm := .none },
  { cls := 9, slots := #[.long (-32)], vm := .none },
  { cls := 9, slots := #[.long (-31)], vm := .none },
  { cls := 9, slots := #[.long (-30)], vm := .none },
  { cls := 9, slots := #[.long (-29)], vm := .none },
  { cls := 9, slots := #[.long (-28)], vm := .none },
  { cls := 9, slots := #[.long (-27)], vm := .none },
  { cls := 9, slots := #[.long (-26)], vm := .none },
  { cls := 9, slots := #[.long (-25)], vm := .none },
  { cls := 9, slots := #[.long (-24)], vm := .none },
  { cls := 9, slots := #[.long (-23)], vm := .none },
  { cls := 9, slots := #[.long (-22)], vm := .none },
  { cls := 9, slots := #[.long (-21)], vm := .none },
  { cls := 9, slots := #[.long (-20)], vm := .none },
  { cls := 9, slots := #[.long (-19)], vm := .none },
  { cls := 9, slots := #[.long (-18)], vm := .none },
  { cls := 9, slots := #[.long (-17)], vm := .none },
  { cls := 9, slots := #[.long (-16)], vm := .none },
  { cls := 9, slots := #[.long (-15)], vm := .none },
  { cls := 9, slots := #[.long (-14)], vm := .none },
  { cls := 9, slots := #[.long (-13)], vm := .none },
  { cls := 9, slots := #[.long (-12)], vm := .none },
  { cls := 9, slots := #[.long (-11)], vm := .none },
  { cls := 9, slots := #[.long (-10)], vm := .none },
  { cls := 9, slots := #[.long (-9)], vm := .none },
  { cls := 9, slots := #[.long (-8)], vm := .none },
  { cls := 9, slots := #[.long (-7)], vm := .none },
  { cls := 9, slots := #[.long (-6)], vm := .none },
  { cls := 9, slots := #[.long (-5)], vm := .none },
  { cls := 9, slots := #[.long (-4)], vm := .none },
  { cls := 9, slots := #[.long (-3)], vm := .none },
  { cls := 9, slots := #[.long (-2)], vm := .none },
  { cls := 9, slots := #[.long (-1)], vm := .none },
  { cls := 9, slots := #[.long 0], vm := .none },
  { cls := 9, slots := #[.long 1], vm := .none },
  { cls := 9, slots := #[.long 2], vm := .none },
  { cls := 9, slots := #[.long 3], vm := .none },
  { cls := 9, slots := #[.long 4], vm := .none },
  { cls := 9, slots := #[.long 5], vm := .none },
  { cls := 9, slots := #[.long 6], vm := .none },
  { cls := 9, slots := #[.long 7], vm := .none },
  { cls := 9, slots := #[.long 8], vm := .none },
  { cls := 9, slots := #[.long 9], vm := .none },
  { cls := 9, slots := #[.long 10], vm := .none },
  { cls := 9, slots := #[.long 11], vm := .none },
  { cls := 9, slots := #[.long 12], vm := .none },
  { cls := 9, slots := #[.long 13], vm := .none },
  { cls := 9, slots := #[.long 14], vm := .none },
  { cls := 9, slots := #[.long 15], vm := .none },
  { cls := 9, slots := #[.long 16], vm := .none },
  { cls := 9, slots := #[.long 17], vm := .none },
  { cls := 9, slots := #[.long 18], vm := .none },
  { cls := 9, slots := #[.long 19], vm := .none },
  { cls := 9, slots := #[.long 20], vm := .none },
  { cls := 9, slots := #[.long 21], vm := .none },
  { cls := 9, slots := #[.long 22], vm := .none },
  { cls := 9, slots := #[.long 23], vm := .none },
  { cls := 9, slots := #[.long 24], vm := .none },
  { cls := 9, slots := #[.long 25], vm := .none },
  { cls := 9, slots := #[.long 26], vm := .none },
  { cls := 9, slots := #[.long 27], vm := .none },
  { cls := 9, slots := #[.long 28], vm := .none },
  { cls := 9, slots := #[.long 29], vm := .none },
  { cls := 9, slots := #[.long 30], vm := .none },
  { cls := 9, slots := #[.long 31], vm := .none },
  { cls := 9, slots := #[.long 32], vm := .none },
  { cls := 9, slots := #[.long 33], vm := .none },
  { cls := 9, slots := #[.long 34], vm := .none },
  { cls := 9, slots := #[.long 35], vm := .none },
  { cls := 9, slots := #[.long 36], vm := .none },
  { cls := 9, slots := #[.long 37], vm := .none },
  { cls := 9, slots := #[.long 38], vm := .none },
  { cls := 9, slots := #[.long 39], vm := .none },
  { cls := 9, slots := #[.long 40], vm := .none },
  { cls := 9, slots := #[.long 41], vm := .none },
  { cls := 9, slots := #[.long 42], vm := .none },
  { cls := 9, slots := #[.long 43], vm := .none },
  { cls := 9, slots := #[.long 44], vm := .none },
  { cls := 9, slots := #[.long 45], vm := .none },
  { cls := 9, slots := #[.long 46], vm := .none },
  { cls := 9, slots := #[.long 47], vm := .none },
  { cls := 9, slots := #[.long 48], vm := .none },
  { cls := 9, slots := #[.long 49], vm := .none },
  { cls := 9, slots := #[.long 50], vm := .none },
  { cls := 9, slots := #[.long 51], vm := .none },
  { cls := 9, slots := #[.long 52], vm := .none },
  { cls := 9, slots := #[.long 53], vm := .none },
  { cls := 9, slots := #[.long 54], vm := .none },
  { cls := 9, slots := #[.long 55], vm := .none },
  { cls := 9, slots := #[.long 56], vm := .none },
  { cls := 9, slots := #[.long 57], vm := .none },
  { cls := 9, slots := #[.long 58], vm := .none },
  { cls := 9, slots := #[.long 59], vm := .none },
  { cls := 9, slots := #[.long 60], vm := .none },
  { cls := 9, slots := #[.long 61], vm := .none },
  { cls := 9, slots := #[.long 62], vm := .none },
  { cls := 9, slots := #[.long 63], vm := .none },
  { cls := 9, slots := #[.long 64], vm := .none },
  { cls := 9, slots := #[.long 65], vm := .none },
  { cls := 9, slots := #[.long 66], vm := .none },
  { cls := 9, slots := #[.long 67], vm := .none },
  { cls := 9, slots := #[.long 68], vm := .none },
  { cls := 9, slots := #[.long 69], vm := .none },
  { cls := 9, slots := #[.long 70], vm := .none },
  { cls := 9, slots := #[.long 71], vm := .none },
  { cls := 9, slots := #[.long 72], vm := .none },
  { cls := 9, slots := #[.long 73], vm := .none },
  { cls := 9, slots := #[.long 74], vm := .none },
  { cls := 9, slots := #[.long 75], vm := .none },
  { cls := 9, slots := #[.long 76], vm := .none },
  { cls := 9, slots := #[.long 77], vm := .none },
  { cls := 9, slots := #[.long 78], vm := .none },
  { cls := 9, slots := #[.long 79], vm := .none },
  { cls := 9, slots := #[.long 80], vm := .none },
  { cls := 9, slots := #[.long 81], vm := .none },
  { cls := 9, slots := #[.long 82], vm := .none },
  { cls := 9, slots := #[.long 83], vm := .none },
  { cls := 9, slots := #[.long 84], vm := .none },
  { cls := 9, slots := #[.long 85], vm := .none },
  { cls := 9, slots := #[.long 86], vm := .none },
  { cls := 9, slots := #[.long 87], vm := .none },
  { cls := 9, slots := #[.long 88], vm := .none },
  { cls := 9, slots := #[.long 89], vm := .none },
  { cls := 9, slots := #[.long 90], vm := .none },
  { cls := 9, slots := #[.long 91], vm := .none },
  { cls := 9, slots := #[.long 92], vm := .none },
  { cls := 9, slots := #[.long 93], vm := .none },
  { cls := 9, slots := #[.long 94], vm := .none },
  { cls := 9, slots := #[.long 95], vm := .none },
  { cls := 9, slots := #[.long 96], vm := .none },
  { cls := 9, slots := #[.long 97], vm := .none },
  { cls := 9, slots := #[.long 98], vm := .none },
  { cls := 9, slots := #[.long 99], vm := .none },
  { cls := 9, slots := #[.long 100], vm := .none },
  { cls := 9, slots := #[.long 101], vm := .none },
  { cls := 9, slots := #[.long 102], vm := .none },
  { cls := 9, slots := #[.long 103], vm := .none },
  { cls := 9, slots := #[.long 104], vm := .none },
  { cls := 9, slots := #[.long 105], vm := .none },
  { cls := 9, slots := #[.long 106], vm := .none },
  { cls := 9, slots := #[.long 107], vm := .none },
  { cls := 9, slots := #[.long 108], vm := .none },
  { cls := 9, slots := #[.long 109], vm := .none },
  { cls := 9, slots := #[.long 110], vm := .none },
  { cls := 9, slots := #[.long 111], vm := .none },
  { cls := 9, slots := #[.long 112], vm := .none },
  { cls := 9, slots := #[.long 113], vm := .none },
  { cls := 9, slots := #[.long 114], vm := .none },
  { cls := 9, slots := #[.long 115], vm := .none },
  { cls := 9, slots := #[.long 116], vm := .none },
  { cls := 9, slots := #[.long 117], vm := .none },
  { cls := 9, slots := #[.long 118], vm := .none },
  { cls := 9, slots := #[.long 119], vm := .none },
  { cls := 9, slots := #[.long 120], vm := .none },
  { cls := 9, slots := #[.long 121], vm := .none },
  { cls := 9, slots := #[.long 122], vm := .none },
  { cls := 9, slots := #[.long 123], vm := .none },
  { cls := 9, slots := #[.long 124], vm := .none },
  { cls := 9, slots := #[.long 125], vm := .none },
  { cls := 9, slots := #[.long 126], vm := .none },
  { cls := 9, slots := #[.long 127], vm := .none },
  { cls := 28, slots := #[], vm := .none },
  { cls := 28, slots := #[], vm := .none }]
def classes : Array Class := #[k0, k1, k2, k3, k4, k5, k6, k7, k8, k9, k10, k11, k12, k13, k14, k15, k16, k17, k18, k19, k20, k21, k22, k23, k24, k25, k26, k27, k28]
def interned : List (Array UInt16 × Addr) := []
def slotsUsed : Nat := 519
def theMethod : MethodId := ⟨1, 4⟩
def args0 : Array Value := #[.long 1, .long 2, .long 3, .long 4, .int 5]
def aboutOver (below : List Frame) : State where
  vm := { classes := classes, interned := interned.toArray }
  heap := heap
  slotsUsed := slotsUsed
  threads := #[{ frames := .invoking theMethod args0 :: below }]
def below0 : List Frame := [.native { method := ⟨0, 0⟩, args := #[] }]
def about1 : State := aboutOver below0
def p0 : Program := .bare "" "" ""
def e0 : Env := launch0.env 0 0 0
theorem w_frames : about1.frames = Frame.invoking theMethod args0 :: below0 := rfl
set_option maxRecDepth 65536 in
theorem w_args : argsFit about1.vm theMethod args0 = true := by decide +kernel
set_option maxRecDepth 65536 in
theorem w_heap : heapFits about1 = true := by decide +kernel
set_option maxRecDepth 65536 in
theorem w_runnable : about1.curStatus? = some .runnable := by decide +kernel
set_option maxRecDepth 65536 in
theorem w_alone : about1.alone = true := by decide +kernel
set_option maxRecDepth 65536 in
theorem w_named : about1.methodNamed? x = some theMethod := by decide +kernel
set_option maxRecDepth 65536 in
theorem w_hears : about1.hears theMethod below0 = true := by decide +kernel
set_option maxRecDepth 65536 in
theorem w_ripe : about1.ripe theMethod args0 below0 = true := by decide +kernel
theorem w_running : about1.status = .running := rfl
set_option maxRecDepth 65536 in
theorem w_room : about1.hasRoom e0.platform room_1 = true :=
  launch0.hasRoom_least _ room_1 (by decide +kernel) (by decide +kernel) (by decide +kernel) (by decide +kernel) (by decide +kernel) (by decide +kernel)
theorem allAtoms_all (ts : List Jvm.Cond) (a : Array Jvm.Value) (st : Jvm.State) : (allAtoms ts).before a st = ts.all (fun c => c.before a st) := by
  induction ts with
  | nil => rfl
  | cons c t ih =>
    show (Jvm.Cond.and c (allAtoms t)).before a st = _
    rw [Jvm.Cond.before_and, ih, List.all_cons]
def words1 : List Jvm.Cond := Jvm.Cond.code x code maxLocals ret :: tables_1
/-- a 'code' word, met by the world's own term for the bytes: nothing is compared byte by byte -/
theorem code_word {y : MethodName} {bytes : ByteArray} {mx : Nat} {rt : Option FieldType} {a : Array Value} {s : State} {m : MethodId} {meth : Method} {c : Code} (h1 : s.methodNamed? y = some m) (h2 : s.vm.method? m = some meth) (h3 : meth.code = some c) (h4 : c.code = bytes)
    (h5 : (c.maxLocals == mx && c.exceptionTable.isEmpty && decide (c.maxStack ≤ mostOperands) && decide (meth.sig.returnType = rt) && !meth.locks && decide (parseMethodDescriptor y.desc = some meth.sig)) = true) : (Jvm.Cond.code y bytes mx rt).before a s = true := by
  simp only [Bool.and_eq_true, beq_iff_eq, Bool.not_eq_true', decide_eq_true_eq] at h5
  obtain ⟨⟨⟨⟨⟨g1, g2⟩, g3⟩, g4⟩, g5⟩, g6⟩ := h5
  simp [Cond.before, Cond.holds, Cond.value, h1, h2, h3, h4, g1, g2, g3, g4, g5, g6]
def isCode : Jvm.Cond → Bool
  | .code _ _ _ _ => true
  | _ => false
theorem all_split {L : List Jvm.Cond} {P : Jvm.Cond → Bool} (h1 : L.all (fun c => isCode c || P c) = true) (h2 : ∀ c ∈ L.filter isCode, P c = true) : L.all P = true := by
  refine List.all_eq_true.mpr fun c hc => ?_
  have h := List.all_eq_true.mp h1 c hc
  rcases Bool.eq_false_or_eq_true (isCode c) with hi | hi
  · exact h2 c (List.mem_filter.mpr ⟨hc, hi⟩)
  · simpa [hi] using h
set_option maxRecDepth 65536 in
theorem w_c0 : (Jvm.Cond.code x code maxLocals ret).before args0 about1 = true := code_word (m := ⟨1, 4⟩) (meth := k1m4) (c := k1c4) (by decide +kernel) rfl rfl rfl (by decide +kernel)
set_option maxRecDepth 65536 in
theorem w_c1 : (Jvm.Cond.code ({ cls := "com/example/narrow_gate/narrowgate/LimitEqualsPinLaw", name := "rateOf", desc := "(J)J" } : Jvm.MethodName) method_2_code (2 : Nat) (Option.some Jvm.ClassFile.FieldType.long)).before args0 about1 = true := code_word (m := ⟨1, 1⟩) (meth := k1m1) (c := k1c1) (by decide +kernel) rfl rfl rfl (by decide +kernel)
set_option maxRecDepth 65536 in
theorem w_c2 : (Jvm.Cond.code ({ cls := "java/lang/Math", name := "max", desc := "(JJ)J" } : Jvm.MethodName) jdk_29_method_66_code (4 : Nat) (Option.some Jvm.ClassFile.FieldType.long)).before args0 about1 = true := code_word (m := ⟨2, 1⟩) (meth := k2m1) (c := k2c1) (by decide +kernel) rfl rfl rfl (by decide +kernel)
set_option maxRecDepth 65536 in
theorem w_c3 : (Jvm.Cond.code ({ cls := "com/example/narrow_gate/narrowgate/LimitEqualsPinLaw", name := "periodOf", desc := "(J)J" } : Jvm.MethodName) method_3_code (2 : Nat) (Option.some Jvm.ClassFile.FieldType.long)).before args0 about1 = true := code_word (m := ⟨1, 2⟩) (meth := k1m2) (c := k1c2) (by decide +kernel) rfl rfl rfl (by decide +kernel)
set_option maxRecDepth 65536 in
theorem w_c4 : (Jvm.Cond.code ({ cls := "com/example/narrow_gate/narrowgate/LimitEqualsPinLaw", name := "burstOf", desc := "(JJ)J" } : Jvm.MethodName) method_4_code (6 : Nat) (Option.some Jvm.ClassFile.FieldType.long)).before args0 about1 = true := code_word (m := ⟨1, 3⟩) (meth := k1m3) (c := k1c3) (by decide +kernel) rfl rfl rfl (by decide +kernel)
set_option maxRecDepth 65536 in
theorem w_c5 : (Jvm.Cond.code ({ cls := "com/example/narrow_gate/narrowgate/Limit", name := "<init>", desc := "(JJJ)V" } : Jvm.MethodName) prog_18_method_1_code (7 : Nat) (Option.none : Option Jvm.ClassFile.FieldType)).before args0 about1 = true := code_word (m := ⟨3, 0⟩) (meth := k3m0) (c := k3c0) (by decide +kernel) rfl rfl rfl (by decide +kernel)
set_option maxRecDepth 65536 in
theorem w_c6 : (Jvm.Cond.code ({ cls := "java/lang/Object", name := "<init>", desc := "()V" } : Jvm.MethodName) object_method_1_code (1 : Nat) (Option.none : Option Jvm.ClassFile.FieldType)).before args0 about1 = true := code_word (m := ⟨0, 0⟩) (meth := k0m0) (c := k0c0) (by decide +kernel) rfl rfl rfl (by decide +kernel)
set_option maxRecDepth 65536 in
theorem w_c7 : (Jvm.Cond.code ({ cls := "java/lang/Long", name := "valueOf", desc := "(J)Ljava/lang/Long;" } : Jvm.MethodName) jdk_35_method_24_code (3 : Nat) (Option.some (Jvm.ClassFile.FieldType.object "java/lang/Long"))).before args0 about1 = true := code_word (m := ⟨9, 0⟩) (meth := k9m0) (c := k9c0) (by decide +kernel) rfl rfl rfl (by decide +kernel)
set_option maxRecDepth 65536 in
theorem w_c8 : (Jvm.Cond.code ({ cls := "java/lang/Long", name := "<init>", desc := "(J)V" } : Jvm.MethodName) jdk_35_method_26_code (3 : Nat) (Option.none : Option Jvm.ClassFile.FieldType)).before args0 about1 = true := code_word (m := ⟨9, 1⟩) (meth := k9m1) (c := k9c1) (by decide +kernel) rfl rfl rfl (by decide +kernel)
set_option maxRecDepth 65536 in
theorem w_c9 : (Jvm.Cond.code ({ cls := "java/lang/Number", name := "<init>", desc := "()V" } : Jvm.MethodName) jdk_18_method_1_code (1 : Nat) (Option.none : Option Jvm.ClassFile.FieldType)).before args0 about1 = true := code_word (m := ⟨5, 0⟩) (meth := k5m0) (c := k5c0) (by decide +kernel) rfl rfl rfl (by decide +kernel)
set_option maxRecDepth 65536 in
theorem w_c10 : (Jvm.Cond.code ({ cls := "com/example/narrow_gate/narrowgate/Limit", name := "problems", desc := "(Ljava/lang/Long;Ljava/lang/Long;Ljava/lang/Long;)Ljava/util/List;" } : Jvm.MethodName) prog_18_method_2_code (4 : Nat) (Option.some (Jvm.ClassFile.FieldType.object "java/util/List"))).before args0 about1 = true := code_word (m := ⟨3, 1⟩) (meth := k3m1) (c := k3c1) (by decide +kernel) rfl rfl rfl (by decide +kernel)
set_option maxRecDepth 65536 in
theorem w_c11 : (Jvm.Cond.code ({ cls := "java/util/ArrayList", name := "<init>", desc := "()V" } : Jvm.MethodName) jdk_38_method_2_code (1 : Nat) (Option.none : Option Jvm.ClassFile.FieldType)).before args0 about1 = true := code_word (m := ⟨19, 0⟩) (meth := k19m0) (c := k19c0) (by decide +kernel) rfl rfl rfl (by decide +kernel)
set_option maxRecDepth 65536 in
theorem w_c12 : (Jvm.Cond.code ({ cls := "java/util/AbstractList", name := "<init>", desc := "()V" } : Jvm.MethodName) jdk_39_method_1_code (1 : Nat) (Option.none : Option Jvm.ClassFile.FieldType)).before args0 about1 = true := code_word (m := ⟨16, 0⟩) (meth := k16m0) (c := k16c0) (by decide +kernel) rfl rfl rfl (by decide +kernel)
set_option maxRecDepth 65536 in
theorem w_c13 : (Jvm.Cond.code ({ cls := "java/util/AbstractCollection", name := "<init>", desc := "()V" } : Jvm.MethodName) jdk_22_method_1_code (1 : Nat) (Option.none : Option Jvm.ClassFile.FieldType)).before args0 about1 = true := code_word (m := ⟨13, 0⟩) (meth := k13m0) (c := k13c0) (by decide +kernel) rfl rfl rfl (by decide +kernel)
set_option maxRecDepth 65536 in
theorem w_c14 : (Jvm.Cond.code ({ cls := "java/lang/Long", name := "longValue", desc := "()J" } : Jvm.MethodName) jdk_35_method_31_code (1 : Nat) (Option.some Jvm.ClassFile.FieldType.long)).before args0 about1 = true := code_word (m := ⟨9, 2⟩) (meth := k9m2) (c := k9c2) (by decide +kernel) rfl rfl rfl (by decide +kernel)
set_option maxRecDepth 65536 in
theorem w_c15 : (Jvm.Cond.code ({ cls := "com/example/narrow_gate/narrowgate/InvalidLimitsException", name := "refuseIfAny", desc := "(Ljava/util/List;)V" } : Jvm.MethodName) prog_16_method_2_code (1 : Nat) (Option.none : Option Jvm.ClassFile.FieldType)).before args0 about1 = true := code_word (m := ⟨22, 0⟩) (meth := k22m0) (c := k22c0) (by decide +kernel) rfl rfl rfl (by decide +kernel)
set_option maxRecDepth 65536 in
theorem w_c16 : (Jvm.Cond.code ({ cls := "java/util/ArrayList", name := "isEmpty", desc := "()Z" } : Jvm.MethodName) jdk_38_method_9_code (1 : Nat) (Option.some Jvm.ClassFile.FieldType.boolean)).before args0 about1 = true := code_word (m := ⟨19, 1⟩) (meth := k19m1) (c := k19c1) (by decide +kernel) rfl rfl rfl (by decide +kernel)
set_option maxRecDepth 65536 in
theorem w_c17 : (Jvm.Cond.code ({ cls := "com/example/narrow_gate/narrowgate/Limit", name := "equals", desc := "(Ljava/lang/Object;)Z" } : Jvm.MethodName) prog_18_method_7_code (3 : Nat) (Option.some Jvm.ClassFile.FieldType.boolean)).before args0 about1 = true := code_word (m := ⟨3, 2⟩) (meth := k3m2) (c := k3c2) (by decide +kernel) rfl rfl rfl (by decide +kernel)
def codes1 : List Jvm.Cond := [Jvm.Cond.code x code maxLocals ret, Jvm.Cond.code ({ cls := "com/example/narrow_gate/narrowgate/LimitEqualsPinLaw", name := "rateOf", desc := "(J)J" } : Jvm.MethodName) method_2_code (2 : Nat) (Option.some Jvm.ClassFile.FieldType.long), Jvm.Cond.code ({ cls := "java/lang/Math", name := "max", desc := "(JJ)J" } : Jvm.MethodName) jdk_29_method_66_code (4 : Nat) (Option.some Jvm.ClassFile.FieldType.long), Jvm.Cond.code ({ cls := "com/example/narrow_gate/narrowgate/LimitEqualsPinLaw", name := "periodOf", desc := "(J)J" } : Jvm.MethodName) method_3_code (2 : Nat) (Option.some Jvm.ClassFile.FieldType.long), Jvm.Cond.code ({ cls := "com/example/narrow_gate/narrowgate/LimitEqualsPinLaw", name := "burstOf", desc := "(JJ)J" } : Jvm.MethodName) method_4_code (6 : Nat) (Option.some Jvm.ClassFile.FieldType.long), Jvm.Cond.code ({ cls := "com/example/narrow_gate/narrowgate/Limit", name := "<init>", desc := "(JJJ)V" } : Jvm.MethodName) prog_18_method_1_code (7 : Nat) (Option.none : Option Jvm.ClassFile.FieldType), Jvm.Cond.code ({ cls := "java/lang/Object", name := "<init>", desc := "()V" } : Jvm.MethodName) object_method_1_code (1 : Nat) (Option.none : Option Jvm.ClassFile.FieldType), Jvm.Cond.code ({ cls := "java/lang/Long", name := "valueOf", desc := "(J)Ljava/lang/Long;" } : Jvm.MethodName) jdk_35_method_24_code (3 : Nat) (Option.some (Jvm.ClassFile.FieldType.object "java/lang/Long")), Jvm.Cond.code ({ cls := "java/lang/Long", name := "<init>", desc := "(J)V" } : Jvm.MethodName) jdk_35_method_26_code (3 : Nat) (Option.none : Option Jvm.ClassFile.FieldType), Jvm.Cond.code ({ cls := "java/lang/Number", name := "<init>", desc := "()V" } : Jvm.MethodName) jdk_18_method_1_code (1 : Nat) (Option.none : Option Jvm.ClassFile.FieldType), Jvm.Cond.code ({ cls := "com/example/narrow_gate/narrowgate/Limit", name := "problems", desc := "(Ljava/lang/Long;Ljava/lang/Long;Ljava/lang/Long;)Ljava/util/List;" } : Jvm.MethodName) prog_18_method_2_code (4 : Nat) (Option.some (Jvm.ClassFile.FieldType.object "java/util/List")), Jvm.Cond.code ({ cls := "java/util/ArrayList", name := "<init>", desc := "()V" } : Jvm.MethodName) jdk_38_method_2_code (1 : Nat) (Option.none : Option Jvm.ClassFile.FieldType), Jvm.Cond.code ({ cls := "java/util/AbstractList", name := "<init>", desc := "()V" } : Jvm.MethodName) jdk_39_method_1_code (1 : Nat) (Option.none : Option Jvm.ClassFile.FieldType), Jvm.Cond.code ({ cls := "java/util/AbstractCollection", name := "<init>", desc := "()V" } : Jvm.MethodName) jdk_22_method_1_code (1 : Nat) (Option.none : Option Jvm.ClassFile.FieldType), Jvm.Cond.code ({ cls := "java/lang/Long", name := "longValue", desc := "()J" } : Jvm.MethodName) jdk_35_method_31_code (1 : Nat) (Option.some Jvm.ClassFile.FieldType.long), Jvm.Cond.code ({ cls := "com/example/narrow_gate/narrowgate/InvalidLimitsException", name := "refuseIfAny", desc := "(Ljava/util/List;)V" } : Jvm.MethodName) prog_16_method_2_code (1 : Nat) (Option.none : Option Jvm.ClassFile.FieldType), Jvm.Cond.code ({ cls := "java/util/ArrayList", name := "isEmpty", desc := "()Z" } : Jvm.MethodName) jdk_38_method_9_code (1 : Nat) (Option.some Jvm.ClassFile.FieldType.boolean), Jvm.Cond.code ({ cls := "com/example/narrow_gate/narrowgate/Limit", name := "equals", desc := "(Ljava/lang/Object;)Z" } : Jvm.MethodName) prog_18_method_7_code (3 : Nat) (Option.some Jvm.ClassFile.FieldType.boolean)]
set_option maxRecDepth 65536 in
theorem codes_eq : words1.filter isCode = codes1 := rfl
theorem w_codes : ∀ c ∈ words1.filter isCode, c.before args0 about1 = true := by
  rw [codes_eq]
  intro c hc
  simp only [codes1, List.mem_cons, List.not_mem_nil, or_false] at hc
  rcases hc with rfl | rfl | rfl | rfl | rfl | rfl | rfl | rfl | rfl | rfl | rfl | rfl | rfl | rfl | rfl | rfl | rfl | rfl
  · exact w_c0
  · exact w_c1
  · exact w_c2
  · exact w_c3
  · exact w_c4
  · exact w_c5
  · exact w_c6
  · exact w_c7
  · exact w_c8
  · exact w_c9
  · exact w_c10
  · exact w_c11
  · exact w_c12
  · exact w_c13
  · exact w_c14
  · exact w_c15
  · exact w_c16
  · exact w_c17
set_option maxRecDepth 65536 in
theorem w_t1 : (words1.take 24).all (fun c => isCode c || c.before args0 about1) = true := by decide +kernel
set_option maxRecDepth 65536 in
theorem w_t2 : ((words1.drop 24).take 24).all (fun c => isCode c || c.before args0 about1) = true := by decide +kernel
set_option maxRecDepth 65536 in
theorem w_t3 : (((words1.drop 24).drop 24).take 24).all (fun c => isCode c || c.before args0 about1) = true := by decide +kernel
set_option maxRecDepth 65536 in
theorem w_t4 : ((((words1.drop 24).drop 24).drop 24).take 24).all (fun c => isCode c || c.before args0 about1) = true := by decide +kernel
set_option maxRecDepth 65536 in
theorem w_t5 : ((((words1.drop 24).drop 24).drop 24).drop 24).all (fun c => isCode c || c.before args0 about1) = true := by decide +kernel
theorem w_tables : (allAtoms (Jvm.Cond.code x code maxLocals ret :: tables_1)).before args0 about1 = true := by
  rw [allAtoms_all]
  show words1.all (fun c => c.before args0 about1) = true
  refine all_split ?_ w_codes
  rw [← List.take_append_drop 24 words1, List.all_append, w_t1, ← List.take_append_drop 24 (words1.drop 24), List.all_append, w_t2, ← List.take_append_drop 24 ((words1.drop 24).drop 24), List.all_append, w_t3, ← List.take_append_drop 24 (((words1.drop 24).drop 24).drop 24), List.all_append, w_t4, w_t5]
  rfl
set_option maxRecDepth 65536 in
theorem w_rest : rest_1_c.before args0 about1 = true := by decide +kernel
set_option maxRecDepth 65536 in
theorem w_case : (Jvm.Cond.and given_1 narrow_1).before args0 about1 = true := by decide +kernel
theorem w_applies : (headSpec (Jvm.Cond.code x code maxLocals ret :: tables_1) room_1).applies x e0.platform about1 = true :=
  (Spec.applies_iff w_frames).mpr ⟨w_running, w_runnable, w_alone, w_named, w_hears, w_ripe, w_room, w_tables⟩
theorem atStart : AtStart classFile x code maxLocals ret World_1 tables_1 room_1 Calls_1 rest_1 Pre_1 launch0 p0 e0 about1 theMethod args0 below0 :=
  ⟨lists_1, trivial, launch0.admits_env _ _ _, launch0.least_env, fairChoices_fair.cas, fairChoices_fair.clock, w_frames, w_args, w_heap, w_applies, trivial, w_rest, w_case⟩
end start1
theorem witness_1 : WitnessClaimed_1 := ⟨start1.p0, start1.e0, start1.about1, start1.theMethod, start1.args0, start1.below0, start1.atStart⟩
end Jvm.Pilot.@@N@@
