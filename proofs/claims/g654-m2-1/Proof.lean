import JvmDerived
import JvmDerived.Pilot.@@N@@Statement
import JvmDerived.Pilot.@@N@@Code
set_option linter.unusedVariables false
set_option linter.unusedSimpArgs false
namespace Jvm.Pilot.@@N@@
open Jvm Jvm.ClassFile Sem Op Lib Jvm.Free Jvm.Stand Jvm.LawKit Jvm.RoadKit Bundle Jvm.Pilot.@@N@@.Jvm.D
section Own
variable {p : Program} {l : Launch} {e : Env} {R : Room} {s : State} {m : MethodId} {args : Array Value} {below : List Frame} {meth : Method} {c : Code} {T : State} {locs : List Loc} {cells slots : Nat} {Z : State} {a0 : Array Value} {h h' : Heap}
/-- from A the run comes to its end, and G holds there -/
def OGo (p : Program) (e : Env) (below : List Frame) (G : State → Outcome → Prop) (A : State) : Prop := ∃ s₂ o, Steps p.tables e below A s₂ ∧ s₂.status = .running ∧ Ended s₂ below o ∧ G s₂ o
theorem OGo.st {G : State → Outcome → Prop} {A B : State} (k : ∀ t, Steps p.tables e below B t → Steps p.tables e below A t) (g : OGo p e below G B) : OGo p e below G A := by
  obtain ⟨s₂, o, q, r⟩ := g
  exact ⟨s₂, o, k _ q, r⟩
theorem OGo.join {α : Type} {G : State → Outcome → Prop} {A : State} (F : α → State) (P : α → Prop) (h1 : ∀ a, P a → OGo p e below G (F a)) (h2 : (∀ a, P a → OGo p e below G (F a)) → OGo p e below G A) : OGo p e below G A := h2 h1
/-- what a body leaves -/
def ODone (s : State) (rm : Room) (Q : Option Value → Heap → List Loc → Prop) (t : State) (o : Outcome) : Prop := ∃ v L, o = .returned v ∧ Q v t.heap L ∧ FrameEnd s o t L rm.cells rm.slots
/-- a body's contract -/
def OMet (l : Launch) (Z : State) (y : MethodName) (bytes : ByteArray) (maxL : Nat) (ret : Option FieldType) (ws : List Jvm.Cond) (rm : Room) (as' : Array Value) (h0 : Heap) (Q : Option Value → Heap → List Loc → Prop) : Prop :=
  MetFree l y (head1 (Jvm.Cond.code y bytes maxL ret :: ws) rm) (fun a U => a = as' ∧ Z.Warmed39 U.vm ∧ U.heap = h0) (fun _ _ _ _ _ => True) (fun _ U o U' => ∃ v L, o = .returned v ∧ Q v U'.heap L ∧ FrameEnd U o U' L rm.cells rm.slots)
section M
variable {y : MethodName} {bytes : ByteArray} {maxL : Nat} {ret : Option FieldType} {ws : List Jvm.Cond} {rm : Room} {as' : Array Value} {Q : Option Value → Heap → List Loc → Prop}
theorem OMet.of (hp : plainFor y = true)
    (body : ∀ (p : Program) (e : Env) (s : State) (m : MethodId) (below : List Frame) (meth : Method) (c : Code) (s₁ : State), p.tables.exec = Jvm.exec → c.code = bytes → c.maxLocals = maxL → s.methodNamed? y = some m → s.vm.findClass y.cls = some m.cls → meth.name = y.name → meth.sig.returnType = ret → meth.locks = false → Z.Warmed39 s.vm →
      Stand p l e rm s m as' below meth c s₁ [] 0 0 → s₁.heap = h → OGo p e below (ODone s rm Q) (s₁.setTop (entryFrame m as' maxL))) : OMet l Z y bytes maxL ret ws rm as' h Q := by
  refine MetFree.of_bodySF hp hisR ?_
  intro p e s m args below meth c s₁ Bd hml hP hK
  obtain ⟨hA, hZ, hh⟩ := hP
  subst hA
  exact body p e s m below meth c s₁ Bd.exec Bd.bytes hml Bd.named (findClass_of_methodNamed Bd.named) (name_of_methodNamed Bd.named Bd.method).1 Bd.returns Bd.notSynchronized hZ (Stand.of_body Bd) (by rw [← hh, Bd.state]; rfl)
theorem OMet.back {len W : Nat} (hM : OMet l Z y bytes maxL ret [] rm as' h Q) (hZ : Z.Warmed39 s.vm) (wc : (Jvm.Cond.code y bytes maxL ret).before a0 Z = true) (wz : (Jvm.Cond.initialized y.cls).before a0 Z = true) (hf : rm.frames + 1 ≤ R.frames) (hl : W + (maxL + 11) + rm.locals ≤ R.locals) :
    Back l R p e below s args y len W (fun A a => a = as' ∧ A.U.heap = h ∧ A.cells + rm.cells ≤ R.cells ∧ A.slots + rm.slots ≤ R.slots) (fun A _ v B => ∃ L, Q v B.U.heap L ∧ B.locs = A.locs ++ L ∧ B.cells = A.cells + rm.cells ∧ B.slots = A.slots + rm.slots) :=
  backOf hM hZ wc wz hf hl
/-- a static call by its contract -/
theorem OMet.static (hM : OMet l Z y bytes maxL ret [] rm as' h Q) (X : Stand p l e R s m args below meth c T locs cells slots) (hx : p.tables.exec = Jvm.exec) (hZ : Z.Warmed39 s.vm) {own : String} {index W : Nat} (hown : s.vm.findClass own = some m.cls)
    (w1 : (Jvm.Cond.methodLink own index y).before a0 Z = true) (w2 : (Jvm.Cond.static y).before a0 Z = true) (w3 : (Jvm.Cond.initialized y.cls).before a0 Z = true) (w4 : (Jvm.Cond.code y bytes maxL ret).before a0 Z = true)
    (hy : y.cls ≠ "java/lang/invoke/MethodHandle" ∧ y.cls ≠ "java/lang/invoke/VarHandle") (hf : rm.frames + 1 ≤ R.frames) (hl : W + (maxL + 11) + rm.locals ≤ R.locals) (eT : T.heap = h) (hc : cells + rm.cells ≤ R.cells) (hs : slots + rm.slots ≤ R.slots)
    {g : JFrame} (hg : g.method = m) (hsize : g.locals.size = c.maxLocals) {argsL rest : List Value} (ha : argsL.toArray = as') (hlen : ∀ sig, parseMethodDescriptor y.desc = some sig → argsL.length = sig.parameters.length) (hstack : g.stack = argsL.reverse ++ rest) (hW : 2 * g.monitorRoom + (rest.map fun v => v.category).sum ≤ W)
    (hd : decode c.code g.pc = .ok (.invokestatic index, 3)) :
    ∃ (v : Option Value) (T' : State) (L : List Loc), Stand p l e R s m args below meth c T' (locs ++ L) (cells + rm.cells) (slots + rm.slots) ∧ Q v T'.heap L ∧ ∀ target, Steps p.tables e below (T'.setTop { g with pc := g.pc + 3, stack := v.toList ++ rest }) target → Steps p.tables e below (T.setTop g) target := by
  obtain ⟨v, vm, ⟨T', L', k', n'⟩, -, X', ⟨L, hQ, e1, e2, e3⟩, st⟩ := Jvm.LawKit.callS X hx hown (mvT hZ w1) (mvT hZ w2) (mvT hZ w3) (mvT hZ w4) hy (OMet.back (W := W) hM hZ w4 w3 hf hl) (g := g) hg hsize hlen hstack hW hd (fun _ _ => ⟨ha, eT, hc, hs⟩)
  dsimp only [Pt.U, Pt.locs, Pt.cells, Pt.slots] at X' e1 e2 e3 st hQ
  subst e1 e2 e3
  exact ⟨v, T', L, X', hQ, st⟩
/-- a constructor by its contract -/
theorem OMet.init (hM : OMet l Z y bytes maxL none [] rm as' h Q) (X : Stand p l e R s m args below meth c T locs cells slots) (hx : p.tables.exec = Jvm.exec) (hZ : Z.Warmed39 s.vm) {own : String} {index W : Nat} (hy1 : y.name = "<init>") (hown : s.vm.findClass own = some m.cls)
    (w1 : (Jvm.Cond.methodLink own index y).before a0 Z = true) (w2 : (Jvm.Cond.instanceMethod y).before a0 Z = true) (w3 : (Jvm.Cond.initialized y.cls).before a0 Z = true) (w4 : (Jvm.Cond.code y bytes maxL none).before a0 Z = true)
    (hy : y.cls ≠ "java/lang/invoke/MethodHandle" ∧ y.cls ≠ "java/lang/invoke/VarHandle") (hf : rm.frames + 1 ≤ R.frames) (hl : W + (maxL + 11) + rm.locals ≤ R.locals) (eT : T.heap = h) (hc : cells + rm.cells ≤ R.cells) (hs : slots + rm.slots ≤ R.slots)
    {g : JFrame} (hg : g.method = m) (hsize : g.locals.size = c.maxLocals) {a : Addr} {argsL rest : List Value} (ha : (Value.ref a :: argsL).toArray = as') (hlen : ∀ sig, parseMethodDescriptor y.desc = some sig → argsL.length = sig.parameters.length) (hstack : g.stack = argsL.reverse ++ .ref a :: rest) (hW : 2 * g.monitorRoom + (rest.map fun v => v.category).sum ≤ W)
    (hd : decode c.code g.pc = .ok (.invokespecial index, 3)) :
    ∃ (v : Option Value) (T' : State) (L : List Loc), Stand p l e R s m args below meth c T' (locs ++ L) (cells + rm.cells) (slots + rm.slots) ∧ Q v T'.heap L ∧ ∀ target, Steps p.tables e below (T'.setTop { g with pc := g.pc + 3, stack := v.toList ++ rest }) target → Steps p.tables e below (T.setTop g) target := by
  obtain ⟨v, vm, ⟨T', L', k', n'⟩, -, X', ⟨L, hQ, e1, e2, e3⟩, st⟩ := X.specialBack hx hy1 hown (mvT hZ w1) (mvT hZ w2) (mvT hZ w4) hy (OMet.back (W := W) hM hZ w4 w3 hf hl) (g := g) hg hsize (Steps.refl _) (a := a) hlen hstack hW hd (fun _ _ => ⟨ha, eT, hc, hs⟩)
  dsimp only [Pt.U, Pt.locs, Pt.cells, Pt.slots] at X' e1 e2 e3 st hQ
  subst e1 e2 e3
  exact ⟨v, T', L, X', hQ, fun _ k => st.trans k⟩
/-- a virtual call by the contract of the body that the receiver's class selects -/
theorem OMet.virt (hM : OMet l Z y bytes maxL ret [] rm as' h Q) (X : Stand p l e R s m args below meth c T locs cells slots) (hx : p.tables.exec = Jvm.exec) (hZ : Z.Warmed39 s.vm) {own C : String} {index W : Nat} {y0 : MethodName} (hown : s.vm.findClass own = some m.cls)
    (w1 : (Jvm.Cond.methodLink own index y0).before a0 Z = true) (w2 : (Jvm.Cond.declares y0).before a0 Z = true) (nf : NotFace s y0) (w5 : (Jvm.Cond.selects C y0 y).before a0 Z = true) (w6 : (Jvm.Cond.instanceMethod y).before a0 Z = true)
    (w3 : (Jvm.Cond.initialized y.cls).before a0 Z = true) (w4 : (Jvm.Cond.code y bytes maxL ret).before a0 Z = true)
    (hy : y0.cls ≠ "java/lang/invoke/MethodHandle" ∧ y0.cls ≠ "java/lang/invoke/VarHandle") (hf : rm.frames + 1 ≤ R.frames) (hl : W + (maxL + 11) + rm.locals ≤ R.locals) (eT : T.heap = h) (hc : cells + rm.cells ≤ R.cells) (hs : slots + rm.slots ≤ R.slots)
    {g : JFrame} (hg : g.method = m) (hsize : g.locals.size = c.maxLocals) {a : Addr} (E : Exa Z h a C) {argsL rest : List Value} (ha : (Value.ref a :: argsL).toArray = as') (hlen : ∀ sig, parseMethodDescriptor y0.desc = some sig → argsL.length = sig.parameters.length) (hstack : g.stack = argsL.reverse ++ .ref a :: rest) (hW : 2 * g.monitorRoom + (rest.map fun v => v.category).sum ≤ W)
    (hd : decode c.code g.pc = .ok (.invokevirtual index, 3)) :
    ∃ (v : Option Value) (T' : State) (L : List Loc), Stand p l e R s m args below meth c T' (locs ++ L) (cells + rm.cells) (slots + rm.slots) ∧ Q v T'.heap L ∧ ∀ target, Steps p.tables e below (T'.setTop { g with pc := g.pc + 3, stack := v.toList ++ rest }) target → Steps p.tables e below (T.setTop g) target := by
  obtain ⟨cB, kB, qa, qb, qc⟩ := isOf hZ eT E
  obtain ⟨v, vm, ⟨T', L', k', n'⟩, -, X', ⟨L, hQ, e1, e2, e3⟩, st⟩ := X.virtualBack hx hown (mvT hZ w1) (mvT hZ w2) nf (mvT hZ w5) (mvT hZ w6) hy (OMet.back (W := W) hM hZ w4 w3 hf hl) qa qc (g := g) hg hsize (Steps.refl _) hlen hstack hW hd (fun _ _ => ⟨ha, eT, hc, hs⟩)
  dsimp only [Pt.U, Pt.locs, Pt.cells, Pt.slots] at X' e1 e2 e3 st hQ
  subst e1 e2 e3
  exact ⟨v, T', L, X', hQ, fun _ k => st.trans k⟩
/-- a call through an interface by the contract of the body that the receiver's class selects -/
theorem OMet.iface (hM : OMet l Z y bytes maxL ret [] rm as' h Q) (X : Stand p l e R s m args below meth c T locs cells slots) (hx : p.tables.exec = Jvm.exec) (hZ : Z.Warmed39 s.vm) {own C : String} {index count W : Nat} {y0 : MethodName} (hown : s.vm.findClass own = some m.cls)
    (w1 : (Jvm.Cond.methodLink own index y0).before a0 Z = true) (w2 : (Jvm.Cond.declares y0).before a0 Z = true) (w7 : (Jvm.Cond.interfaceMethod y0.cls y0.cls y0.name y0.desc).before a0 Z = true) (w5 : (Jvm.Cond.selects C y0 y).before a0 Z = true) (w6 : (Jvm.Cond.instanceMethod y).before a0 Z = true)
    (w8 : (Jvm.Cond.publicMethod y).before a0 Z = true) (w9 : (Jvm.Cond.unhidden C y0.name y0.desc).before a0 Z = true) (w0 : (Jvm.Cond.castable C y0.cls).before a0 Z = true) (w3 : (Jvm.Cond.initialized y.cls).before a0 Z = true) (w4 : (Jvm.Cond.code y bytes maxL ret).before a0 Z = true)
    (hy : y0.cls ≠ "java/lang/invoke/MethodHandle" ∧ y0.cls ≠ "java/lang/invoke/VarHandle") (hf : rm.frames + 1 ≤ R.frames) (hl : W + (maxL + 11) + rm.locals ≤ R.locals) (eT : T.heap = h) (hc : cells + rm.cells ≤ R.cells) (hs : slots + rm.slots ≤ R.slots)
    {g : JFrame} (hg : g.method = m) (hsize : g.locals.size = c.maxLocals) {a : Addr} (E : Exa Z h a C) {argsL rest : List Value} (ha : (Value.ref a :: argsL).toArray = as') (hlen : ∀ sig, parseMethodDescriptor y0.desc = some sig → argsL.length = sig.parameters.length) (hstack : g.stack = argsL.reverse ++ .ref a :: rest) (hW : 2 * g.monitorRoom + (rest.map fun v => v.category).sum ≤ W)
    (hd : decode c.code g.pc = .ok (.invokeinterface index count, 5)) :
    ∃ (v : Option Value) (T' : State) (L : List Loc), Stand p l e R s m args below meth c T' (locs ++ L) (cells + rm.cells) (slots + rm.slots) ∧ Q v T'.heap L ∧ ∀ target, Steps p.tables e below (T'.setTop { g with pc := g.pc + 5, stack := v.toList ++ rest }) target → Steps p.tables e below (T.setTop g) target := by
  obtain ⟨cB, kB, qa, qb, qc⟩ := isOf hZ eT E
  obtain ⟨v, vm, ⟨T', L', k', n'⟩, -, X', ⟨L, hQ, e1, e2, e3⟩, st⟩ := X.interfaceBack hx hown (mvT hZ w1) (mvT hZ w2) (mvT hZ w7 (by simp [Cond.onTables, Cond.keepsFace, Cond.keeps, Cond.steady, Cond.faceAtom, hy.1, hy.2])) (mvT hZ w5) (mvT hZ w6) (mvT hZ w8) (mvT hZ w9) (mvT hZ w0) hy (OMet.back (W := W) hM hZ w4 w3 hf hl) qa qb qc (g := g) hg hsize (Steps.refl _) hlen hstack hW hd (fun _ _ => ⟨ha, eT, hc, hs⟩)
  dsimp only [Pt.U, Pt.locs, Pt.cells, Pt.slots] at X' e1 e2 e3 st hQ
  subst e1 e2 e3
  exact ⟨v, T', L, X', hQ, fun _ k => st.trans k⟩
end M
theorem nf_sel {C : String} {y : MethodName} (hZ : Z.Warmed39 s.vm) (w : (Jvm.Cond.selects C y y).before a0 Z = true) : NotFace s y := notFace_of_selects (args := #[]) (mvT hZ w)
/-- the returns -/
theorem own_ret (X : Stand p l e R s m args below meth c T locs cells slots) {rm : Room} {Q : Option Value → Heap → List Loc → Prop} {A : State} {v : Option Value} (hv : meth.sig.returnType = none → v = none) (hlk : meth.locks = false)
    (k : ∀ fs, (∀ (f : JFrame) (acts : List Action), f.method = m → f.locked = none → f.entered = [] → (doReturn e (T.setTop f) acts v).1 = T.setFrames fs) → Steps p.tables e below A (T.setFrames fs)) (hQ : Q v T.heap locs) (hc : cells ≤ rm.cells) (hs : slots ≤ rm.slots) : OGo p e below (ODone s rm Q) A := by
  obtain ⟨fs, hr, hrun, hended, hW, hsame⟩ := X.leave (v := v) hv hlk
  exact ⟨_, _, k fs hr, hrun, hended, v, locs, rfl, hQ, ⟨_, rfl⟩, hW, hsame.mono hc hs⟩
theorem own_retZ (X : Stand p l e R s m args below meth c T locs cells slots) (hx : p.tables.exec = Jvm.exec) {rm : Room} {Q : Option Value → Heap → List Loc → Prop} {pc : Nat} {Ls : Array Slot} {z : Int32} {rest : List Value} (hret : meth.sig.returnType = some .boolean) (hlk : meth.locks = false)
    (hd : decode c.code pc = .ok (.ireturn, 1)) (hQ : Q (some (.int (nar .boolean z))) T.heap locs) (hc : cells ≤ rm.cells) (hs : slots ≤ rm.slots) : OGo p e below (ODone s rm Q) (T.setTop (mkF m pc Ls (.int z :: rest))) :=
  own_ret X (fun h => by rw [hret] at h; cases h) hlk (fun fs hr => retN X hx hret (Or.inl rfl) hd hr) hQ hc hs
theorem own_retI (X : Stand p l e R s m args below meth c T locs cells slots) (hx : p.tables.exec = Jvm.exec) {rm : Room} {Q : Option Value → Heap → List Loc → Prop} {pc : Nat} {Ls : Array Slot} {z : Int32} {rest : List Value} (hret : meth.sig.returnType = some .int) (hlk : meth.locks = false)
    (hd : decode c.code pc = .ok (.ireturn, 1)) (hQ : Q (some (.int z)) T.heap locs) (hc : cells ≤ rm.cells) (hs : slots ≤ rm.slots) : OGo p e below (ODone s rm Q) (T.setTop (mkF m pc Ls (.int z :: rest))) :=
  own_ret X (fun h => by rw [hret] at h; cases h) hlk (fun fs hr => retOut X hx hret rfl (Or.inl ⟨rfl, Or.inl rfl, z, rfl⟩) hd hr) hQ hc hs
theorem own_retJ (X : Stand p l e R s m args below meth c T locs cells slots) (hx : p.tables.exec = Jvm.exec) {rm : Room} {Q : Option Value → Heap → List Loc → Prop} {pc : Nat} {Ls : Array Slot} {z : Int64} {rest : List Value} (hret : meth.sig.returnType = some .long) (hlk : meth.locks = false)
    (hd : decode c.code pc = .ok (.lreturn, 1)) (hQ : Q (some (.long z)) T.heap locs) (hc : cells ≤ rm.cells) (hs : slots ≤ rm.slots) : OGo p e below (ODone s rm Q) (T.setTop (mkF m pc Ls (.long z :: rest))) :=
  own_ret X (fun h => by rw [hret] at h; cases h) hlk (fun fs hr => retOut X hx hret rfl (Or.inr (Or.inl ⟨rfl, rfl, z, rfl⟩)) hd hr) hQ hc hs
theorem own_retA (X : Stand p l e R s m args below meth c T locs cells slots) (hx : p.tables.exec = Jvm.exec) {rm : Room} {Q : Option Value → Heap → List Loc → Prop} {pc : Nat} {Ls : Array Slot} {w : Value} {t : FieldType} {rest : List Value} (hret : meth.sig.returnType = some t) (hlk : meth.locks = false)
    (hn : narrow t w = w) (ht : t.isReference = true) (hw : w.isRef = true) (hd : decode c.code pc = .ok (.areturn, 1)) (hQ : Q (some w) T.heap locs) (hc : cells ≤ rm.cells) (hs : slots ≤ rm.slots) : OGo p e below (ODone s rm Q) (T.setTop (mkF m pc Ls (w :: rest))) :=
  own_ret X (fun h => by rw [hret] at h; cases h) hlk (fun fs hr => retOut X hx hret hn (Or.inr (Or.inr (Or.inr (Or.inr ⟨rfl, ht, hw⟩)))) hd hr) hQ hc hs
theorem own_ret0 (X : Stand p l e R s m args below meth c T locs cells slots) (hx : p.tables.exec = Jvm.exec) {rm : Room} {Q : Option Value → Heap → List Loc → Prop} {pc : Nat} {Ls : Array Slot} (hret : meth.sig.returnType = none) (hlk : meth.locks = false)
    (hd : decode c.code pc = .ok (.return_, 1)) (hQ : Q none T.heap locs) (hc : cells ≤ rm.cells) (hs : slots ≤ rm.slots) : OGo p e below (ODone s rm Q) (T.setTop (mkF m pc Ls [])) :=
  own_ret X (fun _ => rfl) hlk (fun fs hr => X.returnOut hx hret hd hr) hQ hc hs
/-- a body that returns r and leaves the heap as it was -/
def OPure (r : Option Value) (h0 : Heap) (n0 : Nat) (v : Option Value) (h : Heap) (L : List Loc) : Prop := v = r ∧ Fr n0 L ∧ h = h0
/-- the start's words -/
theorem own_int {k : Int32} {t : Term} (hq : (Jvm.Cond.eq t (.int k)).value args s none s [] = some true) : t.eval args s none [] s = some (.int k) := by
  obtain ⟨x, y, e1, e2, k1, k2⟩ := cmp_v (Or.inl hq)
  have e3 : y = .int k := (Option.some.inj e2).symm
  subst e3
  obtain ⟨z, rfl⟩ := k2
  have q : (Jvm.Cond.eq t (.int k)).value args s none s [] = some (decide (z = k)) := by simp [Jvm.Cond.value, e1, Term.eval]
  rw [e1, gotT q hq]
theorem own_long {k : Int64} {t : Term} (hq : (Jvm.Cond.eq t (.long k)).value args s none s [] = some true) : t.eval args s none [] s = some (.long k) := by
  obtain ⟨x, y, e1, e2, k1, k2⟩ := cmp_v (Or.inl hq)
  have e3 : y = .long k := (Option.some.inj e2).symm
  subst e3
  obtain ⟨z, rfl⟩ := k2
  have q : (Jvm.Cond.eq t (.long k)).value args s none s [] = some (decide (z = k)) := eq_L e1 e2
  rw [e1, gotT q hq]
theorem own_ord {k : Int32} {t : Term} {C n d : String} {x : Addr} (ht : t.eval args s none [] s = some (.ref x)) (hq : (Jvm.Cond.eq (.field t C n d) (.int k)).value args s none s [] = some true) : Fld s s.heap x C n d (.int k) :=
  Fld.start ((fld_at ht).symm.trans (own_int hq))
theorem own_ordL {k : Int64} {t : Term} {C n d : String} {x : Addr} (ht : t.eval args s none [] s = some (.ref x)) (hq : (Jvm.Cond.eq (.field t C n d) (.long k)).value args s none s [] = some true) : Fld s s.heap x C n d (.long k) :=
  Fld.start ((fld_at ht).symm.trans (own_long hq))
theorem own_sta {t : String × String × String} {C : String} (hq : (Jvm.Cond.exactly (.static t.1 t.2.1 t.2.2) C).value args s none s [] = some true) (w1 : (Jvm.Cond.initialized t.1).before args s = true) (w2 : (Jvm.Cond.laysStatic t.1 t.2.1 t.2.2).before args s = true) :
    ∃ a, (Term.static t.1 t.2.1 t.2.2).eval args s none [] s = some (.ref a) ∧ Sta s s.heap t.1 t.2.1 t.2.2 (.ref a) ∧ Exa s s.heap a C := by
  obtain ⟨a, ea⟩ := exa_v hq
  exact ⟨a, ea, Sta.start ea (Or.inr ⟨w1, w2⟩), Exa.start ea hq⟩
theorem own_len {t : Term} {a : Addr} {c : Cell} {z : Int32} (et : t.eval args s none [] s = some (.ref a)) (ha : s.arrayAt? a = some c) (hq : (Term.length t).eval args s none [] s = some (.int z)) : c.slots.size < 2 ^ 31 ∧ c.slots.size.toInt32 = z := by
  by_cases hl : c.slots.size < 2 ^ 31
  · rw [len_f et ha hl] at hq
    exact ⟨hl, Value.int.inj (Option.some.inj hq)⟩
  · simp [Term.eval, et, ha, hl] at hq
theorem own_b01 {z : Int32} (hz : z = 0 ∨ z = 1) : narrow .boolean (.int z) = .int z ∧ fits .boolean (.int z) = true ∧ nar .boolean z = z := by
  rcases hz with rfl | rfl <;> decide
theorem own_ns_root {O K : String} {n : Nat} (w : (Jvm.Cond.noSuperclass O).before a0 Z = true) (wi : (Jvm.Cond.instantiable K n).before a0 Z = true) (hn : O ≠ K) : NS Z O K := by
  obtain ⟨c, k, h1, h2, h3, -⟩ := Cond.noSuperclass_spec w
  obtain ⟨t, kt, g1, -⟩ := Cond.instantiable_spec wi
  refine ⟨c, t, h1, g1, fun f => ?_⟩
  cases f with
  | zero => rfl
  | succ f => simp [Vm.isSubclassAux, ids_ne h1 g1 hn, h2, h3]
theorem own_ns_no {C S K : String} {n : Nat} (w : (Jvm.Cond.superclass C S).before a0 Z = true) (wi : (Jvm.Cond.instantiable K n).before a0 Z = true) (N : NS Z C K) (hn : C ≠ K) : ∃ c t, Z.vm.findClass C = some c ∧ Z.vm.findClass K = some t ∧ Z.vm.assignable c t = false := by
  obtain ⟨c, t, h0, g0, n3⟩ := N
  obtain ⟨p, k, kp, -, h2, -, -, h5, -, h7⟩ := Cond.superclass_spec h0 w
  obtain ⟨t', kt, g1, g2, g3, g4, -⟩ := Cond.instantiable_spec wi
  cases g0.symm.trans g1
  have g5 : kt.isInterface = false := (Bool.or_eq_false_iff.mp g4).1
  refine ⟨c, t, h0, g0, ?_⟩
  show Z.vm.assignableAux (255 + 1) c t = false
  simp [Vm.assignableAux, ids_ne h0 g0 hn, h2, g2, h5, g3, g5, Vm.isSubclass, n3]
end Own
section OwnF
open Jvm.FP.Core
theorem own_mid {X X' u v B B' : Nat} (h : X * B' ≤ X' * B) (h1 : v * B < X) (h2 : X' < u * B') (d1 : ((X : Int) - (u : Int) * (B : Int)).natAbs ≤ ((X : Int) - (v : Int) * (B : Int)).natAbs) (d2 : ((X' : Int) - (v : Int) * (B' : Int)).natAbs ≤ ((X' : Int) - (u : Int) * (B' : Int)).natAbs) : X * B' = X' * B := by
  rw [← Int.natCast_mul, ← Int.natCast_mul] at d1 d2
  have k1 : u * B + v * B ≤ 2 * X := by
    generalize u * B = a at *
    generalize v * B = b at *
    omega
  have k2 : 2 * X' ≤ u * B' + v * B' := by
    generalize u * B' = a at *
    generalize v * B' = b at *
    omega
  have k3 := Nat.mul_le_mul_right B' k1
  have k4 := Nat.mul_le_mul_right B k2
  have k5 : (u * B + v * B) * B' = (u * B' + v * B') * B := by rw [Nat.add_mul, Nat.add_mul, Nat.mul_right_comm u, Nat.mul_right_comm v]
  rw [k5, Nat.mul_assoc] at k3
  rw [Nat.mul_assoc] at k4
  generalize (u * B' + v * B') * B = w at *
  generalize X * B' = a at *
  generalize X' * B = b at *
  omega
theorem own_can {A B A' B' : Nat} {e e' e0 : Int} (h0 : e0 ≤ e) (h1 : e0 ≤ e') (h : inUnits A e e0 * B' = inUnits A' e' e0 * B) : A * B' * 2 ^ (e - e').toNat = A' * B * 2 ^ (e' - e).toNat := by
  replace h : A * 2 ^ (e - e0).toNat * B' = A' * 2 ^ (e' - e0).toNat * B := h
  rcases Int.le_total e e' with k | k
  · rw [show (e - e').toNat = 0 by omega, Nat.pow_zero, Nat.mul_one]
    rw [show (e' - e0).toNat = (e' - e).toNat + (e - e0).toNat by omega, Nat.pow_add] at h
    refine Nat.eq_of_mul_eq_mul_right (Nat.two_pow_pos (e - e0).toNat) ?_
    generalize 2 ^ (e - e0).toNat = P at *
    generalize 2 ^ (e' - e).toNat = Q at *
    calc A * B' * P = A * P * B' := by ac_rfl
      _ = A' * (Q * P) * B := h
      _ = A' * B * Q * P := by ac_rfl
  · rw [show (e' - e).toNat = 0 by omega, Nat.pow_zero, Nat.mul_one]
    rw [show (e - e0).toNat = (e - e').toNat + (e' - e0).toNat by omega, Nat.pow_add] at h
    refine Nat.eq_of_mul_eq_mul_right (Nat.two_pow_pos (e' - e0).toNat) ?_
    generalize 2 ^ (e' - e0).toNat = P at *
    generalize 2 ^ (e - e').toNat = Q at *
    calc A * B' * Q * P = A * (Q * P) * B' := by ac_rfl
      _ = A' * P * B := h
      _ = A' * B * P := by ac_rfl
theorem own_dist (A B : Nat) (e : Int) (c : Nat) (q e0 : Int) : distance A B e c q e0 = ((inUnits A e e0 : Int) - (inUnits c q e0 : Int) * (B : Int)).natAbs := rfl
/-- rounding keeps the order -/
theorem own_mono {f : Fmt} (hf : Good f) {s : Bool} {A B A' B' : Nat} {e e' e0 : Int} (hB : 0 < B) (hB' : 0 < B') (h0 : e0 < f.qmin) (h0e : e0 ≤ e) (h0e' : e0 ≤ e')
    (h : inUnits A e e0 * B' ≤ inUnits A' e' e0 * B) : zmag f (roundRatio f s A B e) ≤ zmag f (roundRatio f s A' B' e') := by
  refine Nat.le_of_not_lt fun hlt => ?_
  have fU := roundRatio_fits hf s A hB e
  have fV := roundRatio_fits hf s A' hB' e'
  have nV := roundRatio_ne_nan f s A' B' e'
  have h0' : e0 ≤ f.qmin := Int.le_of_lt h0
  have h1 : ¬ inUnits A e e0 ≤ zmag f (roundRatio f s A' B' e') * 2 ^ (f.qmin - e0).toNat * B := fun k => absurd (zmag_roundRatio_le hf (s := s) hB fV nV h0' h0e k) (Nat.not_le_of_lt hlt)
  have h2 : ¬ zmag f (roundRatio f s A B e) * 2 ^ (f.qmin - e0).toNat * B' ≤ inUnits A' e' e0 := fun k => absurd (zmag_roundRatio_ge hf (s := s) hB' fU h0' h0e' k) (Nat.not_le_of_lt hlt)
  rcases roundRatio_cases f s A' B' e' with ⟨c', q', hV⟩ | hV
  · rcases roundRatio_cases f s A B e with ⟨c, q, hU⟩ | hU
    · have he : inUnits A e e0 * B' = inUnits A' e' e0 * B := by
        rw [hU] at fU h2
        rw [hV] at fV h1
        have d1 := roundRatio_nearest hf hB hU fV.1 fV.2.1 h0' h0e
        have d2 := roundRatio_nearest hf hB' hV fU.1 fU.2.1 h0' h0e'
        rw [own_dist, own_dist, units_fin fU h0', units_fin fV h0'] at d1 d2
        exact own_mid h (Nat.lt_of_not_le h1) (Nat.lt_of_not_le h2) d1 d2
      rw [roundRatio_congr (f := f) (s := s) hB hB' (own_can h0e h0e' he)] at hlt
      exact absurd hlt (Nat.lt_irrefl _)
    · have i1 := (roundRatio_inf hf hB h0 h0e).mp hU
      have i2 : (2 ^ (f.p + 1) - 1) * 2 ^ (f.qmax - 1 - e0).toNat * B' ≤ inUnits A' e' e0 := by
        generalize (2 ^ (f.p + 1) - 1) * 2 ^ (f.qmax - 1 - e0).toNat = M at *
        refine Nat.le_of_mul_le_mul_right (c := B) ?_ hB
        exact Nat.le_trans (Nat.le_of_eq (Nat.mul_right_comm M B' B)) (Nat.le_trans (Nat.mul_le_mul_right B' i1) h)
      have i3 := (roundRatio_inf hf (s := s) hB' h0 h0e').mpr i2
      rw [hV] at i3
      cases i3
  · rw [hV] at hlt
    exact absurd (zmag_le_top hf fU) (Nat.not_le_of_lt hlt)
theorem own_x {c a d b b' x y : Nat} (p : a * b = x * y) : c * a * d * (b * b') = c * x * (d * b') * y := by
  calc c * a * d * (b * b') = c * (a * b) * (d * b') := by ac_rfl
    _ = c * (x * y) * (d * b') := by rw [p]
    _ = c * x * (d * b') * y := by ac_rfl
theorem own_pw {q r g e0 : Int} (h1 : g ≤ r) (h2 : g ≤ q) (h3 : e0 ≤ q - r) (h4 : e0 < 0) : 2 ^ (q - r - e0).toNat * 2 ^ (r - g).toNat = 2 ^ (q - g).toNat * 2 ^ (-e0).toNat := by
  rw [← Nat.pow_add, ← Nat.pow_add, show (q - r - e0).toNat + (r - g).toNat = (q - g).toNat + (-e0).toNat by omega]
/-- quotients keep the order -/
theorem own_quot {f : Fmt} (hf : Good f) {s : Bool} {c d c' d' : Nat} {q r q' r' : Int} (hd : 0 < d) (hd' : 0 < d') (g1 : f.qmin ≤ q) (g2 : f.qmin ≤ r) (g3 : f.qmin ≤ q') (g4 : f.qmin ≤ r')
    (h : inUnits c q f.qmin * inUnits d' r' f.qmin ≤ inUnits c' q' f.qmin * inUnits d r f.qmin) : zmag f (roundRatio f s c d (q - r)) ≤ zmag f (roundRatio f s c' d' (q' - r')) := by
  have hq := qmin_neg hf
  obtain ⟨e0, k0, k1, k2⟩ : ∃ e0 : Int, e0 < f.qmin ∧ e0 ≤ q - r ∧ e0 ≤ q' - r' := ⟨min (f.qmin - 1) (min (q - r) (q' - r')), by omega, by omega, by omega⟩
  refine own_mono hf hd hd' k0 k1 k2 ?_
  show c * 2 ^ (q - r - e0).toNat * d' ≤ c' * 2 ^ (q' - r' - e0).toNat * d
  replace h : c * 2 ^ (q - f.qmin).toNat * (d' * 2 ^ (r' - f.qmin).toNat) ≤ c' * 2 ^ (q' - f.qmin).toNat * (d * 2 ^ (r - f.qmin).toNat) := h
  refine Nat.le_of_mul_le_mul_right (c := 2 ^ (r - f.qmin).toNat * 2 ^ (r' - f.qmin).toNat) ?_ (Nat.mul_pos (Nat.two_pow_pos _) (Nat.two_pow_pos _))
  rw [own_x (own_pw g2 g1 k1 (by omega)), Nat.mul_comm (2 ^ (r - f.qmin).toNat) (2 ^ (r' - f.qmin).toNat), own_x (own_pw g4 g3 k2 (by omega))]
  exact Nat.mul_le_mul_right _ h
/-- products with one number keep the order -/
theorem own_prod {f : Fmt} (hf : Good f) {s : Bool} {c c' k : Nat} {q q' t : Int} (g1 : f.qmin ≤ q) (g2 : f.qmin ≤ q') (h : inUnits c q f.qmin ≤ inUnits c' q' f.qmin) : zmag f (roundRatio f s (c * k) 1 (q + t)) ≤ zmag f (roundRatio f s (c' * k) 1 (q' + t)) := by
  obtain ⟨e0, k0, k1⟩ : ∃ e0 : Int, e0 < f.qmin ∧ e0 ≤ f.qmin + t := ⟨min (f.qmin - 1) (f.qmin + t), by omega, by omega⟩
  refine own_mono hf Nat.one_pos Nat.one_pos k0 (by omega) (by omega) ?_
  show c * k * 2 ^ (q + t - e0).toNat * 1 ≤ c' * k * 2 ^ (q' + t - e0).toNat * 1
  replace h : c * 2 ^ (q - f.qmin).toNat ≤ c' * 2 ^ (q' - f.qmin).toNat := h
  rw [show (q + t - e0).toNat = (q - f.qmin).toNat + (f.qmin + t - e0).toNat by omega, show (q' + t - e0).toNat = (q' - f.qmin).toNat + (f.qmin + t - e0).toNat by omega, Nat.pow_add, Nat.pow_add, Nat.mul_one, Nat.mul_one]
  generalize 2 ^ (q - f.qmin).toNat = x at *
  generalize 2 ^ (q' - f.qmin).toNat = y at *
  generalize 2 ^ (f.qmin + t - e0).toNat = w
  calc c * k * (x * w) = c * x * (k * w) := by ac_rfl
    _ ≤ c' * y * (k * w) := Nat.mul_le_mul_right _ h
    _ = c' * k * (y * w) := by ac_rfl
theorem own_fit {a : UInt64} {s : Bool} {c : Nat} {q : Int} (h : val64 a = .fin s c q) : b64.qmin ≤ q := by
  have f := val64_fits a
  rw [h] at f
  exact f.2.1
theorem own_dv {a b : UInt64} {c d : Nat} {q r : Int} (ha : val64 a = .fin false c q) (hb : val64 b = .fin false d r) (hd : 0 < d) : val64 (Jvm.FP.ddiv a b) = roundRatio b64 false c d (q - r) := by
  refine (val64_ddiv a b).trans ?_
  rw [ha, hb]
  show (if d = 0 then (if c = 0 then Datum.nan else .inf (false != false)) else roundRatio b64 (false != false) c d (q - r)) = _
  rw [if_neg (Nat.ne_of_gt hd)]
  rfl
theorem own_ml {a b : UInt64} {c d : Nat} {q r : Int} (ha : val64 a = .fin false c q) (hb : val64 b = .fin false d r) : val64 (Jvm.FP.dmul a b) = roundRatio b64 false (c * d) 1 (q + r) := by
  refine (val64_dmul a b).trans ?_
  rw [ha, hb]
  rfl
theorem own_kv : val64 (4652007308841189376 : UInt64) = .fin false 8796093022208000 (-43) := by decide +kernel
theorem own_lv (a : Int64) (h : 0 < a.toInt) : val64 (Jvm.FP.l2d a) = roundRatio b64 false a.toInt.natAbs 1 0 := by
  refine (val64_l2d a).trans ?_
  show roundRatio b64 (decide (a.toInt < 0)) a.toInt.natAbs 1 0 = _
  rw [decide_eq_false (show ¬ a.toInt < 0 by omega)]
theorem own_lf (a : Int64) (h : 0 < a.toInt) : ∃ c q, val64 (Jvm.FP.l2d a) = .fin false c q ∧ 0 < c := by
  obtain ⟨s, c, q, e⟩ := l2d_fin a
  have g := sgn_roundRatio b64 false a.toInt.natAbs 1 0
  rw [← own_lv a h, e] at g
  cases (show s = false from g)
  refine ⟨c, q, e, ?_⟩
  rcases Nat.eq_zero_or_pos c with z | z
  · subst z
    exact absurd ((zero_bits2 _).mp ⟨false, q, e⟩) (l2d_ne_zero (v := a) (fun z => by rw [z] at h; exact absurd h (by decide)))
  · exact z
theorem own_lm {a b : Int64} (ha : 0 < a.toInt) (h : a.toInt ≤ b.toInt) : zmag b64 (val64 (Jvm.FP.l2d a)) ≤ zmag b64 (val64 (Jvm.FP.l2d b)) := by
  rw [own_lv a ha, own_lv b (by omega)]
  have hq := qmin_neg good_b64
  refine own_mono good_b64 (e0 := b64.qmin - 1) Nat.one_pos Nat.one_pos (by omega) (by omega) (by omega) ?_
  exact Nat.mul_le_mul_right _ (Nat.mul_le_mul_right _ (by omega))
theorem own_mf (a : Int64) (h : 0 < a.toInt) : ∃ c q, val64 (Jvm.FP.dmul (Jvm.FP.l2d a) 4652007308841189376) = .fin false c q := by
  have m := dmul_mag (Ka := 1088) (Kb := 1033) (l2d_mag a) (show (4652007308841189376 : UInt64).toNat % 2 ^ 63 < 1033 * 2 ^ 52 by decide) (by decide) (by decide)
  obtain ⟨s, c, q, e⟩ := fin_of_lt m (by decide)
  obtain ⟨c1, q1, e1, -⟩ := own_lf a h
  have g := sgn_roundRatio b64 false (c1 * 8796093022208000) 1 (q1 + -43)
  rw [← own_ml e1 own_kv] at g
  have e' : val64 (Jvm.FP.dmul (Jvm.FP.l2d a) 4652007308841189376) = .fin s c q := e
  rw [e'] at g
  cases (show s = false from g)
  exact ⟨c, q, e'⟩
def own_T (r p : Int64) : UInt64 := Jvm.FP.ddiv (Jvm.FP.dmul (Jvm.FP.l2d r) 4652007308841189376) (Jvm.FP.l2d p)
def own_ok (t : UInt64) : Prop := val64 t ≠ .nan ∧ sgn (val64 t) = false
theorem own_okr {t : UInt64} {A B : Nat} {e : Int} (h : val64 t = roundRatio b64 false A B e) : own_ok t := by
  unfold own_ok
  rw [h]
  exact ⟨roundRatio_ne_nan _ _ _ _ _, sgn_roundRatio _ _ _ _ _⟩
theorem own_T_ok {r p : Int64} (hr : 0 < r.toInt) (hp : 0 < p.toInt) : own_ok (own_T r p) := by
  obtain ⟨c, q, e⟩ := own_mf r hr
  obtain ⟨d, t, e2, d0⟩ := own_lf p hp
  exact own_okr (own_dv e e2 d0)
theorem own_T_le {r r' p p' : Int64} (hr : 0 < r.toInt) (h : r.toInt ≤ r'.toInt) (hp : 0 < p'.toInt) (h' : p'.toInt ≤ p.toInt) : zmag b64 (val64 (own_T r p)) ≤ zmag b64 (val64 (own_T r' p')) := by
  obtain ⟨c1, q1, e1, -⟩ := own_lf r hr
  obtain ⟨c2, q2, e2, -⟩ := own_lf r' (by omega)
  obtain ⟨m1, n1, f1⟩ := own_mf r hr
  obtain ⟨m2, n2, f2⟩ := own_mf r' (by omega)
  obtain ⟨d1, t1, g1, z1⟩ := own_lf p (by omega)
  obtain ⟨d2, t2, g2, z2⟩ := own_lf p' hp
  have a1 := own_lm hr h
  rw [e1, e2] at a1
  have a2 := own_prod good_b64 (s := false) (k := 8796093022208000) (t := -43) (own_fit e1) (own_fit e2) a1
  rw [← own_ml e1 own_kv, ← own_ml e2 own_kv, f1, f2] at a2
  have a3 := own_lm hp h'
  rw [g1, g2] at a3
  unfold own_T
  rw [own_dv f1 g1 z1, own_dv f2 g2 z2]
  exact own_quot good_b64 z1 z2 (own_fit f1) (own_fit g1) (own_fit f2) (own_fit g2) (Nat.mul_le_mul a2 a3)
theorem own_cmp {a b : UInt64} (ha : own_ok a) (hb : own_ok b) : Jvm.FP.dcmp a b = some (compare ((zmag b64 (val64 a) : Nat) : Int) ((zmag b64 (val64 b) : Nat) : Int)) := by
  have h := order_zval good_b64 (val64_fits a) (val64_fits b) ha.1 hb.1
  have z : ∀ d : Datum, Jvm.FP.Core.sgn d = false → zval b64 d = ((zmag b64 d : Nat) : Int) := fun d hd => by
    show signed (Jvm.FP.Core.sgn d) (zmag b64 d) = _
    rw [hd]
    rfl
  rw [z _ ha.2, z _ hb.2] at h
  exact h
theorem own_clt {x y : Int} (h : x < y) : compare x y = .lt := by
  show (if x < y then Ordering.lt else if x = y then .eq else .gt) = _
  rw [if_pos h]
theorem own_ceq (x : Int) : compare x x = .eq := by
  show (if x < x then Ordering.lt else if x = x then .eq else .gt) = _
  rw [if_neg (Int.lt_irrefl x), if_pos rfl]
theorem own_cgt {x y : Int} (h : y < x) : compare x y = .gt := by
  show (if x < y then Ordering.lt else if x = y then .eq else .gt) = _
  rw [if_neg (by omega), if_neg (by omega)]
theorem own_d1 {a b : UInt64} (ha : own_ok a) (hb : own_ok b) (h : zmag b64 (val64 b) < zmag b64 (val64 a)) : cmpValue (Jvm.FP.dcmp a b) .l = 1 := by
  rw [own_cmp ha hb, own_cgt (by omega)]
  rfl
theorem own_dm {a b : UInt64} (ha : own_ok a) (hb : own_ok b) (h : zmag b64 (val64 a) < zmag b64 (val64 b)) : cmpValue (Jvm.FP.dcmp a b) .g = -1 := by
  rw [own_cmp ha hb, own_clt (by omega)]
  rfl
theorem own_d0 {a b : UInt64} (ha : own_ok a) (hb : own_ok b) (h : zmag b64 (val64 a) = zmag b64 (val64 b)) : cmpValue (Jvm.FP.dcmp a b) .l = 0 := by
  rw [own_cmp ha hb, h, own_ceq]
  rfl
theorem own_dle {a b : UInt64} (ha : own_ok a) (hb : own_ok b) (h : zmag b64 (val64 a) ≤ zmag b64 (val64 b)) : ¬ (0 : Int32) < cmpValue (Jvm.FP.dcmp a b) .g := by
  rcases Nat.lt_or_eq_of_le h with k | k
  · rw [own_dm ha hb k]
    decide
  · rw [own_cmp ha hb, k, own_ceq]
    decide
theorem own_zok : own_ok Jvm.FP.dconst0 := by
  unfold own_ok
  decide +kernel
theorem own_zz : zmag b64 (val64 Jvm.FP.dconst0) = 0 := by decide +kernel
theorem own_bok : own_ok (4936209963552724370 : UInt64) := by
  unfold own_ok
  decide +kernel
theorem own_lo : 0 < zmag b64 (val64 (own_T 1 9007199254740992)) := by decide +kernel
theorem own_hi : zmag b64 (val64 (own_T 9223372036854775807 1)) < zmag b64 (val64 (4936209963552724370 : UInt64)) := by decide +kernel
theorem own_T_pos {r p : Int64} (hr : 0 < r.toInt) (hp : 0 < p.toInt) (h : p.toInt ≤ 9007199254740992) : cmpValue (Jvm.FP.dcmp (own_T r p) Jvm.FP.dconst0) .l = 1 := by
  refine own_d1 (own_T_ok hr hp) own_zok ?_
  rw [own_zz]
  refine Nat.lt_of_lt_of_le own_lo (own_T_le (by decide) ?_ hp ?_)
  · show (1 : Int) ≤ _
    omega
  · show _ ≤ (9007199254740992 : Int)
    omega
theorem own_T_top {r p : Int64} (hr : 0 < r.toInt) (hp : 0 < p.toInt) : cmpValue (Jvm.FP.dcmp (own_T r p) (4936209963552724370 : UInt64)) .g = -1 := by
  refine own_dm (own_T_ok hr hp) own_bok (Nat.lt_of_le_of_lt (own_T_le hr ?_ (by decide) ?_) own_hi)
  · show _ ≤ (9223372036854775807 : Int)
    have := rng64 r
    omega
  · show (1 : Int) ≤ _
    omega
theorem own_T_ord {r r' p p' : Int64} (hr : 0 < r.toInt) (h : r.toInt ≤ r'.toInt) (hp : 0 < p'.toInt) (h' : p'.toInt ≤ p.toInt) : ¬ (0 : Int32) < cmpValue (Jvm.FP.dcmp (own_T r p) (own_T r' p')) .g :=
  own_dle (own_T_ok hr (by omega)) (own_T_ok (by omega) hp) (own_T_le hr h hp h')
theorem own_nn1 (r : Int64) : Jvm.Free.Fl.NoNaN64 (Jvm.FP.dmul (Jvm.FP.l2d r) 4652007308841189376) := Jvm.Free.Fl.dmul_out (Jvm.Free.Fl.l2d_fin r) (Jvm.Free.Fl.fin64_core.mpr ⟨_, _, _, own_kv⟩)
theorem own_okn {t : UInt64} (h : own_ok t) : Jvm.Free.Fl.NoNaN64 t := Jvm.Free.Fl.noNaN64_no.mpr ((notNaN_iff t).mpr h.1)
/-- whole numbers as doubles -/
theorem own_wh {i : Int} {a : UInt64} (h : DInt i a) (hi : 0 < i) : ∃ c q, val64 a = .fin false c q ∧ 0 < c ∧ ((inUnits c q b64.qmin : Nat) : Int) = i * ((2 ^ (-b64.qmin).toNat : Nat) : Int) := by
  have f := val64_fits a
  unfold DInt at h
  cases hv : val64 a with
  | nan => rw [hv] at h; exact h.elim
  | inf s => rw [hv] at h; exact h.elim
  | fin s c q =>
    rw [hv] at h f
    have hs := whole_sign h (by omega)
    rw [decide_eq_false (show ¬ i < 0 by omega)] at hs
    subst hs
    have hq := qmin_neg good_b64
    have u := whole_units h (e := b64.qmin) f.2.1
    rw [show b64.qmin.toNat = 0 by omega, Nat.pow_zero] at u
    replace u : ((inUnits c q b64.qmin : Nat) : Int) * ((1 : Nat) : Int) = i * ((2 ^ (-b64.qmin).toNat : Nat) : Int) := u
    rw [show ((1 : Nat) : Int) = 1 from rfl, Int.mul_one] at u
    refine ⟨c, q, rfl, ?_, u⟩
    rcases Nat.eq_zero_or_pos c with z | z
    · subst z
      have p1 := Nat.two_pow_pos (-b64.qmin).toNat
      have p2 : 0 < i * ((2 ^ (-b64.qmin).toNat : Nat) : Int) := Int.mul_pos hi (by omega)
      rw [← u, show inUnits 0 q b64.qmin = 0 from Nat.zero_mul _] at p2
      exact absurd p2 (by decide)
    · exact z
theorem own_kd : DInt 1000 (4652007308841189376 : UInt64) := by
  unfold DInt
  rw [own_kv]
  show signed false (8796093022208000 * 2 ^ (-43 : Int).toNat) = 1000 * ((2 ^ (-(-43) : Int).toNat : Nat) : Int)
  decide
theorem own_exact {N P A D : Int64} (hN : 0 < N.toInt) (hN2 : N.toInt ≤ 8796093022208) (hP : 0 < P.toInt) (hP2 : P.toInt ≤ 9007199254740992) (hA : 0 < A.toInt) (hA2 : A.toInt ≤ 9007199254740992) (hD : 0 < D.toInt) (hD2 : D.toInt ≤ 9007199254740992)
    (h : N.toInt * 1000 * D.toInt = A.toInt * P.toInt) : own_ok (Jvm.FP.ddiv (Jvm.FP.l2d A) (Jvm.FP.l2d D)) ∧ cmpValue (Jvm.FP.dcmp (own_T N P) (Jvm.FP.ddiv (Jvm.FP.l2d A) (Jvm.FP.l2d D))) .l = 0 := by
  obtain ⟨c1, q1, e1, z1, u1⟩ := own_wh (dmul_int (l2d_int (a := N) (by omega)) own_kd (by omega)) (by omega)
  obtain ⟨c2, q2, e2, z2, u2⟩ := own_wh (l2d_int (a := P) (by omega)) hP
  obtain ⟨c3, q3, e3, z3, u3⟩ := own_wh (l2d_int (a := A) (by omega)) hA
  obtain ⟨c4, q4, e4, z4, u4⟩ := own_wh (l2d_int (a := D) (by omega)) hD
  have v1 : val64 (own_T N P) = roundRatio b64 false c1 c2 (q1 - q2) := own_dv e1 e2 z2
  have v2 : val64 (Jvm.FP.ddiv (Jvm.FP.l2d A) (Jvm.FP.l2d D)) = roundRatio b64 false c3 c4 (q3 - q4) := own_dv e3 e4 z4
  have k : inUnits c1 q1 b64.qmin * inUnits c4 q4 b64.qmin = inUnits c3 q3 b64.qmin * inUnits c2 q2 b64.qmin := by
    refine Int.ofNat.inj ?_
    show ((inUnits c1 q1 b64.qmin * inUnits c4 q4 b64.qmin : Nat) : Int) = ((inUnits c3 q3 b64.qmin * inUnits c2 q2 b64.qmin : Nat) : Int)
    rw [Int.natCast_mul, Int.natCast_mul, u1, u2, u3, u4]
    generalize ((2 ^ (-b64.qmin).toNat : Nat) : Int) = M
    calc N.toInt * 1000 * M * (D.toInt * M) = N.toInt * 1000 * D.toInt * (M * M) := by ac_rfl
      _ = A.toInt * P.toInt * (M * M) := by rw [h]
      _ = A.toInt * M * (P.toInt * M) := by ac_rfl
  refine ⟨own_okr v2, own_d0 (own_okr v1) (own_okr v2) ?_⟩
  rw [v1, v2]
  exact Nat.le_antisymm (own_quot good_b64 z2 z4 (own_fit e1) (own_fit e2) (own_fit e3) (own_fit e4) (Nat.le_of_eq k)) (own_quot good_b64 z4 z2 (own_fit e3) (own_fit e4) (own_fit e1) (own_fit e2) (Nat.le_of_eq k.symm))
end OwnF
section OwnN
theorem own_ush (x : Int64) (n : UInt64) (h : 0 ≤ x.toInt) : 0 ≤ ((x.toUInt64 >>> n).toInt64).toInt ∧ ((x.toUInt64 >>> n).toInt64).toInt ≤ x.toInt := by
  have h2 := x.toBitVec.isLt
  have h3 : (x.toBitVec >>> (n.toBitVec % 64)).toNat ≤ x.toBitVec.toNat := by
    rw [BitVec.ushiftRight_eq', BitVec.toNat_ushiftRight, Nat.shiftRight_eq_div_pow]
    exact Nat.div_le_self _ _
  show 0 ≤ (x.toBitVec >>> (n.toBitVec % 64)).toInt ∧ (x.toBitVec >>> (n.toBitVec % 64)).toInt ≤ x.toBitVec.toInt
  replace h : 0 ≤ x.toBitVec.toInt := h
  have a := BitVec.toInt_eq_toNat_cond x.toBitVec
  have b := BitVec.toInt_eq_toNat_cond (x.toBitVec >>> (n.toBitVec % 64))
  generalize (x.toBitVec >>> (n.toBitVec % 64)).toInt = w at *
  generalize (x.toBitVec >>> (n.toBitVec % 64)).toNat = w' at *
  generalize x.toBitVec.toInt = u at *
  generalize x.toBitVec.toNat = u' at *
  split at a <;> split at b <;> omega
theorem own_rt (x r : Int64) (hr : (x &&& (8388607 : Int64)) + (1 : Int64) = r) : 0 < r.toInt ∧ r.toInt ≤ 8388608 := by
  have a := c_maskL x 8388607 23 (by decide) (by decide)
  have k := c_ladd (x &&& 8388607) 1
  rw [hr] at k
  have e1 : (1 : Int64).toInt = 1 := rfl
  have := rng64 r
  omega
theorem own_bp (x r : Int64) (hr : (x &&& (9007199254740991 : Int64)) + (1 : Int64) = r) : 0 < r.toInt ∧ r.toInt ≤ 9007199254740992 := by
  have a := c_maskL x 9007199254740991 53 (by decide) (by decide)
  have k := c_ladd (x &&& 9007199254740991) 1
  rw [hr] at k
  have e1 : (1 : Int64).toInt = 1 := rfl
  have := rng64 r
  omega
theorem own_bs (x : Int32) (r : Int64) (hr : (x &&& (1048575 : Int32)).toInt64 + (1 : Int64) = r) : 0 < r.toInt ∧ r.toInt ≤ 1048576 := by
  have a := c_mask x 1048575 20 (by decide) (by decide)
  have k := c_ladd (x &&& 1048575).toInt64 1
  rw [hr, c_i2l] at k
  have e1 : (1 : Int64).toInt = 1 := rfl
  have := rng64 r
  omega
theorem own_kk (x r : Int32) (hr : x &&& (31 : Int32) = r) : ∃ j : Nat, j ≤ 31 ∧ r.toBitVec.toNat % 64 = j := by
  refine ⟨_, ?_, rfl⟩
  rw [← hr]
  have a := c_mask x 31 5 (by decide) (by decide)
  have b := BitVec.toInt_eq_toNat_cond (x &&& 31).toBitVec
  have c := (x &&& 31).toBitVec.isLt
  replace a : (x &&& 31).toBitVec.toInt = x.toInt % (2 ^ 5 : Nat) := a
  rw [a] at b
  generalize (x &&& 31).toBitVec.toNat = w at *
  split at b <;> omega
theorem own_sl (x s : Int64) (q : Int32) (j : Nat) (hj : j ≤ 31) (hq : q.toBitVec.toNat % 64 = j) (h0 : 0 < x.toInt) (h1 : x.toInt ≤ 1048576) (hs : (x <<< (q &&& 0x3f).toInt64) = s) : s.toInt = x.toInt * ((2 ^ j : Nat) : Int) ∧ 0 < s.toInt ∧ s.toInt ≤ 2251799813685248 := by
  have k := c_lshl x q j hq
  rw [hs] at k
  have p0 := Nat.two_pow_pos j
  have p1 : 2 ^ j ≤ 2 ^ 31 := Nat.pow_le_pow_right (by decide) hj
  generalize 2 ^ j = P at *
  have b0 : 0 < x.toInt * (P : Int) := Int.mul_pos h0 (by omega)
  have b1 : x.toInt * (P : Int) ≤ 1048576 * (P : Int) := Int.mul_le_mul_of_nonneg_right h1 (by omega)
  have r := rng64 s
  generalize x.toInt * (P : Int) = Y at *
  omega
theorem own_nm (b r n : Int64) (h0 : 0 < b.toInt) (h1 : b.toInt ≤ 1048576) (g0 : 0 < r.toInt) (g1 : r.toInt ≤ 8388608) (hn : b * r = n) : n.toInt = b.toInt * r.toInt ∧ 0 < n.toInt ∧ n.toInt ≤ 8796093022208 := by
  have k := c_lmul b r
  rw [hn] at k
  have b0 : 0 < b.toInt * r.toInt := Int.mul_pos h0 g0
  have b1 : b.toInt * r.toInt ≤ 1048576 * r.toInt := Int.mul_le_mul_of_nonneg_right h1 (by omega)
  have w := rng64 n
  generalize b.toInt * r.toInt = Y at *
  omega
theorem own_am (r n : Int64) (g0 : 0 < r.toInt) (g1 : r.toInt ≤ 8388608) (hn : (1000 : Int64) * r = n) : n.toInt = 1000 * r.toInt ∧ 0 < n.toInt ∧ n.toInt ≤ 9007199254740992 := by
  have k := c_lmul 1000 r
  rw [hn, show (1000 : Int64).toInt = 1000 from rfl] at k
  have w := rng64 n
  have b0 : 0 < 1000 * r.toInt := by omega
  have b1 : 1000 * r.toInt ≤ 8388608000 := by omega
  generalize 1000 * r.toInt = Y at *
  omega
theorem own_cross {N P A D b r : Int} {p : Int} (h1 : N = b * r) (h2 : P = b * p) (h3 : A = 1000 * r) (h4 : D = p) : N * 1000 * D = A * P := by
  subst h1 h2 h3 h4
  ac_rfl
theorem own_lt1 {x : Int64} (h : 0 < x.toInt) : ¬ x < (1 : Int64) := by
  rw [Int64.lt_iff_toInt_lt, show (1 : Int64).toInt = 1 from rfl]
  omega
theorem own_mx (u r : Int64) (hr : (if (1 : Int64) < u then u else (1 : Int64)) = r) : 0 < r.toInt ∧ (∀ b : Int, 0 < b → u.toInt ≤ b → r.toInt ≤ b) := by
  have e1 : (1 : Int64).toInt = 1 := rfl
  rw [← hr]
  split
  · rename_i h
    rw [Int64.lt_iff_toInt_lt] at h
    exact ⟨by omega, fun b _ h => h⟩
  · exact ⟨by decide, fun b h _ => by omega⟩
theorem own_cap1 (p : Int64) (h1 : 0 < p.toInt) (h2 : p.toInt ≤ 9007199254740992) : ¬ (9007199254740992 : Int64) / p < (1 : Int64) := by
  have e2 : (9007199254740992 : Int64).toInt = 9007199254740992 := rfl
  have q := (c_ldiv (9007199254740992 : Int64) p p.toInt rfl (fun z => by rw [z] at h1; exact absurd h1 (by decide))).1 (by rw [e2]; decide)
  rw [Int64.lt_iff_toInt_lt, q, e2, show (1 : Int64).toInt = 1 from rfl]
  have : (1 : Int) ≤ 9007199254740992 / p.toInt := by
    rw [Int.le_ediv_iff_mul_le h1]
    omega
  omega
theorem own_le {x y : Int64} (h : ¬ y < x) : x.toInt ≤ y.toInt := by
  rw [Int64.lt_iff_toInt_lt] at h
  omega
theorem own_retD {p : Program} {l : Launch} {e : Env} {R : Room} {s : State} {m : MethodId} {args : Array Value} {below : List Frame} {meth : Method} {c : Code} {T : State} {locs : List Loc} {cells slots : Nat} (X : Stand p l e R s m args below meth c T locs cells slots) (hx : p.tables.exec = Jvm.exec) {rm : Room} {Q : Option Value → Heap → List Loc → Prop} {pc : Nat} {Ls : Array Slot} {z : UInt64} {rest : List Value} (hret : meth.sig.returnType = some .double) (hlk : meth.locks = false)
    (hd : decode c.code pc = .ok (.dreturn, 1)) (hQ : Q (some (.double z)) T.heap locs) (hc : cells ≤ rm.cells) (hs : slots ≤ rm.slots) : OGo p e below (ODone s rm Q) (T.setTop (mkF m pc Ls (.double z :: rest))) :=
  own_ret X (fun h => by rw [hret] at h; cases h) hlk (fun fs hr => retOut X hx hret rfl (Or.inr (Or.inr (Or.inl ⟨rfl, rfl, z, rfl⟩))) hd hr) hQ hc hs
end OwnN
theorem d1_0 : decode jdk_29_method_66_code 0 = .ok (.lload_n 0, 1) := by decide +kernel
theorem d1_1 : decode jdk_29_method_66_code 1 = .ok (.lload_n 2, 1) := by decide +kernel
theorem d1_2 : decode jdk_29_method_66_code 2 = .ok (.lcmp, 1) := by decide +kernel
theorem d1_3 : decode jdk_29_method_66_code 3 = .ok (.ifCond .lt 7, 3) := by decide +kernel
theorem d1_6 : decode jdk_29_method_66_code 6 = .ok (.lload_n 0, 1) := by decide +kernel
theorem d1_7 : decode jdk_29_method_66_code 7 = .ok (.goto 4, 3) := by decide +kernel
theorem d1_10 : decode jdk_29_method_66_code 10 = .ok (.lload_n 2, 1) := by decide +kernel
theorem d1_11 : decode jdk_29_method_66_code 11 = .ok (.lreturn, 1) := by decide +kernel
theorem ef_rm1 (m : MethodId) (x0 : Int64) (x1 : Int64) : entryFrame m #[(.long x0), (.long x1)] 4 = mkF m 0 #[.val (.long x0), .second, .val (.long x1), .second] [] := by first | (simp [entryFrame, mkF, argsToLocals, Value.category]; done) | rfl
set_option maxRecDepth 65536 in
set_option maxHeartbeats 40000000 in
theorem rm1 (l : Launch) (Z : State) (a0 : Array Value) (hw : ∀ d ∈ tables_1, d.before a0 Z = true) (a b r : Int64) (h0 : Heap) (n0 : Nat) (hr : (if a < b then b else a) = r) :
    OMet l Z (⟨"java/lang/Math", "max", "(JJ)J"⟩ : MethodName) jdk_29_method_66_code 4 (some .long) [] ({ frames := 0, cells := 0, slots := 0, locals := 0 } : Room) #[(.long a), (.long b)] h0 (OPure (some (.long r)) h0 n0) := by
  refine OMet.of (Jvm.Free.JP.mathPlain rfl (by decide +kernel)) ?_
  intro p e s m below meth c s₁ hx hby hml hnd hown hnm hret hlk hZ X0 e0
  replace hown : s.vm.findClass "java/lang/Math" = some m.cls := hown
  replace hml : c.maxLocals = 4 := hml
  have N0 := Fr.nil n0
  rw [ef_rm1 m a b]
  refine OGo.st (B := s₁.setTop (mkF m 1 #[.val (.long a), .second, .val (.long b), .second] [(.long a)])) (fun _ kz => XS.lloadN X0.here hx rfl (hb hby d1_0) rfl kz) ?_
  refine OGo.st (B := s₁.setTop (mkF m 2 #[.val (.long a), .second, .val (.long b), .second] [(.long b), (.long a)])) (fun _ kz => XS.lloadN X0.here hx rfl (hb hby d1_1) rfl kz) ?_
  refine OGo.st (B := s₁.setTop (mkF m 3 #[.val (.long a), .second, .val (.long b), .second] [(.int (lcmpW a b))])) (fun _ kz => XS.lcmp X0.here hx rfl (hb hby d1_2) rfl kz) ?_
  by_cases h1 : a < b
  · skip
    refine OGo.st (B := s₁.setTop (mkF m 10 #[.val (.long a), .second, .val (.long b), .second] [])) (fun _ kz => XS.ifYes X0.here hx rfl (pc0 := 3) (pc' := 10) rfl (hb hby d1_3) rfl ((if0 _ _).trans (tlt ((lw_lt _ _).mpr h1)).1) (by decide) (by decide) kz) ?_
    refine OGo.st (B := s₁.setTop (mkF m 11 #[.val (.long a), .second, .val (.long b), .second] [(.long b)])) (fun _ kz => XS.lloadN X0.here hx rfl (hb hby d1_10) rfl kz) ?_
    exact own_retJ X0 hx hret hlk (hb hby d1_11) ⟨by rw [← hr, if_pos h1], N0, e0⟩ (by decide) (by decide)
  · skip
    refine OGo.st (B := s₁.setTop (mkF m 6 #[.val (.long a), .second, .val (.long b), .second] [])) (fun _ kz => XS.ifNo X0.here hx rfl (hb hby d1_3) rfl ((if0 _ _).trans (flt (mt (lw_lt _ _).mp h1)).1) kz) ?_
    refine OGo.st (B := s₁.setTop (mkF m 7 #[.val (.long a), .second, .val (.long b), .second] [(.long a)])) (fun _ kz => XS.lloadN X0.here hx rfl (hb hby d1_6) rfl kz) ?_
    refine OGo.st (B := s₁.setTop (mkF m 11 #[.val (.long a), .second, .val (.long b), .second] [(.long a)])) (fun _ kz => XS.goto X0.here hx rfl (pc0 := 7) (pc' := 11) rfl (hb hby d1_7) (by decide) (by decide) kz) ?_
    exact own_retJ X0 hx hret hlk (hb hby d1_11) ⟨by rw [← hr, if_neg h1], N0, e0⟩ (by decide) (by decide)
theorem d20_0 : decode jdk_18_method_1_code 0 = .ok (.aload_n 0, 1) := by decide +kernel
theorem d20_1 : decode jdk_18_method_1_code 1 = .ok (.invokespecial 1, 3) := by decide +kernel
theorem d20_4 : decode jdk_18_method_1_code 4 = .ok (.return_, 1) := by decide +kernel
theorem pn_java_lang_Number : plainName "java/lang/Number" = true := by first | (simp [plainName, overriddenIn]; done) | decide +kernel
theorem ef_rm20 (m : MethodId) (x0 : Addr) : entryFrame m #[(.ref x0)] 1 = mkF m 0 #[.val (.ref x0)] [] := by first | (simp [entryFrame, mkF, argsToLocals, Value.category]; done) | rfl
set_option maxRecDepth 65536 in
set_option maxHeartbeats 40000000 in
theorem rm20 (l : Launch) (Z : State) (a0 : Array Value) (hw : ∀ d ∈ tables_1, d.before a0 Z = true) (a : Addr) (h0 : Heap) (n0 : Nat) :
    OMet l Z (⟨"java/lang/Number", "<init>", "()V"⟩ : MethodName) jdk_18_method_1_code 1 none [] ({ frames := 1, cells := 0, slots := 0, locals := 12 } : Room) #[(.ref a)] h0 (OPure none h0 n0) := by
  refine OMet.of (plainFor_of_name pn_java_lang_Number) ?_
  intro p e s m below meth c s₁ hx hby hml hnd hown hnm hret hlk hZ X0 e0
  replace hown : s.vm.findClass "java/lang/Number" = some m.cls := hown
  replace hml : c.maxLocals = 1 := hml
  have N0 := Fr.nil n0
  rw [ef_rm20 m a]
  refine OGo.st (B := s₁.setTop (mkF m 1 #[.val (.ref a)] [(.ref a)])) (fun _ kz => XS.aloadN X0.here hx rfl (hb hby d20_0) rfl rfl kz) ?_
  obtain ⟨T1, X1, e1, st1⟩ := initO X0 hx hZ hown (hw _ (List.mem_of_getElem? (i := 101) rfl)) (hw _ (List.mem_of_getElem? (i := 9) rfl)) (hw _ (List.mem_of_getElem? (i := 10) rfl)) e0 (g := (mkF m 1 #[.val (.ref a)] [(.ref a)])) rfl (by rw [hml]; rfl) rfl (hb hby d20_1) (by decide) (W := 0) (by show 2 * 0 + _ ≤ _; exact Nat.le_of_eq rfl) (by decide)
  refine OGo.st (B := T1.setTop (mkF m 4 #[.val (.ref a)] [])) st1 ?_
  exact own_ret0 X1 hx hret hlk (hb hby d20_4) ⟨rfl, N0, e1⟩ (by decide) (by decide)
theorem pd_1 : parseMethodDescriptor "()V" = some ⟨[], none⟩ := by decide +kernel
theorem d21_0 : decode jdk_35_method_26_code 0 = .ok (.aload_n 0, 1) := by decide +kernel
theorem d21_1 : decode jdk_35_method_26_code 1 = .ok (.invokespecial 270, 3) := by decide +kernel
theorem d21_4 : decode jdk_35_method_26_code 4 = .ok (.aload_n 0, 1) := by decide +kernel
theorem d21_5 : decode jdk_35_method_26_code 5 = .ok (.lload_n 1, 1) := by decide +kernel
theorem d21_6 : decode jdk_35_method_26_code 6 = .ok (.putfield 273, 3) := by decide +kernel
theorem d21_9 : decode jdk_35_method_26_code 9 = .ok (.return_, 1) := by decide +kernel
theorem pn_java_lang_Long : plainName "java/lang/Long" = true := by first | (simp [plainName, overriddenIn]; done) | decide +kernel
theorem ef_rm21 (m : MethodId) (x0 : Addr) (x1 : Int64) : entryFrame m #[(.ref x0), (.long x1)] 3 = mkF m 0 #[.val (.ref x0), .val (.long x1), .second] [] := by first | (simp [entryFrame, mkF, argsToLocals, Value.category]; done) | rfl
set_option maxRecDepth 65536 in
set_option maxHeartbeats 40000000 in
theorem rm21 (l : Launch) (Z : State) (a0 : Array Value) (hw : ∀ d ∈ tables_1, d.before a0 Z = true) (a : Addr) (q : Int64) (h0 : Heap) (n0 : Nat) (Z0 : n0 ≤ h0.size) (E_a : Exa Z h0 a "java/lang/Long") (g_a : n0 ≤ a) (G : Fld Z h0 a "java/lang/Long" "value" "J" (.long (0 : Int64))) :
    OMet l Z (⟨"java/lang/Long", "<init>", "(J)V"⟩ : MethodName) jdk_35_method_26_code 3 none [] ({ frames := 2, cells := 0, slots := 0, locals := 24 } : Room) #[(.ref a), (.long q)] h0 (fun v h L => v = none ∧ Fr n0 L ∧ Keep h0 h [a] ∧ Exa Z h a "java/lang/Long" ∧ Fld Z h a "java/lang/Long" "value" "J" (.long q)) := by
  refine OMet.of (plainFor_of_name pn_java_lang_Long) ?_
  intro p e s m below meth c s₁ hx hby hml hnd hown hnm hret hlk hZ X0 e0
  replace hown : s.vm.findClass "java/lang/Long" = some m.cls := hown
  replace hml : c.maxLocals = 3 := hml
  have N0 := Fr.nil n0
  rw [ef_rm21 m a q]
  refine OGo.st (B := s₁.setTop (mkF m 1 #[.val (.ref a), .val (.long q), .second] [(.ref a)])) (fun _ kz => XS.aloadN X0.here hx rfl (hb hby d21_0) rfl rfl kz) ?_
  obtain ⟨v1, T1, L1, X1, hQ1, st1⟩ := (rm20 l Z a0 hw a h0 n0).init (W := 0) X0 hx hZ rfl hown (hw _ (List.mem_of_getElem? (i := 95) rfl)) (hw _ (List.mem_of_getElem? (i := 96) rfl)) (hw _ (List.mem_of_getElem? (i := 99) rfl)) (hw _ (List.mem_of_getElem? (i := 100) rfl)) (by decide) (by decide) (by decide) e0 (by decide) (by decide) (g := (mkF m 1 #[.val (.ref a), .val (.long q), .second] [(.ref a)])) rfl (by rw [hml]; rfl) (argsL := []) (rest := []) rfl (lenOf pd_1 rfl) rfl (by show 2 * 0 + _ ≤ _; exact Nat.le_of_eq rfl) (hb hby d21_1)
  obtain ⟨rfl, N1q, e1⟩ := hQ1
  have N1 := Fr.app N0 N1q
  refine OGo.st (B := T1.setTop (mkF m 4 #[.val (.ref a), .val (.long q), .second] [])) st1 ?_
  refine OGo.st (B := T1.setTop (mkF m 5 #[.val (.ref a), .val (.long q), .second] [(.ref a)])) (fun _ kz => XS.aloadN X1.here hx rfl (hb hby d21_4) rfl rfl kz) ?_
  refine OGo.st (B := T1.setTop (mkF m 6 #[.val (.ref a), .val (.long q), .second] [(.long q), (.ref a)])) (fun _ kz => XS.lloadN X1.here hx rfl (hb hby d21_5) rfl kz) ?_
  obtain ⟨T2, h2, X2, e2, W2, st2⟩ := putF X1 hx hZ hown (host := "") (Or.inl (hw _ (List.mem_of_getElem? (i := 51) rfl))) Via.refl e1 G E_a (Or.inr ⟨(hw _ (List.mem_of_getElem? (i := 52) rfl)), rfl, hnm⟩) (hw _ (List.mem_of_getElem? (i := 90) rfl)) (ty := .long) (by decide) rfl rfl (g := (mkF m 6 #[.val (.ref a), .val (.long q), .second] [(.long q), (.ref a)])) rfl rfl (hb hby d21_6)
  have F2_value := G.same W2
  have N2 := Fr.snoc X2 N1 g_a
  have K2 : Keep h0 h2 [a] := (Keep.refl h0 [a]).wr W2 (Or.inl (List.mem_of_getElem? (i := 0) rfl))
  refine OGo.st (B := T2.setTop (mkF m 9 #[.val (.ref a), .val (.long q), .second] [])) st2 ?_
  exact own_ret0 X2 hx hret hlk (hb hby d21_9) (by rw [e2]; exact ⟨rfl, N2, K2, (E_a.wr W2), F2_value⟩) (by decide) (by decide)
theorem own_idxL (q : Int64) (h1 : ¬ q < (-128 : Int64)) (h2 : ¬ (127 : Int64) < q) {c : Cell} (S : c.slots.size = (256 : Int32).toNatClampNeg) : ¬ (q.toInt32 + (128 : Int32) < 0 ∨ c.slots.size ≤ (q.toInt32 + (128 : Int32)).toNatClampNeg) ∧ (q.toInt32 + (128 : Int32) - 128).toInt64 = q := by
  have e1 : (-128 : Int64).toInt = -128 := rfl
  have e2 : (127 : Int64).toInt = 127 := rfl
  have e3 : (128 : Int32).toInt = 128 := rfl
  have e4 : (0 : Int32).toInt = 0 := rfl
  have e5 : (256 : Int32).toInt = 256 := rfl
  rw [Int64.lt_iff_toInt_lt] at h1 h2
  have k1 := c_l2i q
  have k2 := c_iadd q.toInt32 128
  have k3 := c_isub (q.toInt32 + 128) 128
  have r1 := rng32 q.toInt32
  have r2 := rng32 (q.toInt32 + 128)
  have r3 := rng32 (q.toInt32 + 128 - 128)
  refine ⟨inb_of S ?_, ?_⟩
  · rw [Int32.lt_iff_toInt_lt, Int32.lt_iff_toInt_lt]
    omega
  · apply Int64.toInt_inj.mp
    rw [c_i2l]
    omega
theorem pd_9 : parseMethodDescriptor "(J)V" = some ⟨[.long], none⟩ := by decide +kernel
theorem d22_0 : decode jdk_35_method_24_code 0 = .ok (.sipush 128, 3) := by decide +kernel
theorem d22_3 : decode jdk_35_method_24_code 3 = .ok (.istore_n 2, 1) := by decide +kernel
theorem d22_4 : decode jdk_35_method_24_code 4 = .ok (.lload_n 0, 1) := by decide +kernel
theorem d22_5 : decode jdk_35_method_24_code 5 = .ok (.ldc2_w 230, 3) := by decide +kernel
theorem d22_8 : decode jdk_35_method_24_code 8 = .ok (.lcmp, 1) := by decide +kernel
theorem d22_9 : decode jdk_35_method_24_code 9 = .ok (.ifCond .lt 22, 3) := by decide +kernel
theorem d22_12 : decode jdk_35_method_24_code 12 = .ok (.lload_n 0, 1) := by decide +kernel
theorem d22_13 : decode jdk_35_method_24_code 13 = .ok (.ldc2_w 232, 3) := by decide +kernel
theorem d22_16 : decode jdk_35_method_24_code 16 = .ok (.lcmp, 1) := by decide +kernel
theorem d22_17 : decode jdk_35_method_24_code 17 = .ok (.ifCond .gt 14, 3) := by decide +kernel
theorem d22_20 : decode jdk_35_method_24_code 20 = .ok (.getstatic 234, 3) := by decide +kernel
theorem d22_23 : decode jdk_35_method_24_code 23 = .ok (.lload_n 0, 1) := by decide +kernel
theorem d22_24 : decode jdk_35_method_24_code 24 = .ok (.l2i, 1) := by decide +kernel
theorem d22_25 : decode jdk_35_method_24_code 25 = .ok (.sipush 128, 3) := by decide +kernel
theorem d22_28 : decode jdk_35_method_24_code 28 = .ok (.iadd, 1) := by decide +kernel
theorem d22_29 : decode jdk_35_method_24_code 29 = .ok (.aaload, 1) := by decide +kernel
theorem d22_30 : decode jdk_35_method_24_code 30 = .ok (.areturn, 1) := by decide +kernel
theorem d22_31 : decode jdk_35_method_24_code 31 = .ok (.new 1, 3) := by decide +kernel
theorem d22_34 : decode jdk_35_method_24_code 34 = .ok (.dup, 1) := by decide +kernel
theorem d22_35 : decode jdk_35_method_24_code 35 = .ok (.lload_n 0, 1) := by decide +kernel
theorem d22_36 : decode jdk_35_method_24_code 36 = .ok (.invokespecial 240, 3) := by decide +kernel
theorem d22_39 : decode jdk_35_method_24_code 39 = .ok (.areturn, 1) := by decide +kernel
theorem ef_rm22 (m : MethodId) (x0 : Int64) : entryFrame m #[(.long x0)] 3 = mkF m 0 #[.val (.long x0), .second, .unset] [] := by first | (simp [entryFrame, mkF, argsToLocals, Value.category]; done) | rfl
set_option maxRecDepth 65536 in
set_option maxHeartbeats 40000000 in
theorem rm22 (l : Launch) (Z : State) (a0 : Array Value) (hw : ∀ d ∈ tables_1, d.before a0 Z = true) (q : Int64) (h0 : Heap) (n0 : Nat) (Z0 : n0 ≤ h0.size) (O0 : Old Z n0 h0) (ca : Addr) (cc : Cell) (S_cache : Sta Z Z.heap "java/lang/Long$LongCache" "cache" "[Ljava/lang/Long;" (.ref ca)) (BX : Bxs Z ca cc "java/lang/Long" "J" 256 (fun j => .long (j - 128).toInt64)) :
    OMet l Z (⟨"java/lang/Long", "valueOf", "(J)Ljava/lang/Long;"⟩ : MethodName) jdk_35_method_24_code 3 (some (.object "java/lang/Long")) [] ({ frames := 3, cells := 1, slots := 1, locals := 39 } : Room) #[(.long q)] h0 (fun v h L => ∃ a, v = some (.ref a) ∧ Fr n0 L ∧ Keep h0 h [] ∧ Exa Z h a "java/lang/Long" ∧ Fld Z h a "java/lang/Long" "value" "J" (.long q)) := by
  refine OMet.of (plainFor_of_name pn_java_lang_Long) ?_
  intro p e s m below meth c s₁ hx hby hml hnd hown hnm hret hlk hZ X0 e0
  replace hown : s.vm.findClass "java/lang/Long" = some m.cls := hown
  replace hml : c.maxLocals = 3 := hml
  have N0 := Fr.nil n0
  rw [ef_rm22 m q]
  refine OGo.st (B := s₁.setTop (mkF m 3 #[.val (.long q), .second, .unset] [(.int (128 : Int32))])) (fun _ kz => XS.sipush X0.here hx rfl (hb hby d22_0) kz) ?_
  refine OGo.st (B := s₁.setTop (mkF m 4 #[.val (.long q), .second, .val (.int (128 : Int32))] [])) (fun _ kz => XS.istoreN X0.here hx rfl (hb hby d22_3) rfl (l' := #[.val (.long q), .second, .val (.int (128 : Int32))]) rfl kz) ?_
  refine OGo.st (B := s₁.setTop (mkF m 5 #[.val (.long q), .second, .val (.int (128 : Int32))] [(.long q)])) (fun _ kz => XS.lloadN X0.here hx rfl (hb hby d22_4) rfl kz) ?_
  refine OGo.st (B := s₁.setTop (mkF m 8 #[.val (.long q), .second, .val (.int (128 : Int32))] [(.long (-128 : Int64)), (.long q)])) (X0.ldc2Long hx hown (mvT hZ (hw _ (List.mem_of_getElem? (i := 15) rfl))) (g := (mkF m 5 #[.val (.long q), .second, .val (.int (128 : Int32))] [(.long q)])) rfl (hb hby d22_5)) ?_
  refine OGo.st (B := s₁.setTop (mkF m 9 #[.val (.long q), .second, .val (.int (128 : Int32))] [(.int (lcmpW q (-128 : Int64)))])) (fun _ kz => XS.lcmp X0.here hx rfl (hb hby d22_8) rfl kz) ?_
  by_cases h1 : q < (-128 : Int64)
  · skip
    refine OGo.st (B := s₁.setTop (mkF m 31 #[.val (.long q), .second, .val (.int (128 : Int32))] [])) (fun _ kz => XS.ifYes X0.here hx rfl (pc0 := 9) (pc' := 31) rfl (hb hby d22_9) rfl ((if0 _ _).trans (tlt ((lw_lt _ _).mpr h1)).1) (by decide) (by decide) kz) ?_
    obtain ⟨T1, h1, X1, e1, E1, A1, D1, U1, st1⟩ := newO X0 hx hZ hown (hw _ (List.mem_of_getElem? (i := 89) rfl)) (hw _ (List.mem_of_getElem? (i := 90) rfl)) (hw _ (List.mem_of_getElem? (i := 13) rfl)) e0 (g := (mkF m 31 #[.val (.long q), .second, .val (.int (128 : Int32))] [])) rfl (hb hby d22_31) (by decide) (by decide)
    obtain ⟨ob, g1⟩ : ∃ z, z = h0.size := ⟨_, rfl⟩
    rw [← g1] at A1 D1 st1
    have g_ob : n0 ≤ ob := Nat.le_trans Z0 (Nat.le_trans (Keep.refl h0 []).1 (Nat.le_of_eq g1.symm))
    have sz_ob : h0.size ≤ ob := Nat.le_trans (Keep.refl h0 []).1 (Nat.le_of_eq g1.symm)
    have K1 : Keep h0 h1 [] := (Keep.refl h0 []).ext E1
    have O1 := O0.ext E1
    have F1_value : Fld Z h1 ob "java/lang/Long" "value" "J" (.long (0 : Int64)) := D1 (Or.inr (hw _ (List.mem_of_getElem? (i := 52) rfl))) (ty := .long) (by decide)
    refine OGo.st (B := T1.setTop (mkF m 34 #[.val (.long q), .second, .val (.int (128 : Int32))] [(.ref ob)])) st1 ?_
    refine OGo.st (B := T1.setTop (mkF m 35 #[.val (.long q), .second, .val (.int (128 : Int32))] [(.ref ob), (.ref ob)])) (fun _ kz => XS.dup X1.here hx rfl (hb hby d22_34) rfl rfl kz) ?_
    refine OGo.st (B := T1.setTop (mkF m 36 #[.val (.long q), .second, .val (.int (128 : Int32))] [(.long q), (.ref ob), (.ref ob)])) (fun _ kz => XS.lloadN X1.here hx rfl (hb hby d22_35) rfl kz) ?_
    obtain ⟨v2, T2, L2, X2, hQ2, st2⟩ := (rm21 l Z a0 hw ob q h1 n0 (Nat.le_trans Z0 K1.1) A1 g_ob F1_value).init (W := 1) X1 hx hZ rfl hown (hw _ (List.mem_of_getElem? (i := 91) rfl)) (hw _ (List.mem_of_getElem? (i := 92) rfl)) (hw _ (List.mem_of_getElem? (i := 13) rfl)) (hw _ (List.mem_of_getElem? (i := 94) rfl)) (by decide) (by decide) (by decide) e1 (by decide) (by decide) (g := (mkF m 36 #[.val (.long q), .second, .val (.int (128 : Int32))] [(.long q), (.ref ob), (.ref ob)])) rfl (by rw [hml]; rfl) (argsL := [(.long q)]) (rest := [(.ref ob)]) rfl (lenOf pd_9 rfl) rfl (by show 2 * 0 + _ ≤ _; exact Nat.le_of_eq rfl) (hb hby d22_36)
    obtain ⟨rfl, N2q, J2, Y2_0, Y2_1⟩ := hQ2
    have N2 := Fr.app N0 N2q
    have K2 : Keep h0 T2.heap [] := K1.trans J2 (allS (Or.inr sz_ob) all0)
    have O2 := O1.keep J2 (allS g_ob all0)
    refine OGo.st (B := T2.setTop (mkF m 39 #[.val (.long q), .second, .val (.int (128 : Int32))] [(.ref ob)])) st2 ?_
    exact own_retA X2 hx hret hlk rfl rfl rfl (hb hby d22_39) ⟨ob, rfl, N2, K2, Y2_0, Y2_1⟩ (by decide) (by decide)
  · skip
    refine OGo.st (B := s₁.setTop (mkF m 12 #[.val (.long q), .second, .val (.int (128 : Int32))] [])) (fun _ kz => XS.ifNo X0.here hx rfl (hb hby d22_9) rfl ((if0 _ _).trans (flt (mt (lw_lt _ _).mp h1)).1) kz) ?_
    refine OGo.st (B := s₁.setTop (mkF m 13 #[.val (.long q), .second, .val (.int (128 : Int32))] [(.long q)])) (fun _ kz => XS.lloadN X0.here hx rfl (hb hby d22_12) rfl kz) ?_
    refine OGo.st (B := s₁.setTop (mkF m 16 #[.val (.long q), .second, .val (.int (128 : Int32))] [(.long (127 : Int64)), (.long q)])) (X0.ldc2Long hx hown (mvT hZ (hw _ (List.mem_of_getElem? (i := 16) rfl))) (g := (mkF m 13 #[.val (.long q), .second, .val (.int (128 : Int32))] [(.long q)])) rfl (hb hby d22_13)) ?_
    refine OGo.st (B := s₁.setTop (mkF m 17 #[.val (.long q), .second, .val (.int (128 : Int32))] [(.int (lcmpW q (127 : Int64)))])) (fun _ kz => XS.lcmp X0.here hx rfl (hb hby d22_16) rfl kz) ?_
    by_cases h2 : (127 : Int64) < q
    · skip
      refine OGo.st (B := s₁.setTop (mkF m 31 #[.val (.long q), .second, .val (.int (128 : Int32))] [])) (fun _ kz => XS.ifYes X0.here hx rfl (pc0 := 17) (pc' := 31) rfl (hb hby d22_17) rfl ((if0 _ _).trans (tlt ((lw_gt _ _).mpr h2)).2.2.1) (by decide) (by decide) kz) ?_
      obtain ⟨T3, h3, X3, e3, E3, A3, D3, U3, st3⟩ := newO X0 hx hZ hown (hw _ (List.mem_of_getElem? (i := 89) rfl)) (hw _ (List.mem_of_getElem? (i := 90) rfl)) (hw _ (List.mem_of_getElem? (i := 13) rfl)) e0 (g := (mkF m 31 #[.val (.long q), .second, .val (.int (128 : Int32))] [])) rfl (hb hby d22_31) (by decide) (by decide)
      obtain ⟨ob, g3⟩ : ∃ z, z = h0.size := ⟨_, rfl⟩
      rw [← g3] at A3 D3 st3
      have g_ob : n0 ≤ ob := Nat.le_trans Z0 (Nat.le_trans (Keep.refl h0 []).1 (Nat.le_of_eq g3.symm))
      have sz_ob : h0.size ≤ ob := Nat.le_trans (Keep.refl h0 []).1 (Nat.le_of_eq g3.symm)
      have K3 : Keep h0 h3 [] := (Keep.refl h0 []).ext E3
      have O3 := O0.ext E3
      have F3_value : Fld Z h3 ob "java/lang/Long" "value" "J" (.long (0 : Int64)) := D3 (Or.inr (hw _ (List.mem_of_getElem? (i := 52) rfl))) (ty := .long) (by decide)
      refine OGo.st (B := T3.setTop (mkF m 34 #[.val (.long q), .second, .val (.int (128 : Int32))] [(.ref ob)])) st3 ?_
      refine OGo.st (B := T3.setTop (mkF m 35 #[.val (.long q), .second, .val (.int (128 : Int32))] [(.ref ob), (.ref ob)])) (fun _ kz => XS.dup X3.here hx rfl (hb hby d22_34) rfl rfl kz) ?_
      refine OGo.st (B := T3.setTop (mkF m 36 #[.val (.long q), .second, .val (.int (128 : Int32))] [(.long q), (.ref ob), (.ref ob)])) (fun _ kz => XS.lloadN X3.here hx rfl (hb hby d22_35) rfl kz) ?_
      obtain ⟨v4, T4, L4, X4, hQ4, st4⟩ := (rm21 l Z a0 hw ob q h3 n0 (Nat.le_trans Z0 K3.1) A3 g_ob F3_value).init (W := 1) X3 hx hZ rfl hown (hw _ (List.mem_of_getElem? (i := 91) rfl)) (hw _ (List.mem_of_getElem? (i := 92) rfl)) (hw _ (List.mem_of_getElem? (i := 13) rfl)) (hw _ (List.mem_of_getElem? (i := 94) rfl)) (by decide) (by decide) (by decide) e3 (by decide) (by decide) (g := (mkF m 36 #[.val (.long q), .second, .val (.int (128 : Int32))] [(.long q), (.ref ob), (.ref ob)])) rfl (by rw [hml]; rfl) (argsL := [(.long q)]) (rest := [(.ref ob)]) rfl (lenOf pd_9 rfl) rfl (by show 2 * 0 + _ ≤ _; exact Nat.le_of_eq rfl) (hb hby d22_36)
      obtain ⟨rfl, N4q, J4, Y4_0, Y4_1⟩ := hQ4
      have N4 := Fr.app N0 N4q
      have K4 : Keep h0 T4.heap [] := K3.trans J4 (allS (Or.inr sz_ob) all0)
      have O4 := O3.keep J4 (allS g_ob all0)
      refine OGo.st (B := T4.setTop (mkF m 39 #[.val (.long q), .second, .val (.int (128 : Int32))] [(.ref ob)])) st4 ?_
      exact own_retA X4 hx hret hlk rfl rfl rfl (hb hby d22_39) ⟨ob, rfl, N4, K4, Y4_0, Y4_1⟩ (by decide) (by decide)
    · skip
      refine OGo.st (B := s₁.setTop (mkF m 20 #[.val (.long q), .second, .val (.int (128 : Int32))] [])) (fun _ kz => XS.ifNo X0.here hx rfl (hb hby d22_17) rfl ((if0 _ _).trans (flt (mt (lw_gt _ _).mp h2)).2.2.1) kz) ?_
      obtain ⟨T5, X5, e5, st5⟩ := getS2 X0 hx hZ hown (host := "") (Or.inl (hw _ (List.mem_of_getElem? (i := 17) rfl))) Via.refl e0 (S_cache.ext O0.2) (g := (mkF m 20 #[.val (.long q), .second, .val (.int (128 : Int32))] [])) rfl (hb hby d22_20)
      refine OGo.st (B := T5.setTop (mkF m 23 #[.val (.long q), .second, .val (.int (128 : Int32))] [(.ref ca)])) st5 ?_
      refine OGo.st (B := T5.setTop (mkF m 24 #[.val (.long q), .second, .val (.int (128 : Int32))] [(.long q), (.ref ca)])) (fun _ kz => XS.lloadN X5.here hx rfl (hb hby d22_23) rfl kz) ?_
      refine OGo.st (B := T5.setTop (mkF m 25 #[.val (.long q), .second, .val (.int (128 : Int32))] [(.int (q.toInt32)), (.ref ca)])) (fun _ kz => XS.l2i X5.here hx rfl (hb hby d22_24) rfl kz) ?_
      refine OGo.st (B := T5.setTop (mkF m 28 #[.val (.long q), .second, .val (.int (128 : Int32))] [(.int (128 : Int32)), (.int (q.toInt32)), (.ref ca)])) (fun _ kz => XS.sipush X5.here hx rfl (hb hby d22_25) kz) ?_
      refine OGo.st (B := T5.setTop (mkF m 29 #[.val (.long q), .second, .val (.int (128 : Int32))] [(.int ((q.toInt32) + (128 : Int32))), (.ref ca)])) (fun _ kz => XS.iadd X5.here hx rfl (hb hby d22_28) rfl kz) ?_
      obtain ⟨ix, iq⟩ := own_idxL q h1 h2 BX.2.1
      obtain ⟨bx, hbx, bE, bF⟩ := BX.2.2.2 _ ix
      dsimp only at bF
      rw [iq] at bF
      have AC := BX.1.ext O0.2
      refine OGo.st (B := T5.setTop (mkF m 30 #[.val (.long q), .second, .val (.int (128 : Int32))] [(.ref bx)])) (X5.aaload hx (j := ((q.toInt32) + (128 : Int32))) (v := .ref bx) (by rw [e5]; exact AC.1) (State.isArrayOf_alike hZ.alike AC.2.1) rfl AC.2.2 ix hbx (g := (mkF m 29 #[.val (.long q), .second, .val (.int (128 : Int32))] [(.int ((q.toInt32) + (128 : Int32))), (.ref ca)])) rfl rfl (hb hby d22_29)) ?_
      exact own_retA X5 hx hret hlk rfl rfl rfl (hb hby d22_30) ⟨bx, rfl, N0, by rw [e5]; exact ⟨(Keep.refl h0 []), bE.ext O0.2, bF.ext O0.2⟩⟩ (by decide) (by decide)
theorem d23_0 : decode jdk_35_method_31_code 0 = .ok (.aload_n 0, 1) := by decide +kernel
theorem d23_1 : decode jdk_35_method_31_code 1 = .ok (.getfield 273, 3) := by decide +kernel
theorem d23_4 : decode jdk_35_method_31_code 4 = .ok (.lreturn, 1) := by decide +kernel
theorem ef_rm23 (m : MethodId) (x0 : Addr) : entryFrame m #[(.ref x0)] 1 = mkF m 0 #[.val (.ref x0)] [] := by first | (simp [entryFrame, mkF, argsToLocals, Value.category]; done) | rfl
set_option maxRecDepth 65536 in
set_option maxHeartbeats 40000000 in
theorem rm23 (l : Launch) (Z : State) (a0 : Array Value) (hw : ∀ d ∈ tables_1, d.before a0 Z = true) (a : Addr) (q : Int64) (h0 : Heap) (n0 : Nat) (F : Fld Z h0 a "java/lang/Long" "value" "J" (.long q)) :
    OMet l Z (⟨"java/lang/Long", "longValue", "()J"⟩ : MethodName) jdk_35_method_31_code 1 (some .long) [] ({ frames := 0, cells := 0, slots := 0, locals := 0 } : Room) #[(.ref a)] h0 (OPure (some (.long q)) h0 n0) := by
  refine OMet.of (plainFor_of_name pn_java_lang_Long) ?_
  intro p e s m below meth c s₁ hx hby hml hnd hown hnm hret hlk hZ X0 e0
  replace hown : s.vm.findClass "java/lang/Long" = some m.cls := hown
  replace hml : c.maxLocals = 1 := hml
  have N0 := Fr.nil n0
  rw [ef_rm23 m a]
  refine OGo.st (B := s₁.setTop (mkF m 1 #[.val (.ref a)] [(.ref a)])) (fun _ kz => XS.aloadN X0.here hx rfl (hb hby d23_0) rfl rfl kz) ?_
  obtain ⟨T1, X1, e1, st1⟩ := getF X0 hx hZ hown (host := "") (Or.inl (hw _ (List.mem_of_getElem? (i := 51) rfl))) Via.refl e0 F (g := (mkF m 1 #[.val (.ref a)] [(.ref a)])) rfl rfl (hb hby d23_1)
  refine OGo.st (B := T1.setTop (mkF m 4 #[.val (.ref a)] [(.long q)])) st1 ?_
  exact own_retJ X1 hx hret hlk (hb hby d23_4) ⟨rfl, N0, e1⟩ (by decide) (by decide)
theorem d30_0 : decode jdk_22_method_1_code 0 = .ok (.aload_n 0, 1) := by decide +kernel
theorem d30_1 : decode jdk_22_method_1_code 1 = .ok (.invokespecial 1, 3) := by decide +kernel
theorem d30_4 : decode jdk_22_method_1_code 4 = .ok (.return_, 1) := by decide +kernel
theorem pn_java_util_AbstractCollection : plainName "java/util/AbstractCollection" = true := by first | (simp [plainName, overriddenIn]; done) | decide +kernel
theorem ef_rm30 (m : MethodId) (x0 : Addr) : entryFrame m #[(.ref x0)] 1 = mkF m 0 #[.val (.ref x0)] [] := by first | (simp [entryFrame, mkF, argsToLocals, Value.category]; done) | rfl
set_option maxRecDepth 65536 in
set_option maxHeartbeats 40000000 in
theorem rm30 (l : Launch) (Z : State) (a0 : Array Value) (hw : ∀ d ∈ tables_1, d.before a0 Z = true) (a : Addr) (h0 : Heap) (n0 : Nat) :
    OMet l Z (⟨"java/util/AbstractCollection", "<init>", "()V"⟩ : MethodName) jdk_22_method_1_code 1 none [] ({ frames := 1, cells := 0, slots := 0, locals := 12 } : Room) #[(.ref a)] h0 (OPure none h0 n0) := by
  refine OMet.of (plainFor_of_name pn_java_util_AbstractCollection) ?_
  intro p e s m below meth c s₁ hx hby hml hnd hown hnm hret hlk hZ X0 e0
  replace hown : s.vm.findClass "java/util/AbstractCollection" = some m.cls := hown
  replace hml : c.maxLocals = 1 := hml
  have N0 := Fr.nil n0
  rw [ef_rm30 m a]
  refine OGo.st (B := s₁.setTop (mkF m 1 #[.val (.ref a)] [(.ref a)])) (fun _ kz => XS.aloadN X0.here hx rfl (hb hby d30_0) rfl rfl kz) ?_
  obtain ⟨T1, X1, e1, st1⟩ := initO X0 hx hZ hown (hw _ (List.mem_of_getElem? (i := 40) rfl)) (hw _ (List.mem_of_getElem? (i := 9) rfl)) (hw _ (List.mem_of_getElem? (i := 10) rfl)) e0 (g := (mkF m 1 #[.val (.ref a)] [(.ref a)])) rfl (by rw [hml]; rfl) rfl (hb hby d30_1) (by decide) (W := 0) (by show 2 * 0 + _ ≤ _; exact Nat.le_of_eq rfl) (by decide)
  refine OGo.st (B := T1.setTop (mkF m 4 #[.val (.ref a)] [])) st1 ?_
  exact own_ret0 X1 hx hret hlk (hb hby d30_4) ⟨rfl, N0, e1⟩ (by decide) (by decide)
theorem d31_0 : decode jdk_39_method_1_code 0 = .ok (.aload_n 0, 1) := by decide +kernel
theorem d31_1 : decode jdk_39_method_1_code 1 = .ok (.invokespecial 1, 3) := by decide +kernel
theorem d31_4 : decode jdk_39_method_1_code 4 = .ok (.aload_n 0, 1) := by decide +kernel
theorem d31_5 : decode jdk_39_method_1_code 5 = .ok (.iconst 0, 1) := by decide +kernel
theorem d31_6 : decode jdk_39_method_1_code 6 = .ok (.putfield 7, 3) := by decide +kernel
theorem d31_9 : decode jdk_39_method_1_code 9 = .ok (.return_, 1) := by decide +kernel
theorem pn_java_util_AbstractList : plainName "java/util/AbstractList" = true := by first | (simp [plainName, overriddenIn]; done) | decide +kernel
theorem ef_rm31 (m : MethodId) (x0 : Addr) : entryFrame m #[(.ref x0)] 1 = mkF m 0 #[.val (.ref x0)] [] := by first | (simp [entryFrame, mkF, argsToLocals, Value.category]; done) | rfl
set_option maxRecDepth 65536 in
set_option maxHeartbeats 40000000 in
theorem rm31 (l : Launch) (Z : State) (a0 : Array Value) (hw : ∀ d ∈ tables_1, d.before a0 Z = true) (a : Addr) (h0 : Heap) (n0 : Nat) (Z0 : n0 ≤ h0.size) (E_a : Exa Z h0 a "java/util/ArrayList") (g_a : n0 ≤ a) (G : Fld Z h0 a "java/util/AbstractList" "modCount" "I" (.int (0 : Int32))) :
    OMet l Z (⟨"java/util/AbstractList", "<init>", "()V"⟩ : MethodName) jdk_39_method_1_code 1 none [] ({ frames := 2, cells := 0, slots := 0, locals := 24 } : Room) #[(.ref a)] h0 (fun v h L => v = none ∧ Fr n0 L ∧ ∃ u, Wr h0 h a (RoadKit.slotOf Z "java/util/AbstractList" "modCount" "I") u) := by
  refine OMet.of (plainFor_of_name pn_java_util_AbstractList) ?_
  intro p e s m below meth c s₁ hx hby hml hnd hown hnm hret hlk hZ X0 e0
  replace hown : s.vm.findClass "java/util/AbstractList" = some m.cls := hown
  replace hml : c.maxLocals = 1 := hml
  have N0 := Fr.nil n0
  rw [ef_rm31 m a]
  refine OGo.st (B := s₁.setTop (mkF m 1 #[.val (.ref a)] [(.ref a)])) (fun _ kz => XS.aloadN X0.here hx rfl (hb hby d31_0) rfl rfl kz) ?_
  obtain ⟨v1, T1, L1, X1, hQ1, st1⟩ := (rm30 l Z a0 hw a h0 n0).init (W := 0) X0 hx hZ rfl hown (hw _ (List.mem_of_getElem? (i := 34) rfl)) (hw _ (List.mem_of_getElem? (i := 35) rfl)) (hw _ (List.mem_of_getElem? (i := 38) rfl)) (hw _ (List.mem_of_getElem? (i := 39) rfl)) (by decide) (by decide) (by decide) e0 (by decide) (by decide) (g := (mkF m 1 #[.val (.ref a)] [(.ref a)])) rfl (by rw [hml]; rfl) (argsL := []) (rest := []) rfl (lenOf pd_1 rfl) rfl (by show 2 * 0 + _ ≤ _; exact Nat.le_of_eq rfl) (hb hby d31_1)
  obtain ⟨rfl, N1q, e1⟩ := hQ1
  have N1 := Fr.app N0 N1q
  refine OGo.st (B := T1.setTop (mkF m 4 #[.val (.ref a)] [])) st1 ?_
  refine OGo.st (B := T1.setTop (mkF m 5 #[.val (.ref a)] [(.ref a)])) (fun _ kz => XS.aloadN X1.here hx rfl (hb hby d31_4) rfl rfl kz) ?_
  refine OGo.st (B := T1.setTop (mkF m 6 #[.val (.ref a)] [(.int (0 : Int32)), (.ref a)])) (fun _ kz => XS.iconst X1.here hx rfl (hb hby d31_5) kz) ?_
  obtain ⟨T2, h2, X2, e2, W2, st2⟩ := putF X1 hx hZ hown (host := "") (Or.inl (hw _ (List.mem_of_getElem? (i := 41) rfl))) Via.refl e1 G E_a (Or.inl (hw _ (List.mem_of_getElem? (i := 42) rfl))) (hw _ (List.mem_of_getElem? (i := 23) rfl)) (ty := .int) (by decide) rfl rfl (g := (mkF m 6 #[.val (.ref a)] [(.int (0 : Int32)), (.ref a)])) rfl rfl (hb hby d31_6)
  have F2_modCount := G.same W2
  have N2 := Fr.snoc X2 N1 g_a
  have K2 : Keep h0 h2 [a] := (Keep.refl h0 [a]).wr W2 (Or.inl (List.mem_of_getElem? (i := 0) rfl))
  refine OGo.st (B := T2.setTop (mkF m 9 #[.val (.ref a)] [])) st2 ?_
  exact own_ret0 X2 hx hret hlk (hb hby d31_9) (by rw [e2]; exact ⟨rfl, N2, _, W2⟩) (by decide) (by decide)
theorem d32_0 : decode jdk_38_method_2_code 0 = .ok (.aload_n 0, 1) := by decide +kernel
theorem d32_1 : decode jdk_38_method_2_code 1 = .ok (.invokespecial 1, 3) := by decide +kernel
theorem d32_4 : decode jdk_38_method_2_code 4 = .ok (.aload_n 0, 1) := by decide +kernel
theorem d32_5 : decode jdk_38_method_2_code 5 = .ok (.getstatic 39, 3) := by decide +kernel
theorem d32_8 : decode jdk_38_method_2_code 8 = .ok (.putfield 9, 3) := by decide +kernel
theorem d32_11 : decode jdk_38_method_2_code 11 = .ok (.return_, 1) := by decide +kernel
theorem pn_java_util_ArrayList : plainName "java/util/ArrayList" = true := by first | (simp [plainName, overriddenIn]; done) | decide +kernel
theorem ef_rm32 (m : MethodId) (x0 : Addr) : entryFrame m #[(.ref x0)] 1 = mkF m 0 #[.val (.ref x0)] [] := by first | (simp [entryFrame, mkF, argsToLocals, Value.category]; done) | rfl
set_option maxRecDepth 65536 in
set_option maxHeartbeats 40000000 in
theorem rm32 (l : Launch) (Z : State) (a0 : Array Value) (hw : ∀ d ∈ tables_1, d.before a0 Z = true) (a : Addr) (h0 : Heap) (n0 : Nat) (Z0 : n0 ≤ h0.size) (E_a : Exa Z h0 a "java/util/ArrayList") (g_a : n0 ≤ a) (O0 : Old Z n0 h0) (de : Addr) (S_dflt : Sta Z Z.heap "java/util/ArrayList" "DEFAULTCAPACITY_EMPTY_ELEMENTDATA" "[Ljava/lang/Object;" (.ref de)) (G : Fld Z h0 a "java/util/AbstractList" "modCount" "I" (.int (0 : Int32))) (G_e : Fld Z h0 a "java/util/ArrayList" "elementData" "[Ljava/lang/Object;" .null) (G_s : Fld Z h0 a "java/util/ArrayList" "size" "I" (.int (0 : Int32))) :
    OMet l Z (⟨"java/util/ArrayList", "<init>", "()V"⟩ : MethodName) jdk_38_method_2_code 1 none [] ({ frames := 3, cells := 0, slots := 0, locals := 36 } : Room) #[(.ref a)] h0 (fun v h L => v = none ∧ Fr n0 L ∧ Keep h0 h [a] ∧ Exa Z h a "java/util/ArrayList" ∧ Fld Z h a "java/util/ArrayList" "size" "I" (.int (0 : Int32))) := by
  refine OMet.of (plainFor_of_name pn_java_util_ArrayList) ?_
  intro p e s m below meth c s₁ hx hby hml hnd hown hnm hret hlk hZ X0 e0
  replace hown : s.vm.findClass "java/util/ArrayList" = some m.cls := hown
  replace hml : c.maxLocals = 1 := hml
  have N0 := Fr.nil n0
  rw [ef_rm32 m a]
  refine OGo.st (B := s₁.setTop (mkF m 1 #[.val (.ref a)] [(.ref a)])) (fun _ kz => XS.aloadN X0.here hx rfl (hb hby d32_0) rfl rfl kz) ?_
  obtain ⟨v1, T1, L1, X1, hQ1, st1⟩ := (rm31 l Z a0 hw a h0 n0 Z0 E_a g_a G).init (W := 0) X0 hx hZ rfl hown (hw _ (List.mem_of_getElem? (i := 28) rfl)) (hw _ (List.mem_of_getElem? (i := 29) rfl)) (hw _ (List.mem_of_getElem? (i := 32) rfl)) (hw _ (List.mem_of_getElem? (i := 33) rfl)) (by decide) (by decide) (by decide) e0 (by decide) (by decide) (g := (mkF m 1 #[.val (.ref a)] [(.ref a)])) rfl (by rw [hml]; rfl) (argsL := []) (rest := []) rfl (lenOf pd_1 rfl) rfl (by show 2 * 0 + _ ≤ _; exact Nat.le_of_eq rfl) (hb hby d32_1)
  obtain ⟨rfl, N1q, u1, W1⟩ := hQ1
  have N1 := Fr.app N0 N1q
  have K1 : Keep h0 T1.heap [a] := (Keep.refl h0 [a]).wr W1 (Or.inl (List.mem_of_getElem? (i := 0) rfl))
  have O1 := O0.wr W1 g_a
  refine OGo.st (B := T1.setTop (mkF m 4 #[.val (.ref a)] [])) st1 ?_
  refine OGo.st (B := T1.setTop (mkF m 5 #[.val (.ref a)] [(.ref a)])) (fun _ kz => XS.aloadN X1.here hx rfl (hb hby d32_4) rfl rfl kz) ?_
  obtain ⟨T2, X2, e2, st2⟩ := getS2 X1 hx hZ hown (host := "") (Or.inl (hw _ (List.mem_of_getElem? (i := 43) rfl))) Via.refl rfl (S_dflt.ext O1.2) (g := (mkF m 5 #[.val (.ref a)] [(.ref a)])) rfl (hb hby d32_5)
  refine OGo.st (B := T2.setTop (mkF m 8 #[.val (.ref a)] [(.ref de), (.ref a)])) st2 ?_
  obtain ⟨T3, h3, X3, e3, W3, st3⟩ := putF X2 hx hZ hown (host := "") (Or.inl (hw _ (List.mem_of_getElem? (i := 44) rfl))) Via.refl e2 (G_e.other W1 (Or.inr (slot_ne (Or.inl (hw _ (List.mem_of_getElem? (i := 45) rfl))) (Or.inl (hw _ (List.mem_of_getElem? (i := 42) rfl))) (by decide) (t := (.array (.object "java/lang/Object"))) (t' := .int) (by decide) (by decide)))) (E_a.wr W1) (Or.inl (hw _ (List.mem_of_getElem? (i := 45) rfl))) (hw _ (List.mem_of_getElem? (i := 23) rfl)) (ty := (.array (.object "java/lang/Object"))) (by decide) rfl rfl (g := (mkF m 8 #[.val (.ref a)] [(.ref de), (.ref a)])) rfl rfl (hb hby d32_8)
  have F3_elementData := (G_e.other W1 (Or.inr (slot_ne (Or.inl (hw _ (List.mem_of_getElem? (i := 45) rfl))) (Or.inl (hw _ (List.mem_of_getElem? (i := 42) rfl))) (by decide) (t := (.array (.object "java/lang/Object"))) (t' := .int) (by decide) (by decide)))).same W3
  have N3 := Fr.snoc X3 N1 g_a
  have K3 : Keep h0 h3 [a] := K1.wr W3 (Or.inl (List.mem_of_getElem? (i := 0) rfl))
  have O3 := O1.wr W3 g_a
  refine OGo.st (B := T3.setTop (mkF m 11 #[.val (.ref a)] [])) st3 ?_
  exact own_ret0 X3 hx hret hlk (hb hby d32_11) (by rw [e3]; exact ⟨rfl, N3, K3, ((E_a.wr W1).wr W3), ((G_s.other W1 (Or.inr (slot_ne (Or.inl (hw _ (List.mem_of_getElem? (i := 68) rfl))) (Or.inl (hw _ (List.mem_of_getElem? (i := 42) rfl))) (by decide) (t := .int) (t' := .int) (by decide) (by decide)))).other W3 (Or.inr (slot_ne (Or.inl (hw _ (List.mem_of_getElem? (i := 68) rfl))) (Or.inl (hw _ (List.mem_of_getElem? (i := 45) rfl))) (by decide) (t := .int) (t' := (.array (.object "java/lang/Object"))) (by decide) (by decide))))⟩) (by decide) (by decide)
theorem d33_0 : decode jdk_38_method_9_code 0 = .ok (.aload_n 0, 1) := by decide +kernel
theorem d33_1 : decode jdk_38_method_9_code 1 = .ok (.getfield 48, 3) := by decide +kernel
theorem d33_4 : decode jdk_38_method_9_code 4 = .ok (.ifCond .ne 7, 3) := by decide +kernel
theorem d33_7 : decode jdk_38_method_9_code 7 = .ok (.iconst 1, 1) := by decide +kernel
theorem d33_8 : decode jdk_38_method_9_code 8 = .ok (.goto 4, 3) := by decide +kernel
theorem d33_12 : decode jdk_38_method_9_code 12 = .ok (.ireturn, 1) := by decide +kernel
theorem ef_rm33 (m : MethodId) (x0 : Addr) : entryFrame m #[(.ref x0)] 1 = mkF m 0 #[.val (.ref x0)] [] := by first | (simp [entryFrame, mkF, argsToLocals, Value.category]; done) | rfl
set_option maxRecDepth 65536 in
set_option maxHeartbeats 40000000 in
theorem rm33 (l : Launch) (Z : State) (a0 : Array Value) (hw : ∀ d ∈ tables_1, d.before a0 Z = true) (a : Addr) (h0 : Heap) (n0 : Nat) (F : Fld Z h0 a "java/util/ArrayList" "size" "I" (.int (0 : Int32))) :
    OMet l Z (⟨"java/util/ArrayList", "isEmpty", "()Z"⟩ : MethodName) jdk_38_method_9_code 1 (some .boolean) [] ({ frames := 0, cells := 0, slots := 0, locals := 0 } : Room) #[(.ref a)] h0 (OPure (some (.int (1 : Int32))) h0 n0) := by
  refine OMet.of (plainFor_of_name pn_java_util_ArrayList) ?_
  intro p e s m below meth c s₁ hx hby hml hnd hown hnm hret hlk hZ X0 e0
  replace hown : s.vm.findClass "java/util/ArrayList" = some m.cls := hown
  replace hml : c.maxLocals = 1 := hml
  have N0 := Fr.nil n0
  rw [ef_rm33 m a]
  refine OGo.st (B := s₁.setTop (mkF m 1 #[.val (.ref a)] [(.ref a)])) (fun _ kz => XS.aloadN X0.here hx rfl (hb hby d33_0) rfl rfl kz) ?_
  obtain ⟨T1, X1, e1, st1⟩ := getF X0 hx hZ hown (host := "") (Or.inl (hw _ (List.mem_of_getElem? (i := 67) rfl))) Via.refl e0 F (g := (mkF m 1 #[.val (.ref a)] [(.ref a)])) rfl rfl (hb hby d33_1)
  refine OGo.st (B := T1.setTop (mkF m 4 #[.val (.ref a)] [(.int (0 : Int32))])) st1 ?_
  refine OGo.st (B := T1.setTop (mkF m 7 #[.val (.ref a)] [])) (fun _ kz => XS.ifNo X1.here hx rfl (hb hby d33_4) rfl (by decide) kz) ?_
  refine OGo.st (B := T1.setTop (mkF m 8 #[.val (.ref a)] [(.int (1 : Int32))])) (fun _ kz => XS.iconst X1.here hx rfl (hb hby d33_7) kz) ?_
  refine OGo.st (B := T1.setTop (mkF m 12 #[.val (.ref a)] [(.int (1 : Int32))])) (fun _ kz => XS.goto X1.here hx rfl (pc0 := 8) (pc' := 12) rfl (hb hby d33_8) (by decide) (by decide) kz) ?_
  exact own_retZ X1 hx hret hlk (hb hby d33_12) ⟨rfl, N0, e1⟩ (by decide) (by decide)
theorem pd_4 : parseMethodDescriptor "()J" = some ⟨[], some .long⟩ := by decide +kernel
theorem d41_0 : decode prog_18_method_2_code 0 = .ok (.new 35, 3) := by decide +kernel
theorem d41_3 : decode prog_18_method_2_code 3 = .ok (.dup, 1) := by decide +kernel
theorem d41_4 : decode prog_18_method_2_code 4 = .ok (.invokespecial 37, 3) := by decide +kernel
theorem d41_7 : decode prog_18_method_2_code 7 = .ok (.astore_n 3, 1) := by decide +kernel
theorem d41_8 : decode prog_18_method_2_code 8 = .ok (.aload_n 0, 1) := by decide +kernel
theorem d41_9 : decode prog_18_method_2_code 9 = .ok (.ifnull 28, 3) := by decide +kernel
theorem d41_12 : decode prog_18_method_2_code 12 = .ok (.aload_n 0, 1) := by decide +kernel
theorem d41_13 : decode prog_18_method_2_code 13 = .ok (.invokevirtual 38, 3) := by decide +kernel
theorem d41_16 : decode prog_18_method_2_code 16 = .ok (.lconst 1, 1) := by decide +kernel
theorem d41_17 : decode prog_18_method_2_code 17 = .ok (.lcmp, 1) := by decide +kernel
theorem d41_18 : decode prog_18_method_2_code 18 = .ok (.ifCond .ge 19, 3) := by decide +kernel
theorem d41_37 : decode prog_18_method_2_code 37 = .ok (.aload_n 1, 1) := by decide +kernel
theorem d41_38 : decode prog_18_method_2_code 38 = .ok (.ifnull 28, 3) := by decide +kernel
theorem d41_41 : decode prog_18_method_2_code 41 = .ok (.aload_n 1, 1) := by decide +kernel
theorem d41_42 : decode prog_18_method_2_code 42 = .ok (.invokevirtual 38, 3) := by decide +kernel
theorem d41_45 : decode prog_18_method_2_code 45 = .ok (.lconst 1, 1) := by decide +kernel
theorem d41_46 : decode prog_18_method_2_code 46 = .ok (.lcmp, 1) := by decide +kernel
theorem d41_47 : decode prog_18_method_2_code 47 = .ok (.ifCond .ge 19, 3) := by decide +kernel
theorem d41_66 : decode prog_18_method_2_code 66 = .ok (.aload_n 2, 1) := by decide +kernel
theorem d41_67 : decode prog_18_method_2_code 67 = .ok (.ifnull 31, 3) := by decide +kernel
theorem d41_70 : decode prog_18_method_2_code 70 = .ok (.aload_n 2, 1) := by decide +kernel
theorem d41_71 : decode prog_18_method_2_code 71 = .ok (.invokevirtual 38, 3) := by decide +kernel
theorem d41_74 : decode prog_18_method_2_code 74 = .ok (.lconst 1, 1) := by decide +kernel
theorem d41_75 : decode prog_18_method_2_code 75 = .ok (.lcmp, 1) := by decide +kernel
theorem d41_76 : decode prog_18_method_2_code 76 = .ok (.ifCond .ge 22, 3) := by decide +kernel
theorem d41_98 : decode prog_18_method_2_code 98 = .ok (.aload_n 2, 1) := by decide +kernel
theorem d41_99 : decode prog_18_method_2_code 99 = .ok (.ifnull 48, 3) := by decide +kernel
theorem d41_102 : decode prog_18_method_2_code 102 = .ok (.aload_n 1, 1) := by decide +kernel
theorem d41_103 : decode prog_18_method_2_code 103 = .ok (.ifnull 44, 3) := by decide +kernel
theorem d41_106 : decode prog_18_method_2_code 106 = .ok (.aload_n 1, 1) := by decide +kernel
theorem d41_107 : decode prog_18_method_2_code 107 = .ok (.invokevirtual 38, 3) := by decide +kernel
theorem d41_110 : decode prog_18_method_2_code 110 = .ok (.lconst 1, 1) := by decide +kernel
theorem d41_111 : decode prog_18_method_2_code 111 = .ok (.lcmp, 1) := by decide +kernel
theorem d41_112 : decode prog_18_method_2_code 112 = .ok (.ifCond .lt 35, 3) := by decide +kernel
theorem d41_115 : decode prog_18_method_2_code 115 = .ok (.aload_n 2, 1) := by decide +kernel
theorem d41_116 : decode prog_18_method_2_code 116 = .ok (.invokevirtual 38, 3) := by decide +kernel
theorem d41_119 : decode prog_18_method_2_code 119 = .ok (.ldc2_w 59, 3) := by decide +kernel
theorem d41_122 : decode prog_18_method_2_code 122 = .ok (.aload_n 1, 1) := by decide +kernel
theorem d41_123 : decode prog_18_method_2_code 123 = .ok (.invokevirtual 38, 3) := by decide +kernel
theorem d41_126 : decode prog_18_method_2_code 126 = .ok (.ldiv, 1) := by decide +kernel
theorem d41_127 : decode prog_18_method_2_code 127 = .ok (.lcmp, 1) := by decide +kernel
theorem d41_128 : decode prog_18_method_2_code 128 = .ok (.ifCond .le 19, 3) := by decide +kernel
theorem d41_147 : decode prog_18_method_2_code 147 = .ok (.aload_n 3, 1) := by decide +kernel
theorem d41_148 : decode prog_18_method_2_code 148 = .ok (.areturn, 1) := by decide +kernel
theorem pn_com_example_narrow_gate_narrowgate_Limit : plainName "com/example/narrow_gate/narrowgate/Limit" = true := by first | (simp [plainName, overriddenIn]; done) | decide +kernel
theorem ef_rm41 (m : MethodId) (x0 : Addr) (x1 : Addr) (x2 : Addr) : entryFrame m #[(.ref x0), (.ref x1), (.ref x2)] 4 = mkF m 0 #[.val (.ref x0), .val (.ref x1), .val (.ref x2), .unset] [] := by first | (simp [entryFrame, mkF, argsToLocals, Value.category]; done) | rfl
set_option maxRecDepth 65536 in
set_option maxHeartbeats 40000000 in
theorem rm41 (l : Launch) (Z : State) (a0 : Array Value) (hw : ∀ d ∈ tables_1, d.before a0 Z = true) (x1 x2 x3 : Addr) (q1 q2 q3 : Int64) (h0 : Heap) (n0 : Nat) (Z0 : n0 ≤ h0.size) (O0 : Old Z n0 h0) (de : Addr) (S_dflt : Sta Z Z.heap "java/util/ArrayList" "DEFAULTCAPACITY_EMPTY_ELEMENTDATA" "[Ljava/lang/Object;" (.ref de)) (E_x1 : Exa Z h0 x1 "java/lang/Long") (E_x2 : Exa Z h0 x2 "java/lang/Long") (E_x3 : Exa Z h0 x3 "java/lang/Long") (G_x1 : Fld Z h0 x1 "java/lang/Long" "value" "J" (.long q1)) (G_x2 : Fld Z h0 x2 "java/lang/Long" "value" "J" (.long q2)) (G_x3 : Fld Z h0 x3 "java/lang/Long" "value" "J" (.long q3)) (p1 : ¬ q1 < (1 : Int64)) (p2 : ¬ q2 < (1 : Int64)) (p3 : ¬ q3 < (1 : Int64)) (p4 : ¬ (9007199254740992 : Int64) / q2 < q3) :
    OMet l Z (⟨"com/example/narrow_gate/narrowgate/Limit", "problems", "(Ljava/lang/Long;Ljava/lang/Long;Ljava/lang/Long;)Ljava/util/List;"⟩ : MethodName) prog_18_method_2_code 4 (some (.object "java/util/List")) [] ({ frames := 4, cells := 1, slots := 3, locals := 49 } : Room) #[(.ref x1), (.ref x2), (.ref x3)] h0 (fun v h L => ∃ b, v = some (.ref b) ∧ Fr n0 L ∧ Keep h0 h [] ∧ Exa Z h b "java/util/ArrayList" ∧ Fld Z h b "java/util/ArrayList" "size" "I" (.int (0 : Int32))) := by
  refine OMet.of (plainFor_of_name pn_com_example_narrow_gate_narrowgate_Limit) ?_
  intro p e s m below meth c s₁ hx hby hml hnd hown hnm hret hlk hZ X0 e0
  replace hown : s.vm.findClass "com/example/narrow_gate/narrowgate/Limit" = some m.cls := hown
  replace hml : c.maxLocals = 4 := hml
  have N0 := Fr.nil n0
  rw [ef_rm41 m x1 x2 x3]
  obtain ⟨T1, h1, X1, e1, E1, A1, D1, U1, st1⟩ := newO X0 hx hZ hown (hw _ (List.mem_of_getElem? (i := 22) rfl)) (hw _ (List.mem_of_getElem? (i := 23) rfl)) (hw _ (List.mem_of_getElem? (i := 24) rfl)) e0 (g := (mkF m 0 #[.val (.ref x1), .val (.ref x2), .val (.ref x3), .unset] [])) rfl (hb hby d41_0) (by decide) (by decide)
  obtain ⟨ob, g1⟩ : ∃ z, z = h0.size := ⟨_, rfl⟩
  rw [← g1] at A1 D1 st1
  have ne_x1_ob : x1 ≠ ob := Nat.ne_of_lt (Nat.lt_of_lt_of_le E_x1.lt (Nat.le_of_eq g1.symm))
  have ne_x2_ob : x2 ≠ ob := Nat.ne_of_lt (Nat.lt_of_lt_of_le E_x2.lt (Nat.le_of_eq g1.symm))
  have ne_x3_ob : x3 ≠ ob := Nat.ne_of_lt (Nat.lt_of_lt_of_le E_x3.lt (Nat.le_of_eq g1.symm))
  have g_ob : n0 ≤ ob := Nat.le_trans Z0 (Nat.le_trans (Keep.refl h0 []).1 (Nat.le_of_eq g1.symm))
  have sz_ob : h0.size ≤ ob := Nat.le_trans (Keep.refl h0 []).1 (Nat.le_of_eq g1.symm)
  have K1 : Keep h0 h1 [] := (Keep.refl h0 []).ext E1
  have O1 := O0.ext E1
  have F1_modCount : Fld Z h1 ob "java/util/AbstractList" "modCount" "I" (.int (0 : Int32)) := D1 (Or.inl (hw _ (List.mem_of_getElem? (i := 42) rfl))) (ty := .int) (by decide)
  have F1_elementData : Fld Z h1 ob "java/util/ArrayList" "elementData" "[Ljava/lang/Object;" .null := D1 (Or.inl (hw _ (List.mem_of_getElem? (i := 45) rfl))) (ty := (.array (.object "java/lang/Object"))) (by decide)
  have F1_size : Fld Z h1 ob "java/util/ArrayList" "size" "I" (.int (0 : Int32)) := D1 (Or.inl (hw _ (List.mem_of_getElem? (i := 68) rfl))) (ty := .int) (by decide)
  refine OGo.st (B := T1.setTop (mkF m 3 #[.val (.ref x1), .val (.ref x2), .val (.ref x3), .unset] [(.ref ob)])) st1 ?_
  refine OGo.st (B := T1.setTop (mkF m 4 #[.val (.ref x1), .val (.ref x2), .val (.ref x3), .unset] [(.ref ob), (.ref ob)])) (fun _ kz => XS.dup X1.here hx rfl (hb hby d41_3) rfl rfl kz) ?_
  obtain ⟨v2, T2, L2, X2, hQ2, st2⟩ := (rm32 l Z a0 hw ob h1 n0 (Nat.le_trans Z0 K1.1) A1 g_ob O1 de S_dflt F1_modCount F1_elementData F1_size).init (W := 1) X1 hx hZ rfl hown (hw _ (List.mem_of_getElem? (i := 25) rfl)) (hw _ (List.mem_of_getElem? (i := 26) rfl)) (hw _ (List.mem_of_getElem? (i := 24) rfl)) (hw _ (List.mem_of_getElem? (i := 27) rfl)) (by decide) (by decide) (by decide) e1 (by decide) (by decide) (g := (mkF m 4 #[.val (.ref x1), .val (.ref x2), .val (.ref x3), .unset] [(.ref ob), (.ref ob)])) rfl (by rw [hml]; rfl) (argsL := []) (rest := [(.ref ob)]) rfl (lenOf pd_1 rfl) rfl (by show 2 * 0 + _ ≤ _; exact Nat.le_of_eq rfl) (hb hby d41_4)
  obtain ⟨rfl, N2q, J2, Y2_0, Y2_1⟩ := hQ2
  have N2 := Fr.app N0 N2q
  have K2 : Keep h0 T2.heap [] := K1.trans J2 (allS (Or.inr sz_ob) all0)
  have O2 := O1.keep J2 (allS g_ob all0)
  refine OGo.st (B := T2.setTop (mkF m 7 #[.val (.ref x1), .val (.ref x2), .val (.ref x3), .unset] [(.ref ob)])) st2 ?_
  refine OGo.st (B := T2.setTop (mkF m 8 #[.val (.ref x1), .val (.ref x2), .val (.ref x3), .val (.ref ob)] [])) (fun _ kz => XS.astoreN X2.here hx rfl (hb hby d41_7) rfl rfl (l' := #[.val (.ref x1), .val (.ref x2), .val (.ref x3), .val (.ref ob)]) rfl kz) ?_
  refine OGo.st (B := T2.setTop (mkF m 9 #[.val (.ref x1), .val (.ref x2), .val (.ref x3), .val (.ref ob)] [(.ref x1)])) (fun _ kz => XS.aloadN X2.here hx rfl (hb hby d41_8) rfl rfl kz) ?_
  refine OGo.st (B := T2.setTop (mkF m 12 #[.val (.ref x1), .val (.ref x2), .val (.ref x3), .val (.ref ob)] [])) (fun _ kz => XS.ifnullNo X2.here hx rfl (hb hby d41_9) rfl kz) ?_
  refine OGo.st (B := T2.setTop (mkF m 13 #[.val (.ref x1), .val (.ref x2), .val (.ref x3), .val (.ref ob)] [(.ref x1)])) (fun _ kz => XS.aloadN X2.here hx rfl (hb hby d41_12) rfl rfl kz) ?_
  obtain ⟨v3, T3, L3, X3, hQ3, st3⟩ := (rm23 l Z a0 hw x1 q1 T2.heap n0 ((G_x1.ext E1).keep J2 (ninS ne_x1_ob nin0))).virt (W := 0) X2 hx hZ hown (hw _ (List.mem_of_getElem? (i := 46) rfl)) (hw _ (List.mem_of_getElem? (i := 47) rfl)) (nf_sel hZ (hw _ (List.mem_of_getElem? (i := 49) rfl))) (hw _ (List.mem_of_getElem? (i := 49) rfl)) (hw _ (List.mem_of_getElem? (i := 48) rfl)) (hw _ (List.mem_of_getElem? (i := 13) rfl)) (hw _ (List.mem_of_getElem? (i := 50) rfl)) (by decide) (by decide) (by decide) rfl (by decide) (by decide) (g := (mkF m 13 #[.val (.ref x1), .val (.ref x2), .val (.ref x3), .val (.ref ob)] [(.ref x1)])) rfl (by rw [hml]; rfl) ((E_x1.ext E1).keep J2) (argsL := []) (rest := []) rfl (lenOf pd_4 rfl) rfl (by show 2 * 0 + _ ≤ _; exact Nat.le_of_eq rfl) (hb hby d41_13)
  obtain ⟨rfl, N3q, e3⟩ := hQ3
  have N3 := Fr.app N2 N3q
  refine OGo.st (B := T3.setTop (mkF m 16 #[.val (.ref x1), .val (.ref x2), .val (.ref x3), .val (.ref ob)] [(.long q1)])) st3 ?_
  refine OGo.st (B := T3.setTop (mkF m 17 #[.val (.ref x1), .val (.ref x2), .val (.ref x3), .val (.ref ob)] [(.long (1 : Int64)), (.long q1)])) (fun _ kz => XS.lconst X3.here hx rfl (hb hby d41_16) kz) ?_
  refine OGo.st (B := T3.setTop (mkF m 18 #[.val (.ref x1), .val (.ref x2), .val (.ref x3), .val (.ref ob)] [(.int (lcmpW q1 (1 : Int64)))])) (fun _ kz => XS.lcmp X3.here hx rfl (hb hby d41_17) rfl kz) ?_
  refine OGo.st (B := T3.setTop (mkF m 37 #[.val (.ref x1), .val (.ref x2), .val (.ref x3), .val (.ref ob)] [])) (fun _ kz => XS.ifYes X3.here hx rfl (pc0 := 18) (pc' := 37) rfl (hb hby d41_18) rfl ((if0 _ _).trans (flt (mt (lw_lt _ _).mp p1)).2.1) (by decide) (by decide) kz) ?_
  refine OGo.st (B := T3.setTop (mkF m 38 #[.val (.ref x1), .val (.ref x2), .val (.ref x3), .val (.ref ob)] [(.ref x2)])) (fun _ kz => XS.aloadN X3.here hx rfl (hb hby d41_37) rfl rfl kz) ?_
  refine OGo.st (B := T3.setTop (mkF m 41 #[.val (.ref x1), .val (.ref x2), .val (.ref x3), .val (.ref ob)] [])) (fun _ kz => XS.ifnullNo X3.here hx rfl (hb hby d41_38) rfl kz) ?_
  refine OGo.st (B := T3.setTop (mkF m 42 #[.val (.ref x1), .val (.ref x2), .val (.ref x3), .val (.ref ob)] [(.ref x2)])) (fun _ kz => XS.aloadN X3.here hx rfl (hb hby d41_41) rfl rfl kz) ?_
  obtain ⟨v4, T4, L4, X4, hQ4, st4⟩ := (rm23 l Z a0 hw x2 q2 T2.heap n0 ((G_x2.ext E1).keep J2 (ninS ne_x2_ob nin0))).virt (W := 0) X3 hx hZ hown (hw _ (List.mem_of_getElem? (i := 46) rfl)) (hw _ (List.mem_of_getElem? (i := 47) rfl)) (nf_sel hZ (hw _ (List.mem_of_getElem? (i := 49) rfl))) (hw _ (List.mem_of_getElem? (i := 49) rfl)) (hw _ (List.mem_of_getElem? (i := 48) rfl)) (hw _ (List.mem_of_getElem? (i := 13) rfl)) (hw _ (List.mem_of_getElem? (i := 50) rfl)) (by decide) (by decide) (by decide) e3 (by decide) (by decide) (g := (mkF m 42 #[.val (.ref x1), .val (.ref x2), .val (.ref x3), .val (.ref ob)] [(.ref x2)])) rfl (by rw [hml]; rfl) ((E_x2.ext E1).keep J2) (argsL := []) (rest := []) rfl (lenOf pd_4 rfl) rfl (by show 2 * 0 + _ ≤ _; exact Nat.le_of_eq rfl) (hb hby d41_42)
  obtain ⟨rfl, N4q, e4⟩ := hQ4
  have N4 := Fr.app N3 N4q
  refine OGo.st (B := T4.setTop (mkF m 45 #[.val (.ref x1), .val (.ref x2), .val (.ref x3), .val (.ref ob)] [(.long q2)])) st4 ?_
  refine OGo.st (B := T4.setTop (mkF m 46 #[.val (.ref x1), .val (.ref x2), .val (.ref x3), .val (.ref ob)] [(.long (1 : Int64)), (.long q2)])) (fun _ kz => XS.lconst X4.here hx rfl (hb hby d41_45) kz) ?_
  refine OGo.st (B := T4.setTop (mkF m 47 #[.val (.ref x1), .val (.ref x2), .val (.ref x3), .val (.ref ob)] [(.int (lcmpW q2 (1 : Int64)))])) (fun _ kz => XS.lcmp X4.here hx rfl (hb hby d41_46) rfl kz) ?_
  refine OGo.st (B := T4.setTop (mkF m 66 #[.val (.ref x1), .val (.ref x2), .val (.ref x3), .val (.ref ob)] [])) (fun _ kz => XS.ifYes X4.here hx rfl (pc0 := 47) (pc' := 66) rfl (hb hby d41_47) rfl ((if0 _ _).trans (flt (mt (lw_lt _ _).mp p2)).2.1) (by decide) (by decide) kz) ?_
  refine OGo.st (B := T4.setTop (mkF m 67 #[.val (.ref x1), .val (.ref x2), .val (.ref x3), .val (.ref ob)] [(.ref x3)])) (fun _ kz => XS.aloadN X4.here hx rfl (hb hby d41_66) rfl rfl kz) ?_
  refine OGo.st (B := T4.setTop (mkF m 70 #[.val (.ref x1), .val (.ref x2), .val (.ref x3), .val (.ref ob)] [])) (fun _ kz => XS.ifnullNo X4.here hx rfl (hb hby d41_67) rfl kz) ?_
  refine OGo.st (B := T4.setTop (mkF m 71 #[.val (.ref x1), .val (.ref x2), .val (.ref x3), .val (.ref ob)] [(.ref x3)])) (fun _ kz => XS.aloadN X4.here hx rfl (hb hby d41_70) rfl rfl kz) ?_
  obtain ⟨v5, T5, L5, X5, hQ5, st5⟩ := (rm23 l Z a0 hw x3 q3 T2.heap n0 ((G_x3.ext E1).keep J2 (ninS ne_x3_ob nin0))).virt (W := 0) X4 hx hZ hown (hw _ (List.mem_of_getElem? (i := 46) rfl)) (hw _ (List.mem_of_getElem? (i := 47) rfl)) (nf_sel hZ (hw _ (List.mem_of_getElem? (i := 49) rfl))) (hw _ (List.mem_of_getElem? (i := 49) rfl)) (hw _ (List.mem_of_getElem? (i := 48) rfl)) (hw _ (List.mem_of_getElem? (i := 13) rfl)) (hw _ (List.mem_of_getElem? (i := 50) rfl)) (by decide) (by decide) (by decide) e4 (by decide) (by decide) (g := (mkF m 71 #[.val (.ref x1), .val (.ref x2), .val (.ref x3), .val (.ref ob)] [(.ref x3)])) rfl (by rw [hml]; rfl) ((E_x3.ext E1).keep J2) (argsL := []) (rest := []) rfl (lenOf pd_4 rfl) rfl (by show 2 * 0 + _ ≤ _; exact Nat.le_of_eq rfl) (hb hby d41_71)
  obtain ⟨rfl, N5q, e5⟩ := hQ5
  have N5 := Fr.app N4 N5q
  refine OGo.st (B := T5.setTop (mkF m 74 #[.val (.ref x1), .val (.ref x2), .val (.ref x3), .val (.ref ob)] [(.long q3)])) st5 ?_
  refine OGo.st (B := T5.setTop (mkF m 75 #[.val (.ref x1), .val (.ref x2), .val (.ref x3), .val (.ref ob)] [(.long (1 : Int64)), (.long q3)])) (fun _ kz => XS.lconst X5.here hx rfl (hb hby d41_74) kz) ?_
  refine OGo.st (B := T5.setTop (mkF m 76 #[.val (.ref x1), .val (.ref x2), .val (.ref x3), .val (.ref ob)] [(.int (lcmpW q3 (1 : Int64)))])) (fun _ kz => XS.lcmp X5.here hx rfl (hb hby d41_75) rfl kz) ?_
  refine OGo.st (B := T5.setTop (mkF m 98 #[.val (.ref x1), .val (.ref x2), .val (.ref x3), .val (.ref ob)] [])) (fun _ kz => XS.ifYes X5.here hx rfl (pc0 := 76) (pc' := 98) rfl (hb hby d41_76) rfl ((if0 _ _).trans (flt (mt (lw_lt _ _).mp p3)).2.1) (by decide) (by decide) kz) ?_
  refine OGo.st (B := T5.setTop (mkF m 99 #[.val (.ref x1), .val (.ref x2), .val (.ref x3), .val (.ref ob)] [(.ref x3)])) (fun _ kz => XS.aloadN X5.here hx rfl (hb hby d41_98) rfl rfl kz) ?_
  refine OGo.st (B := T5.setTop (mkF m 102 #[.val (.ref x1), .val (.ref x2), .val (.ref x3), .val (.ref ob)] [])) (fun _ kz => XS.ifnullNo X5.here hx rfl (hb hby d41_99) rfl kz) ?_
  refine OGo.st (B := T5.setTop (mkF m 103 #[.val (.ref x1), .val (.ref x2), .val (.ref x3), .val (.ref ob)] [(.ref x2)])) (fun _ kz => XS.aloadN X5.here hx rfl (hb hby d41_102) rfl rfl kz) ?_
  refine OGo.st (B := T5.setTop (mkF m 106 #[.val (.ref x1), .val (.ref x2), .val (.ref x3), .val (.ref ob)] [])) (fun _ kz => XS.ifnullNo X5.here hx rfl (hb hby d41_103) rfl kz) ?_
  refine OGo.st (B := T5.setTop (mkF m 107 #[.val (.ref x1), .val (.ref x2), .val (.ref x3), .val (.ref ob)] [(.ref x2)])) (fun _ kz => XS.aloadN X5.here hx rfl (hb hby d41_106) rfl rfl kz) ?_
  obtain ⟨v6, T6, L6, X6, hQ6, st6⟩ := (rm23 l Z a0 hw x2 q2 T2.heap n0 ((G_x2.ext E1).keep J2 (ninS ne_x2_ob nin0))).virt (W := 0) X5 hx hZ hown (hw _ (List.mem_of_getElem? (i := 46) rfl)) (hw _ (List.mem_of_getElem? (i := 47) rfl)) (nf_sel hZ (hw _ (List.mem_of_getElem? (i := 49) rfl))) (hw _ (List.mem_of_getElem? (i := 49) rfl)) (hw _ (List.mem_of_getElem? (i := 48) rfl)) (hw _ (List.mem_of_getElem? (i := 13) rfl)) (hw _ (List.mem_of_getElem? (i := 50) rfl)) (by decide) (by decide) (by decide) e5 (by decide) (by decide) (g := (mkF m 107 #[.val (.ref x1), .val (.ref x2), .val (.ref x3), .val (.ref ob)] [(.ref x2)])) rfl (by rw [hml]; rfl) ((E_x2.ext E1).keep J2) (argsL := []) (rest := []) rfl (lenOf pd_4 rfl) rfl (by show 2 * 0 + _ ≤ _; exact Nat.le_of_eq rfl) (hb hby d41_107)
  obtain ⟨rfl, N6q, e6⟩ := hQ6
  have N6 := Fr.app N5 N6q
  refine OGo.st (B := T6.setTop (mkF m 110 #[.val (.ref x1), .val (.ref x2), .val (.ref x3), .val (.ref ob)] [(.long q2)])) st6 ?_
  refine OGo.st (B := T6.setTop (mkF m 111 #[.val (.ref x1), .val (.ref x2), .val (.ref x3), .val (.ref ob)] [(.long (1 : Int64)), (.long q2)])) (fun _ kz => XS.lconst X6.here hx rfl (hb hby d41_110) kz) ?_
  refine OGo.st (B := T6.setTop (mkF m 112 #[.val (.ref x1), .val (.ref x2), .val (.ref x3), .val (.ref ob)] [(.int (lcmpW q2 (1 : Int64)))])) (fun _ kz => XS.lcmp X6.here hx rfl (hb hby d41_111) rfl kz) ?_
  refine OGo.st (B := T6.setTop (mkF m 115 #[.val (.ref x1), .val (.ref x2), .val (.ref x3), .val (.ref ob)] [])) (fun _ kz => XS.ifNo X6.here hx rfl (hb hby d41_112) rfl ((if0 _ _).trans (flt (mt (lw_lt _ _).mp p2)).1) kz) ?_
  refine OGo.st (B := T6.setTop (mkF m 116 #[.val (.ref x1), .val (.ref x2), .val (.ref x3), .val (.ref ob)] [(.ref x3)])) (fun _ kz => XS.aloadN X6.here hx rfl (hb hby d41_115) rfl rfl kz) ?_
  obtain ⟨v7, T7, L7, X7, hQ7, st7⟩ := (rm23 l Z a0 hw x3 q3 T2.heap n0 ((G_x3.ext E1).keep J2 (ninS ne_x3_ob nin0))).virt (W := 0) X6 hx hZ hown (hw _ (List.mem_of_getElem? (i := 46) rfl)) (hw _ (List.mem_of_getElem? (i := 47) rfl)) (nf_sel hZ (hw _ (List.mem_of_getElem? (i := 49) rfl))) (hw _ (List.mem_of_getElem? (i := 49) rfl)) (hw _ (List.mem_of_getElem? (i := 48) rfl)) (hw _ (List.mem_of_getElem? (i := 13) rfl)) (hw _ (List.mem_of_getElem? (i := 50) rfl)) (by decide) (by decide) (by decide) e6 (by decide) (by decide) (g := (mkF m 116 #[.val (.ref x1), .val (.ref x2), .val (.ref x3), .val (.ref ob)] [(.ref x3)])) rfl (by rw [hml]; rfl) ((E_x3.ext E1).keep J2) (argsL := []) (rest := []) rfl (lenOf pd_4 rfl) rfl (by show 2 * 0 + _ ≤ _; exact Nat.le_of_eq rfl) (hb hby d41_116)
  obtain ⟨rfl, N7q, e7⟩ := hQ7
  have N7 := Fr.app N6 N7q
  refine OGo.st (B := T7.setTop (mkF m 119 #[.val (.ref x1), .val (.ref x2), .val (.ref x3), .val (.ref ob)] [(.long q3)])) st7 ?_
  refine OGo.st (B := T7.setTop (mkF m 122 #[.val (.ref x1), .val (.ref x2), .val (.ref x3), .val (.ref ob)] [(.long (9007199254740992 : Int64)), (.long q3)])) (X7.ldc2Long hx hown (mvT hZ (hw _ (List.mem_of_getElem? (i := 53) rfl))) (g := (mkF m 119 #[.val (.ref x1), .val (.ref x2), .val (.ref x3), .val (.ref ob)] [(.long q3)])) rfl (hb hby d41_119)) ?_
  refine OGo.st (B := T7.setTop (mkF m 123 #[.val (.ref x1), .val (.ref x2), .val (.ref x3), .val (.ref ob)] [(.ref x2), (.long (9007199254740992 : Int64)), (.long q3)])) (fun _ kz => XS.aloadN X7.here hx rfl (hb hby d41_122) rfl rfl kz) ?_
  obtain ⟨v8, T8, L8, X8, hQ8, st8⟩ := (rm23 l Z a0 hw x2 q2 T2.heap n0 ((G_x2.ext E1).keep J2 (ninS ne_x2_ob nin0))).virt (W := 4) X7 hx hZ hown (hw _ (List.mem_of_getElem? (i := 46) rfl)) (hw _ (List.mem_of_getElem? (i := 47) rfl)) (nf_sel hZ (hw _ (List.mem_of_getElem? (i := 49) rfl))) (hw _ (List.mem_of_getElem? (i := 49) rfl)) (hw _ (List.mem_of_getElem? (i := 48) rfl)) (hw _ (List.mem_of_getElem? (i := 13) rfl)) (hw _ (List.mem_of_getElem? (i := 50) rfl)) (by decide) (by decide) (by decide) e7 (by decide) (by decide) (g := (mkF m 123 #[.val (.ref x1), .val (.ref x2), .val (.ref x3), .val (.ref ob)] [(.ref x2), (.long (9007199254740992 : Int64)), (.long q3)])) rfl (by rw [hml]; rfl) ((E_x2.ext E1).keep J2) (argsL := []) (rest := [(.long (9007199254740992 : Int64)), (.long q3)]) rfl (lenOf pd_4 rfl) rfl (by show 2 * 0 + _ ≤ _; exact Nat.le_of_eq rfl) (hb hby d41_123)
  obtain ⟨rfl, N8q, e8⟩ := hQ8
  have N8 := Fr.app N7 N8q
  refine OGo.st (B := T8.setTop (mkF m 126 #[.val (.ref x1), .val (.ref x2), .val (.ref x3), .val (.ref ob)] [(.long q2), (.long (9007199254740992 : Int64)), (.long q3)])) st8 ?_
  have nz : q2 ≠ 0 := fun z => p2 (by rw [z]; decide)
  refine OGo.st (B := T8.setTop (mkF m 127 #[.val (.ref x1), .val (.ref x2), .val (.ref x3), .val (.ref ob)] [(.long ((9007199254740992 : Int64) / q2)), (.long q3)])) (fun _ kz => XS.ldiv X8.here hx rfl (hb hby d41_126) rfl nz kz) ?_
  refine OGo.st (B := T8.setTop (mkF m 128 #[.val (.ref x1), .val (.ref x2), .val (.ref x3), .val (.ref ob)] [(.int (lcmpW q3 ((9007199254740992 : Int64) / q2)))])) (fun _ kz => XS.lcmp X8.here hx rfl (hb hby d41_127) rfl kz) ?_
  refine OGo.st (B := T8.setTop (mkF m 147 #[.val (.ref x1), .val (.ref x2), .val (.ref x3), .val (.ref ob)] [])) (fun _ kz => XS.ifYes X8.here hx rfl (pc0 := 128) (pc' := 147) rfl (hb hby d41_128) rfl ((if0 _ _).trans (flt (mt (lw_gt _ _).mp p4)).2.2.2) (by decide) (by decide) kz) ?_
  refine OGo.st (B := T8.setTop (mkF m 148 #[.val (.ref x1), .val (.ref x2), .val (.ref x3), .val (.ref ob)] [(.ref ob)])) (fun _ kz => XS.aloadN X8.here hx rfl (hb hby d41_147) rfl rfl kz) ?_
  exact own_retA X8 hx hret hlk rfl rfl rfl (hb hby d41_148) ⟨ob, rfl, N8, by rw [e8]; exact ⟨K2, Y2_0, Y2_1⟩⟩ (by decide) (by decide)
theorem pd_6 : parseMethodDescriptor "()Z" = some ⟨[], some .boolean⟩ := by decide +kernel
theorem d42_0 : decode prog_16_method_2_code 0 = .ok (.aload_n 0, 1) := by decide +kernel
theorem d42_1 : decode prog_16_method_2_code 1 = .ok (.invokeinterface 13 1, 5) := by decide +kernel
theorem d42_6 : decode prog_16_method_2_code 6 = .ok (.ifCond .ne 15, 3) := by decide +kernel
theorem d42_21 : decode prog_16_method_2_code 21 = .ok (.return_, 1) := by decide +kernel
theorem pn_com_example_narrow_gate_narrowgate_InvalidLimitsException : plainName "com/example/narrow_gate/narrowgate/InvalidLimitsException" = true := by first | (simp [plainName, overriddenIn]; done) | decide +kernel
theorem ef_rm42 (m : MethodId) (x0 : Addr) : entryFrame m #[(.ref x0)] 1 = mkF m 0 #[.val (.ref x0)] [] := by first | (simp [entryFrame, mkF, argsToLocals, Value.category]; done) | rfl
set_option maxRecDepth 65536 in
set_option maxHeartbeats 40000000 in
theorem rm42 (l : Launch) (Z : State) (a0 : Array Value) (hw : ∀ d ∈ tables_1, d.before a0 Z = true) (a : Addr) (h0 : Heap) (n0 : Nat) (E : Exa Z h0 a "java/util/ArrayList") (F : Fld Z h0 a "java/util/ArrayList" "size" "I" (.int (0 : Int32))) :
    OMet l Z (⟨"com/example/narrow_gate/narrowgate/InvalidLimitsException", "refuseIfAny", "(Ljava/util/List;)V"⟩ : MethodName) prog_16_method_2_code 1 none [] ({ frames := 1, cells := 0, slots := 0, locals := 12 } : Room) #[(.ref a)] h0 (OPure none h0 n0) := by
  refine OMet.of (plainFor_of_name pn_com_example_narrow_gate_narrowgate_InvalidLimitsException) ?_
  intro p e s m below meth c s₁ hx hby hml hnd hown hnm hret hlk hZ X0 e0
  replace hown : s.vm.findClass "com/example/narrow_gate/narrowgate/InvalidLimitsException" = some m.cls := hown
  replace hml : c.maxLocals = 1 := hml
  have N0 := Fr.nil n0
  rw [ef_rm42 m a]
  refine OGo.st (B := s₁.setTop (mkF m 1 #[.val (.ref a)] [(.ref a)])) (fun _ kz => XS.aloadN X0.here hx rfl (hb hby d42_0) rfl rfl kz) ?_
  obtain ⟨v1, T1, L1, X1, hQ1, st1⟩ := (rm33 l Z a0 hw a h0 n0 F).iface (W := 0) X0 hx hZ hown (hw _ (List.mem_of_getElem? (i := 58) rfl)) (hw _ (List.mem_of_getElem? (i := 59) rfl)) (hw _ (List.mem_of_getElem? (i := 60) rfl)) (hw _ (List.mem_of_getElem? (i := 61) rfl)) (hw _ (List.mem_of_getElem? (i := 62) rfl)) (hw _ (List.mem_of_getElem? (i := 63) rfl)) (hw _ (List.mem_of_getElem? (i := 64) rfl)) (hw _ (List.mem_of_getElem? (i := 65) rfl)) (hw _ (List.mem_of_getElem? (i := 24) rfl)) (hw _ (List.mem_of_getElem? (i := 66) rfl)) (by decide) (by decide) (by decide) e0 (by decide) (by decide) (g := (mkF m 1 #[.val (.ref a)] [(.ref a)])) rfl (by rw [hml]; rfl) E (argsL := []) (rest := []) rfl (lenOf pd_6 rfl) rfl (by show 2 * 0 + _ ≤ _; exact Nat.le_of_eq rfl) (hb hby d42_1)
  obtain ⟨rfl, N1q, e1⟩ := hQ1
  have N1 := Fr.app N0 N1q
  refine OGo.st (B := T1.setTop (mkF m 6 #[.val (.ref a)] [(.int (1 : Int32))])) st1 ?_
  refine OGo.st (B := T1.setTop (mkF m 21 #[.val (.ref a)] [])) (fun _ kz => XS.ifYes X1.here hx rfl (pc0 := 6) (pc' := 21) rfl (hb hby d42_6) rfl (by decide) (by decide) (by decide) kz) ?_
  exact own_ret0 X1 hx hret hlk (hb hby d42_21) ⟨rfl, N1, e1⟩ (by decide) (by decide)
theorem pd_2 : parseMethodDescriptor "(J)Ljava/lang/Long;" = some ⟨[.long], some (.object "java/lang/Long")⟩ := by decide +kernel
theorem pd_3 : parseMethodDescriptor "(Ljava/lang/Long;Ljava/lang/Long;Ljava/lang/Long;)Ljava/util/List;" = some ⟨[(.object "java/lang/Long"), (.object "java/lang/Long"), (.object "java/lang/Long")], some (.object "java/util/List")⟩ := by decide +kernel
theorem pd_5 : parseMethodDescriptor "(Ljava/util/List;)V" = some ⟨[(.object "java/util/List")], none⟩ := by decide +kernel
theorem d43_0 : decode prog_18_method_1_code 0 = .ok (.aload_n 0, 1) := by decide +kernel
theorem d43_1 : decode prog_18_method_1_code 1 = .ok (.invokespecial 1, 3) := by decide +kernel
theorem d43_4 : decode prog_18_method_1_code 4 = .ok (.lload_n 1, 1) := by decide +kernel
theorem d43_5 : decode prog_18_method_1_code 5 = .ok (.invokestatic 7, 3) := by decide +kernel
theorem d43_8 : decode prog_18_method_1_code 8 = .ok (.lload_n 3, 1) := by decide +kernel
theorem d43_9 : decode prog_18_method_1_code 9 = .ok (.invokestatic 7, 3) := by decide +kernel
theorem d43_12 : decode prog_18_method_1_code 12 = .ok (.lload 5, 2) := by decide +kernel
theorem d43_14 : decode prog_18_method_1_code 14 = .ok (.invokestatic 7, 3) := by decide +kernel
theorem d43_17 : decode prog_18_method_1_code 17 = .ok (.invokestatic 13, 3) := by decide +kernel
theorem d43_20 : decode prog_18_method_1_code 20 = .ok (.invokestatic 19, 3) := by decide +kernel
theorem d43_23 : decode prog_18_method_1_code 23 = .ok (.aload_n 0, 1) := by decide +kernel
theorem d43_24 : decode prog_18_method_1_code 24 = .ok (.lload_n 1, 1) := by decide +kernel
theorem d43_25 : decode prog_18_method_1_code 25 = .ok (.putfield 25, 3) := by decide +kernel
theorem d43_28 : decode prog_18_method_1_code 28 = .ok (.aload_n 0, 1) := by decide +kernel
theorem d43_29 : decode prog_18_method_1_code 29 = .ok (.lload_n 3, 1) := by decide +kernel
theorem d43_30 : decode prog_18_method_1_code 30 = .ok (.putfield 29, 3) := by decide +kernel
theorem d43_33 : decode prog_18_method_1_code 33 = .ok (.aload_n 0, 1) := by decide +kernel
theorem d43_34 : decode prog_18_method_1_code 34 = .ok (.lload 5, 2) := by decide +kernel
theorem d43_36 : decode prog_18_method_1_code 36 = .ok (.putfield 32, 3) := by decide +kernel
theorem d43_39 : decode prog_18_method_1_code 39 = .ok (.return_, 1) := by decide +kernel
theorem ef_rm43 (m : MethodId) (x0 : Addr) (x1 : Int64) (x2 : Int64) (x3 : Int64) : entryFrame m #[(.ref x0), (.long x1), (.long x2), (.long x3)] 7 = mkF m 0 #[.val (.ref x0), .val (.long x1), .second, .val (.long x2), .second, .val (.long x3), .second] [] := by first | (simp [entryFrame, mkF, argsToLocals, Value.category]; done) | rfl
set_option maxRecDepth 65536 in
set_option maxHeartbeats 40000000 in
theorem rm43 (l : Launch) (Z : State) (a0 : Array Value) (hw : ∀ d ∈ tables_1, d.before a0 Z = true) (a : Addr) (q1 q2 q3 : Int64) (h0 : Heap) (n0 : Nat) (Z0 : n0 ≤ h0.size) (O0 : Old Z n0 h0) (ca : Addr) (cc : Cell) (S_cache : Sta Z Z.heap "java/lang/Long$LongCache" "cache" "[Ljava/lang/Long;" (.ref ca)) (BX : Bxs Z ca cc "java/lang/Long" "J" 256 (fun j => .long (j - 128).toInt64)) (de : Addr) (S_dflt : Sta Z Z.heap "java/util/ArrayList" "DEFAULTCAPACITY_EMPTY_ELEMENTDATA" "[Ljava/lang/Object;" (.ref de)) (E_a : Exa Z h0 a "com/example/narrow_gate/narrowgate/Limit") (g_a : n0 ≤ a) (G_rate : Fld Z h0 a "com/example/narrow_gate/narrowgate/Limit" "rate" "J" (.long (0 : Int64))) (G_periodMs : Fld Z h0 a "com/example/narrow_gate/narrowgate/Limit" "periodMs" "J" (.long (0 : Int64))) (G_burst : Fld Z h0 a "com/example/narrow_gate/narrowgate/Limit" "burst" "J" (.long (0 : Int64))) (p1 : ¬ q1 < (1 : Int64)) (p2 : ¬ q2 < (1 : Int64)) (p3 : ¬ q3 < (1 : Int64)) (p4 : ¬ (9007199254740992 : Int64) / q2 < q3) :
    OMet l Z (⟨"com/example/narrow_gate/narrowgate/Limit", "<init>", "(JJJ)V"⟩ : MethodName) prog_18_method_1_code 7 none [] ({ frames := 5, cells := 4, slots := 6, locals := 64 } : Room) #[(.ref a), (.long q1), (.long q2), (.long q3)] h0 (fun v h L => v = none ∧ Fr n0 L ∧ Keep h0 h [a] ∧ Exa Z h a "com/example/narrow_gate/narrowgate/Limit" ∧ Fld Z h a "com/example/narrow_gate/narrowgate/Limit" "rate" "J" (.long q1) ∧ Fld Z h a "com/example/narrow_gate/narrowgate/Limit" "periodMs" "J" (.long q2) ∧ Fld Z h a "com/example/narrow_gate/narrowgate/Limit" "burst" "J" (.long q3)) := by
  refine OMet.of (plainFor_of_name pn_com_example_narrow_gate_narrowgate_Limit) ?_
  intro p e s m below meth c s₁ hx hby hml hnd hown hnm hret hlk hZ X0 e0
  replace hown : s.vm.findClass "com/example/narrow_gate/narrowgate/Limit" = some m.cls := hown
  replace hml : c.maxLocals = 7 := hml
  have N0 := Fr.nil n0
  rw [ef_rm43 m a q1 q2 q3]
  refine OGo.st (B := s₁.setTop (mkF m 1 #[.val (.ref a), .val (.long q1), .second, .val (.long q2), .second, .val (.long q3), .second] [(.ref a)])) (fun _ kz => XS.aloadN X0.here hx rfl (hb hby d43_0) rfl rfl kz) ?_
  obtain ⟨T1, X1, e1, st1⟩ := initO X0 hx hZ hown (hw _ (List.mem_of_getElem? (i := 8) rfl)) (hw _ (List.mem_of_getElem? (i := 9) rfl)) (hw _ (List.mem_of_getElem? (i := 10) rfl)) e0 (g := (mkF m 1 #[.val (.ref a), .val (.long q1), .second, .val (.long q2), .second, .val (.long q3), .second] [(.ref a)])) rfl (by rw [hml]; rfl) rfl (hb hby d43_1) (by decide) (W := 0) (by show 2 * 0 + _ ≤ _; exact Nat.le_of_eq rfl) (by decide)
  refine OGo.st (B := T1.setTop (mkF m 4 #[.val (.ref a), .val (.long q1), .second, .val (.long q2), .second, .val (.long q3), .second] [])) st1 ?_
  refine OGo.st (B := T1.setTop (mkF m 5 #[.val (.ref a), .val (.long q1), .second, .val (.long q2), .second, .val (.long q3), .second] [(.long q1)])) (fun _ kz => XS.lloadN X1.here hx rfl (hb hby d43_4) rfl kz) ?_
  obtain ⟨v2, T2, L2, X2, hQ2, st2⟩ := (rm22 l Z a0 hw q1 h0 n0 (Nat.le_trans Z0 (Keep.refl h0 [a]).1) O0 ca cc S_cache BX).static (W := 0) X1 hx hZ hown (hw _ (List.mem_of_getElem? (i := 11) rfl)) (hw _ (List.mem_of_getElem? (i := 12) rfl)) (hw _ (List.mem_of_getElem? (i := 13) rfl)) (hw _ (List.mem_of_getElem? (i := 14) rfl)) (by decide) (by decide) (by decide) e1 (by decide) (by decide) (g := (mkF m 5 #[.val (.ref a), .val (.long q1), .second, .val (.long q2), .second, .val (.long q3), .second] [(.long q1)])) rfl (by rw [hml]; rfl) (argsL := [(.long q1)]) (rest := []) rfl (lenOf pd_2 rfl) rfl (by show 2 * 0 + _ ≤ _; exact Nat.le_of_eq rfl) (hb hby d43_5)
  obtain ⟨x2, rfl, N2q, J2, Y2_0, Y2_1⟩ := hQ2
  have N2 := Fr.app N0 N2q
  have K2 : Keep h0 T2.heap [a] := (Keep.refl h0 [a]).trans J2 all0
  have O2 := O0.keep J2 all0
  refine OGo.st (B := T2.setTop (mkF m 8 #[.val (.ref a), .val (.long q1), .second, .val (.long q2), .second, .val (.long q3), .second] [(.ref x2)])) st2 ?_
  have ne_a_x2 : a ≠ x2 := Exa.ne (E_a.keep J2) Y2_0 (by decide)
  refine OGo.st (B := T2.setTop (mkF m 9 #[.val (.ref a), .val (.long q1), .second, .val (.long q2), .second, .val (.long q3), .second] [(.long q2), (.ref x2)])) (fun _ kz => XS.lloadN X2.here hx rfl (hb hby d43_8) rfl kz) ?_
  obtain ⟨v3, T3, L3, X3, hQ3, st3⟩ := (rm22 l Z a0 hw q2 T2.heap n0 (Nat.le_trans Z0 K2.1) O2 ca cc S_cache BX).static (W := 1) X2 hx hZ hown (hw _ (List.mem_of_getElem? (i := 11) rfl)) (hw _ (List.mem_of_getElem? (i := 12) rfl)) (hw _ (List.mem_of_getElem? (i := 13) rfl)) (hw _ (List.mem_of_getElem? (i := 14) rfl)) (by decide) (by decide) (by decide) rfl (by decide) (by decide) (g := (mkF m 9 #[.val (.ref a), .val (.long q1), .second, .val (.long q2), .second, .val (.long q3), .second] [(.long q2), (.ref x2)])) rfl (by rw [hml]; rfl) (argsL := [(.long q2)]) (rest := [(.ref x2)]) rfl (lenOf pd_2 rfl) rfl (by show 2 * 0 + _ ≤ _; exact Nat.le_of_eq rfl) (hb hby d43_9)
  obtain ⟨x3, rfl, N3q, J3, Y3_0, Y3_1⟩ := hQ3
  have N3 := Fr.app N2 N3q
  have K3 : Keep h0 T3.heap [a] := K2.trans J3 all0
  have O3 := O2.keep J3 all0
  refine OGo.st (B := T3.setTop (mkF m 12 #[.val (.ref a), .val (.long q1), .second, .val (.long q2), .second, .val (.long q3), .second] [(.ref x3), (.ref x2)])) st3 ?_
  have ne_a_x3 : a ≠ x3 := Exa.ne ((E_a.keep J2).keep J3) Y3_0 (by decide)
  refine OGo.st (B := T3.setTop (mkF m 14 #[.val (.ref a), .val (.long q1), .second, .val (.long q2), .second, .val (.long q3), .second] [(.long q3), (.ref x3), (.ref x2)])) (fun _ kz => XS.lload X3.here hx rfl (hb hby d43_12) rfl kz) ?_
  obtain ⟨v4, T4, L4, X4, hQ4, st4⟩ := (rm22 l Z a0 hw q3 T3.heap n0 (Nat.le_trans Z0 K3.1) O3 ca cc S_cache BX).static (W := 2) X3 hx hZ hown (hw _ (List.mem_of_getElem? (i := 11) rfl)) (hw _ (List.mem_of_getElem? (i := 12) rfl)) (hw _ (List.mem_of_getElem? (i := 13) rfl)) (hw _ (List.mem_of_getElem? (i := 14) rfl)) (by decide) (by decide) (by decide) rfl (by decide) (by decide) (g := (mkF m 14 #[.val (.ref a), .val (.long q1), .second, .val (.long q2), .second, .val (.long q3), .second] [(.long q3), (.ref x3), (.ref x2)])) rfl (by rw [hml]; rfl) (argsL := [(.long q3)]) (rest := [(.ref x3), (.ref x2)]) rfl (lenOf pd_2 rfl) rfl (by show 2 * 0 + _ ≤ _; exact Nat.le_of_eq rfl) (hb hby d43_14)
  obtain ⟨x4, rfl, N4q, J4, Y4_0, Y4_1⟩ := hQ4
  have N4 := Fr.app N3 N4q
  have K4 : Keep h0 T4.heap [a] := K3.trans J4 all0
  have O4 := O3.keep J4 all0
  refine OGo.st (B := T4.setTop (mkF m 17 #[.val (.ref a), .val (.long q1), .second, .val (.long q2), .second, .val (.long q3), .second] [(.ref x4), (.ref x3), (.ref x2)])) st4 ?_
  have ne_a_x4 : a ≠ x4 := Exa.ne (((E_a.keep J2).keep J3).keep J4) Y4_0 (by decide)
  obtain ⟨v5, T5, L5, X5, hQ5, st5⟩ := (rm41 l Z a0 hw x2 x3 x4 q1 q2 q3 T4.heap n0 (Nat.le_trans Z0 K4.1) O4 de S_dflt ((Y2_0.keep J3).keep J4) (Y3_0.keep J4) Y4_0 ((Y2_1.keep J3 nin0).keep J4 nin0) (Y3_1.keep J4 nin0) Y4_1 p1 p2 p3 p4).static (W := 0) X4 hx hZ hown (hw _ (List.mem_of_getElem? (i := 19) rfl)) (hw _ (List.mem_of_getElem? (i := 20) rfl)) (hw _ (List.mem_of_getElem? (i := 4) rfl)) (hw _ (List.mem_of_getElem? (i := 21) rfl)) (by decide) (by decide) (by decide) rfl (by decide) (by decide) (g := (mkF m 17 #[.val (.ref a), .val (.long q1), .second, .val (.long q2), .second, .val (.long q3), .second] [(.ref x4), (.ref x3), (.ref x2)])) rfl (by rw [hml]; rfl) (argsL := [(.ref x2), (.ref x3), (.ref x4)]) (rest := []) rfl (lenOf pd_3 rfl) rfl (by show 2 * 0 + _ ≤ _; exact Nat.le_of_eq rfl) (hb hby d43_17)
  obtain ⟨b5, rfl, N5q, J5, Y5_0, Y5_1⟩ := hQ5
  have N5 := Fr.app N4 N5q
  have K5 : Keep h0 T5.heap [a] := K4.trans J5 all0
  have O5 := O4.keep J5 all0
  refine OGo.st (B := T5.setTop (mkF m 20 #[.val (.ref a), .val (.long q1), .second, .val (.long q2), .second, .val (.long q3), .second] [(.ref b5)])) st5 ?_
  obtain ⟨v6, T6, L6, X6, hQ6, st6⟩ := (rm42 l Z a0 hw b5 T5.heap n0 Y5_0 Y5_1).static (W := 0) X5 hx hZ hown (hw _ (List.mem_of_getElem? (i := 54) rfl)) (hw _ (List.mem_of_getElem? (i := 55) rfl)) (hw _ (List.mem_of_getElem? (i := 56) rfl)) (hw _ (List.mem_of_getElem? (i := 57) rfl)) (by decide) (by decide) (by decide) rfl (by decide) (by decide) (g := (mkF m 20 #[.val (.ref a), .val (.long q1), .second, .val (.long q2), .second, .val (.long q3), .second] [(.ref b5)])) rfl (by rw [hml]; rfl) (argsL := [(.ref b5)]) (rest := []) rfl (lenOf pd_5 rfl) rfl (by show 2 * 0 + _ ≤ _; exact Nat.le_of_eq rfl) (hb hby d43_20)
  obtain ⟨rfl, N6q, e6⟩ := hQ6
  have N6 := Fr.app N5 N6q
  refine OGo.st (B := T6.setTop (mkF m 23 #[.val (.ref a), .val (.long q1), .second, .val (.long q2), .second, .val (.long q3), .second] [])) st6 ?_
  refine OGo.st (B := T6.setTop (mkF m 24 #[.val (.ref a), .val (.long q1), .second, .val (.long q2), .second, .val (.long q3), .second] [(.ref a)])) (fun _ kz => XS.aloadN X6.here hx rfl (hb hby d43_23) rfl rfl kz) ?_
  refine OGo.st (B := T6.setTop (mkF m 25 #[.val (.ref a), .val (.long q1), .second, .val (.long q2), .second, .val (.long q3), .second] [(.long q1), (.ref a)])) (fun _ kz => XS.lloadN X6.here hx rfl (hb hby d43_24) rfl kz) ?_
  obtain ⟨T7, h7, X7, e7, W7, st7⟩ := putF X6 hx hZ hown (host := "") (Or.inl (hw _ (List.mem_of_getElem? (i := 69) rfl))) Via.refl e6 ((((G_rate.keep J2 nin0).keep J3 nin0).keep J4 nin0).keep J5 nin0) ((((E_a.keep J2).keep J3).keep J4).keep J5) (Or.inr ⟨(hw _ (List.mem_of_getElem? (i := 70) rfl)), rfl, hnm⟩) (hw _ (List.mem_of_getElem? (i := 3) rfl)) (ty := .long) (by decide) rfl rfl (g := (mkF m 25 #[.val (.ref a), .val (.long q1), .second, .val (.long q2), .second, .val (.long q3), .second] [(.long q1), (.ref a)])) rfl rfl (hb hby d43_25)
  have F7_rate := ((((G_rate.keep J2 nin0).keep J3 nin0).keep J4 nin0).keep J5 nin0).same W7
  have N7 := Fr.snoc X7 N6 g_a
  have K7 : Keep h0 h7 [a] := K5.wr W7 (Or.inl (List.mem_of_getElem? (i := 0) rfl))
  have O7 := O5.wr W7 g_a
  refine OGo.st (B := T7.setTop (mkF m 28 #[.val (.ref a), .val (.long q1), .second, .val (.long q2), .second, .val (.long q3), .second] [])) st7 ?_
  refine OGo.st (B := T7.setTop (mkF m 29 #[.val (.ref a), .val (.long q1), .second, .val (.long q2), .second, .val (.long q3), .second] [(.ref a)])) (fun _ kz => XS.aloadN X7.here hx rfl (hb hby d43_28) rfl rfl kz) ?_
  refine OGo.st (B := T7.setTop (mkF m 30 #[.val (.ref a), .val (.long q1), .second, .val (.long q2), .second, .val (.long q3), .second] [(.long q2), (.ref a)])) (fun _ kz => XS.lloadN X7.here hx rfl (hb hby d43_29) rfl kz) ?_
  obtain ⟨T8, h8, X8, e8, W8, st8⟩ := putF X7 hx hZ hown (host := "") (Or.inl (hw _ (List.mem_of_getElem? (i := 71) rfl))) Via.refl e7 (((((G_periodMs.keep J2 nin0).keep J3 nin0).keep J4 nin0).keep J5 nin0).other W7 (Or.inr (slot_ne (Or.inr (hw _ (List.mem_of_getElem? (i := 72) rfl))) (Or.inr (hw _ (List.mem_of_getElem? (i := 70) rfl))) (by decide) (t := .long) (t' := .long) (by decide) (by decide)))) (((((E_a.keep J2).keep J3).keep J4).keep J5).wr W7) (Or.inr ⟨(hw _ (List.mem_of_getElem? (i := 72) rfl)), rfl, hnm⟩) (hw _ (List.mem_of_getElem? (i := 3) rfl)) (ty := .long) (by decide) rfl rfl (g := (mkF m 30 #[.val (.ref a), .val (.long q1), .second, .val (.long q2), .second, .val (.long q3), .second] [(.long q2), (.ref a)])) rfl rfl (hb hby d43_30)
  have F8_periodMs := (((((G_periodMs.keep J2 nin0).keep J3 nin0).keep J4 nin0).keep J5 nin0).other W7 (Or.inr (slot_ne (Or.inr (hw _ (List.mem_of_getElem? (i := 72) rfl))) (Or.inr (hw _ (List.mem_of_getElem? (i := 70) rfl))) (by decide) (t := .long) (t' := .long) (by decide) (by decide)))).same W8
  have N8 := Fr.snoc X8 N7 g_a
  have K8 : Keep h0 h8 [a] := K7.wr W8 (Or.inl (List.mem_of_getElem? (i := 0) rfl))
  have O8 := O7.wr W8 g_a
  refine OGo.st (B := T8.setTop (mkF m 33 #[.val (.ref a), .val (.long q1), .second, .val (.long q2), .second, .val (.long q3), .second] [])) st8 ?_
  refine OGo.st (B := T8.setTop (mkF m 34 #[.val (.ref a), .val (.long q1), .second, .val (.long q2), .second, .val (.long q3), .second] [(.ref a)])) (fun _ kz => XS.aloadN X8.here hx rfl (hb hby d43_33) rfl rfl kz) ?_
  refine OGo.st (B := T8.setTop (mkF m 36 #[.val (.ref a), .val (.long q1), .second, .val (.long q2), .second, .val (.long q3), .second] [(.long q3), (.ref a)])) (fun _ kz => XS.lload X8.here hx rfl (hb hby d43_34) rfl kz) ?_
  obtain ⟨T9, h9, X9, e9, W9, st9⟩ := putF X8 hx hZ hown (host := "") (Or.inl (hw _ (List.mem_of_getElem? (i := 73) rfl))) Via.refl e8 ((((((G_burst.keep J2 nin0).keep J3 nin0).keep J4 nin0).keep J5 nin0).other W7 (Or.inr (slot_ne (Or.inr (hw _ (List.mem_of_getElem? (i := 74) rfl))) (Or.inr (hw _ (List.mem_of_getElem? (i := 70) rfl))) (by decide) (t := .long) (t' := .long) (by decide) (by decide)))).other W8 (Or.inr (slot_ne (Or.inr (hw _ (List.mem_of_getElem? (i := 74) rfl))) (Or.inr (hw _ (List.mem_of_getElem? (i := 72) rfl))) (by decide) (t := .long) (t' := .long) (by decide) (by decide)))) ((((((E_a.keep J2).keep J3).keep J4).keep J5).wr W7).wr W8) (Or.inr ⟨(hw _ (List.mem_of_getElem? (i := 74) rfl)), rfl, hnm⟩) (hw _ (List.mem_of_getElem? (i := 3) rfl)) (ty := .long) (by decide) rfl rfl (g := (mkF m 36 #[.val (.ref a), .val (.long q1), .second, .val (.long q2), .second, .val (.long q3), .second] [(.long q3), (.ref a)])) rfl rfl (hb hby d43_36)
  have F9_burst := ((((((G_burst.keep J2 nin0).keep J3 nin0).keep J4 nin0).keep J5 nin0).other W7 (Or.inr (slot_ne (Or.inr (hw _ (List.mem_of_getElem? (i := 74) rfl))) (Or.inr (hw _ (List.mem_of_getElem? (i := 70) rfl))) (by decide) (t := .long) (t' := .long) (by decide) (by decide)))).other W8 (Or.inr (slot_ne (Or.inr (hw _ (List.mem_of_getElem? (i := 74) rfl))) (Or.inr (hw _ (List.mem_of_getElem? (i := 72) rfl))) (by decide) (t := .long) (t' := .long) (by decide) (by decide)))).same W9
  have N9 := Fr.snoc X9 N8 g_a
  have K9 : Keep h0 h9 [a] := K8.wr W9 (Or.inl (List.mem_of_getElem? (i := 0) rfl))
  have O9 := O8.wr W9 g_a
  refine OGo.st (B := T9.setTop (mkF m 39 #[.val (.ref a), .val (.long q1), .second, .val (.long q2), .second, .val (.long q3), .second] [])) st9 ?_
  exact own_ret0 X9 hx hret hlk (hb hby d43_39) (by rw [e9]; exact ⟨rfl, N9, K9, (((((((E_a.keep J2).keep J3).keep J4).keep J5).wr W7).wr W8).wr W9), ((F7_rate.other W8 (Or.inr (slot_ne (Or.inr (hw _ (List.mem_of_getElem? (i := 70) rfl))) (Or.inr (hw _ (List.mem_of_getElem? (i := 72) rfl))) (by decide) (t := .long) (t' := .long) (by decide) (by decide)))).other W9 (Or.inr (slot_ne (Or.inr (hw _ (List.mem_of_getElem? (i := 70) rfl))) (Or.inr (hw _ (List.mem_of_getElem? (i := 74) rfl))) (by decide) (t := .long) (t' := .long) (by decide) (by decide)))), (F8_periodMs.other W9 (Or.inr (slot_ne (Or.inr (hw _ (List.mem_of_getElem? (i := 72) rfl))) (Or.inr (hw _ (List.mem_of_getElem? (i := 74) rfl))) (by decide) (t := .long) (t' := .long) (by decide) (by decide)))), F9_burst⟩) (by decide) (by decide)
theorem d60_0 : decode prog_18_method_6_code 0 = .ok (.aload_n 0, 1) := by decide +kernel
theorem d60_1 : decode prog_18_method_6_code 1 = .ok (.getfield 25, 3) := by decide +kernel
theorem d60_4 : decode prog_18_method_6_code 4 = .ok (.l2d, 1) := by decide +kernel
theorem d60_5 : decode prog_18_method_6_code 5 = .ok (.ldc2_w 63, 3) := by decide +kernel
theorem d60_8 : decode prog_18_method_6_code 8 = .ok (.dmul, 1) := by decide +kernel
theorem d60_9 : decode prog_18_method_6_code 9 = .ok (.aload_n 0, 1) := by decide +kernel
theorem d60_10 : decode prog_18_method_6_code 10 = .ok (.getfield 29, 3) := by decide +kernel
theorem d60_13 : decode prog_18_method_6_code 13 = .ok (.l2d, 1) := by decide +kernel
theorem d60_14 : decode prog_18_method_6_code 14 = .ok (.ddiv, 1) := by decide +kernel
theorem d60_15 : decode prog_18_method_6_code 15 = .ok (.dreturn, 1) := by decide +kernel
theorem ef_rm60 (m : MethodId) (x0 : Addr) : entryFrame m #[(.ref x0)] 1 = mkF m 0 #[.val (.ref x0)] [] := by first | (simp [entryFrame, mkF, argsToLocals, Value.category]; done) | rfl
set_option maxRecDepth 65536 in
set_option maxHeartbeats 40000000 in
theorem rm60 (l : Launch) (Z : State) (a0 : Array Value) (hw : ∀ d ∈ tables_1, d.before a0 Z = true) (a : Addr) (q1 q2 : Int64) (h0 : Heap) (n0 : Nat) (F : Fld Z h0 a "com/example/narrow_gate/narrowgate/Limit" "rate" "J" (.long q1)) (G : Fld Z h0 a "com/example/narrow_gate/narrowgate/Limit" "periodMs" "J" (.long q2)) (hq : 0 < q1.toInt) (hp : 0 < q2.toInt) :
    OMet l Z (⟨"com/example/narrow_gate/narrowgate/Limit", "tokensPerSecond", "()D"⟩ : MethodName) prog_18_method_6_code 1 (some .double) [] ({ frames := 0, cells := 0, slots := 0, locals := 0 } : Room) #[(.ref a)] h0 (OPure (some (.double (own_T q1 q2))) h0 n0) := by
  refine OMet.of (plainFor_of_name pn_com_example_narrow_gate_narrowgate_Limit) ?_
  intro p e s m below meth c s₁ hx hby hml hnd hown hnm hret hlk hZ X0 e0
  replace hown : s.vm.findClass "com/example/narrow_gate/narrowgate/Limit" = some m.cls := hown
  replace hml : c.maxLocals = 1 := hml
  have N0 := Fr.nil n0
  rw [ef_rm60 m a]
  refine OGo.st (B := s₁.setTop (mkF m 1 #[.val (.ref a)] [(.ref a)])) (fun _ kz => XS.aloadN X0.here hx rfl (hb hby d60_0) rfl rfl kz) ?_
  obtain ⟨T1, X1, e1, st1⟩ := getF X0 hx hZ hown (host := "") (Or.inl (hw _ (List.mem_of_getElem? (i := 69) rfl))) Via.refl e0 F (g := (mkF m 1 #[.val (.ref a)] [(.ref a)])) rfl rfl (hb hby d60_1)
  refine OGo.st (B := T1.setTop (mkF m 4 #[.val (.ref a)] [(.long q1)])) st1 ?_
  refine OGo.st (B := T1.setTop (mkF m 5 #[.val (.ref a)] [(.double (FP.l2d q1))])) (fun _ kz => XS.l2dS X1.here hx rfl (hb hby d60_4) rfl rfl kz) ?_
  refine OGo.st (B := T1.setTop (mkF m 8 #[.val (.ref a)] [(.double (4652007308841189376 : UInt64)), (.double (FP.l2d q1))])) (X1.ldc2DoubleC hx hown (mvT hZ (hw _ (List.mem_of_getElem? (i := 81) rfl))) (g := (mkF m 5 #[.val (.ref a)] [(.double (FP.l2d q1))])) rfl (hb hby d60_5)) ?_
  refine OGo.st (B := T1.setTop (mkF m 9 #[.val (.ref a)] [(.double (FP.dmul (FP.l2d q1) (4652007308841189376 : UInt64)))])) (fun _ kz => XS.dmulS X1.here hx rfl (hb hby d60_8) rfl (own_nn1 q1) rfl kz) ?_
  refine OGo.st (B := T1.setTop (mkF m 10 #[.val (.ref a)] [(.ref a), (.double (FP.dmul (FP.l2d q1) (4652007308841189376 : UInt64)))])) (fun _ kz => XS.aloadN X1.here hx rfl (hb hby d60_9) rfl rfl kz) ?_
  obtain ⟨T2, X2, e2, st2⟩ := getF X1 hx hZ hown (host := "") (Or.inl (hw _ (List.mem_of_getElem? (i := 71) rfl))) Via.refl e1 G (g := (mkF m 10 #[.val (.ref a)] [(.ref a), (.double (FP.dmul (FP.l2d q1) (4652007308841189376 : UInt64)))])) rfl rfl (hb hby d60_10)
  refine OGo.st (B := T2.setTop (mkF m 13 #[.val (.ref a)] [(.long q2), (.double (FP.dmul (FP.l2d q1) (4652007308841189376 : UInt64)))])) st2 ?_
  refine OGo.st (B := T2.setTop (mkF m 14 #[.val (.ref a)] [(.double (FP.l2d q2)), (.double (FP.dmul (FP.l2d q1) (4652007308841189376 : UInt64)))])) (fun _ kz => XS.l2dS X2.here hx rfl (hb hby d60_13) rfl rfl kz) ?_
  refine OGo.st (B := T2.setTop (mkF m 15 #[.val (.ref a)] [(.double (FP.ddiv (FP.dmul (FP.l2d q1) (4652007308841189376 : UInt64)) (FP.l2d q2)))])) (fun _ kz => XS.ddivS X2.here hx rfl (hb hby d60_14) rfl (own_okn (own_T_ok hq hp)) rfl kz) ?_
  exact own_retD X2 hx hret hlk (hb hby d60_15) ⟨rfl, N0, e2⟩ (by decide) (by decide)
theorem pd_0 : parseMethodDescriptor "(JJJ)V" = some ⟨[.long, .long, .long], none⟩ := by decide +kernel
theorem pd_7 : parseMethodDescriptor "()D" = some ⟨[], some .double⟩ := by decide +kernel
theorem pd_8 : parseMethodDescriptor "(JJ)J" = some ⟨[.long, .long], some .long⟩ := by decide +kernel
theorem pn_com_example_narrow_gate_narrowgate_LimitTokensPerSecondPinLaw : plainName "com/example/narrow_gate/narrowgate/LimitTokensPerSecondPinLaw" = true := by first | (simp [plainName, overriddenIn]; done) | decide +kernel
theorem ef_rm0 (m : MethodId) (x0 : Int64) (x1 : Int64) (x2 : Int32) (x3 : Int32) (x4 : Int64) (x5 : Int64) : entryFrame m #[(.long x0), (.long x1), (.int x2), (.int x3), (.long x4), (.long x5)] maxLocals = mkF m 0 #[.val (.long x0), .second, .val (.long x1), .second, .val (.int x2), .val (.int x3), .val (.long x4), .second, .val (.long x5), .second, .unset, .unset, .unset, .unset, .unset, .unset, .unset, .unset, .unset, .unset, .unset, .unset, .unset, .unset, .unset, .unset, .unset, .unset, .unset, .unset, .unset, .unset, .unset, .unset, .unset] [] := by first | (simp [entryFrame, mkF, argsToLocals, Value.category, maxLocals]; done) | rfl
set_option maxRecDepth 65536 in
set_option maxHeartbeats 40000000 in
theorem rm0 (l : Launch) (Z : State) (a0 : Array Value) (hw : ∀ d ∈ tables_1, d.before a0 Z = true) (q0 q1 : Int64) (i2 i3 : Int32) (q4 q5 : Int64) (h0 : Heap) (n0 : Nat) (Z0 : n0 ≤ h0.size) (O0 : Old Z n0 h0) (ca : Addr) (cc : Cell) (S_cache : Sta Z Z.heap "java/lang/Long$LongCache" "cache" "[Ljava/lang/Long;" (.ref ca)) (BX : Bxs Z ca cc "java/lang/Long" "J" 256 (fun j => .long (j - 128).toInt64)) (de : Addr) (S_dflt : Sta Z Z.heap "java/util/ArrayList" "DEFAULTCAPACITY_EMPTY_ELEMENTDATA" "[Ljava/lang/Object;" (.ref de)) :
    OMet l Z x code maxLocals ret tables_1 room_1 #[(.long q0), (.long q1), (.int i2), (.int i3), (.long q4), (.long q5)] h0 (fun v _ L => v = some (.int (1 : Int32)) ∧ Fr n0 L) := by
  refine OMet.of (plainFor_of_name pn_com_example_narrow_gate_narrowgate_LimitTokensPerSecondPinLaw) ?_
  intro p e s m below meth c s₁ hx hby hml hnd hown hnm hret hlk hZ X0 e0
  replace hown : s.vm.findClass "com/example/narrow_gate/narrowgate/LimitTokensPerSecondPinLaw" = some m.cls := hown
  replace hml : c.maxLocals = 35 := hml
  have N0 := Fr.nil n0
  replace hret : meth.sig.returnType = some .boolean := hret
  rw [ef_rm0 m q0 q1 i2 i3 q4 q5]
  refine OGo.st (B := s₁.setTop (mkF m 1 #[.val (.long q0), .second, .val (.long q1), .second, .val (.int i2), .val (.int i3), .val (.long q4), .second, .val (.long q5), .second, .unset, .unset, .unset, .unset, .unset, .unset, .unset, .unset, .unset, .unset, .unset, .unset, .unset, .unset, .unset, .unset, .unset, .unset, .unset, .unset, .unset, .unset, .unset, .unset, .unset] [(.long q0)])) (fun _ kz => XS.lloadN X0.here hx rfl (hb hby at_0) rfl kz) ?_
  refine OGo.st (B := s₁.setTop (mkF m 4 #[.val (.long q0), .second, .val (.long q1), .second, .val (.int i2), .val (.int i3), .val (.long q4), .second, .val (.long q5), .second, .unset, .unset, .unset, .unset, .unset, .unset, .unset, .unset, .unset, .unset, .unset, .unset, .unset, .unset, .unset, .unset, .unset, .unset, .unset, .unset, .unset, .unset, .unset, .unset, .unset] [(.long (8388607 : Int64)), (.long q0)])) (X0.ldc2Long hx hown (mvT hZ (hw _ (List.mem_of_getElem? (i := 0) rfl))) (g := (mkF m 1 #[.val (.long q0), .second, .val (.long q1), .second, .val (.int i2), .val (.int i3), .val (.long q4), .second, .val (.long q5), .second, .unset, .unset, .unset, .unset, .unset, .unset, .unset, .unset, .unset, .unset, .unset, .unset, .unset, .unset, .unset, .unset, .unset, .unset, .unset, .unset, .unset, .unset, .unset, .unset, .unset] [(.long q0)])) rfl (hb hby at_1)) ?_
  refine OGo.st (B := s₁.setTop (mkF m 5 #[.val (.long q0), .second, .val (.long q1), .second, .val (.int i2), .val (.int i3), .val (.long q4), .second, .val (.long q5), .second, .unset, .unset, .unset, .unset, .unset, .unset, .unset, .unset, .unset, .unset, .unset, .unset, .unset, .unset, .unset, .unset, .unset, .unset, .unset, .unset, .unset, .unset, .unset, .unset, .unset] [(.long (q0 &&& (8388607 : Int64)))])) (fun _ kz => XS.land X0.here hx rfl (hb hby at_4) rfl kz) ?_
  refine OGo.st (B := s₁.setTop (mkF m 6 #[.val (.long q0), .second, .val (.long q1), .second, .val (.int i2), .val (.int i3), .val (.long q4), .second, .val (.long q5), .second, .unset, .unset, .unset, .unset, .unset, .unset, .unset, .unset, .unset, .unset, .unset, .unset, .unset, .unset, .unset, .unset, .unset, .unset, .unset, .unset, .unset, .unset, .unset, .unset, .unset] [(.long (1 : Int64)), (.long (q0 &&& (8388607 : Int64)))])) (fun _ kz => XS.lconst X0.here hx rfl (hb hby at_5) kz) ?_
  refine OGo.st (B := s₁.setTop (mkF m 7 #[.val (.long q0), .second, .val (.long q1), .second, .val (.int i2), .val (.int i3), .val (.long q4), .second, .val (.long q5), .second, .unset, .unset, .unset, .unset, .unset, .unset, .unset, .unset, .unset, .unset, .unset, .unset, .unset, .unset, .unset, .unset, .unset, .unset, .unset, .unset, .unset, .unset, .unset, .unset, .unset] [(.long ((q0 &&& (8388607 : Int64)) + (1 : Int64)))])) (fun _ kz => XS.ladd X0.here hx rfl (hb hby at_6) rfl kz) ?_
  obtain ⟨rt, h_rt⟩ : ∃ z, ((q0 &&& (8388607 : Int64)) + (1 : Int64)) = z := ⟨_, rfl⟩
  rw [h_rt]
  have f_rt := own_rt _ _ h_rt
  refine OGo.st (B := s₁.setTop (mkF m 9 #[.val (.long q0), .second, .val (.long q1), .second, .val (.int i2), .val (.int i3), .val (.long q4), .second, .val (.long q5), .second, .val (.long rt), .second, .unset, .unset, .unset, .unset, .unset, .unset, .unset, .unset, .unset, .unset, .unset, .unset, .unset, .unset, .unset, .unset, .unset, .unset, .unset, .unset, .unset, .unset, .unset] [])) (fun _ kz => XS.lstore X0.here hx rfl (hb hby at_7) rfl (l' := #[.val (.long q0), .second, .val (.long q1), .second, .val (.int i2), .val (.int i3), .val (.long q4), .second, .val (.long q5), .second, .val (.long rt), .second, .unset, .unset, .unset, .unset, .unset, .unset, .unset, .unset, .unset, .unset, .unset, .unset, .unset, .unset, .unset, .unset, .unset, .unset, .unset, .unset, .unset, .unset, .unset]) rfl kz) ?_
  refine OGo.st (B := s₁.setTop (mkF m 11 #[.val (.long q0), .second, .val (.long q1), .second, .val (.int i2), .val (.int i3), .val (.long q4), .second, .val (.long q5), .second, .val (.long rt), .second, .unset, .unset, .unset, .unset, .unset, .unset, .unset, .unset, .unset, .unset, .unset, .unset, .unset, .unset, .unset, .unset, .unset, .unset, .unset, .unset, .unset, .unset, .unset] [(.int i2)])) (fun _ kz => XS.iload X0.here hx rfl (hb hby at_9) rfl kz) ?_
  refine OGo.st (B := s₁.setTop (mkF m 13 #[.val (.long q0), .second, .val (.long q1), .second, .val (.int i2), .val (.int i3), .val (.long q4), .second, .val (.long q5), .second, .val (.long rt), .second, .unset, .unset, .unset, .unset, .unset, .unset, .unset, .unset, .unset, .unset, .unset, .unset, .unset, .unset, .unset, .unset, .unset, .unset, .unset, .unset, .unset, .unset, .unset] [(.int (1048575 : Int32)), (.int i2)])) (X0.ldcInt hx hown (mvT hZ (hw _ (List.mem_of_getElem? (i := 1) rfl))) (g := (mkF m 11 #[.val (.long q0), .second, .val (.long q1), .second, .val (.int i2), .val (.int i3), .val (.long q4), .second, .val (.long q5), .second, .val (.long rt), .second, .unset, .unset, .unset, .unset, .unset, .unset, .unset, .unset, .unset, .unset, .unset, .unset, .unset, .unset, .unset, .unset, .unset, .unset, .unset, .unset, .unset, .unset, .unset] [(.int i2)])) rfl (hb hby at_11)) ?_
  refine OGo.st (B := s₁.setTop (mkF m 14 #[.val (.long q0), .second, .val (.long q1), .second, .val (.int i2), .val (.int i3), .val (.long q4), .second, .val (.long q5), .second, .val (.long rt), .second, .unset, .unset, .unset, .unset, .unset, .unset, .unset, .unset, .unset, .unset, .unset, .unset, .unset, .unset, .unset, .unset, .unset, .unset, .unset, .unset, .unset, .unset, .unset] [(.int (i2 &&& (1048575 : Int32)))])) (fun _ kz => XS.iand X0.here hx rfl (hb hby at_13) rfl kz) ?_
  refine OGo.st (B := s₁.setTop (mkF m 15 #[.val (.long q0), .second, .val (.long q1), .second, .val (.int i2), .val (.int i3), .val (.long q4), .second, .val (.long q5), .second, .val (.long rt), .second, .unset, .unset, .unset, .unset, .unset, .unset, .unset, .unset, .unset, .unset, .unset, .unset, .unset, .unset, .unset, .unset, .unset, .unset, .unset, .unset, .unset, .unset, .unset] [(.long ((i2 &&& (1048575 : Int32)).toInt64))])) (fun _ kz => XS.i2l X0.here hx rfl (hb hby at_14) rfl kz) ?_
  refine OGo.st (B := s₁.setTop (mkF m 16 #[.val (.long q0), .second, .val (.long q1), .second, .val (.int i2), .val (.int i3), .val (.long q4), .second, .val (.long q5), .second, .val (.long rt), .second, .unset, .unset, .unset, .unset, .unset, .unset, .unset, .unset, .unset, .unset, .unset, .unset, .unset, .unset, .unset, .unset, .unset, .unset, .unset, .unset, .unset, .unset, .unset] [(.long (1 : Int64)), (.long ((i2 &&& (1048575 : Int32)).toInt64))])) (fun _ kz => XS.lconst X0.here hx rfl (hb hby at_15) kz) ?_
  refine OGo.st (B := s₁.setTop (mkF m 17 #[.val (.long q0), .second, .val (.long q1), .second, .val (.int i2), .val (.int i3), .val (.long q4), .second, .val (.long q5), .second, .val (.long rt), .second, .unset, .unset, .unset, .unset, .unset, .unset, .unset, .unset, .unset, .unset, .unset, .unset, .unset, .unset, .unset, .unset, .unset, .unset, .unset, .unset, .unset, .unset, .unset] [(.long (((i2 &&& (1048575 : Int32)).toInt64) + (1 : Int64)))])) (fun _ kz => XS.ladd X0.here hx rfl (hb hby at_16) rfl kz) ?_
  obtain ⟨bs, h_bs⟩ : ∃ z, (((i2 &&& (1048575 : Int32)).toInt64) + (1 : Int64)) = z := ⟨_, rfl⟩
  rw [h_bs]
  have f_bs := own_bs _ _ h_bs
  refine OGo.st (B := s₁.setTop (mkF m 19 #[.val (.long q0), .second, .val (.long q1), .second, .val (.int i2), .val (.int i3), .val (.long q4), .second, .val (.long q5), .second, .val (.long rt), .second, .val (.long bs), .second, .unset, .unset, .unset, .unset, .unset, .unset, .unset, .unset, .unset, .unset, .unset, .unset, .unset, .unset, .unset, .unset, .unset, .unset, .unset, .unset, .unset] [])) (fun _ kz => XS.lstore X0.here hx rfl (hb hby at_17) rfl (l' := #[.val (.long q0), .second, .val (.long q1), .second, .val (.int i2), .val (.int i3), .val (.long q4), .second, .val (.long q5), .second, .val (.long rt), .second, .val (.long bs), .second, .unset, .unset, .unset, .unset, .unset, .unset, .unset, .unset, .unset, .unset, .unset, .unset, .unset, .unset, .unset, .unset, .unset, .unset, .unset, .unset, .unset]) rfl kz) ?_
  refine OGo.st (B := s₁.setTop (mkF m 21 #[.val (.long q0), .second, .val (.long q1), .second, .val (.int i2), .val (.int i3), .val (.long q4), .second, .val (.long q5), .second, .val (.long rt), .second, .val (.long bs), .second, .unset, .unset, .unset, .unset, .unset, .unset, .unset, .unset, .unset, .unset, .unset, .unset, .unset, .unset, .unset, .unset, .unset, .unset, .unset, .unset, .unset] [(.int i3)])) (fun _ kz => XS.iload X0.here hx rfl (hb hby at_19) rfl kz) ?_
  refine OGo.st (B := s₁.setTop (mkF m 23 #[.val (.long q0), .second, .val (.long q1), .second, .val (.int i2), .val (.int i3), .val (.long q4), .second, .val (.long q5), .second, .val (.long rt), .second, .val (.long bs), .second, .unset, .unset, .unset, .unset, .unset, .unset, .unset, .unset, .unset, .unset, .unset, .unset, .unset, .unset, .unset, .unset, .unset, .unset, .unset, .unset, .unset] [(.int (31 : Int32)), (.int i3)])) (fun _ kz => XS.bipush X0.here hx rfl (hb hby at_21) kz) ?_
  refine OGo.st (B := s₁.setTop (mkF m 24 #[.val (.long q0), .second, .val (.long q1), .second, .val (.int i2), .val (.int i3), .val (.long q4), .second, .val (.long q5), .second, .val (.long rt), .second, .val (.long bs), .second, .unset, .unset, .unset, .unset, .unset, .unset, .unset, .unset, .unset, .unset, .unset, .unset, .unset, .unset, .unset, .unset, .unset, .unset, .unset, .unset, .unset] [(.int (i3 &&& (31 : Int32)))])) (fun _ kz => XS.iand X0.here hx rfl (hb hby at_23) rfl kz) ?_
  obtain ⟨kk, h_kk⟩ : ∃ z, (i3 &&& (31 : Int32)) = z := ⟨_, rfl⟩
  rw [h_kk]
  obtain ⟨j, hj, f_kk⟩ := own_kk _ _ h_kk
  refine OGo.st (B := s₁.setTop (mkF m 26 #[.val (.long q0), .second, .val (.long q1), .second, .val (.int i2), .val (.int i3), .val (.long q4), .second, .val (.long q5), .second, .val (.long rt), .second, .val (.long bs), .second, .val (.int kk), .unset, .unset, .unset, .unset, .unset, .unset, .unset, .unset, .unset, .unset, .unset, .unset, .unset, .unset, .unset, .unset, .unset, .unset, .unset, .unset] [])) (fun _ kz => XS.istore X0.here hx rfl (hb hby at_24) rfl (l' := #[.val (.long q0), .second, .val (.long q1), .second, .val (.int i2), .val (.int i3), .val (.long q4), .second, .val (.long q5), .second, .val (.long rt), .second, .val (.long bs), .second, .val (.int kk), .unset, .unset, .unset, .unset, .unset, .unset, .unset, .unset, .unset, .unset, .unset, .unset, .unset, .unset, .unset, .unset, .unset, .unset, .unset, .unset]) rfl kz) ?_
  refine OGo.st (B := s₁.setTop (mkF m 28 #[.val (.long q0), .second, .val (.long q1), .second, .val (.int i2), .val (.int i3), .val (.long q4), .second, .val (.long q5), .second, .val (.long rt), .second, .val (.long bs), .second, .val (.int kk), .unset, .unset, .unset, .unset, .unset, .unset, .unset, .unset, .unset, .unset, .unset, .unset, .unset, .unset, .unset, .unset, .unset, .unset, .unset, .unset] [(.long bs)])) (fun _ kz => XS.lload X0.here hx rfl (hb hby at_26) rfl kz) ?_
  refine OGo.st (B := s₁.setTop (mkF m 30 #[.val (.long q0), .second, .val (.long q1), .second, .val (.int i2), .val (.int i3), .val (.long q4), .second, .val (.long q5), .second, .val (.long rt), .second, .val (.long bs), .second, .val (.int kk), .unset, .unset, .unset, .unset, .unset, .unset, .unset, .unset, .unset, .unset, .unset, .unset, .unset, .unset, .unset, .unset, .unset, .unset, .unset, .unset] [(.int kk), (.long bs)])) (fun _ kz => XS.iload X0.here hx rfl (hb hby at_28) rfl kz) ?_
  refine OGo.st (B := s₁.setTop (mkF m 31 #[.val (.long q0), .second, .val (.long q1), .second, .val (.int i2), .val (.int i3), .val (.long q4), .second, .val (.long q5), .second, .val (.long rt), .second, .val (.long bs), .second, .val (.int kk), .unset, .unset, .unset, .unset, .unset, .unset, .unset, .unset, .unset, .unset, .unset, .unset, .unset, .unset, .unset, .unset, .unset, .unset, .unset, .unset] [(.long (bs <<< (kk &&& 0x3f).toInt64))])) (fun _ kz => XS.lshl X0.here hx rfl (hb hby at_30) rfl kz) ?_
  obtain ⟨sh, h_sh⟩ : ∃ z, (bs <<< (kk &&& 0x3f).toInt64) = z := ⟨_, rfl⟩
  rw [h_sh]
  have f_sh := own_sl _ _ _ j hj f_kk f_bs.1 f_bs.2 h_sh
  refine OGo.st (B := s₁.setTop (mkF m 33 #[.val (.long q0), .second, .val (.long q1), .second, .val (.int i2), .val (.int i3), .val (.long q4), .second, .val (.long q5), .second, .val (.long rt), .second, .val (.long bs), .second, .val (.int kk), .val (.long sh), .second, .unset, .unset, .unset, .unset, .unset, .unset, .unset, .unset, .unset, .unset, .unset, .unset, .unset, .unset, .unset, .unset, .unset, .unset] [])) (fun _ kz => XS.lstore X0.here hx rfl (hb hby at_31) rfl (l' := #[.val (.long q0), .second, .val (.long q1), .second, .val (.int i2), .val (.int i3), .val (.long q4), .second, .val (.long q5), .second, .val (.long rt), .second, .val (.long bs), .second, .val (.int kk), .val (.long sh), .second, .unset, .unset, .unset, .unset, .unset, .unset, .unset, .unset, .unset, .unset, .unset, .unset, .unset, .unset, .unset, .unset, .unset, .unset]) rfl kz) ?_
  obtain ⟨T1, h1, X1, e1, E1, A1, D1, U1, st1⟩ := newO X0 hx hZ hown (hw _ (List.mem_of_getElem? (i := 2) rfl)) (hw _ (List.mem_of_getElem? (i := 3) rfl)) (hw _ (List.mem_of_getElem? (i := 4) rfl)) e0 (g := (mkF m 33 #[.val (.long q0), .second, .val (.long q1), .second, .val (.int i2), .val (.int i3), .val (.long q4), .second, .val (.long q5), .second, .val (.long rt), .second, .val (.long bs), .second, .val (.int kk), .val (.long sh), .second, .unset, .unset, .unset, .unset, .unset, .unset, .unset, .unset, .unset, .unset, .unset, .unset, .unset, .unset, .unset, .unset, .unset, .unset] [])) rfl (hb hby at_33) (by decide) (by decide)
  obtain ⟨oa, g1⟩ : ∃ z, z = h0.size := ⟨_, rfl⟩
  rw [← g1] at A1 D1 st1
  have g_oa : n0 ≤ oa := Nat.le_trans Z0 (Nat.le_trans (Keep.refl h0 []).1 (Nat.le_of_eq g1.symm))
  have sz_oa : h0.size ≤ oa := Nat.le_trans (Keep.refl h0 []).1 (Nat.le_of_eq g1.symm)
  have K1 : Keep h0 h1 [] := (Keep.refl h0 []).ext E1
  have O1 := O0.ext E1
  have F1_rate : Fld Z h1 oa "com/example/narrow_gate/narrowgate/Limit" "rate" "J" (.long (0 : Int64)) := D1 (Or.inr (hw _ (List.mem_of_getElem? (i := 70) rfl))) (ty := .long) (by decide)
  have F1_periodMs : Fld Z h1 oa "com/example/narrow_gate/narrowgate/Limit" "periodMs" "J" (.long (0 : Int64)) := D1 (Or.inr (hw _ (List.mem_of_getElem? (i := 72) rfl))) (ty := .long) (by decide)
  have F1_burst : Fld Z h1 oa "com/example/narrow_gate/narrowgate/Limit" "burst" "J" (.long (0 : Int64)) := D1 (Or.inr (hw _ (List.mem_of_getElem? (i := 74) rfl))) (ty := .long) (by decide)
  refine OGo.st (B := T1.setTop (mkF m 36 #[.val (.long q0), .second, .val (.long q1), .second, .val (.int i2), .val (.int i3), .val (.long q4), .second, .val (.long q5), .second, .val (.long rt), .second, .val (.long bs), .second, .val (.int kk), .val (.long sh), .second, .unset, .unset, .unset, .unset, .unset, .unset, .unset, .unset, .unset, .unset, .unset, .unset, .unset, .unset, .unset, .unset, .unset, .unset] [(.ref oa)])) st1 ?_
  refine OGo.st (B := T1.setTop (mkF m 37 #[.val (.long q0), .second, .val (.long q1), .second, .val (.int i2), .val (.int i3), .val (.long q4), .second, .val (.long q5), .second, .val (.long rt), .second, .val (.long bs), .second, .val (.int kk), .val (.long sh), .second, .unset, .unset, .unset, .unset, .unset, .unset, .unset, .unset, .unset, .unset, .unset, .unset, .unset, .unset, .unset, .unset, .unset, .unset] [(.ref oa), (.ref oa)])) (fun _ kz => XS.dup X1.here hx rfl (hb hby at_36) rfl rfl kz) ?_
  refine OGo.st (B := T1.setTop (mkF m 39 #[.val (.long q0), .second, .val (.long q1), .second, .val (.int i2), .val (.int i3), .val (.long q4), .second, .val (.long q5), .second, .val (.long rt), .second, .val (.long bs), .second, .val (.int kk), .val (.long sh), .second, .unset, .unset, .unset, .unset, .unset, .unset, .unset, .unset, .unset, .unset, .unset, .unset, .unset, .unset, .unset, .unset, .unset, .unset] [(.long bs), (.ref oa), (.ref oa)])) (fun _ kz => XS.lload X1.here hx rfl (hb hby at_37) rfl kz) ?_
  refine OGo.st (B := T1.setTop (mkF m 41 #[.val (.long q0), .second, .val (.long q1), .second, .val (.int i2), .val (.int i3), .val (.long q4), .second, .val (.long q5), .second, .val (.long rt), .second, .val (.long bs), .second, .val (.int kk), .val (.long sh), .second, .unset, .unset, .unset, .unset, .unset, .unset, .unset, .unset, .unset, .unset, .unset, .unset, .unset, .unset, .unset, .unset, .unset, .unset] [(.long rt), (.long bs), (.ref oa), (.ref oa)])) (fun _ kz => XS.lload X1.here hx rfl (hb hby at_39) rfl kz) ?_
  refine OGo.st (B := T1.setTop (mkF m 42 #[.val (.long q0), .second, .val (.long q1), .second, .val (.int i2), .val (.int i3), .val (.long q4), .second, .val (.long q5), .second, .val (.long rt), .second, .val (.long bs), .second, .val (.int kk), .val (.long sh), .second, .unset, .unset, .unset, .unset, .unset, .unset, .unset, .unset, .unset, .unset, .unset, .unset, .unset, .unset, .unset, .unset, .unset, .unset] [(.long (bs * rt)), (.ref oa), (.ref oa)])) (fun _ kz => XS.lmul X1.here hx rfl (hb hby at_41) rfl kz) ?_
  obtain ⟨nn, h_nn⟩ : ∃ z, (bs * rt) = z := ⟨_, rfl⟩
  rw [h_nn]
  have f_nn := own_nm _ _ _ f_bs.1 f_bs.2 f_rt.1 f_rt.2 h_nn
  refine OGo.st (B := T1.setTop (mkF m 44 #[.val (.long q0), .second, .val (.long q1), .second, .val (.int i2), .val (.int i3), .val (.long q4), .second, .val (.long q5), .second, .val (.long rt), .second, .val (.long bs), .second, .val (.int kk), .val (.long sh), .second, .unset, .unset, .unset, .unset, .unset, .unset, .unset, .unset, .unset, .unset, .unset, .unset, .unset, .unset, .unset, .unset, .unset, .unset] [(.long sh), (.long nn), (.ref oa), (.ref oa)])) (fun _ kz => XS.lload X1.here hx rfl (hb hby at_42) rfl kz) ?_
  refine OGo.st (B := T1.setTop (mkF m 45 #[.val (.long q0), .second, .val (.long q1), .second, .val (.int i2), .val (.int i3), .val (.long q4), .second, .val (.long q5), .second, .val (.long rt), .second, .val (.long bs), .second, .val (.int kk), .val (.long sh), .second, .unset, .unset, .unset, .unset, .unset, .unset, .unset, .unset, .unset, .unset, .unset, .unset, .unset, .unset, .unset, .unset, .unset, .unset] [(.long (1 : Int64)), (.long sh), (.long nn), (.ref oa), (.ref oa)])) (fun _ kz => XS.lconst X1.here hx rfl (hb hby at_44) kz) ?_
  have f_s3 : sh.toInt ≤ 9007199254740992 := Int.le_trans f_sh.2.2 (by decide)
  obtain ⟨v2, T2, L2, X2, hQ2, st2⟩ := (rm43 l Z a0 hw oa nn sh (1 : Int64) h1 n0 (Nat.le_trans Z0 K1.1) O1 ca cc S_cache BX de S_dflt A1 g_oa F1_rate F1_periodMs F1_burst (own_lt1 f_nn.2.1) (own_lt1 f_sh.2.1) (by decide) (own_cap1 _ f_sh.2.1 f_s3)).init (W := 1) X1 hx hZ rfl hown (hw _ (List.mem_of_getElem? (i := 5) rfl)) (hw _ (List.mem_of_getElem? (i := 6) rfl)) (hw _ (List.mem_of_getElem? (i := 4) rfl)) (hw _ (List.mem_of_getElem? (i := 7) rfl)) (by decide) (by decide) (by decide) e1 (by decide) (by decide) (g := (mkF m 45 #[.val (.long q0), .second, .val (.long q1), .second, .val (.int i2), .val (.int i3), .val (.long q4), .second, .val (.long q5), .second, .val (.long rt), .second, .val (.long bs), .second, .val (.int kk), .val (.long sh), .second, .unset, .unset, .unset, .unset, .unset, .unset, .unset, .unset, .unset, .unset, .unset, .unset, .unset, .unset, .unset, .unset, .unset, .unset] [(.long (1 : Int64)), (.long sh), (.long nn), (.ref oa), (.ref oa)])) rfl (by rw [hml]; rfl) (argsL := [(.long nn), (.long sh), (.long (1 : Int64))]) (rest := [(.ref oa)]) rfl (lenOf pd_0 rfl) rfl (by show 2 * 0 + _ ≤ _; exact Nat.le_of_eq rfl) (hb hby at_45)
  obtain ⟨rfl, N2q, J2, Y2_0, Y2_1, Y2_2, Y2_3⟩ := hQ2
  have N2 := Fr.app N0 N2q
  have K2 : Keep h0 T2.heap [] := K1.trans J2 (allS (Or.inr sz_oa) all0)
  have O2 := O1.keep J2 (allS g_oa all0)
  refine OGo.st (B := T2.setTop (mkF m 48 #[.val (.long q0), .second, .val (.long q1), .second, .val (.int i2), .val (.int i3), .val (.long q4), .second, .val (.long q5), .second, .val (.long rt), .second, .val (.long bs), .second, .val (.int kk), .val (.long sh), .second, .unset, .unset, .unset, .unset, .unset, .unset, .unset, .unset, .unset, .unset, .unset, .unset, .unset, .unset, .unset, .unset, .unset, .unset] [(.ref oa)])) st2 ?_
  refine OGo.st (B := T2.setTop (mkF m 50 #[.val (.long q0), .second, .val (.long q1), .second, .val (.int i2), .val (.int i3), .val (.long q4), .second, .val (.long q5), .second, .val (.long rt), .second, .val (.long bs), .second, .val (.int kk), .val (.long sh), .second, .val (.ref oa), .unset, .unset, .unset, .unset, .unset, .unset, .unset, .unset, .unset, .unset, .unset, .unset, .unset, .unset, .unset, .unset, .unset] [])) (fun _ kz => XS.astore X2.here hx rfl (hb hby at_48) rfl rfl (l' := #[.val (.long q0), .second, .val (.long q1), .second, .val (.int i2), .val (.int i3), .val (.long q4), .second, .val (.long q5), .second, .val (.long rt), .second, .val (.long bs), .second, .val (.int kk), .val (.long sh), .second, .val (.ref oa), .unset, .unset, .unset, .unset, .unset, .unset, .unset, .unset, .unset, .unset, .unset, .unset, .unset, .unset, .unset, .unset, .unset]) rfl kz) ?_
  refine OGo.st (B := T2.setTop (mkF m 53 #[.val (.long q0), .second, .val (.long q1), .second, .val (.int i2), .val (.int i3), .val (.long q4), .second, .val (.long q5), .second, .val (.long rt), .second, .val (.long bs), .second, .val (.int kk), .val (.long sh), .second, .val (.ref oa), .unset, .unset, .unset, .unset, .unset, .unset, .unset, .unset, .unset, .unset, .unset, .unset, .unset, .unset, .unset, .unset, .unset] [(.long (1000 : Int64))])) (X2.ldc2Long hx hown (mvT hZ (hw _ (List.mem_of_getElem? (i := 75) rfl))) (g := (mkF m 50 #[.val (.long q0), .second, .val (.long q1), .second, .val (.int i2), .val (.int i3), .val (.long q4), .second, .val (.long q5), .second, .val (.long rt), .second, .val (.long bs), .second, .val (.int kk), .val (.long sh), .second, .val (.ref oa), .unset, .unset, .unset, .unset, .unset, .unset, .unset, .unset, .unset, .unset, .unset, .unset, .unset, .unset, .unset, .unset, .unset] [])) rfl (hb hby at_50)) ?_
  refine OGo.st (B := T2.setTop (mkF m 55 #[.val (.long q0), .second, .val (.long q1), .second, .val (.int i2), .val (.int i3), .val (.long q4), .second, .val (.long q5), .second, .val (.long rt), .second, .val (.long bs), .second, .val (.int kk), .val (.long sh), .second, .val (.ref oa), .unset, .unset, .unset, .unset, .unset, .unset, .unset, .unset, .unset, .unset, .unset, .unset, .unset, .unset, .unset, .unset, .unset] [(.long rt), (.long (1000 : Int64))])) (fun _ kz => XS.lload X2.here hx rfl (hb hby at_53) rfl kz) ?_
  refine OGo.st (B := T2.setTop (mkF m 56 #[.val (.long q0), .second, .val (.long q1), .second, .val (.int i2), .val (.int i3), .val (.long q4), .second, .val (.long q5), .second, .val (.long rt), .second, .val (.long bs), .second, .val (.int kk), .val (.long sh), .second, .val (.ref oa), .unset, .unset, .unset, .unset, .unset, .unset, .unset, .unset, .unset, .unset, .unset, .unset, .unset, .unset, .unset, .unset, .unset] [(.long ((1000 : Int64) * rt))])) (fun _ kz => XS.lmul X2.here hx rfl (hb hby at_55) rfl kz) ?_
  obtain ⟨aa, h_aa⟩ : ∃ z, ((1000 : Int64) * rt) = z := ⟨_, rfl⟩
  rw [h_aa]
  have f_aa := own_am _ _ f_rt.1 f_rt.2 h_aa
  refine OGo.st (B := T2.setTop (mkF m 57 #[.val (.long q0), .second, .val (.long q1), .second, .val (.int i2), .val (.int i3), .val (.long q4), .second, .val (.long q5), .second, .val (.long rt), .second, .val (.long bs), .second, .val (.int kk), .val (.long sh), .second, .val (.ref oa), .unset, .unset, .unset, .unset, .unset, .unset, .unset, .unset, .unset, .unset, .unset, .unset, .unset, .unset, .unset, .unset, .unset] [(.double (FP.l2d aa))])) (fun _ kz => XS.l2dS X2.here hx rfl (hb hby at_56) rfl rfl kz) ?_
  refine OGo.st (B := T2.setTop (mkF m 58 #[.val (.long q0), .second, .val (.long q1), .second, .val (.int i2), .val (.int i3), .val (.long q4), .second, .val (.long q5), .second, .val (.long rt), .second, .val (.long bs), .second, .val (.int kk), .val (.long sh), .second, .val (.ref oa), .unset, .unset, .unset, .unset, .unset, .unset, .unset, .unset, .unset, .unset, .unset, .unset, .unset, .unset, .unset, .unset, .unset] [(.long (1 : Int64)), (.double (FP.l2d aa))])) (fun _ kz => XS.lconst X2.here hx rfl (hb hby at_57) kz) ?_
  refine OGo.st (B := T2.setTop (mkF m 60 #[.val (.long q0), .second, .val (.long q1), .second, .val (.int i2), .val (.int i3), .val (.long q4), .second, .val (.long q5), .second, .val (.long rt), .second, .val (.long bs), .second, .val (.int kk), .val (.long sh), .second, .val (.ref oa), .unset, .unset, .unset, .unset, .unset, .unset, .unset, .unset, .unset, .unset, .unset, .unset, .unset, .unset, .unset, .unset, .unset] [(.int kk), (.long (1 : Int64)), (.double (FP.l2d aa))])) (fun _ kz => XS.iload X2.here hx rfl (hb hby at_58) rfl kz) ?_
  refine OGo.st (B := T2.setTop (mkF m 61 #[.val (.long q0), .second, .val (.long q1), .second, .val (.int i2), .val (.int i3), .val (.long q4), .second, .val (.long q5), .second, .val (.long rt), .second, .val (.long bs), .second, .val (.int kk), .val (.long sh), .second, .val (.ref oa), .unset, .unset, .unset, .unset, .unset, .unset, .unset, .unset, .unset, .unset, .unset, .unset, .unset, .unset, .unset, .unset, .unset] [(.long ((1 : Int64) <<< (kk &&& 0x3f).toInt64)), (.double (FP.l2d aa))])) (fun _ kz => XS.lshl X2.here hx rfl (hb hby at_60) rfl kz) ?_
  obtain ⟨dd, h_dd⟩ : ∃ z, ((1 : Int64) <<< (kk &&& 0x3f).toInt64) = z := ⟨_, rfl⟩
  rw [h_dd]
  have f_dd := own_sl _ _ _ j hj f_kk (by decide) (by decide) h_dd
  have f_d1 : dd.toInt = ((2 ^ j : Nat) : Int) := f_dd.1.trans (Int.one_mul _)
  have f_ex := own_exact f_nn.2.1 f_nn.2.2 f_sh.2.1 f_s3 f_aa.2.1 f_aa.2.2 f_dd.2.1 (Int.le_trans f_dd.2.2 (by decide)) (own_cross f_nn.1 f_sh.1 f_aa.1 f_d1)
  refine OGo.st (B := T2.setTop (mkF m 62 #[.val (.long q0), .second, .val (.long q1), .second, .val (.int i2), .val (.int i3), .val (.long q4), .second, .val (.long q5), .second, .val (.long rt), .second, .val (.long bs), .second, .val (.int kk), .val (.long sh), .second, .val (.ref oa), .unset, .unset, .unset, .unset, .unset, .unset, .unset, .unset, .unset, .unset, .unset, .unset, .unset, .unset, .unset, .unset, .unset] [(.double (FP.l2d dd)), (.double (FP.l2d aa))])) (fun _ kz => XS.l2dS X2.here hx rfl (hb hby at_61) rfl rfl kz) ?_
  refine OGo.st (B := T2.setTop (mkF m 63 #[.val (.long q0), .second, .val (.long q1), .second, .val (.int i2), .val (.int i3), .val (.long q4), .second, .val (.long q5), .second, .val (.long rt), .second, .val (.long bs), .second, .val (.int kk), .val (.long sh), .second, .val (.ref oa), .unset, .unset, .unset, .unset, .unset, .unset, .unset, .unset, .unset, .unset, .unset, .unset, .unset, .unset, .unset, .unset, .unset] [(.double (FP.ddiv (FP.l2d aa) (FP.l2d dd)))])) (fun _ kz => XS.ddivS X2.here hx rfl (hb hby at_62) rfl (own_okn f_ex.1) rfl kz) ?_
  refine OGo.st (B := T2.setTop (mkF m 65 #[.val (.long q0), .second, .val (.long q1), .second, .val (.int i2), .val (.int i3), .val (.long q4), .second, .val (.long q5), .second, .val (.long rt), .second, .val (.long bs), .second, .val (.int kk), .val (.long sh), .second, .val (.ref oa), .val (.double (FP.ddiv (FP.l2d aa) (FP.l2d dd))), .second, .unset, .unset, .unset, .unset, .unset, .unset, .unset, .unset, .unset, .unset, .unset, .unset, .unset, .unset, .unset] [])) (fun _ kz => XS.dstore X2.here hx rfl (hb hby at_63) rfl (l' := #[.val (.long q0), .second, .val (.long q1), .second, .val (.int i2), .val (.int i3), .val (.long q4), .second, .val (.long q5), .second, .val (.long rt), .second, .val (.long bs), .second, .val (.int kk), .val (.long sh), .second, .val (.ref oa), .val (.double (FP.ddiv (FP.l2d aa) (FP.l2d dd))), .second, .unset, .unset, .unset, .unset, .unset, .unset, .unset, .unset, .unset, .unset, .unset, .unset, .unset, .unset, .unset]) rfl kz) ?_
  refine OGo.st (B := T2.setTop (mkF m 67 #[.val (.long q0), .second, .val (.long q1), .second, .val (.int i2), .val (.int i3), .val (.long q4), .second, .val (.long q5), .second, .val (.long rt), .second, .val (.long bs), .second, .val (.int kk), .val (.long sh), .second, .val (.ref oa), .val (.double (FP.ddiv (FP.l2d aa) (FP.l2d dd))), .second, .unset, .unset, .unset, .unset, .unset, .unset, .unset, .unset, .unset, .unset, .unset, .unset, .unset, .unset, .unset] [(.ref oa)])) (fun _ kz => XS.aload X2.here hx rfl (hb hby at_65) rfl rfl kz) ?_
  obtain ⟨v3, T3, L3, X3, hQ3, st3⟩ := (rm60 l Z a0 hw oa nn sh T2.heap n0 Y2_1 Y2_2 f_nn.2.1 f_sh.2.1).virt (W := 0) X2 hx hZ hown (hw _ (List.mem_of_getElem? (i := 76) rfl)) (hw _ (List.mem_of_getElem? (i := 77) rfl)) (nf_sel hZ (hw _ (List.mem_of_getElem? (i := 79) rfl))) (hw _ (List.mem_of_getElem? (i := 79) rfl)) (hw _ (List.mem_of_getElem? (i := 78) rfl)) (hw _ (List.mem_of_getElem? (i := 4) rfl)) (hw _ (List.mem_of_getElem? (i := 80) rfl)) (by decide) (by decide) (by decide) rfl (by decide) (by decide) (g := (mkF m 67 #[.val (.long q0), .second, .val (.long q1), .second, .val (.int i2), .val (.int i3), .val (.long q4), .second, .val (.long q5), .second, .val (.long rt), .second, .val (.long bs), .second, .val (.int kk), .val (.long sh), .second, .val (.ref oa), .val (.double (FP.ddiv (FP.l2d aa) (FP.l2d dd))), .second, .unset, .unset, .unset, .unset, .unset, .unset, .unset, .unset, .unset, .unset, .unset, .unset, .unset, .unset, .unset] [(.ref oa)])) rfl (by rw [hml]; rfl) Y2_0 (argsL := []) (rest := []) rfl (lenOf pd_7 rfl) rfl (by show 2 * 0 + _ ≤ _; exact Nat.le_of_eq rfl) (hb hby at_67)
  obtain ⟨rfl, N3q, e3⟩ := hQ3
  have N3 := Fr.app N2 N3q
  refine OGo.st (B := T3.setTop (mkF m 70 #[.val (.long q0), .second, .val (.long q1), .second, .val (.int i2), .val (.int i3), .val (.long q4), .second, .val (.long q5), .second, .val (.long rt), .second, .val (.long bs), .second, .val (.int kk), .val (.long sh), .second, .val (.ref oa), .val (.double (FP.ddiv (FP.l2d aa) (FP.l2d dd))), .second, .unset, .unset, .unset, .unset, .unset, .unset, .unset, .unset, .unset, .unset, .unset, .unset, .unset, .unset, .unset] [(.double (own_T nn sh))])) st3 ?_
  refine OGo.st (B := T3.setTop (mkF m 72 #[.val (.long q0), .second, .val (.long q1), .second, .val (.int i2), .val (.int i3), .val (.long q4), .second, .val (.long q5), .second, .val (.long rt), .second, .val (.long bs), .second, .val (.int kk), .val (.long sh), .second, .val (.ref oa), .val (.double (FP.ddiv (FP.l2d aa) (FP.l2d dd))), .second, .unset, .unset, .unset, .unset, .unset, .unset, .unset, .unset, .unset, .unset, .unset, .unset, .unset, .unset, .unset] [(.double (FP.ddiv (FP.l2d aa) (FP.l2d dd))), (.double (own_T nn sh))])) (fun _ kz => XS.dload X3.here hx rfl (hb hby at_70) rfl kz) ?_
  refine OGo.st (B := T3.setTop (mkF m 73 #[.val (.long q0), .second, .val (.long q1), .second, .val (.int i2), .val (.int i3), .val (.long q4), .second, .val (.long q5), .second, .val (.long rt), .second, .val (.long bs), .second, .val (.int kk), .val (.long sh), .second, .val (.ref oa), .val (.double (FP.ddiv (FP.l2d aa) (FP.l2d dd))), .second, .unset, .unset, .unset, .unset, .unset, .unset, .unset, .unset, .unset, .unset, .unset, .unset, .unset, .unset, .unset] [(.int (0 : Int32))])) (fun _ kz => XS.dcmpS X3.here hx rfl (hb hby at_72) rfl f_ex.2 kz) ?_
  refine OGo.st (B := T3.setTop (mkF m 76 #[.val (.long q0), .second, .val (.long q1), .second, .val (.int i2), .val (.int i3), .val (.long q4), .second, .val (.long q5), .second, .val (.long rt), .second, .val (.long bs), .second, .val (.int kk), .val (.long sh), .second, .val (.ref oa), .val (.double (FP.ddiv (FP.l2d aa) (FP.l2d dd))), .second, .unset, .unset, .unset, .unset, .unset, .unset, .unset, .unset, .unset, .unset, .unset, .unset, .unset, .unset, .unset] [])) (fun _ kz => XS.ifNo X3.here hx rfl (hb hby at_73) rfl (by decide) kz) ?_
  refine OGo.st (B := T3.setTop (mkF m 77 #[.val (.long q0), .second, .val (.long q1), .second, .val (.int i2), .val (.int i3), .val (.long q4), .second, .val (.long q5), .second, .val (.long rt), .second, .val (.long bs), .second, .val (.int kk), .val (.long sh), .second, .val (.ref oa), .val (.double (FP.ddiv (FP.l2d aa) (FP.l2d dd))), .second, .unset, .unset, .unset, .unset, .unset, .unset, .unset, .unset, .unset, .unset, .unset, .unset, .unset, .unset, .unset] [(.int (1 : Int32))])) (fun _ kz => XS.iconst X3.here hx rfl (hb hby at_76) kz) ?_
  refine OGo.st (B := T3.setTop (mkF m 81 #[.val (.long q0), .second, .val (.long q1), .second, .val (.int i2), .val (.int i3), .val (.long q4), .second, .val (.long q5), .second, .val (.long rt), .second, .val (.long bs), .second, .val (.int kk), .val (.long sh), .second, .val (.ref oa), .val (.double (FP.ddiv (FP.l2d aa) (FP.l2d dd))), .second, .unset, .unset, .unset, .unset, .unset, .unset, .unset, .unset, .unset, .unset, .unset, .unset, .unset, .unset, .unset] [(.int (1 : Int32))])) (fun _ kz => XS.goto X3.here hx rfl (pc0 := 77) (pc' := 81) rfl (hb hby at_77) (by decide) (by decide) kz) ?_
  refine OGo.st (B := T3.setTop (mkF m 83 #[.val (.long q0), .second, .val (.long q1), .second, .val (.int i2), .val (.int i3), .val (.long q4), .second, .val (.long q5), .second, .val (.long rt), .second, .val (.long bs), .second, .val (.int kk), .val (.long sh), .second, .val (.ref oa), .val (.double (FP.ddiv (FP.l2d aa) (FP.l2d dd))), .second, .val (.int (1 : Int32)), .unset, .unset, .unset, .unset, .unset, .unset, .unset, .unset, .unset, .unset, .unset, .unset, .unset, .unset] [])) (fun _ kz => XS.istore X3.here hx rfl (hb hby at_81) rfl (l' := #[.val (.long q0), .second, .val (.long q1), .second, .val (.int i2), .val (.int i3), .val (.long q4), .second, .val (.long q5), .second, .val (.long rt), .second, .val (.long bs), .second, .val (.int kk), .val (.long sh), .second, .val (.ref oa), .val (.double (FP.ddiv (FP.l2d aa) (FP.l2d dd))), .second, .val (.int (1 : Int32)), .unset, .unset, .unset, .unset, .unset, .unset, .unset, .unset, .unset, .unset, .unset, .unset, .unset, .unset]) rfl kz) ?_
  refine OGo.st (B := T3.setTop (mkF m 84 #[.val (.long q0), .second, .val (.long q1), .second, .val (.int i2), .val (.int i3), .val (.long q4), .second, .val (.long q5), .second, .val (.long rt), .second, .val (.long bs), .second, .val (.int kk), .val (.long sh), .second, .val (.ref oa), .val (.double (FP.ddiv (FP.l2d aa) (FP.l2d dd))), .second, .val (.int (1 : Int32)), .unset, .unset, .unset, .unset, .unset, .unset, .unset, .unset, .unset, .unset, .unset, .unset, .unset, .unset] [(.long (1 : Int64))])) (fun _ kz => XS.lconst X3.here hx rfl (hb hby at_83) kz) ?_
  refine OGo.st (B := T3.setTop (mkF m 85 #[.val (.long q0), .second, .val (.long q1), .second, .val (.int i2), .val (.int i3), .val (.long q4), .second, .val (.long q5), .second, .val (.long rt), .second, .val (.long bs), .second, .val (.int kk), .val (.long sh), .second, .val (.ref oa), .val (.double (FP.ddiv (FP.l2d aa) (FP.l2d dd))), .second, .val (.int (1 : Int32)), .unset, .unset, .unset, .unset, .unset, .unset, .unset, .unset, .unset, .unset, .unset, .unset, .unset, .unset] [(.long q1), (.long (1 : Int64))])) (fun _ kz => XS.lloadN X3.here hx rfl (hb hby at_84) rfl kz) ?_
  refine OGo.st (B := T3.setTop (mkF m 88 #[.val (.long q0), .second, .val (.long q1), .second, .val (.int i2), .val (.int i3), .val (.long q4), .second, .val (.long q5), .second, .val (.long rt), .second, .val (.long bs), .second, .val (.int kk), .val (.long sh), .second, .val (.ref oa), .val (.double (FP.ddiv (FP.l2d aa) (FP.l2d dd))), .second, .val (.int (1 : Int32)), .unset, .unset, .unset, .unset, .unset, .unset, .unset, .unset, .unset, .unset, .unset, .unset, .unset, .unset] [(.long (9223372036854775807 : Int64)), (.long q1), (.long (1 : Int64))])) (X3.ldc2Long hx hown (mvT hZ (hw _ (List.mem_of_getElem? (i := 82) rfl))) (g := (mkF m 85 #[.val (.long q0), .second, .val (.long q1), .second, .val (.int i2), .val (.int i3), .val (.long q4), .second, .val (.long q5), .second, .val (.long rt), .second, .val (.long bs), .second, .val (.int kk), .val (.long sh), .second, .val (.ref oa), .val (.double (FP.ddiv (FP.l2d aa) (FP.l2d dd))), .second, .val (.int (1 : Int32)), .unset, .unset, .unset, .unset, .unset, .unset, .unset, .unset, .unset, .unset, .unset, .unset, .unset, .unset] [(.long q1), (.long (1 : Int64))])) rfl (hb hby at_85)) ?_
  refine OGo.st (B := T3.setTop (mkF m 89 #[.val (.long q0), .second, .val (.long q1), .second, .val (.int i2), .val (.int i3), .val (.long q4), .second, .val (.long q5), .second, .val (.long rt), .second, .val (.long bs), .second, .val (.int kk), .val (.long sh), .second, .val (.ref oa), .val (.double (FP.ddiv (FP.l2d aa) (FP.l2d dd))), .second, .val (.int (1 : Int32)), .unset, .unset, .unset, .unset, .unset, .unset, .unset, .unset, .unset, .unset, .unset, .unset, .unset, .unset] [(.long (q1 &&& (9223372036854775807 : Int64))), (.long (1 : Int64))])) (fun _ kz => XS.land X3.here hx rfl (hb hby at_88) rfl kz) ?_
  obtain ⟨r1, h_r1⟩ : ∃ r, (if (1 : Int64) < (q1 &&& (9223372036854775807 : Int64)) then (q1 &&& (9223372036854775807 : Int64)) else (1 : Int64)) = r := ⟨_, rfl⟩
  have f_r1 := own_mx _ _ h_r1
  obtain ⟨v4, T4, L4, X4, hQ4, st4⟩ := (rm1 l Z a0 hw (1 : Int64) (q1 &&& (9223372036854775807 : Int64)) r1 T2.heap n0 h_r1).static (W := 0) X3 hx hZ hown (hw _ (List.mem_of_getElem? (i := 83) rfl)) (hw _ (List.mem_of_getElem? (i := 84) rfl)) (hw _ (List.mem_of_getElem? (i := 85) rfl)) (hw _ (List.mem_of_getElem? (i := 86) rfl)) (by decide) (by decide) (by decide) e3 (by decide) (by decide) (g := (mkF m 89 #[.val (.long q0), .second, .val (.long q1), .second, .val (.int i2), .val (.int i3), .val (.long q4), .second, .val (.long q5), .second, .val (.long rt), .second, .val (.long bs), .second, .val (.int kk), .val (.long sh), .second, .val (.ref oa), .val (.double (FP.ddiv (FP.l2d aa) (FP.l2d dd))), .second, .val (.int (1 : Int32)), .unset, .unset, .unset, .unset, .unset, .unset, .unset, .unset, .unset, .unset, .unset, .unset, .unset, .unset] [(.long (q1 &&& (9223372036854775807 : Int64))), (.long (1 : Int64))])) rfl (by rw [hml]; rfl) (argsL := [(.long (1 : Int64)), (.long (q1 &&& (9223372036854775807 : Int64)))]) (rest := []) rfl (lenOf pd_8 rfl) rfl (by show 2 * 0 + _ ≤ _; exact Nat.le_of_eq rfl) (hb hby at_89)
  obtain ⟨rfl, N4q, e4⟩ := hQ4
  have N4 := Fr.app N3 N4q
  refine OGo.st (B := T4.setTop (mkF m 92 #[.val (.long q0), .second, .val (.long q1), .second, .val (.int i2), .val (.int i3), .val (.long q4), .second, .val (.long q5), .second, .val (.long rt), .second, .val (.long bs), .second, .val (.int kk), .val (.long sh), .second, .val (.ref oa), .val (.double (FP.ddiv (FP.l2d aa) (FP.l2d dd))), .second, .val (.int (1 : Int32)), .unset, .unset, .unset, .unset, .unset, .unset, .unset, .unset, .unset, .unset, .unset, .unset, .unset, .unset] [(.long r1)])) st4 ?_
  refine OGo.st (B := T4.setTop (mkF m 94 #[.val (.long q0), .second, .val (.long q1), .second, .val (.int i2), .val (.int i3), .val (.long q4), .second, .val (.long q5), .second, .val (.long rt), .second, .val (.long bs), .second, .val (.int kk), .val (.long sh), .second, .val (.ref oa), .val (.double (FP.ddiv (FP.l2d aa) (FP.l2d dd))), .second, .val (.int (1 : Int32)), .val (.long r1), .second, .unset, .unset, .unset, .unset, .unset, .unset, .unset, .unset, .unset, .unset, .unset, .unset] [])) (fun _ kz => XS.lstore X4.here hx rfl (hb hby at_92) rfl (l' := #[.val (.long q0), .second, .val (.long q1), .second, .val (.int i2), .val (.int i3), .val (.long q4), .second, .val (.long q5), .second, .val (.long rt), .second, .val (.long bs), .second, .val (.int kk), .val (.long sh), .second, .val (.ref oa), .val (.double (FP.ddiv (FP.l2d aa) (FP.l2d dd))), .second, .val (.int (1 : Int32)), .val (.long r1), .second, .unset, .unset, .unset, .unset, .unset, .unset, .unset, .unset, .unset, .unset, .unset, .unset]) rfl kz) ?_
  refine OGo.st (B := T4.setTop (mkF m 95 #[.val (.long q0), .second, .val (.long q1), .second, .val (.int i2), .val (.int i3), .val (.long q4), .second, .val (.long q5), .second, .val (.long rt), .second, .val (.long bs), .second, .val (.int kk), .val (.long sh), .second, .val (.ref oa), .val (.double (FP.ddiv (FP.l2d aa) (FP.l2d dd))), .second, .val (.int (1 : Int32)), .val (.long r1), .second, .unset, .unset, .unset, .unset, .unset, .unset, .unset, .unset, .unset, .unset, .unset, .unset] [(.long (1 : Int64))])) (fun _ kz => XS.lconst X4.here hx rfl (hb hby at_94) kz) ?_
  refine OGo.st (B := T4.setTop (mkF m 97 #[.val (.long q0), .second, .val (.long q1), .second, .val (.int i2), .val (.int i3), .val (.long q4), .second, .val (.long q5), .second, .val (.long rt), .second, .val (.long bs), .second, .val (.int kk), .val (.long sh), .second, .val (.ref oa), .val (.double (FP.ddiv (FP.l2d aa) (FP.l2d dd))), .second, .val (.int (1 : Int32)), .val (.long r1), .second, .unset, .unset, .unset, .unset, .unset, .unset, .unset, .unset, .unset, .unset, .unset, .unset] [(.long q4), (.long (1 : Int64))])) (fun _ kz => XS.lload X4.here hx rfl (hb hby at_95) rfl kz) ?_
  refine OGo.st (B := T4.setTop (mkF m 100 #[.val (.long q0), .second, .val (.long q1), .second, .val (.int i2), .val (.int i3), .val (.long q4), .second, .val (.long q5), .second, .val (.long rt), .second, .val (.long bs), .second, .val (.int kk), .val (.long sh), .second, .val (.ref oa), .val (.double (FP.ddiv (FP.l2d aa) (FP.l2d dd))), .second, .val (.int (1 : Int32)), .val (.long r1), .second, .unset, .unset, .unset, .unset, .unset, .unset, .unset, .unset, .unset, .unset, .unset, .unset] [(.long (9223372036854775807 : Int64)), (.long q4), (.long (1 : Int64))])) (X4.ldc2Long hx hown (mvT hZ (hw _ (List.mem_of_getElem? (i := 82) rfl))) (g := (mkF m 97 #[.val (.long q0), .second, .val (.long q1), .second, .val (.int i2), .val (.int i3), .val (.long q4), .second, .val (.long q5), .second, .val (.long rt), .second, .val (.long bs), .second, .val (.int kk), .val (.long sh), .second, .val (.ref oa), .val (.double (FP.ddiv (FP.l2d aa) (FP.l2d dd))), .second, .val (.int (1 : Int32)), .val (.long r1), .second, .unset, .unset, .unset, .unset, .unset, .unset, .unset, .unset, .unset, .unset, .unset, .unset] [(.long q4), (.long (1 : Int64))])) rfl (hb hby at_97)) ?_
  refine OGo.st (B := T4.setTop (mkF m 101 #[.val (.long q0), .second, .val (.long q1), .second, .val (.int i2), .val (.int i3), .val (.long q4), .second, .val (.long q5), .second, .val (.long rt), .second, .val (.long bs), .second, .val (.int kk), .val (.long sh), .second, .val (.ref oa), .val (.double (FP.ddiv (FP.l2d aa) (FP.l2d dd))), .second, .val (.int (1 : Int32)), .val (.long r1), .second, .unset, .unset, .unset, .unset, .unset, .unset, .unset, .unset, .unset, .unset, .unset, .unset] [(.long (q4 &&& (9223372036854775807 : Int64))), (.long (1 : Int64))])) (fun _ kz => XS.land X4.here hx rfl (hb hby at_100) rfl kz) ?_
  obtain ⟨r2, h_r2⟩ : ∃ r, (if (1 : Int64) < (q4 &&& (9223372036854775807 : Int64)) then (q4 &&& (9223372036854775807 : Int64)) else (1 : Int64)) = r := ⟨_, rfl⟩
  have f_r2 := own_mx _ _ h_r2
  obtain ⟨v5, T5, L5, X5, hQ5, st5⟩ := (rm1 l Z a0 hw (1 : Int64) (q4 &&& (9223372036854775807 : Int64)) r2 T2.heap n0 h_r2).static (W := 0) X4 hx hZ hown (hw _ (List.mem_of_getElem? (i := 83) rfl)) (hw _ (List.mem_of_getElem? (i := 84) rfl)) (hw _ (List.mem_of_getElem? (i := 85) rfl)) (hw _ (List.mem_of_getElem? (i := 86) rfl)) (by decide) (by decide) (by decide) e4 (by decide) (by decide) (g := (mkF m 101 #[.val (.long q0), .second, .val (.long q1), .second, .val (.int i2), .val (.int i3), .val (.long q4), .second, .val (.long q5), .second, .val (.long rt), .second, .val (.long bs), .second, .val (.int kk), .val (.long sh), .second, .val (.ref oa), .val (.double (FP.ddiv (FP.l2d aa) (FP.l2d dd))), .second, .val (.int (1 : Int32)), .val (.long r1), .second, .unset, .unset, .unset, .unset, .unset, .unset, .unset, .unset, .unset, .unset, .unset, .unset] [(.long (q4 &&& (9223372036854775807 : Int64))), (.long (1 : Int64))])) rfl (by rw [hml]; rfl) (argsL := [(.long (1 : Int64)), (.long (q4 &&& (9223372036854775807 : Int64)))]) (rest := []) rfl (lenOf pd_8 rfl) rfl (by show 2 * 0 + _ ≤ _; exact Nat.le_of_eq rfl) (hb hby at_101)
  obtain ⟨rfl, N5q, e5⟩ := hQ5
  have N5 := Fr.app N4 N5q
  refine OGo.st (B := T5.setTop (mkF m 104 #[.val (.long q0), .second, .val (.long q1), .second, .val (.int i2), .val (.int i3), .val (.long q4), .second, .val (.long q5), .second, .val (.long rt), .second, .val (.long bs), .second, .val (.int kk), .val (.long sh), .second, .val (.ref oa), .val (.double (FP.ddiv (FP.l2d aa) (FP.l2d dd))), .second, .val (.int (1 : Int32)), .val (.long r1), .second, .unset, .unset, .unset, .unset, .unset, .unset, .unset, .unset, .unset, .unset, .unset, .unset] [(.long r2)])) st5 ?_
  refine OGo.st (B := T5.setTop (mkF m 106 #[.val (.long q0), .second, .val (.long q1), .second, .val (.int i2), .val (.int i3), .val (.long q4), .second, .val (.long q5), .second, .val (.long rt), .second, .val (.long bs), .second, .val (.int kk), .val (.long sh), .second, .val (.ref oa), .val (.double (FP.ddiv (FP.l2d aa) (FP.l2d dd))), .second, .val (.int (1 : Int32)), .val (.long r1), .second, .val (.long r2), .second, .unset, .unset, .unset, .unset, .unset, .unset, .unset, .unset, .unset, .unset] [])) (fun _ kz => XS.lstore X5.here hx rfl (hb hby at_104) rfl (l' := #[.val (.long q0), .second, .val (.long q1), .second, .val (.int i2), .val (.int i3), .val (.long q4), .second, .val (.long q5), .second, .val (.long rt), .second, .val (.long bs), .second, .val (.int kk), .val (.long sh), .second, .val (.ref oa), .val (.double (FP.ddiv (FP.l2d aa) (FP.l2d dd))), .second, .val (.int (1 : Int32)), .val (.long r1), .second, .val (.long r2), .second, .unset, .unset, .unset, .unset, .unset, .unset, .unset, .unset, .unset, .unset]) rfl kz) ?_
  refine OGo.st (B := T5.setTop (mkF m 108 #[.val (.long q0), .second, .val (.long q1), .second, .val (.int i2), .val (.int i3), .val (.long q4), .second, .val (.long q5), .second, .val (.long rt), .second, .val (.long bs), .second, .val (.int kk), .val (.long sh), .second, .val (.ref oa), .val (.double (FP.ddiv (FP.l2d aa) (FP.l2d dd))), .second, .val (.int (1 : Int32)), .val (.long r1), .second, .val (.long r2), .second, .unset, .unset, .unset, .unset, .unset, .unset, .unset, .unset, .unset, .unset] [(.long q5)])) (fun _ kz => XS.lload X5.here hx rfl (hb hby at_106) rfl kz) ?_
  refine OGo.st (B := T5.setTop (mkF m 111 #[.val (.long q0), .second, .val (.long q1), .second, .val (.int i2), .val (.int i3), .val (.long q4), .second, .val (.long q5), .second, .val (.long rt), .second, .val (.long bs), .second, .val (.int kk), .val (.long sh), .second, .val (.ref oa), .val (.double (FP.ddiv (FP.l2d aa) (FP.l2d dd))), .second, .val (.int (1 : Int32)), .val (.long r1), .second, .val (.long r2), .second, .unset, .unset, .unset, .unset, .unset, .unset, .unset, .unset, .unset, .unset] [(.long (9007199254740991 : Int64)), (.long q5)])) (X5.ldc2Long hx hown (mvT hZ (hw _ (List.mem_of_getElem? (i := 87) rfl))) (g := (mkF m 108 #[.val (.long q0), .second, .val (.long q1), .second, .val (.int i2), .val (.int i3), .val (.long q4), .second, .val (.long q5), .second, .val (.long rt), .second, .val (.long bs), .second, .val (.int kk), .val (.long sh), .second, .val (.ref oa), .val (.double (FP.ddiv (FP.l2d aa) (FP.l2d dd))), .second, .val (.int (1 : Int32)), .val (.long r1), .second, .val (.long r2), .second, .unset, .unset, .unset, .unset, .unset, .unset, .unset, .unset, .unset, .unset] [(.long q5)])) rfl (hb hby at_108)) ?_
  refine OGo.st (B := T5.setTop (mkF m 112 #[.val (.long q0), .second, .val (.long q1), .second, .val (.int i2), .val (.int i3), .val (.long q4), .second, .val (.long q5), .second, .val (.long rt), .second, .val (.long bs), .second, .val (.int kk), .val (.long sh), .second, .val (.ref oa), .val (.double (FP.ddiv (FP.l2d aa) (FP.l2d dd))), .second, .val (.int (1 : Int32)), .val (.long r1), .second, .val (.long r2), .second, .unset, .unset, .unset, .unset, .unset, .unset, .unset, .unset, .unset, .unset] [(.long (q5 &&& (9007199254740991 : Int64)))])) (fun _ kz => XS.land X5.here hx rfl (hb hby at_111) rfl kz) ?_
  refine OGo.st (B := T5.setTop (mkF m 113 #[.val (.long q0), .second, .val (.long q1), .second, .val (.int i2), .val (.int i3), .val (.long q4), .second, .val (.long q5), .second, .val (.long rt), .second, .val (.long bs), .second, .val (.int kk), .val (.long sh), .second, .val (.ref oa), .val (.double (FP.ddiv (FP.l2d aa) (FP.l2d dd))), .second, .val (.int (1 : Int32)), .val (.long r1), .second, .val (.long r2), .second, .unset, .unset, .unset, .unset, .unset, .unset, .unset, .unset, .unset, .unset] [(.long (1 : Int64)), (.long (q5 &&& (9007199254740991 : Int64)))])) (fun _ kz => XS.lconst X5.here hx rfl (hb hby at_112) kz) ?_
  refine OGo.st (B := T5.setTop (mkF m 114 #[.val (.long q0), .second, .val (.long q1), .second, .val (.int i2), .val (.int i3), .val (.long q4), .second, .val (.long q5), .second, .val (.long rt), .second, .val (.long bs), .second, .val (.int kk), .val (.long sh), .second, .val (.ref oa), .val (.double (FP.ddiv (FP.l2d aa) (FP.l2d dd))), .second, .val (.int (1 : Int32)), .val (.long r1), .second, .val (.long r2), .second, .unset, .unset, .unset, .unset, .unset, .unset, .unset, .unset, .unset, .unset] [(.long ((q5 &&& (9007199254740991 : Int64)) + (1 : Int64)))])) (fun _ kz => XS.ladd X5.here hx rfl (hb hby at_113) rfl kz) ?_
  obtain ⟨bp, h_bp⟩ : ∃ z, ((q5 &&& (9007199254740991 : Int64)) + (1 : Int64)) = z := ⟨_, rfl⟩
  rw [h_bp]
  have f_bp := own_bp _ _ h_bp
  refine OGo.st (B := T5.setTop (mkF m 116 #[.val (.long q0), .second, .val (.long q1), .second, .val (.int i2), .val (.int i3), .val (.long q4), .second, .val (.long q5), .second, .val (.long rt), .second, .val (.long bs), .second, .val (.int kk), .val (.long sh), .second, .val (.ref oa), .val (.double (FP.ddiv (FP.l2d aa) (FP.l2d dd))), .second, .val (.int (1 : Int32)), .val (.long r1), .second, .val (.long r2), .second, .val (.long bp), .second, .unset, .unset, .unset, .unset, .unset, .unset, .unset, .unset] [])) (fun _ kz => XS.lstore X5.here hx rfl (hb hby at_114) rfl (l' := #[.val (.long q0), .second, .val (.long q1), .second, .val (.int i2), .val (.int i3), .val (.long q4), .second, .val (.long q5), .second, .val (.long rt), .second, .val (.long bs), .second, .val (.int kk), .val (.long sh), .second, .val (.ref oa), .val (.double (FP.ddiv (FP.l2d aa) (FP.l2d dd))), .second, .val (.int (1 : Int32)), .val (.long r1), .second, .val (.long r2), .second, .val (.long bp), .second, .unset, .unset, .unset, .unset, .unset, .unset, .unset, .unset]) rfl kz) ?_
  refine OGo.st (B := T5.setTop (mkF m 117 #[.val (.long q0), .second, .val (.long q1), .second, .val (.int i2), .val (.int i3), .val (.long q4), .second, .val (.long q5), .second, .val (.long rt), .second, .val (.long bs), .second, .val (.int kk), .val (.long sh), .second, .val (.ref oa), .val (.double (FP.ddiv (FP.l2d aa) (FP.l2d dd))), .second, .val (.int (1 : Int32)), .val (.long r1), .second, .val (.long r2), .second, .val (.long bp), .second, .unset, .unset, .unset, .unset, .unset, .unset, .unset, .unset] [(.long (1 : Int64))])) (fun _ kz => XS.lconst X5.here hx rfl (hb hby at_116) kz) ?_
  refine OGo.st (B := T5.setTop (mkF m 119 #[.val (.long q0), .second, .val (.long q1), .second, .val (.int i2), .val (.int i3), .val (.long q4), .second, .val (.long q5), .second, .val (.long rt), .second, .val (.long bs), .second, .val (.int kk), .val (.long sh), .second, .val (.ref oa), .val (.double (FP.ddiv (FP.l2d aa) (FP.l2d dd))), .second, .val (.int (1 : Int32)), .val (.long r1), .second, .val (.long r2), .second, .val (.long bp), .second, .unset, .unset, .unset, .unset, .unset, .unset, .unset, .unset] [(.long bp), (.long (1 : Int64))])) (fun _ kz => XS.lload X5.here hx rfl (hb hby at_117) rfl kz) ?_
  refine OGo.st (B := T5.setTop (mkF m 121 #[.val (.long q0), .second, .val (.long q1), .second, .val (.int i2), .val (.int i3), .val (.long q4), .second, .val (.long q5), .second, .val (.long rt), .second, .val (.long bs), .second, .val (.int kk), .val (.long sh), .second, .val (.ref oa), .val (.double (FP.ddiv (FP.l2d aa) (FP.l2d dd))), .second, .val (.int (1 : Int32)), .val (.long r1), .second, .val (.long r2), .second, .val (.long bp), .second, .unset, .unset, .unset, .unset, .unset, .unset, .unset, .unset] [(.int i2), (.long bp), (.long (1 : Int64))])) (fun _ kz => XS.iload X5.here hx rfl (hb hby at_119) rfl kz) ?_
  refine OGo.st (B := T5.setTop (mkF m 123 #[.val (.long q0), .second, .val (.long q1), .second, .val (.int i2), .val (.int i3), .val (.long q4), .second, .val (.long q5), .second, .val (.long rt), .second, .val (.long bs), .second, .val (.int kk), .val (.long sh), .second, .val (.ref oa), .val (.double (FP.ddiv (FP.l2d aa) (FP.l2d dd))), .second, .val (.int (1 : Int32)), .val (.long r1), .second, .val (.long r2), .second, .val (.long bp), .second, .unset, .unset, .unset, .unset, .unset, .unset, .unset, .unset] [(.int (27 : Int32)), (.int i2), (.long bp), (.long (1 : Int64))])) (fun _ kz => XS.bipush X5.here hx rfl (hb hby at_121) kz) ?_
  refine OGo.st (B := T5.setTop (mkF m 124 #[.val (.long q0), .second, .val (.long q1), .second, .val (.int i2), .val (.int i3), .val (.long q4), .second, .val (.long q5), .second, .val (.long rt), .second, .val (.long bs), .second, .val (.int kk), .val (.long sh), .second, .val (.ref oa), .val (.double (FP.ddiv (FP.l2d aa) (FP.l2d dd))), .second, .val (.int (1 : Int32)), .val (.long r1), .second, .val (.long r2), .second, .val (.long bp), .second, .unset, .unset, .unset, .unset, .unset, .unset, .unset, .unset] [(.int ((i2.toUInt32 >>> ((27 : Int32) &&& 31).toUInt32).toInt32)), (.long bp), (.long (1 : Int64))])) (fun _ kz => XS.iushr X5.here hx rfl (hb hby at_123) rfl kz) ?_
  refine OGo.st (B := T5.setTop (mkF m 125 #[.val (.long q0), .second, .val (.long q1), .second, .val (.int i2), .val (.int i3), .val (.long q4), .second, .val (.long q5), .second, .val (.long rt), .second, .val (.long bs), .second, .val (.int kk), .val (.long sh), .second, .val (.ref oa), .val (.double (FP.ddiv (FP.l2d aa) (FP.l2d dd))), .second, .val (.int (1 : Int32)), .val (.long r1), .second, .val (.long r2), .second, .val (.long bp), .second, .unset, .unset, .unset, .unset, .unset, .unset, .unset, .unset] [(.long ((bp.toUInt64 >>> (((i2.toUInt32 >>> ((27 : Int32) &&& 31).toUInt32).toInt32) &&& 0x3f).toInt64.toUInt64).toInt64)), (.long (1 : Int64))])) (fun _ kz => XS.lushr X5.here hx rfl (hb hby at_124) rfl kz) ?_
  obtain ⟨uu, h_uu⟩ : ∃ z, ((bp.toUInt64 >>> (((i2.toUInt32 >>> ((27 : Int32) &&& 31).toUInt32).toInt32) &&& 0x3f).toInt64.toUInt64).toInt64) = z := ⟨_, rfl⟩
  rw [h_uu]
  obtain ⟨sp, h_sp⟩ : ∃ r, (if (1 : Int64) < uu then uu else (1 : Int64)) = r := ⟨_, rfl⟩
  have f_sp := own_mx _ _ h_sp
  obtain ⟨v6, T6, L6, X6, hQ6, st6⟩ := (rm1 l Z a0 hw (1 : Int64) uu sp T2.heap n0 h_sp).static (W := 0) X5 hx hZ hown (hw _ (List.mem_of_getElem? (i := 83) rfl)) (hw _ (List.mem_of_getElem? (i := 84) rfl)) (hw _ (List.mem_of_getElem? (i := 85) rfl)) (hw _ (List.mem_of_getElem? (i := 86) rfl)) (by decide) (by decide) (by decide) e5 (by decide) (by decide) (g := (mkF m 125 #[.val (.long q0), .second, .val (.long q1), .second, .val (.int i2), .val (.int i3), .val (.long q4), .second, .val (.long q5), .second, .val (.long rt), .second, .val (.long bs), .second, .val (.int kk), .val (.long sh), .second, .val (.ref oa), .val (.double (FP.ddiv (FP.l2d aa) (FP.l2d dd))), .second, .val (.int (1 : Int32)), .val (.long r1), .second, .val (.long r2), .second, .val (.long bp), .second, .unset, .unset, .unset, .unset, .unset, .unset, .unset, .unset] [(.long uu), (.long (1 : Int64))])) rfl (by rw [hml]; rfl) (argsL := [(.long (1 : Int64)), (.long uu)]) (rest := []) rfl (lenOf pd_8 rfl) rfl (by show 2 * 0 + _ ≤ _; exact Nat.le_of_eq rfl) (hb hby at_125)
  obtain ⟨rfl, N6q, e6⟩ := hQ6
  have N6 := Fr.app N5 N6q
  refine OGo.st (B := T6.setTop (mkF m 128 #[.val (.long q0), .second, .val (.long q1), .second, .val (.int i2), .val (.int i3), .val (.long q4), .second, .val (.long q5), .second, .val (.long rt), .second, .val (.long bs), .second, .val (.int kk), .val (.long sh), .second, .val (.ref oa), .val (.double (FP.ddiv (FP.l2d aa) (FP.l2d dd))), .second, .val (.int (1 : Int32)), .val (.long r1), .second, .val (.long r2), .second, .val (.long bp), .second, .unset, .unset, .unset, .unset, .unset, .unset, .unset, .unset] [(.long sp)])) st6 ?_
  have f_uu : uu.toInt ≤ bp.toInt := h_uu ▸ (own_ush bp _ (Int.le_of_lt f_bp.1)).2
  have f_s2 := f_sp.2 _ f_bp.1 f_uu
  have f_s4 := Int.le_trans f_s2 f_bp.2
  refine OGo.st (B := T6.setTop (mkF m 130 #[.val (.long q0), .second, .val (.long q1), .second, .val (.int i2), .val (.int i3), .val (.long q4), .second, .val (.long q5), .second, .val (.long rt), .second, .val (.long bs), .second, .val (.int kk), .val (.long sh), .second, .val (.ref oa), .val (.double (FP.ddiv (FP.l2d aa) (FP.l2d dd))), .second, .val (.int (1 : Int32)), .val (.long r1), .second, .val (.long r2), .second, .val (.long bp), .second, .val (.long sp), .second, .unset, .unset, .unset, .unset, .unset, .unset] [])) (fun _ kz => XS.lstore X6.here hx rfl (hb hby at_128) rfl (l' := #[.val (.long q0), .second, .val (.long q1), .second, .val (.int i2), .val (.int i3), .val (.long q4), .second, .val (.long q5), .second, .val (.long rt), .second, .val (.long bs), .second, .val (.int kk), .val (.long sh), .second, .val (.ref oa), .val (.double (FP.ddiv (FP.l2d aa) (FP.l2d dd))), .second, .val (.int (1 : Int32)), .val (.long r1), .second, .val (.long r2), .second, .val (.long bp), .second, .val (.long sp), .second, .unset, .unset, .unset, .unset, .unset, .unset]) rfl kz) ?_
  obtain ⟨T7, h7, X7, e7, E7, A7, D7, U7, st7⟩ := newO X6 hx hZ hown (hw _ (List.mem_of_getElem? (i := 2) rfl)) (hw _ (List.mem_of_getElem? (i := 3) rfl)) (hw _ (List.mem_of_getElem? (i := 4) rfl)) e6 (g := (mkF m 130 #[.val (.long q0), .second, .val (.long q1), .second, .val (.int i2), .val (.int i3), .val (.long q4), .second, .val (.long q5), .second, .val (.long rt), .second, .val (.long bs), .second, .val (.int kk), .val (.long sh), .second, .val (.ref oa), .val (.double (FP.ddiv (FP.l2d aa) (FP.l2d dd))), .second, .val (.int (1 : Int32)), .val (.long r1), .second, .val (.long r2), .second, .val (.long bp), .second, .val (.long sp), .second, .unset, .unset, .unset, .unset, .unset, .unset] [])) rfl (hb hby at_130) (by decide) (by decide)
  obtain ⟨oc, g7⟩ : ∃ z, z = T2.heap.size := ⟨_, rfl⟩
  rw [← g7] at A7 D7 st7
  have ne_oa_oc : oa ≠ oc := Nat.ne_of_lt (Nat.lt_of_lt_of_le Y2_0.lt (Nat.le_of_eq g7.symm))
  have g_oc : n0 ≤ oc := Nat.le_trans Z0 (Nat.le_trans K2.1 (Nat.le_of_eq g7.symm))
  have sz_oc : h0.size ≤ oc := Nat.le_trans K2.1 (Nat.le_of_eq g7.symm)
  have K7 : Keep h0 h7 [] := K2.ext E7
  have O7 := O2.ext E7
  have F7_rate : Fld Z h7 oc "com/example/narrow_gate/narrowgate/Limit" "rate" "J" (.long (0 : Int64)) := D7 (Or.inr (hw _ (List.mem_of_getElem? (i := 70) rfl))) (ty := .long) (by decide)
  have F7_periodMs : Fld Z h7 oc "com/example/narrow_gate/narrowgate/Limit" "periodMs" "J" (.long (0 : Int64)) := D7 (Or.inr (hw _ (List.mem_of_getElem? (i := 72) rfl))) (ty := .long) (by decide)
  have F7_burst : Fld Z h7 oc "com/example/narrow_gate/narrowgate/Limit" "burst" "J" (.long (0 : Int64)) := D7 (Or.inr (hw _ (List.mem_of_getElem? (i := 74) rfl))) (ty := .long) (by decide)
  refine OGo.st (B := T7.setTop (mkF m 133 #[.val (.long q0), .second, .val (.long q1), .second, .val (.int i2), .val (.int i3), .val (.long q4), .second, .val (.long q5), .second, .val (.long rt), .second, .val (.long bs), .second, .val (.int kk), .val (.long sh), .second, .val (.ref oa), .val (.double (FP.ddiv (FP.l2d aa) (FP.l2d dd))), .second, .val (.int (1 : Int32)), .val (.long r1), .second, .val (.long r2), .second, .val (.long bp), .second, .val (.long sp), .second, .unset, .unset, .unset, .unset, .unset, .unset] [(.ref oc)])) st7 ?_
  refine OGo.st (B := T7.setTop (mkF m 134 #[.val (.long q0), .second, .val (.long q1), .second, .val (.int i2), .val (.int i3), .val (.long q4), .second, .val (.long q5), .second, .val (.long rt), .second, .val (.long bs), .second, .val (.int kk), .val (.long sh), .second, .val (.ref oa), .val (.double (FP.ddiv (FP.l2d aa) (FP.l2d dd))), .second, .val (.int (1 : Int32)), .val (.long r1), .second, .val (.long r2), .second, .val (.long bp), .second, .val (.long sp), .second, .unset, .unset, .unset, .unset, .unset, .unset] [(.ref oc), (.ref oc)])) (fun _ kz => XS.dup X7.here hx rfl (hb hby at_133) rfl rfl kz) ?_
  refine OGo.st (B := T7.setTop (mkF m 136 #[.val (.long q0), .second, .val (.long q1), .second, .val (.int i2), .val (.int i3), .val (.long q4), .second, .val (.long q5), .second, .val (.long rt), .second, .val (.long bs), .second, .val (.int kk), .val (.long sh), .second, .val (.ref oa), .val (.double (FP.ddiv (FP.l2d aa) (FP.l2d dd))), .second, .val (.int (1 : Int32)), .val (.long r1), .second, .val (.long r2), .second, .val (.long bp), .second, .val (.long sp), .second, .unset, .unset, .unset, .unset, .unset, .unset] [(.long r1), (.ref oc), (.ref oc)])) (fun _ kz => XS.lload X7.here hx rfl (hb hby at_134) rfl kz) ?_
  refine OGo.st (B := T7.setTop (mkF m 138 #[.val (.long q0), .second, .val (.long q1), .second, .val (.int i2), .val (.int i3), .val (.long q4), .second, .val (.long q5), .second, .val (.long rt), .second, .val (.long bs), .second, .val (.int kk), .val (.long sh), .second, .val (.ref oa), .val (.double (FP.ddiv (FP.l2d aa) (FP.l2d dd))), .second, .val (.int (1 : Int32)), .val (.long r1), .second, .val (.long r2), .second, .val (.long bp), .second, .val (.long sp), .second, .unset, .unset, .unset, .unset, .unset, .unset] [(.long bp), (.long r1), (.ref oc), (.ref oc)])) (fun _ kz => XS.lload X7.here hx rfl (hb hby at_136) rfl kz) ?_
  refine OGo.st (B := T7.setTop (mkF m 139 #[.val (.long q0), .second, .val (.long q1), .second, .val (.int i2), .val (.int i3), .val (.long q4), .second, .val (.long q5), .second, .val (.long rt), .second, .val (.long bs), .second, .val (.int kk), .val (.long sh), .second, .val (.ref oa), .val (.double (FP.ddiv (FP.l2d aa) (FP.l2d dd))), .second, .val (.int (1 : Int32)), .val (.long r1), .second, .val (.long r2), .second, .val (.long bp), .second, .val (.long sp), .second, .unset, .unset, .unset, .unset, .unset, .unset] [(.long (1 : Int64)), (.long bp), (.long r1), (.ref oc), (.ref oc)])) (fun _ kz => XS.lconst X7.here hx rfl (hb hby at_138) kz) ?_
  obtain ⟨v8, T8, L8, X8, hQ8, st8⟩ := (rm43 l Z a0 hw oc r1 bp (1 : Int64) h7 n0 (Nat.le_trans Z0 K7.1) O7 ca cc S_cache BX de S_dflt A7 g_oc F7_rate F7_periodMs F7_burst (own_lt1 f_r1.1) (own_lt1 f_bp.1) (by decide) (own_cap1 _ f_bp.1 f_bp.2)).init (W := 1) X7 hx hZ rfl hown (hw _ (List.mem_of_getElem? (i := 5) rfl)) (hw _ (List.mem_of_getElem? (i := 6) rfl)) (hw _ (List.mem_of_getElem? (i := 4) rfl)) (hw _ (List.mem_of_getElem? (i := 7) rfl)) (by decide) (by decide) (by decide) e7 (by decide) (by decide) (g := (mkF m 139 #[.val (.long q0), .second, .val (.long q1), .second, .val (.int i2), .val (.int i3), .val (.long q4), .second, .val (.long q5), .second, .val (.long rt), .second, .val (.long bs), .second, .val (.int kk), .val (.long sh), .second, .val (.ref oa), .val (.double (FP.ddiv (FP.l2d aa) (FP.l2d dd))), .second, .val (.int (1 : Int32)), .val (.long r1), .second, .val (.long r2), .second, .val (.long bp), .second, .val (.long sp), .second, .unset, .unset, .unset, .unset, .unset, .unset] [(.long (1 : Int64)), (.long bp), (.long r1), (.ref oc), (.ref oc)])) rfl (by rw [hml]; rfl) (argsL := [(.long r1), (.long bp), (.long (1 : Int64))]) (rest := [(.ref oc)]) rfl (lenOf pd_0 rfl) rfl (by show 2 * 0 + _ ≤ _; exact Nat.le_of_eq rfl) (hb hby at_139)
  obtain ⟨rfl, N8q, J8, Y8_0, Y8_1, Y8_2, Y8_3⟩ := hQ8
  have N8 := Fr.app N6 N8q
  have K8 : Keep h0 T8.heap [] := K7.trans J8 (allS (Or.inr sz_oc) all0)
  have O8 := O7.keep J8 (allS g_oc all0)
  refine OGo.st (B := T8.setTop (mkF m 142 #[.val (.long q0), .second, .val (.long q1), .second, .val (.int i2), .val (.int i3), .val (.long q4), .second, .val (.long q5), .second, .val (.long rt), .second, .val (.long bs), .second, .val (.int kk), .val (.long sh), .second, .val (.ref oa), .val (.double (FP.ddiv (FP.l2d aa) (FP.l2d dd))), .second, .val (.int (1 : Int32)), .val (.long r1), .second, .val (.long r2), .second, .val (.long bp), .second, .val (.long sp), .second, .unset, .unset, .unset, .unset, .unset, .unset] [(.ref oc)])) st8 ?_
  obtain ⟨v9, T9, L9, X9, hQ9, st9⟩ := (rm60 l Z a0 hw oc r1 bp T8.heap n0 Y8_1 Y8_2 f_r1.1 f_bp.1).virt (W := 0) X8 hx hZ hown (hw _ (List.mem_of_getElem? (i := 76) rfl)) (hw _ (List.mem_of_getElem? (i := 77) rfl)) (nf_sel hZ (hw _ (List.mem_of_getElem? (i := 79) rfl))) (hw _ (List.mem_of_getElem? (i := 79) rfl)) (hw _ (List.mem_of_getElem? (i := 78) rfl)) (hw _ (List.mem_of_getElem? (i := 4) rfl)) (hw _ (List.mem_of_getElem? (i := 80) rfl)) (by decide) (by decide) (by decide) rfl (by decide) (by decide) (g := (mkF m 142 #[.val (.long q0), .second, .val (.long q1), .second, .val (.int i2), .val (.int i3), .val (.long q4), .second, .val (.long q5), .second, .val (.long rt), .second, .val (.long bs), .second, .val (.int kk), .val (.long sh), .second, .val (.ref oa), .val (.double (FP.ddiv (FP.l2d aa) (FP.l2d dd))), .second, .val (.int (1 : Int32)), .val (.long r1), .second, .val (.long r2), .second, .val (.long bp), .second, .val (.long sp), .second, .unset, .unset, .unset, .unset, .unset, .unset] [(.ref oc)])) rfl (by rw [hml]; rfl) Y8_0 (argsL := []) (rest := []) rfl (lenOf pd_7 rfl) rfl (by show 2 * 0 + _ ≤ _; exact Nat.le_of_eq rfl) (hb hby at_142)
  obtain ⟨rfl, N9q, e9⟩ := hQ9
  have N9 := Fr.app N8 N9q
  refine OGo.st (B := T9.setTop (mkF m 145 #[.val (.long q0), .second, .val (.long q1), .second, .val (.int i2), .val (.int i3), .val (.long q4), .second, .val (.long q5), .second, .val (.long rt), .second, .val (.long bs), .second, .val (.int kk), .val (.long sh), .second, .val (.ref oa), .val (.double (FP.ddiv (FP.l2d aa) (FP.l2d dd))), .second, .val (.int (1 : Int32)), .val (.long r1), .second, .val (.long r2), .second, .val (.long bp), .second, .val (.long sp), .second, .unset, .unset, .unset, .unset, .unset, .unset] [(.double (own_T r1 bp))])) st9 ?_
  refine OGo.st (B := T9.setTop (mkF m 147 #[.val (.long q0), .second, .val (.long q1), .second, .val (.int i2), .val (.int i3), .val (.long q4), .second, .val (.long q5), .second, .val (.long rt), .second, .val (.long bs), .second, .val (.int kk), .val (.long sh), .second, .val (.ref oa), .val (.double (FP.ddiv (FP.l2d aa) (FP.l2d dd))), .second, .val (.int (1 : Int32)), .val (.long r1), .second, .val (.long r2), .second, .val (.long bp), .second, .val (.long sp), .second, .val (.double (own_T r1 bp)), .second, .unset, .unset, .unset, .unset] [])) (fun _ kz => XS.dstore X9.here hx rfl (hb hby at_145) rfl (l' := #[.val (.long q0), .second, .val (.long q1), .second, .val (.int i2), .val (.int i3), .val (.long q4), .second, .val (.long q5), .second, .val (.long rt), .second, .val (.long bs), .second, .val (.int kk), .val (.long sh), .second, .val (.ref oa), .val (.double (FP.ddiv (FP.l2d aa) (FP.l2d dd))), .second, .val (.int (1 : Int32)), .val (.long r1), .second, .val (.long r2), .second, .val (.long bp), .second, .val (.long sp), .second, .val (.double (own_T r1 bp)), .second, .unset, .unset, .unset, .unset]) rfl kz) ?_
  obtain ⟨T10, h10, X10, e10, E10, A10, D10, U10, st10⟩ := newO X9 hx hZ hown (hw _ (List.mem_of_getElem? (i := 2) rfl)) (hw _ (List.mem_of_getElem? (i := 3) rfl)) (hw _ (List.mem_of_getElem? (i := 4) rfl)) e9 (g := (mkF m 147 #[.val (.long q0), .second, .val (.long q1), .second, .val (.int i2), .val (.int i3), .val (.long q4), .second, .val (.long q5), .second, .val (.long rt), .second, .val (.long bs), .second, .val (.int kk), .val (.long sh), .second, .val (.ref oa), .val (.double (FP.ddiv (FP.l2d aa) (FP.l2d dd))), .second, .val (.int (1 : Int32)), .val (.long r1), .second, .val (.long r2), .second, .val (.long bp), .second, .val (.long sp), .second, .val (.double (own_T r1 bp)), .second, .unset, .unset, .unset, .unset] [])) rfl (hb hby at_147) (by decide) (by decide)
  obtain ⟨oe, g10⟩ : ∃ z, z = T8.heap.size := ⟨_, rfl⟩
  rw [← g10] at A10 D10 st10
  have ne_oa_oe : oa ≠ oe := Nat.ne_of_lt (Nat.lt_of_lt_of_le ((Y2_0.ext E7).keep J8).lt (Nat.le_of_eq g10.symm))
  have ne_oc_oe : oc ≠ oe := Nat.ne_of_lt (Nat.lt_of_lt_of_le Y8_0.lt (Nat.le_of_eq g10.symm))
  have g_oe : n0 ≤ oe := Nat.le_trans Z0 (Nat.le_trans K8.1 (Nat.le_of_eq g10.symm))
  have sz_oe : h0.size ≤ oe := Nat.le_trans K8.1 (Nat.le_of_eq g10.symm)
  have K10 : Keep h0 h10 [] := K8.ext E10
  have O10 := O8.ext E10
  have F10_rate : Fld Z h10 oe "com/example/narrow_gate/narrowgate/Limit" "rate" "J" (.long (0 : Int64)) := D10 (Or.inr (hw _ (List.mem_of_getElem? (i := 70) rfl))) (ty := .long) (by decide)
  have F10_periodMs : Fld Z h10 oe "com/example/narrow_gate/narrowgate/Limit" "periodMs" "J" (.long (0 : Int64)) := D10 (Or.inr (hw _ (List.mem_of_getElem? (i := 72) rfl))) (ty := .long) (by decide)
  have F10_burst : Fld Z h10 oe "com/example/narrow_gate/narrowgate/Limit" "burst" "J" (.long (0 : Int64)) := D10 (Or.inr (hw _ (List.mem_of_getElem? (i := 74) rfl))) (ty := .long) (by decide)
  refine OGo.st (B := T10.setTop (mkF m 150 #[.val (.long q0), .second, .val (.long q1), .second, .val (.int i2), .val (.int i3), .val (.long q4), .second, .val (.long q5), .second, .val (.long rt), .second, .val (.long bs), .second, .val (.int kk), .val (.long sh), .second, .val (.ref oa), .val (.double (FP.ddiv (FP.l2d aa) (FP.l2d dd))), .second, .val (.int (1 : Int32)), .val (.long r1), .second, .val (.long r2), .second, .val (.long bp), .second, .val (.long sp), .second, .val (.double (own_T r1 bp)), .second, .unset, .unset, .unset, .unset] [(.ref oe)])) st10 ?_
  refine OGo.st (B := T10.setTop (mkF m 151 #[.val (.long q0), .second, .val (.long q1), .second, .val (.int i2), .val (.int i3), .val (.long q4), .second, .val (.long q5), .second, .val (.long rt), .second, .val (.long bs), .second, .val (.int kk), .val (.long sh), .second, .val (.ref oa), .val (.double (FP.ddiv (FP.l2d aa) (FP.l2d dd))), .second, .val (.int (1 : Int32)), .val (.long r1), .second, .val (.long r2), .second, .val (.long bp), .second, .val (.long sp), .second, .val (.double (own_T r1 bp)), .second, .unset, .unset, .unset, .unset] [(.ref oe), (.ref oe)])) (fun _ kz => XS.dup X10.here hx rfl (hb hby at_150) rfl rfl kz) ?_
  refine OGo.st (B := T10.setTop (mkF m 153 #[.val (.long q0), .second, .val (.long q1), .second, .val (.int i2), .val (.int i3), .val (.long q4), .second, .val (.long q5), .second, .val (.long rt), .second, .val (.long bs), .second, .val (.int kk), .val (.long sh), .second, .val (.ref oa), .val (.double (FP.ddiv (FP.l2d aa) (FP.l2d dd))), .second, .val (.int (1 : Int32)), .val (.long r1), .second, .val (.long r2), .second, .val (.long bp), .second, .val (.long sp), .second, .val (.double (own_T r1 bp)), .second, .unset, .unset, .unset, .unset] [(.long r2), (.ref oe), (.ref oe)])) (fun _ kz => XS.lload X10.here hx rfl (hb hby at_151) rfl kz) ?_
  refine OGo.st (B := T10.setTop (mkF m 155 #[.val (.long q0), .second, .val (.long q1), .second, .val (.int i2), .val (.int i3), .val (.long q4), .second, .val (.long q5), .second, .val (.long rt), .second, .val (.long bs), .second, .val (.int kk), .val (.long sh), .second, .val (.ref oa), .val (.double (FP.ddiv (FP.l2d aa) (FP.l2d dd))), .second, .val (.int (1 : Int32)), .val (.long r1), .second, .val (.long r2), .second, .val (.long bp), .second, .val (.long sp), .second, .val (.double (own_T r1 bp)), .second, .unset, .unset, .unset, .unset] [(.long sp), (.long r2), (.ref oe), (.ref oe)])) (fun _ kz => XS.lload X10.here hx rfl (hb hby at_153) rfl kz) ?_
  refine OGo.st (B := T10.setTop (mkF m 156 #[.val (.long q0), .second, .val (.long q1), .second, .val (.int i2), .val (.int i3), .val (.long q4), .second, .val (.long q5), .second, .val (.long rt), .second, .val (.long bs), .second, .val (.int kk), .val (.long sh), .second, .val (.ref oa), .val (.double (FP.ddiv (FP.l2d aa) (FP.l2d dd))), .second, .val (.int (1 : Int32)), .val (.long r1), .second, .val (.long r2), .second, .val (.long bp), .second, .val (.long sp), .second, .val (.double (own_T r1 bp)), .second, .unset, .unset, .unset, .unset] [(.long (1 : Int64)), (.long sp), (.long r2), (.ref oe), (.ref oe)])) (fun _ kz => XS.lconst X10.here hx rfl (hb hby at_155) kz) ?_
  obtain ⟨v11, T11, L11, X11, hQ11, st11⟩ := (rm43 l Z a0 hw oe r2 sp (1 : Int64) h10 n0 (Nat.le_trans Z0 K10.1) O10 ca cc S_cache BX de S_dflt A10 g_oe F10_rate F10_periodMs F10_burst (own_lt1 f_r2.1) (own_lt1 f_sp.1) (by decide) (own_cap1 _ f_sp.1 f_s4)).init (W := 1) X10 hx hZ rfl hown (hw _ (List.mem_of_getElem? (i := 5) rfl)) (hw _ (List.mem_of_getElem? (i := 6) rfl)) (hw _ (List.mem_of_getElem? (i := 4) rfl)) (hw _ (List.mem_of_getElem? (i := 7) rfl)) (by decide) (by decide) (by decide) e10 (by decide) (by decide) (g := (mkF m 156 #[.val (.long q0), .second, .val (.long q1), .second, .val (.int i2), .val (.int i3), .val (.long q4), .second, .val (.long q5), .second, .val (.long rt), .second, .val (.long bs), .second, .val (.int kk), .val (.long sh), .second, .val (.ref oa), .val (.double (FP.ddiv (FP.l2d aa) (FP.l2d dd))), .second, .val (.int (1 : Int32)), .val (.long r1), .second, .val (.long r2), .second, .val (.long bp), .second, .val (.long sp), .second, .val (.double (own_T r1 bp)), .second, .unset, .unset, .unset, .unset] [(.long (1 : Int64)), (.long sp), (.long r2), (.ref oe), (.ref oe)])) rfl (by rw [hml]; rfl) (argsL := [(.long r2), (.long sp), (.long (1 : Int64))]) (rest := [(.ref oe)]) rfl (lenOf pd_0 rfl) rfl (by show 2 * 0 + _ ≤ _; exact Nat.le_of_eq rfl) (hb hby at_156)
  obtain ⟨rfl, N11q, J11, Y11_0, Y11_1, Y11_2, Y11_3⟩ := hQ11
  have N11 := Fr.app N9 N11q
  have K11 : Keep h0 T11.heap [] := K10.trans J11 (allS (Or.inr sz_oe) all0)
  have O11 := O10.keep J11 (allS g_oe all0)
  refine OGo.st (B := T11.setTop (mkF m 159 #[.val (.long q0), .second, .val (.long q1), .second, .val (.int i2), .val (.int i3), .val (.long q4), .second, .val (.long q5), .second, .val (.long rt), .second, .val (.long bs), .second, .val (.int kk), .val (.long sh), .second, .val (.ref oa), .val (.double (FP.ddiv (FP.l2d aa) (FP.l2d dd))), .second, .val (.int (1 : Int32)), .val (.long r1), .second, .val (.long r2), .second, .val (.long bp), .second, .val (.long sp), .second, .val (.double (own_T r1 bp)), .second, .unset, .unset, .unset, .unset] [(.ref oe)])) st11 ?_
  obtain ⟨v12, T12, L12, X12, hQ12, st12⟩ := (rm60 l Z a0 hw oe r2 sp T11.heap n0 Y11_1 Y11_2 f_r2.1 f_sp.1).virt (W := 0) X11 hx hZ hown (hw _ (List.mem_of_getElem? (i := 76) rfl)) (hw _ (List.mem_of_getElem? (i := 77) rfl)) (nf_sel hZ (hw _ (List.mem_of_getElem? (i := 79) rfl))) (hw _ (List.mem_of_getElem? (i := 79) rfl)) (hw _ (List.mem_of_getElem? (i := 78) rfl)) (hw _ (List.mem_of_getElem? (i := 4) rfl)) (hw _ (List.mem_of_getElem? (i := 80) rfl)) (by decide) (by decide) (by decide) rfl (by decide) (by decide) (g := (mkF m 159 #[.val (.long q0), .second, .val (.long q1), .second, .val (.int i2), .val (.int i3), .val (.long q4), .second, .val (.long q5), .second, .val (.long rt), .second, .val (.long bs), .second, .val (.int kk), .val (.long sh), .second, .val (.ref oa), .val (.double (FP.ddiv (FP.l2d aa) (FP.l2d dd))), .second, .val (.int (1 : Int32)), .val (.long r1), .second, .val (.long r2), .second, .val (.long bp), .second, .val (.long sp), .second, .val (.double (own_T r1 bp)), .second, .unset, .unset, .unset, .unset] [(.ref oe)])) rfl (by rw [hml]; rfl) Y11_0 (argsL := []) (rest := []) rfl (lenOf pd_7 rfl) rfl (by show 2 * 0 + _ ≤ _; exact Nat.le_of_eq rfl) (hb hby at_159)
  obtain ⟨rfl, N12q, e12⟩ := hQ12
  have N12 := Fr.app N11 N12q
  refine OGo.st (B := T12.setTop (mkF m 162 #[.val (.long q0), .second, .val (.long q1), .second, .val (.int i2), .val (.int i3), .val (.long q4), .second, .val (.long q5), .second, .val (.long rt), .second, .val (.long bs), .second, .val (.int kk), .val (.long sh), .second, .val (.ref oa), .val (.double (FP.ddiv (FP.l2d aa) (FP.l2d dd))), .second, .val (.int (1 : Int32)), .val (.long r1), .second, .val (.long r2), .second, .val (.long bp), .second, .val (.long sp), .second, .val (.double (own_T r1 bp)), .second, .unset, .unset, .unset, .unset] [(.double (own_T r2 sp))])) st12 ?_
  refine OGo.st (B := T12.setTop (mkF m 164 #[.val (.long q0), .second, .val (.long q1), .second, .val (.int i2), .val (.int i3), .val (.long q4), .second, .val (.long q5), .second, .val (.long rt), .second, .val (.long bs), .second, .val (.int kk), .val (.long sh), .second, .val (.ref oa), .val (.double (FP.ddiv (FP.l2d aa) (FP.l2d dd))), .second, .val (.int (1 : Int32)), .val (.long r1), .second, .val (.long r2), .second, .val (.long bp), .second, .val (.long sp), .second, .val (.double (own_T r1 bp)), .second, .val (.double (own_T r2 sp)), .second, .unset, .unset] [])) (fun _ kz => XS.dstore X12.here hx rfl (hb hby at_162) rfl (l' := #[.val (.long q0), .second, .val (.long q1), .second, .val (.int i2), .val (.int i3), .val (.long q4), .second, .val (.long q5), .second, .val (.long rt), .second, .val (.long bs), .second, .val (.int kk), .val (.long sh), .second, .val (.ref oa), .val (.double (FP.ddiv (FP.l2d aa) (FP.l2d dd))), .second, .val (.int (1 : Int32)), .val (.long r1), .second, .val (.long r2), .second, .val (.long bp), .second, .val (.long sp), .second, .val (.double (own_T r1 bp)), .second, .val (.double (own_T r2 sp)), .second, .unset, .unset]) rfl kz) ?_
  refine OGo.st (B := T12.setTop (mkF m 166 #[.val (.long q0), .second, .val (.long q1), .second, .val (.int i2), .val (.int i3), .val (.long q4), .second, .val (.long q5), .second, .val (.long rt), .second, .val (.long bs), .second, .val (.int kk), .val (.long sh), .second, .val (.ref oa), .val (.double (FP.ddiv (FP.l2d aa) (FP.l2d dd))), .second, .val (.int (1 : Int32)), .val (.long r1), .second, .val (.long r2), .second, .val (.long bp), .second, .val (.long sp), .second, .val (.double (own_T r1 bp)), .second, .val (.double (own_T r2 sp)), .second, .unset, .unset] [(.double (own_T r1 bp))])) (fun _ kz => XS.dload X12.here hx rfl (hb hby at_164) rfl kz) ?_
  refine OGo.st (B := T12.setTop (mkF m 167 #[.val (.long q0), .second, .val (.long q1), .second, .val (.int i2), .val (.int i3), .val (.long q4), .second, .val (.long q5), .second, .val (.long rt), .second, .val (.long bs), .second, .val (.int kk), .val (.long sh), .second, .val (.ref oa), .val (.double (FP.ddiv (FP.l2d aa) (FP.l2d dd))), .second, .val (.int (1 : Int32)), .val (.long r1), .second, .val (.long r2), .second, .val (.long bp), .second, .val (.long sp), .second, .val (.double (own_T r1 bp)), .second, .val (.double (own_T r2 sp)), .second, .unset, .unset] [(.double FP.dconst0), (.double (own_T r1 bp))])) (fun _ kz => XS.dconst0 X12.here hx rfl (hb hby at_166) rfl kz) ?_
  refine OGo.st (B := T12.setTop (mkF m 168 #[.val (.long q0), .second, .val (.long q1), .second, .val (.int i2), .val (.int i3), .val (.long q4), .second, .val (.long q5), .second, .val (.long rt), .second, .val (.long bs), .second, .val (.int kk), .val (.long sh), .second, .val (.ref oa), .val (.double (FP.ddiv (FP.l2d aa) (FP.l2d dd))), .second, .val (.int (1 : Int32)), .val (.long r1), .second, .val (.long r2), .second, .val (.long bp), .second, .val (.long sp), .second, .val (.double (own_T r1 bp)), .second, .val (.double (own_T r2 sp)), .second, .unset, .unset] [(.int (1 : Int32))])) (fun _ kz => XS.dcmpS X12.here hx rfl (hb hby at_167) rfl (own_T_pos f_r1.1 f_bp.1 f_bp.2) kz) ?_
  refine OGo.st (B := T12.setTop (mkF m 171 #[.val (.long q0), .second, .val (.long q1), .second, .val (.int i2), .val (.int i3), .val (.long q4), .second, .val (.long q5), .second, .val (.long rt), .second, .val (.long bs), .second, .val (.int kk), .val (.long sh), .second, .val (.ref oa), .val (.double (FP.ddiv (FP.l2d aa) (FP.l2d dd))), .second, .val (.int (1 : Int32)), .val (.long r1), .second, .val (.long r2), .second, .val (.long bp), .second, .val (.long sp), .second, .val (.double (own_T r1 bp)), .second, .val (.double (own_T r2 sp)), .second, .unset, .unset] [])) (fun _ kz => XS.ifNo X12.here hx rfl (hb hby at_168) rfl (by decide) kz) ?_
  refine OGo.st (B := T12.setTop (mkF m 173 #[.val (.long q0), .second, .val (.long q1), .second, .val (.int i2), .val (.int i3), .val (.long q4), .second, .val (.long q5), .second, .val (.long rt), .second, .val (.long bs), .second, .val (.int kk), .val (.long sh), .second, .val (.ref oa), .val (.double (FP.ddiv (FP.l2d aa) (FP.l2d dd))), .second, .val (.int (1 : Int32)), .val (.long r1), .second, .val (.long r2), .second, .val (.long bp), .second, .val (.long sp), .second, .val (.double (own_T r1 bp)), .second, .val (.double (own_T r2 sp)), .second, .unset, .unset] [(.double (own_T r2 sp))])) (fun _ kz => XS.dload X12.here hx rfl (hb hby at_171) rfl kz) ?_
  refine OGo.st (B := T12.setTop (mkF m 174 #[.val (.long q0), .second, .val (.long q1), .second, .val (.int i2), .val (.int i3), .val (.long q4), .second, .val (.long q5), .second, .val (.long rt), .second, .val (.long bs), .second, .val (.int kk), .val (.long sh), .second, .val (.ref oa), .val (.double (FP.ddiv (FP.l2d aa) (FP.l2d dd))), .second, .val (.int (1 : Int32)), .val (.long r1), .second, .val (.long r2), .second, .val (.long bp), .second, .val (.long sp), .second, .val (.double (own_T r1 bp)), .second, .val (.double (own_T r2 sp)), .second, .unset, .unset] [(.double FP.dconst0), (.double (own_T r2 sp))])) (fun _ kz => XS.dconst0 X12.here hx rfl (hb hby at_173) rfl kz) ?_
  refine OGo.st (B := T12.setTop (mkF m 175 #[.val (.long q0), .second, .val (.long q1), .second, .val (.int i2), .val (.int i3), .val (.long q4), .second, .val (.long q5), .second, .val (.long rt), .second, .val (.long bs), .second, .val (.int kk), .val (.long sh), .second, .val (.ref oa), .val (.double (FP.ddiv (FP.l2d aa) (FP.l2d dd))), .second, .val (.int (1 : Int32)), .val (.long r1), .second, .val (.long r2), .second, .val (.long bp), .second, .val (.long sp), .second, .val (.double (own_T r1 bp)), .second, .val (.double (own_T r2 sp)), .second, .unset, .unset] [(.int (1 : Int32))])) (fun _ kz => XS.dcmpS X12.here hx rfl (hb hby at_174) rfl (own_T_pos f_r2.1 f_sp.1 f_s4) kz) ?_
  refine OGo.st (B := T12.setTop (mkF m 178 #[.val (.long q0), .second, .val (.long q1), .second, .val (.int i2), .val (.int i3), .val (.long q4), .second, .val (.long q5), .second, .val (.long rt), .second, .val (.long bs), .second, .val (.int kk), .val (.long sh), .second, .val (.ref oa), .val (.double (FP.ddiv (FP.l2d aa) (FP.l2d dd))), .second, .val (.int (1 : Int32)), .val (.long r1), .second, .val (.long r2), .second, .val (.long bp), .second, .val (.long sp), .second, .val (.double (own_T r1 bp)), .second, .val (.double (own_T r2 sp)), .second, .unset, .unset] [])) (fun _ kz => XS.ifNo X12.here hx rfl (hb hby at_175) rfl (by decide) kz) ?_
  refine OGo.st (B := T12.setTop (mkF m 180 #[.val (.long q0), .second, .val (.long q1), .second, .val (.int i2), .val (.int i3), .val (.long q4), .second, .val (.long q5), .second, .val (.long rt), .second, .val (.long bs), .second, .val (.int kk), .val (.long sh), .second, .val (.ref oa), .val (.double (FP.ddiv (FP.l2d aa) (FP.l2d dd))), .second, .val (.int (1 : Int32)), .val (.long r1), .second, .val (.long r2), .second, .val (.long bp), .second, .val (.long sp), .second, .val (.double (own_T r1 bp)), .second, .val (.double (own_T r2 sp)), .second, .unset, .unset] [(.double (own_T r1 bp))])) (fun _ kz => XS.dload X12.here hx rfl (hb hby at_178) rfl kz) ?_
  refine OGo.st (B := T12.setTop (mkF m 183 #[.val (.long q0), .second, .val (.long q1), .second, .val (.int i2), .val (.int i3), .val (.long q4), .second, .val (.long q5), .second, .val (.long rt), .second, .val (.long bs), .second, .val (.int kk), .val (.long sh), .second, .val (.ref oa), .val (.double (FP.ddiv (FP.l2d aa) (FP.l2d dd))), .second, .val (.int (1 : Int32)), .val (.long r1), .second, .val (.long r2), .second, .val (.long bp), .second, .val (.long sp), .second, .val (.double (own_T r1 bp)), .second, .val (.double (own_T r2 sp)), .second, .unset, .unset] [(.double (4936209963552724370 : UInt64)), (.double (own_T r1 bp))])) (X12.ldc2DoubleC hx hown (mvT hZ (hw _ (List.mem_of_getElem? (i := 88) rfl))) (g := (mkF m 180 #[.val (.long q0), .second, .val (.long q1), .second, .val (.int i2), .val (.int i3), .val (.long q4), .second, .val (.long q5), .second, .val (.long rt), .second, .val (.long bs), .second, .val (.int kk), .val (.long sh), .second, .val (.ref oa), .val (.double (FP.ddiv (FP.l2d aa) (FP.l2d dd))), .second, .val (.int (1 : Int32)), .val (.long r1), .second, .val (.long r2), .second, .val (.long bp), .second, .val (.long sp), .second, .val (.double (own_T r1 bp)), .second, .val (.double (own_T r2 sp)), .second, .unset, .unset] [(.double (own_T r1 bp))])) rfl (hb hby at_180)) ?_
  refine OGo.st (B := T12.setTop (mkF m 184 #[.val (.long q0), .second, .val (.long q1), .second, .val (.int i2), .val (.int i3), .val (.long q4), .second, .val (.long q5), .second, .val (.long rt), .second, .val (.long bs), .second, .val (.int kk), .val (.long sh), .second, .val (.ref oa), .val (.double (FP.ddiv (FP.l2d aa) (FP.l2d dd))), .second, .val (.int (1 : Int32)), .val (.long r1), .second, .val (.long r2), .second, .val (.long bp), .second, .val (.long sp), .second, .val (.double (own_T r1 bp)), .second, .val (.double (own_T r2 sp)), .second, .unset, .unset] [(.int (-1 : Int32))])) (fun _ kz => XS.dcmpS X12.here hx rfl (hb hby at_183) rfl (own_T_top f_r1.1 f_bp.1) kz) ?_
  refine OGo.st (B := T12.setTop (mkF m 187 #[.val (.long q0), .second, .val (.long q1), .second, .val (.int i2), .val (.int i3), .val (.long q4), .second, .val (.long q5), .second, .val (.long rt), .second, .val (.long bs), .second, .val (.int kk), .val (.long sh), .second, .val (.ref oa), .val (.double (FP.ddiv (FP.l2d aa) (FP.l2d dd))), .second, .val (.int (1 : Int32)), .val (.long r1), .second, .val (.long r2), .second, .val (.long bp), .second, .val (.long sp), .second, .val (.double (own_T r1 bp)), .second, .val (.double (own_T r2 sp)), .second, .unset, .unset] [])) (fun _ kz => XS.ifNo X12.here hx rfl (hb hby at_184) rfl (by decide) kz) ?_
  refine OGo.st (B := T12.setTop (mkF m 189 #[.val (.long q0), .second, .val (.long q1), .second, .val (.int i2), .val (.int i3), .val (.long q4), .second, .val (.long q5), .second, .val (.long rt), .second, .val (.long bs), .second, .val (.int kk), .val (.long sh), .second, .val (.ref oa), .val (.double (FP.ddiv (FP.l2d aa) (FP.l2d dd))), .second, .val (.int (1 : Int32)), .val (.long r1), .second, .val (.long r2), .second, .val (.long bp), .second, .val (.long sp), .second, .val (.double (own_T r1 bp)), .second, .val (.double (own_T r2 sp)), .second, .unset, .unset] [(.double (own_T r2 sp))])) (fun _ kz => XS.dload X12.here hx rfl (hb hby at_187) rfl kz) ?_
  refine OGo.st (B := T12.setTop (mkF m 192 #[.val (.long q0), .second, .val (.long q1), .second, .val (.int i2), .val (.int i3), .val (.long q4), .second, .val (.long q5), .second, .val (.long rt), .second, .val (.long bs), .second, .val (.int kk), .val (.long sh), .second, .val (.ref oa), .val (.double (FP.ddiv (FP.l2d aa) (FP.l2d dd))), .second, .val (.int (1 : Int32)), .val (.long r1), .second, .val (.long r2), .second, .val (.long bp), .second, .val (.long sp), .second, .val (.double (own_T r1 bp)), .second, .val (.double (own_T r2 sp)), .second, .unset, .unset] [(.double (4936209963552724370 : UInt64)), (.double (own_T r2 sp))])) (X12.ldc2DoubleC hx hown (mvT hZ (hw _ (List.mem_of_getElem? (i := 88) rfl))) (g := (mkF m 189 #[.val (.long q0), .second, .val (.long q1), .second, .val (.int i2), .val (.int i3), .val (.long q4), .second, .val (.long q5), .second, .val (.long rt), .second, .val (.long bs), .second, .val (.int kk), .val (.long sh), .second, .val (.ref oa), .val (.double (FP.ddiv (FP.l2d aa) (FP.l2d dd))), .second, .val (.int (1 : Int32)), .val (.long r1), .second, .val (.long r2), .second, .val (.long bp), .second, .val (.long sp), .second, .val (.double (own_T r1 bp)), .second, .val (.double (own_T r2 sp)), .second, .unset, .unset] [(.double (own_T r2 sp))])) rfl (hb hby at_189)) ?_
  refine OGo.st (B := T12.setTop (mkF m 193 #[.val (.long q0), .second, .val (.long q1), .second, .val (.int i2), .val (.int i3), .val (.long q4), .second, .val (.long q5), .second, .val (.long rt), .second, .val (.long bs), .second, .val (.int kk), .val (.long sh), .second, .val (.ref oa), .val (.double (FP.ddiv (FP.l2d aa) (FP.l2d dd))), .second, .val (.int (1 : Int32)), .val (.long r1), .second, .val (.long r2), .second, .val (.long bp), .second, .val (.long sp), .second, .val (.double (own_T r1 bp)), .second, .val (.double (own_T r2 sp)), .second, .unset, .unset] [(.int (-1 : Int32))])) (fun _ kz => XS.dcmpS X12.here hx rfl (hb hby at_192) rfl (own_T_top f_r2.1 f_sp.1) kz) ?_
  refine OGo.st (B := T12.setTop (mkF m 196 #[.val (.long q0), .second, .val (.long q1), .second, .val (.int i2), .val (.int i3), .val (.long q4), .second, .val (.long q5), .second, .val (.long rt), .second, .val (.long bs), .second, .val (.int kk), .val (.long sh), .second, .val (.ref oa), .val (.double (FP.ddiv (FP.l2d aa) (FP.l2d dd))), .second, .val (.int (1 : Int32)), .val (.long r1), .second, .val (.long r2), .second, .val (.long bp), .second, .val (.long sp), .second, .val (.double (own_T r1 bp)), .second, .val (.double (own_T r2 sp)), .second, .unset, .unset] [])) (fun _ kz => XS.ifNo X12.here hx rfl (hb hby at_193) rfl (by decide) kz) ?_
  refine OGo.st (B := T12.setTop (mkF m 197 #[.val (.long q0), .second, .val (.long q1), .second, .val (.int i2), .val (.int i3), .val (.long q4), .second, .val (.long q5), .second, .val (.long rt), .second, .val (.long bs), .second, .val (.int kk), .val (.long sh), .second, .val (.ref oa), .val (.double (FP.ddiv (FP.l2d aa) (FP.l2d dd))), .second, .val (.int (1 : Int32)), .val (.long r1), .second, .val (.long r2), .second, .val (.long bp), .second, .val (.long sp), .second, .val (.double (own_T r1 bp)), .second, .val (.double (own_T r2 sp)), .second, .unset, .unset] [(.int (1 : Int32))])) (fun _ kz => XS.iconst X12.here hx rfl (hb hby at_196) kz) ?_
  refine OGo.st (B := T12.setTop (mkF m 201 #[.val (.long q0), .second, .val (.long q1), .second, .val (.int i2), .val (.int i3), .val (.long q4), .second, .val (.long q5), .second, .val (.long rt), .second, .val (.long bs), .second, .val (.int kk), .val (.long sh), .second, .val (.ref oa), .val (.double (FP.ddiv (FP.l2d aa) (FP.l2d dd))), .second, .val (.int (1 : Int32)), .val (.long r1), .second, .val (.long r2), .second, .val (.long bp), .second, .val (.long sp), .second, .val (.double (own_T r1 bp)), .second, .val (.double (own_T r2 sp)), .second, .unset, .unset] [(.int (1 : Int32))])) (fun _ kz => XS.goto X12.here hx rfl (pc0 := 197) (pc' := 201) rfl (hb hby at_197) (by decide) (by decide) kz) ?_
  refine OGo.st (B := T12.setTop (mkF m 203 #[.val (.long q0), .second, .val (.long q1), .second, .val (.int i2), .val (.int i3), .val (.long q4), .second, .val (.long q5), .second, .val (.long rt), .second, .val (.long bs), .second, .val (.int kk), .val (.long sh), .second, .val (.ref oa), .val (.double (FP.ddiv (FP.l2d aa) (FP.l2d dd))), .second, .val (.int (1 : Int32)), .val (.long r1), .second, .val (.long r2), .second, .val (.long bp), .second, .val (.long sp), .second, .val (.double (own_T r1 bp)), .second, .val (.double (own_T r2 sp)), .second, .val (.int (1 : Int32)), .unset] [])) (fun _ kz => XS.istore X12.here hx rfl (hb hby at_201) rfl (l' := #[.val (.long q0), .second, .val (.long q1), .second, .val (.int i2), .val (.int i3), .val (.long q4), .second, .val (.long q5), .second, .val (.long rt), .second, .val (.long bs), .second, .val (.int kk), .val (.long sh), .second, .val (.ref oa), .val (.double (FP.ddiv (FP.l2d aa) (FP.l2d dd))), .second, .val (.int (1 : Int32)), .val (.long r1), .second, .val (.long r2), .second, .val (.long bp), .second, .val (.long sp), .second, .val (.double (own_T r1 bp)), .second, .val (.double (own_T r2 sp)), .second, .val (.int (1 : Int32)), .unset]) rfl kz) ?_
  refine OGo.st (B := T12.setTop (mkF m 205 #[.val (.long q0), .second, .val (.long q1), .second, .val (.int i2), .val (.int i3), .val (.long q4), .second, .val (.long q5), .second, .val (.long rt), .second, .val (.long bs), .second, .val (.int kk), .val (.long sh), .second, .val (.ref oa), .val (.double (FP.ddiv (FP.l2d aa) (FP.l2d dd))), .second, .val (.int (1 : Int32)), .val (.long r1), .second, .val (.long r2), .second, .val (.long bp), .second, .val (.long sp), .second, .val (.double (own_T r1 bp)), .second, .val (.double (own_T r2 sp)), .second, .val (.int (1 : Int32)), .unset] [(.long r1)])) (fun _ kz => XS.lload X12.here hx rfl (hb hby at_203) rfl kz) ?_
  refine OGo.st (B := T12.setTop (mkF m 207 #[.val (.long q0), .second, .val (.long q1), .second, .val (.int i2), .val (.int i3), .val (.long q4), .second, .val (.long q5), .second, .val (.long rt), .second, .val (.long bs), .second, .val (.int kk), .val (.long sh), .second, .val (.ref oa), .val (.double (FP.ddiv (FP.l2d aa) (FP.l2d dd))), .second, .val (.int (1 : Int32)), .val (.long r1), .second, .val (.long r2), .second, .val (.long bp), .second, .val (.long sp), .second, .val (.double (own_T r1 bp)), .second, .val (.double (own_T r2 sp)), .second, .val (.int (1 : Int32)), .unset] [(.long r2), (.long r1)])) (fun _ kz => XS.lload X12.here hx rfl (hb hby at_205) rfl kz) ?_
  refine OGo.st (B := T12.setTop (mkF m 208 #[.val (.long q0), .second, .val (.long q1), .second, .val (.int i2), .val (.int i3), .val (.long q4), .second, .val (.long q5), .second, .val (.long rt), .second, .val (.long bs), .second, .val (.int kk), .val (.long sh), .second, .val (.ref oa), .val (.double (FP.ddiv (FP.l2d aa) (FP.l2d dd))), .second, .val (.int (1 : Int32)), .val (.long r1), .second, .val (.long r2), .second, .val (.long bp), .second, .val (.long sp), .second, .val (.double (own_T r1 bp)), .second, .val (.double (own_T r2 sp)), .second, .val (.int (1 : Int32)), .unset] [(.int (lcmpW r1 r2))])) (fun _ kz => XS.lcmp X12.here hx rfl (hb hby at_207) rfl kz) ?_
  by_cases c : r2 < r1
  · skip
    refine OGo.st (B := T12.setTop (mkF m 219 #[.val (.long q0), .second, .val (.long q1), .second, .val (.int i2), .val (.int i3), .val (.long q4), .second, .val (.long q5), .second, .val (.long rt), .second, .val (.long bs), .second, .val (.int kk), .val (.long sh), .second, .val (.ref oa), .val (.double (FP.ddiv (FP.l2d aa) (FP.l2d dd))), .second, .val (.int (1 : Int32)), .val (.long r1), .second, .val (.long r2), .second, .val (.long bp), .second, .val (.long sp), .second, .val (.double (own_T r1 bp)), .second, .val (.double (own_T r2 sp)), .second, .val (.int (1 : Int32)), .unset] [])) (fun _ kz => XS.ifYes X12.here hx rfl (pc0 := 208) (pc' := 219) rfl (hb hby at_208) rfl ((if0 _ _).trans (tlt ((lw_gt _ _).mpr c)).2.2.1) (by decide) (by decide) kz) ?_
    refine OGo.st (B := T12.setTop (mkF m 220 #[.val (.long q0), .second, .val (.long q1), .second, .val (.int i2), .val (.int i3), .val (.long q4), .second, .val (.long q5), .second, .val (.long rt), .second, .val (.long bs), .second, .val (.int kk), .val (.long sh), .second, .val (.ref oa), .val (.double (FP.ddiv (FP.l2d aa) (FP.l2d dd))), .second, .val (.int (1 : Int32)), .val (.long r1), .second, .val (.long r2), .second, .val (.long bp), .second, .val (.long sp), .second, .val (.double (own_T r1 bp)), .second, .val (.double (own_T r2 sp)), .second, .val (.int (1 : Int32)), .unset] [(.int (1 : Int32))])) (fun _ kz => XS.iconst X12.here hx rfl (hb hby at_219) kz) ?_
    refine OGo.st (B := T12.setTop (mkF m 224 #[.val (.long q0), .second, .val (.long q1), .second, .val (.int i2), .val (.int i3), .val (.long q4), .second, .val (.long q5), .second, .val (.long rt), .second, .val (.long bs), .second, .val (.int kk), .val (.long sh), .second, .val (.ref oa), .val (.double (FP.ddiv (FP.l2d aa) (FP.l2d dd))), .second, .val (.int (1 : Int32)), .val (.long r1), .second, .val (.long r2), .second, .val (.long bp), .second, .val (.long sp), .second, .val (.double (own_T r1 bp)), .second, .val (.double (own_T r2 sp)), .second, .val (.int (1 : Int32)), .unset] [(.int (1 : Int32))])) (fun _ kz => XS.goto X12.here hx rfl (pc0 := 220) (pc' := 224) rfl (hb hby at_220) (by decide) (by decide) kz) ?_
    refine OGo.st (B := T12.setTop (mkF m 226 #[.val (.long q0), .second, .val (.long q1), .second, .val (.int i2), .val (.int i3), .val (.long q4), .second, .val (.long q5), .second, .val (.long rt), .second, .val (.long bs), .second, .val (.int kk), .val (.long sh), .second, .val (.ref oa), .val (.double (FP.ddiv (FP.l2d aa) (FP.l2d dd))), .second, .val (.int (1 : Int32)), .val (.long r1), .second, .val (.long r2), .second, .val (.long bp), .second, .val (.long sp), .second, .val (.double (own_T r1 bp)), .second, .val (.double (own_T r2 sp)), .second, .val (.int (1 : Int32)), .val (.int (1 : Int32))] [])) (fun _ kz => XS.istore X12.here hx rfl (hb hby at_224) rfl (l' := #[.val (.long q0), .second, .val (.long q1), .second, .val (.int i2), .val (.int i3), .val (.long q4), .second, .val (.long q5), .second, .val (.long rt), .second, .val (.long bs), .second, .val (.int kk), .val (.long sh), .second, .val (.ref oa), .val (.double (FP.ddiv (FP.l2d aa) (FP.l2d dd))), .second, .val (.int (1 : Int32)), .val (.long r1), .second, .val (.long r2), .second, .val (.long bp), .second, .val (.long sp), .second, .val (.double (own_T r1 bp)), .second, .val (.double (own_T r2 sp)), .second, .val (.int (1 : Int32)), .val (.int (1 : Int32))]) rfl kz) ?_
    refine OGo.st (B := T12.setTop (mkF m 228 #[.val (.long q0), .second, .val (.long q1), .second, .val (.int i2), .val (.int i3), .val (.long q4), .second, .val (.long q5), .second, .val (.long rt), .second, .val (.long bs), .second, .val (.int kk), .val (.long sh), .second, .val (.ref oa), .val (.double (FP.ddiv (FP.l2d aa) (FP.l2d dd))), .second, .val (.int (1 : Int32)), .val (.long r1), .second, .val (.long r2), .second, .val (.long bp), .second, .val (.long sp), .second, .val (.double (own_T r1 bp)), .second, .val (.double (own_T r2 sp)), .second, .val (.int (1 : Int32)), .val (.int (1 : Int32))] [(.int (1 : Int32))])) (fun _ kz => XS.iload X12.here hx rfl (hb hby at_226) rfl kz) ?_
    refine OGo.st (B := T12.setTop (mkF m 231 #[.val (.long q0), .second, .val (.long q1), .second, .val (.int i2), .val (.int i3), .val (.long q4), .second, .val (.long q5), .second, .val (.long rt), .second, .val (.long bs), .second, .val (.int kk), .val (.long sh), .second, .val (.ref oa), .val (.double (FP.ddiv (FP.l2d aa) (FP.l2d dd))), .second, .val (.int (1 : Int32)), .val (.long r1), .second, .val (.long r2), .second, .val (.long bp), .second, .val (.long sp), .second, .val (.double (own_T r1 bp)), .second, .val (.double (own_T r2 sp)), .second, .val (.int (1 : Int32)), .val (.int (1 : Int32))] [])) (fun _ kz => XS.ifNo X12.here hx rfl (hb hby at_228) rfl (by decide) kz) ?_
    refine OGo.st (B := T12.setTop (mkF m 233 #[.val (.long q0), .second, .val (.long q1), .second, .val (.int i2), .val (.int i3), .val (.long q4), .second, .val (.long q5), .second, .val (.long rt), .second, .val (.long bs), .second, .val (.int kk), .val (.long sh), .second, .val (.ref oa), .val (.double (FP.ddiv (FP.l2d aa) (FP.l2d dd))), .second, .val (.int (1 : Int32)), .val (.long r1), .second, .val (.long r2), .second, .val (.long bp), .second, .val (.long sp), .second, .val (.double (own_T r1 bp)), .second, .val (.double (own_T r2 sp)), .second, .val (.int (1 : Int32)), .val (.int (1 : Int32))] [(.int (1 : Int32))])) (fun _ kz => XS.iload X12.here hx rfl (hb hby at_231) rfl kz) ?_
    refine OGo.st (B := T12.setTop (mkF m 236 #[.val (.long q0), .second, .val (.long q1), .second, .val (.int i2), .val (.int i3), .val (.long q4), .second, .val (.long q5), .second, .val (.long rt), .second, .val (.long bs), .second, .val (.int kk), .val (.long sh), .second, .val (.ref oa), .val (.double (FP.ddiv (FP.l2d aa) (FP.l2d dd))), .second, .val (.int (1 : Int32)), .val (.long r1), .second, .val (.long r2), .second, .val (.long bp), .second, .val (.long sp), .second, .val (.double (own_T r1 bp)), .second, .val (.double (own_T r2 sp)), .second, .val (.int (1 : Int32)), .val (.int (1 : Int32))] [])) (fun _ kz => XS.ifNo X12.here hx rfl (hb hby at_233) rfl (by decide) kz) ?_
    refine OGo.st (B := T12.setTop (mkF m 238 #[.val (.long q0), .second, .val (.long q1), .second, .val (.int i2), .val (.int i3), .val (.long q4), .second, .val (.long q5), .second, .val (.long rt), .second, .val (.long bs), .second, .val (.int kk), .val (.long sh), .second, .val (.ref oa), .val (.double (FP.ddiv (FP.l2d aa) (FP.l2d dd))), .second, .val (.int (1 : Int32)), .val (.long r1), .second, .val (.long r2), .second, .val (.long bp), .second, .val (.long sp), .second, .val (.double (own_T r1 bp)), .second, .val (.double (own_T r2 sp)), .second, .val (.int (1 : Int32)), .val (.int (1 : Int32))] [(.int (1 : Int32))])) (fun _ kz => XS.iload X12.here hx rfl (hb hby at_236) rfl kz) ?_
    refine OGo.st (B := T12.setTop (mkF m 241 #[.val (.long q0), .second, .val (.long q1), .second, .val (.int i2), .val (.int i3), .val (.long q4), .second, .val (.long q5), .second, .val (.long rt), .second, .val (.long bs), .second, .val (.int kk), .val (.long sh), .second, .val (.ref oa), .val (.double (FP.ddiv (FP.l2d aa) (FP.l2d dd))), .second, .val (.int (1 : Int32)), .val (.long r1), .second, .val (.long r2), .second, .val (.long bp), .second, .val (.long sp), .second, .val (.double (own_T r1 bp)), .second, .val (.double (own_T r2 sp)), .second, .val (.int (1 : Int32)), .val (.int (1 : Int32))] [])) (fun _ kz => XS.ifNo X12.here hx rfl (hb hby at_238) rfl (by decide) kz) ?_
    refine OGo.st (B := T12.setTop (mkF m 242 #[.val (.long q0), .second, .val (.long q1), .second, .val (.int i2), .val (.int i3), .val (.long q4), .second, .val (.long q5), .second, .val (.long rt), .second, .val (.long bs), .second, .val (.int kk), .val (.long sh), .second, .val (.ref oa), .val (.double (FP.ddiv (FP.l2d aa) (FP.l2d dd))), .second, .val (.int (1 : Int32)), .val (.long r1), .second, .val (.long r2), .second, .val (.long bp), .second, .val (.long sp), .second, .val (.double (own_T r1 bp)), .second, .val (.double (own_T r2 sp)), .second, .val (.int (1 : Int32)), .val (.int (1 : Int32))] [(.int (1 : Int32))])) (fun _ kz => XS.iconst X12.here hx rfl (hb hby at_241) kz) ?_
    refine OGo.st (B := T12.setTop (mkF m 246 #[.val (.long q0), .second, .val (.long q1), .second, .val (.int i2), .val (.int i3), .val (.long q4), .second, .val (.long q5), .second, .val (.long rt), .second, .val (.long bs), .second, .val (.int kk), .val (.long sh), .second, .val (.ref oa), .val (.double (FP.ddiv (FP.l2d aa) (FP.l2d dd))), .second, .val (.int (1 : Int32)), .val (.long r1), .second, .val (.long r2), .second, .val (.long bp), .second, .val (.long sp), .second, .val (.double (own_T r1 bp)), .second, .val (.double (own_T r2 sp)), .second, .val (.int (1 : Int32)), .val (.int (1 : Int32))] [(.int (1 : Int32))])) (fun _ kz => XS.goto X12.here hx rfl (pc0 := 242) (pc' := 246) rfl (hb hby at_242) (by decide) (by decide) kz) ?_
    exact own_retZ X12 hx hret hlk (hb hby at_246) ⟨rfl, N12⟩ (by decide) (by decide)
  · skip
    refine OGo.st (B := T12.setTop (mkF m 211 #[.val (.long q0), .second, .val (.long q1), .second, .val (.int i2), .val (.int i3), .val (.long q4), .second, .val (.long q5), .second, .val (.long rt), .second, .val (.long bs), .second, .val (.int kk), .val (.long sh), .second, .val (.ref oa), .val (.double (FP.ddiv (FP.l2d aa) (FP.l2d dd))), .second, .val (.int (1 : Int32)), .val (.long r1), .second, .val (.long r2), .second, .val (.long bp), .second, .val (.long sp), .second, .val (.double (own_T r1 bp)), .second, .val (.double (own_T r2 sp)), .second, .val (.int (1 : Int32)), .unset] [])) (fun _ kz => XS.ifNo X12.here hx rfl (hb hby at_208) rfl ((if0 _ _).trans (flt (mt (lw_gt _ _).mp c)).2.2.1) kz) ?_
    refine OGo.st (B := T12.setTop (mkF m 213 #[.val (.long q0), .second, .val (.long q1), .second, .val (.int i2), .val (.int i3), .val (.long q4), .second, .val (.long q5), .second, .val (.long rt), .second, .val (.long bs), .second, .val (.int kk), .val (.long sh), .second, .val (.ref oa), .val (.double (FP.ddiv (FP.l2d aa) (FP.l2d dd))), .second, .val (.int (1 : Int32)), .val (.long r1), .second, .val (.long r2), .second, .val (.long bp), .second, .val (.long sp), .second, .val (.double (own_T r1 bp)), .second, .val (.double (own_T r2 sp)), .second, .val (.int (1 : Int32)), .unset] [(.double (own_T r1 bp))])) (fun _ kz => XS.dload X12.here hx rfl (hb hby at_211) rfl kz) ?_
    refine OGo.st (B := T12.setTop (mkF m 215 #[.val (.long q0), .second, .val (.long q1), .second, .val (.int i2), .val (.int i3), .val (.long q4), .second, .val (.long q5), .second, .val (.long rt), .second, .val (.long bs), .second, .val (.int kk), .val (.long sh), .second, .val (.ref oa), .val (.double (FP.ddiv (FP.l2d aa) (FP.l2d dd))), .second, .val (.int (1 : Int32)), .val (.long r1), .second, .val (.long r2), .second, .val (.long bp), .second, .val (.long sp), .second, .val (.double (own_T r1 bp)), .second, .val (.double (own_T r2 sp)), .second, .val (.int (1 : Int32)), .unset] [(.double (own_T r2 sp)), (.double (own_T r1 bp))])) (fun _ kz => XS.dload X12.here hx rfl (hb hby at_213) rfl kz) ?_
    obtain ⟨vv, h_vv⟩ : ∃ v, cmpValue (FP.dcmp (own_T r1 bp) (own_T r2 sp)) .g = v := ⟨_, rfl⟩
    have f_vv : ¬ (0 : Int32) < vv := h_vv ▸ own_T_ord f_r1.1 (own_le c) f_sp.1 f_s2
    refine OGo.st (B := T12.setTop (mkF m 216 #[.val (.long q0), .second, .val (.long q1), .second, .val (.int i2), .val (.int i3), .val (.long q4), .second, .val (.long q5), .second, .val (.long rt), .second, .val (.long bs), .second, .val (.int kk), .val (.long sh), .second, .val (.ref oa), .val (.double (FP.ddiv (FP.l2d aa) (FP.l2d dd))), .second, .val (.int (1 : Int32)), .val (.long r1), .second, .val (.long r2), .second, .val (.long bp), .second, .val (.long sp), .second, .val (.double (own_T r1 bp)), .second, .val (.double (own_T r2 sp)), .second, .val (.int (1 : Int32)), .unset] [(.int vv)])) (fun _ kz => XS.dcmpS X12.here hx rfl (hb hby at_215) rfl h_vv kz) ?_
    refine OGo.st (B := T12.setTop (mkF m 219 #[.val (.long q0), .second, .val (.long q1), .second, .val (.int i2), .val (.int i3), .val (.long q4), .second, .val (.long q5), .second, .val (.long rt), .second, .val (.long bs), .second, .val (.int kk), .val (.long sh), .second, .val (.ref oa), .val (.double (FP.ddiv (FP.l2d aa) (FP.l2d dd))), .second, .val (.int (1 : Int32)), .val (.long r1), .second, .val (.long r2), .second, .val (.long bp), .second, .val (.long sp), .second, .val (.double (own_T r1 bp)), .second, .val (.double (own_T r2 sp)), .second, .val (.int (1 : Int32)), .unset] [])) (fun _ kz => XS.ifNo X12.here hx rfl (hb hby at_216) rfl ((if0 _ _).trans (flt f_vv).2.2.1) kz) ?_
    refine OGo.st (B := T12.setTop (mkF m 220 #[.val (.long q0), .second, .val (.long q1), .second, .val (.int i2), .val (.int i3), .val (.long q4), .second, .val (.long q5), .second, .val (.long rt), .second, .val (.long bs), .second, .val (.int kk), .val (.long sh), .second, .val (.ref oa), .val (.double (FP.ddiv (FP.l2d aa) (FP.l2d dd))), .second, .val (.int (1 : Int32)), .val (.long r1), .second, .val (.long r2), .second, .val (.long bp), .second, .val (.long sp), .second, .val (.double (own_T r1 bp)), .second, .val (.double (own_T r2 sp)), .second, .val (.int (1 : Int32)), .unset] [(.int (1 : Int32))])) (fun _ kz => XS.iconst X12.here hx rfl (hb hby at_219) kz) ?_
    refine OGo.st (B := T12.setTop (mkF m 224 #[.val (.long q0), .second, .val (.long q1), .second, .val (.int i2), .val (.int i3), .val (.long q4), .second, .val (.long q5), .second, .val (.long rt), .second, .val (.long bs), .second, .val (.int kk), .val (.long sh), .second, .val (.ref oa), .val (.double (FP.ddiv (FP.l2d aa) (FP.l2d dd))), .second, .val (.int (1 : Int32)), .val (.long r1), .second, .val (.long r2), .second, .val (.long bp), .second, .val (.long sp), .second, .val (.double (own_T r1 bp)), .second, .val (.double (own_T r2 sp)), .second, .val (.int (1 : Int32)), .unset] [(.int (1 : Int32))])) (fun _ kz => XS.goto X12.here hx rfl (pc0 := 220) (pc' := 224) rfl (hb hby at_220) (by decide) (by decide) kz) ?_
    refine OGo.st (B := T12.setTop (mkF m 226 #[.val (.long q0), .second, .val (.long q1), .second, .val (.int i2), .val (.int i3), .val (.long q4), .second, .val (.long q5), .second, .val (.long rt), .second, .val (.long bs), .second, .val (.int kk), .val (.long sh), .second, .val (.ref oa), .val (.double (FP.ddiv (FP.l2d aa) (FP.l2d dd))), .second, .val (.int (1 : Int32)), .val (.long r1), .second, .val (.long r2), .second, .val (.long bp), .second, .val (.long sp), .second, .val (.double (own_T r1 bp)), .second, .val (.double (own_T r2 sp)), .second, .val (.int (1 : Int32)), .val (.int (1 : Int32))] [])) (fun _ kz => XS.istore X12.here hx rfl (hb hby at_224) rfl (l' := #[.val (.long q0), .second, .val (.long q1), .second, .val (.int i2), .val (.int i3), .val (.long q4), .second, .val (.long q5), .second, .val (.long rt), .second, .val (.long bs), .second, .val (.int kk), .val (.long sh), .second, .val (.ref oa), .val (.double (FP.ddiv (FP.l2d aa) (FP.l2d dd))), .second, .val (.int (1 : Int32)), .val (.long r1), .second, .val (.long r2), .second, .val (.long bp), .second, .val (.long sp), .second, .val (.double (own_T r1 bp)), .second, .val (.double (own_T r2 sp)), .second, .val (.int (1 : Int32)), .val (.int (1 : Int32))]) rfl kz) ?_
    refine OGo.st (B := T12.setTop (mkF m 228 #[.val (.long q0), .second, .val (.long q1), .second, .val (.int i2), .val (.int i3), .val (.long q4), .second, .val (.long q5), .second, .val (.long rt), .second, .val (.long bs), .second, .val (.int kk), .val (.long sh), .second, .val (.ref oa), .val (.double (FP.ddiv (FP.l2d aa) (FP.l2d dd))), .second, .val (.int (1 : Int32)), .val (.long r1), .second, .val (.long r2), .second, .val (.long bp), .second, .val (.long sp), .second, .val (.double (own_T r1 bp)), .second, .val (.double (own_T r2 sp)), .second, .val (.int (1 : Int32)), .val (.int (1 : Int32))] [(.int (1 : Int32))])) (fun _ kz => XS.iload X12.here hx rfl (hb hby at_226) rfl kz) ?_
    refine OGo.st (B := T12.setTop (mkF m 231 #[.val (.long q0), .second, .val (.long q1), .second, .val (.int i2), .val (.int i3), .val (.long q4), .second, .val (.long q5), .second, .val (.long rt), .second, .val (.long bs), .second, .val (.int kk), .val (.long sh), .second, .val (.ref oa), .val (.double (FP.ddiv (FP.l2d aa) (FP.l2d dd))), .second, .val (.int (1 : Int32)), .val (.long r1), .second, .val (.long r2), .second, .val (.long bp), .second, .val (.long sp), .second, .val (.double (own_T r1 bp)), .second, .val (.double (own_T r2 sp)), .second, .val (.int (1 : Int32)), .val (.int (1 : Int32))] [])) (fun _ kz => XS.ifNo X12.here hx rfl (hb hby at_228) rfl (by decide) kz) ?_
    refine OGo.st (B := T12.setTop (mkF m 233 #[.val (.long q0), .second, .val (.long q1), .second, .val (.int i2), .val (.int i3), .val (.long q4), .second, .val (.long q5), .second, .val (.long rt), .second, .val (.long bs), .second, .val (.int kk), .val (.long sh), .second, .val (.ref oa), .val (.double (FP.ddiv (FP.l2d aa) (FP.l2d dd))), .second, .val (.int (1 : Int32)), .val (.long r1), .second, .val (.long r2), .second, .val (.long bp), .second, .val (.long sp), .second, .val (.double (own_T r1 bp)), .second, .val (.double (own_T r2 sp)), .second, .val (.int (1 : Int32)), .val (.int (1 : Int32))] [(.int (1 : Int32))])) (fun _ kz => XS.iload X12.here hx rfl (hb hby at_231) rfl kz) ?_
    refine OGo.st (B := T12.setTop (mkF m 236 #[.val (.long q0), .second, .val (.long q1), .second, .val (.int i2), .val (.int i3), .val (.long q4), .second, .val (.long q5), .second, .val (.long rt), .second, .val (.long bs), .second, .val (.int kk), .val (.long sh), .second, .val (.ref oa), .val (.double (FP.ddiv (FP.l2d aa) (FP.l2d dd))), .second, .val (.int (1 : Int32)), .val (.long r1), .second, .val (.long r2), .second, .val (.long bp), .second, .val (.long sp), .second, .val (.double (own_T r1 bp)), .second, .val (.double (own_T r2 sp)), .second, .val (.int (1 : Int32)), .val (.int (1 : Int32))] [])) (fun _ kz => XS.ifNo X12.here hx rfl (hb hby at_233) rfl (by decide) kz) ?_
    refine OGo.st (B := T12.setTop (mkF m 238 #[.val (.long q0), .second, .val (.long q1), .second, .val (.int i2), .val (.int i3), .val (.long q4), .second, .val (.long q5), .second, .val (.long rt), .second, .val (.long bs), .second, .val (.int kk), .val (.long sh), .second, .val (.ref oa), .val (.double (FP.ddiv (FP.l2d aa) (FP.l2d dd))), .second, .val (.int (1 : Int32)), .val (.long r1), .second, .val (.long r2), .second, .val (.long bp), .second, .val (.long sp), .second, .val (.double (own_T r1 bp)), .second, .val (.double (own_T r2 sp)), .second, .val (.int (1 : Int32)), .val (.int (1 : Int32))] [(.int (1 : Int32))])) (fun _ kz => XS.iload X12.here hx rfl (hb hby at_236) rfl kz) ?_
    refine OGo.st (B := T12.setTop (mkF m 241 #[.val (.long q0), .second, .val (.long q1), .second, .val (.int i2), .val (.int i3), .val (.long q4), .second, .val (.long q5), .second, .val (.long rt), .second, .val (.long bs), .second, .val (.int kk), .val (.long sh), .second, .val (.ref oa), .val (.double (FP.ddiv (FP.l2d aa) (FP.l2d dd))), .second, .val (.int (1 : Int32)), .val (.long r1), .second, .val (.long r2), .second, .val (.long bp), .second, .val (.long sp), .second, .val (.double (own_T r1 bp)), .second, .val (.double (own_T r2 sp)), .second, .val (.int (1 : Int32)), .val (.int (1 : Int32))] [])) (fun _ kz => XS.ifNo X12.here hx rfl (hb hby at_238) rfl (by decide) kz) ?_
    refine OGo.st (B := T12.setTop (mkF m 242 #[.val (.long q0), .second, .val (.long q1), .second, .val (.int i2), .val (.int i3), .val (.long q4), .second, .val (.long q5), .second, .val (.long rt), .second, .val (.long bs), .second, .val (.int kk), .val (.long sh), .second, .val (.ref oa), .val (.double (FP.ddiv (FP.l2d aa) (FP.l2d dd))), .second, .val (.int (1 : Int32)), .val (.long r1), .second, .val (.long r2), .second, .val (.long bp), .second, .val (.long sp), .second, .val (.double (own_T r1 bp)), .second, .val (.double (own_T r2 sp)), .second, .val (.int (1 : Int32)), .val (.int (1 : Int32))] [(.int (1 : Int32))])) (fun _ kz => XS.iconst X12.here hx rfl (hb hby at_241) kz) ?_
    refine OGo.st (B := T12.setTop (mkF m 246 #[.val (.long q0), .second, .val (.long q1), .second, .val (.int i2), .val (.int i3), .val (.long q4), .second, .val (.long q5), .second, .val (.long rt), .second, .val (.long bs), .second, .val (.int kk), .val (.long sh), .second, .val (.ref oa), .val (.double (FP.ddiv (FP.l2d aa) (FP.l2d dd))), .second, .val (.int (1 : Int32)), .val (.long r1), .second, .val (.long r2), .second, .val (.long bp), .second, .val (.long sp), .second, .val (.double (own_T r1 bp)), .second, .val (.double (own_T r2 sp)), .second, .val (.int (1 : Int32)), .val (.int (1 : Int32))] [(.int (1 : Int32))])) (fun _ kz => XS.goto X12.here hx rfl (pc0 := 242) (pc' := 246) rfl (hb hby at_242) (by decide) (by decide) kz) ?_
    exact own_retZ X12 hx hret hlk (hb hby at_246) ⟨rfl, N12⟩ (by decide) (by decide)
set_option maxRecDepth 65536 in
set_option maxHeartbeats 40000000 in
theorem comes_1 {Post : Tables → Env → Array Value → State → Outcome → State → Prop} (hpost : ∀ tb e args s v u, (limb_1_1.after args s (.returned v) u = true ∧ limb_1_2.after args s (.returned v) u = true ∧ True) → FrameEnd s (.returned v) u (Jvm.fieldLocs frame_1_writes args s ++ Jvm.arrayLocs frame_1_arrays args s ++ Jvm.staticLocs frame_1_statics s) 32 128 → Post tb e args s (.returned v) u) :
    ArmFor flags0 classFile x code maxLocals ret World_1 tables_1 room_1 Calls_1 rest_1 Pre_1 Post := by
  intro l hfl _ _ p e ha hc hk s m args below hf hA hF happ hP
  obtain ⟨hcalls, hrest, hpre⟩ := hP
  obtain ⟨-, -, -, hnamed, -, -, -, hat⟩ := (Spec.applies_iff hf).mp happ
  obtain ⟨hg, hn⟩ := and_e (Cond.before_iff.mp (show (Jvm.Cond.and given_1 narrow_1).before args s = true from hpre))
  obtain ⟨q1, q2⟩ := and_e hg
  obtain ⟨q3, q4⟩ := and_e q2
  obtain ⟨q5, q6⟩ := and_e q4
  obtain ⟨q7, q8⟩ := and_e q6
  obtain ⟨q9, q10⟩ := and_e q8
  obtain ⟨q11, q12⟩ := and_e q10
  obtain ⟨w0, w1, w2, w3, w4, w5, rfl⟩ : ∃ w0 w1 w2 w3 w4 w5 : Value, args = #[w0, w1, w2, w3, w4, w5] := by
    have hs : args.size = 6 := by simpa [Cond.value, given_1] using q1
    obtain ⟨L⟩ := args
    match L, hs with
    | [w0, w1, w2, w3, w4, w5], _ => exact ⟨w0, w1, w2, w3, w4, w5, rfl⟩
  have hw := fun d (hd : d ∈ tables_1) => atoms_spec (ws := Jvm.Cond.code x code maxLocals ret :: tables_1) hat d (List.mem_cons_of_mem _ hd)
  obtain ⟨i0, ei0⟩ := isL_v q3
  obtain rfl : w0 = (.long i0) := Option.some.inj ei0
  obtain ⟨i1, ei1⟩ := isL_v q5
  obtain rfl : w1 = (.long i1) := Option.some.inj ei1
  obtain ⟨i2, ei2⟩ := is_v q7
  obtain rfl : w2 = (.int i2) := Option.some.inj ei2
  obtain ⟨i3, ei3⟩ := is_v q9
  obtain rfl : w3 = (.int i3) := Option.some.inj ei3
  obtain ⟨i4, ei4⟩ := isL_v q11
  obtain rfl : w4 = (.long i4) := Option.some.inj ei4
  obtain ⟨i5, ei5⟩ := isL_v q12
  obtain rfl : w5 = (.long i5) := Option.some.inj ei5
  obtain ⟨hsets, hown0⟩ := atoms_of _ (rest_1_c_eq ▸ (show rest_1_c.before _ s = true from hrest))
  obtain ⟨ca, eca⟩ := arr_v (Cond.before_iff.mp (hsets _ (List.mem_of_getElem? (i := 2) rfl)))
  have S_cache := Sta.start eca (Or.inl (hsets _ (List.mem_of_getElem? (i := 1) rfl)))
  obtain ⟨cc, Ac⟩ := Arr.start eca (Cond.before_iff.mp (hsets _ (List.mem_of_getElem? (i := 2) rfl)))
  have hlen := own_len eca (Ac.fin (Vm.Alike.refl _)) (own_int (Cond.before_iff.mp (hsets _ (List.mem_of_getElem? (i := 4) rfl))))
  have BX : Bxs s ca cc "java/lang/Long" "J" 256 (fun j => .long (j - 128).toInt64) := Bxs.start (fun _ => eca) Ac hlen.1 hlen.2 (by decide) (Cond.before_iff.mp (hsets _ (List.mem_of_getElem? (i := 5) rfl))) (fun X j nn hq => eqv_l (i2l_at (by simp [Term.eval, (back32 nn).1])) hq)
  obtain ⟨de, ede⟩ := arr_v (Cond.before_iff.mp (hsets _ (List.mem_of_getElem? (i := 12) rfl)))
  have S_dflt := Sta.start ede (Or.inr ⟨(hw _ (List.mem_of_getElem? (i := 24) rfl)), (hsets _ (List.mem_of_getElem? (i := 8) rfl))⟩)
  obtain ⟨n, o, h1, h2, h3, _, L, rfl, ⟨rfl, N⟩, hq⟩ := rm0 l s _ hw i0 i1 i2 i3 i4 i5 s.heap s.heap.size (Nat.le_refl _) (Old.start s) ca cc S_cache BX de S_dflt p e ha hc hk s m _ below hf ((Spec.applies_iff_loose hf).mp happ).1 ⟨rfl, State.Warmed39.refl s, rfl⟩ trivial
  refine ⟨n, _, h1, h2, h3, hpost _ _ _ _ _ _ ⟨Cond.after_iff.mpr rfl, Cond.after_iff.mpr (eq_i res_at (Term.int_eval (1)) rfl), trivial⟩ ⟨hq.1, hq.2.1, (hq.2.2.sift fun y hy => Or.inr (N y hy)).mono (by decide) (by decide)⟩⟩
theorem main_1_1 : Claimed_1_1 := comes_1 fun _ _ _ _ _ _ h hF => ⟨h.1, hF⟩
theorem main_1_2 : Claimed_1_2 := comes_1 fun _ _ _ _ _ _ h hF => ⟨h.2.1, hF⟩
end Jvm.Pilot.@@N@@
namespace Jvm.Pilot.@@N@@
open Jvm Jvm.ClassFile Sem Op Lib Jvm.Free Jvm.Stand Jvm.Pilot.@@N@@.Jvm.D
/-! MADE BY PROGRAM (witnessworld.py) out of the Statement's table words and the real class files: 29 classes; the members and pool entries that the words name. The judged class is class 1, her method 1. -/
namespace start1
open Jvm.ClassFile
def u (s : String) : CpInfo := .utf8 (stringToUtf16 s)
/-- a pool by its gaps: so many unusable entries, then the entry; so many at the end -/
def gap : Nat → List CpInfo → List CpInfo
  | 0, r => r
  | n + 1, r => .unusable :: gap n r
def poolList (es : List (Nat × CpInfo)) (last : Nat) : List CpInfo := es.foldr (fun e r => gap e.1 (e.2 :: r)) (gap last [])
def pool (es : List (Nat × CpInfo)) (last : Nat) : Array CpInfo := ⟨poolList es last⟩
def fileOf (pool : Array CpInfo) (this : Nat) (attrs : Array Attribute := #[]) (ms : Array MethodInfo := #[]) (fl : Nat := 33) (sup : Nat := 0) (ifs : Array Nat := #[]) (fds : Array FieldInfo := #[]) : ClassFile where
  minorVersion := 0
  majorVersion := 65
  constantPool := pool
  accessFlags := fl
  thisClass := this
  superClass := sup
  interfaces := ifs
  fields := fds
  methods := ms
  attributes := attrs
def plain (name : String) (sup : Option ClassId) : Class where
  name := name
  kind := .ordinary
  loader := none
  accessFlags := 33
  super := sup
  interfaces := #[]
  cf := none
  fields := #[]
  methods := #[]
  instanceTypes := #[]
  staticTypes := #[]
  resolved := #[]
  callSites := []
  init := .initialized
  statics := none
  mirror := none

def pool0 : Array CpInfo := pool [(5, u "<init>"), (0, u "()V"), (1, .class_ 10), (1, u "java/lang/Object")] 113

def k0c0 : Code := { maxStack := 0, maxLocals := 1, code := object_method_1_code, exceptionTable := #[], attributes := #[] }
def k0m0 : Method := { name := "<init>", desc := "()V", sig := { parameters := [], returnType := none }, accessFlags := 1, code := some k0c0 }
/-- java/lang/Object -/
def k0 : Class := { plain "java/lang/Object" none with
  accessFlags := 33
  interfaces := #[]
  cf := some (fileOf pool0 8 #[] #[{ accessFlags := 1, nameIndex := 5, descriptorIndex := 6, attributes := #[] }] 33 0 #[] #[])
  fields := #[]
  methods := #[k0m0]
  instanceTypes := #[]
  staticTypes := #[]
  resolved := Array.replicate 124 none
  statics := none }

def pool1 : Array CpInfo := pool [(2, .class_ 4), (1, u "java/lang/Object"), (0, u "<init>"), (0, u "()V"), (0, .long 8388607), (1, .integer 1048575), (0, .class_ 11), (0, u "com/example/narrow_gate/narrowgate/Limit"), (0, .methodref 10 13), (0, .nameAndType 5 14), (0, u "(JJJ)V"), (0, .long 1000), (1, .methodref 10 18), (0, .nameAndType 19 20), (0, u "tokensPerSecond"), (0, u "()D"), (2, .long 9223372036854775807), (1, .methodref 26 27), (0, .class_ 28), (0, .nameAndType 29 30), (0, u "java/lang/Math"), (0, u "max"), (0, u "(JJ)J"), (0, .long 9007199254740991), (1, .double 4936209963552724370), (1, .class_ 36), (0, u "com/example/narrow_gate/narrowgate/LimitTokensPerSecondPinLaw"), (2, u "law"), (0, u "(JJIIJJ)Z")] 3

def k1m0 : Method := { name := "<init>", desc := "()V", sig := { parameters := [], returnType := none }, accessFlags := 1, code := none }
def k1c1 : Code := { maxStack := 8, maxLocals := 35, code := code, exceptionTable := #[], attributes := #[] }
def k1m1 : Method := { name := "law", desc := "(JJIIJJ)Z", sig := { parameters := [.long, .long, .int, .int, .long, .long], returnType := some .boolean }, accessFlags := 9, code := some k1c1 }
/-- com/example/narrow_gate/narrowgate/LimitTokensPerSecondPinLaw -/
def k1 : Class := { plain "com/example/narrow_gate/narrowgate/LimitTokensPerSecondPinLaw" (some 0) with
  accessFlags := 49
  interfaces := #[]
  cf := some (fileOf pool1 35 #[] #[{ accessFlags := 1, nameIndex := 5, descriptorIndex := 6, attributes := #[] }, { accessFlags := 9, nameIndex := 39, descriptorIndex := 40, attributes := #[] }] 49 2 #[] #[])
  fields := #[]
  methods := #[k1m0, k1m1]
  instanceTypes := #[]
  staticTypes := #[]
  resolved := Array.replicate 44 none
  statics := none }

def pool2 : Array CpInfo := pool [(1, .methodref 2 3), (0, .class_ 4), (0, .nameAndType 5 6), (0, u "java/lang/Object"), (0, u "<init>"), (0, u "()V"), (0, .methodref 8 9), (0, .class_ 10), (0, .nameAndType 11 12), (0, u "java/lang/Long"), (0, u "valueOf"), (0, u "(J)Ljava/lang/Long;"), (0, .methodref 14 15), (0, .class_ 16), (0, .nameAndType 17 18), (0, u "com/example/narrow_gate/narrowgate/Limit"), (0, u "problems"), (0, u "(Ljava/lang/Long;Ljava/lang/Long;Ljava/lang/Long;)Ljava/util/List;"), (0, .methodref 20 21), (0, .class_ 22), (0, .nameAndType 23 24), (0, u "com/example/narrow_gate/narrowgate/InvalidLimitsException"), (0, u "refuseIfAny"), (0, u "(Ljava/util/List;)V"), (0, .fieldref 14 26), (0, .nameAndType 27 28), (0, u "rate"), (0, u "J"), (0, .fieldref 14 30), (0, .nameAndType 31 28), (0, u "periodMs"), (0, .fieldref 14 33), (0, .nameAndType 34 28), (0, u "burst"), (0, .class_ 36), (0, u "java/util/ArrayList"), (0, .methodref 35 3), (0, .methodref 8 39), (0, .nameAndType 40 41), (0, u "longValue"), (0, u "()J"), (17, .long 9007199254740992), (3, .double 4652007308841189376), (58, u "(JJJ)V"), (0, u "MAX_BURST_PERIOD_PRODUCT"), (1, u "RATE"), (0, u "Ljava/lang/String;"), (0, u "PERIOD"), (0, u "BURST"), (5, u "tokensPerSecond"), (0, u "()D")] 22

def k2c0 : Code := { maxStack := 4, maxLocals := 7, code := prog_18_method_1_code, exceptionTable := #[], attributes := #[] }
def k2m0 : Method := { name := "<init>", desc := "(JJJ)V", sig := { parameters := [.long, .long, .long], returnType := none }, accessFlags := 1, code := some k2c0 }
def k2c1 : Code := { maxStack := 6, maxLocals := 4, code := prog_18_method_2_code, exceptionTable := #[], attributes := #[] }
def k2m1 : Method := { name := "problems", desc := "(Ljava/lang/Long;Ljava/lang/Long;Ljava/lang/Long;)Ljava/util/List;", sig := { parameters := [(.object "java/lang/Long"), (.object "java/lang/Long"), (.object "java/lang/Long")], returnType := some (.object "java/util/List") }, accessFlags := 8, code := some k2c1 }
def k2c2 : Code := { maxStack := 4, maxLocals := 1, code := prog_18_method_6_code, exceptionTable := #[], attributes := #[] }
def k2m2 : Method := { name := "tokensPerSecond", desc := "()D", sig := { parameters := [], returnType := some .double }, accessFlags := 1, code := some k2c2 }
/-- com/example/narrow_gate/narrowgate/Limit -/
def k2 : Class := { plain "com/example/narrow_gate/narrowgate/Limit" (some 0) with
  accessFlags := 49
  interfaces := #[]
  cf := some (fileOf pool2 14 #[] #[{ accessFlags := 1, nameIndex := 5, descriptorIndex := 122, attributes := #[] }, { accessFlags := 8, nameIndex := 17, descriptorIndex := 18, attributes := #[] }, { accessFlags := 1, nameIndex := 134, descriptorIndex := 135, attributes := #[] }] 49 2 #[] #[{ accessFlags := 25, nameIndex := 123, descriptorIndex := 28, attributes := #[] }, { accessFlags := 24, nameIndex := 125, descriptorIndex := 126, attributes := #[] }, { accessFlags := 24, nameIndex := 127, descriptorIndex := 126, attributes := #[] }, { accessFlags := 24, nameIndex := 128, descriptorIndex := 126, attributes := #[] }, { accessFlags := 18, nameIndex := 27, descriptorIndex := 28, attributes := #[] }, { accessFlags := 18, nameIndex := 31, descriptorIndex := 28, attributes := #[] }, { accessFlags := 18, nameIndex := 34, descriptorIndex := 28, attributes := #[] }])
  fields := #[{ name := "MAX_BURST_PERIOD_PRODUCT", type := .long, accessFlags := 25, slot := 0, constantValue := 0 }, { name := "RATE", type := (.object "java/lang/String"), accessFlags := 24, slot := 1, constantValue := 0 }, { name := "PERIOD", type := (.object "java/lang/String"), accessFlags := 24, slot := 2, constantValue := 0 }, { name := "BURST", type := (.object "java/lang/String"), accessFlags := 24, slot := 3, constantValue := 0 }, { name := "rate", type := .long, accessFlags := 18, slot := 0, constantValue := 0 }, { name := "periodMs", type := .long, accessFlags := 18, slot := 1, constantValue := 0 }, { name := "burst", type := .long, accessFlags := 18, slot := 2, constantValue := 0 }]
  methods := #[k2m0, k2m1, k2m2]
  instanceTypes := #[.long, .long, .long]
  staticTypes := #[.long, (.object "java/lang/String"), (.object "java/lang/String"), (.object "java/lang/String")]
  resolved := Array.replicate 158 none
  statics := none }

def pool3 : Array CpInfo := pool [(1, .class_ 2), (0, u "java/io/Serializable"), (0, .class_ 4), (0, u "java/lang/Object")] 2

/-- java/io/Serializable -/
def k3 : Class := { plain "java/io/Serializable" (some 0) with
  accessFlags := 1537
  interfaces := #[]
  cf := some (fileOf pool3 1 #[] #[] 1537 3 #[] #[])
  fields := #[]
  methods := #[]
  instanceTypes := #[]
  staticTypes := #[]
  resolved := Array.replicate 7 none
  statics := none }

def pool4 : Array CpInfo := pool [(1, .methodref 2 3), (0, .class_ 4), (0, .nameAndType 5 6), (0, u "java/lang/Object"), (0, u "<init>"), (0, u "()V"), (1, .class_ 10), (1, u "java/lang/Number"), (2, .class_ 14), (0, u "java/io/Serializable"), (0, u "serialVersionUID"), (0, u "J")] 20

def k4c0 : Code := { maxStack := 1, maxLocals := 1, code := jdk_18_method_1_code, exceptionTable := #[], attributes := #[] }
def k4m0 : Method := { name := "<init>", desc := "()V", sig := { parameters := [], returnType := none }, accessFlags := 1, code := some k4c0 }
/-- java/lang/Number -/
def k4 : Class := { plain "java/lang/Number" (some 0) with
  accessFlags := 1057
  interfaces := #[3]
  cf := some (fileOf pool4 8 #[] #[{ accessFlags := 1, nameIndex := 5, descriptorIndex := 6, attributes := #[] }] 1057 2 #[13] #[{ accessFlags := 26, nameIndex := 15, descriptorIndex := 16, attributes := #[] }])
  fields := #[{ name := "serialVersionUID", type := .long, accessFlags := 26, slot := 0, constantValue := 0 }]
  methods := #[k4m0]
  instanceTypes := #[]
  staticTypes := #[.long]
  resolved := Array.replicate 37 none
  statics := none }

def pool5 : Array CpInfo := pool [(1, .class_ 2), (0, u "java/lang/Comparable"), (0, .class_ 4), (0, u "java/lang/Object")] 7

/-- java/lang/Comparable -/
def k5 : Class := { plain "java/lang/Comparable" (some 0) with
  accessFlags := 1537
  interfaces := #[]
  cf := some (fileOf pool5 1 #[] #[] 1537 3 #[] #[])
  fields := #[]
  methods := #[]
  instanceTypes := #[]
  staticTypes := #[]
  resolved := Array.replicate 12 none
  statics := none }

def pool6 : Array CpInfo := pool [(1, .class_ 2), (0, u "java/lang/constant/Constable"), (0, .class_ 4), (0, u "java/lang/Object")] 6

/-- java/lang/constant/Constable -/
def k6 : Class := { plain "java/lang/constant/Constable" (some 0) with
  accessFlags := 1537
  interfaces := #[]
  cf := some (fileOf pool6 1 #[] #[] 1537 3 #[] #[])
  fields := #[]
  methods := #[]
  instanceTypes := #[]
  staticTypes := #[]
  resolved := Array.replicate 11 none
  statics := none }

def pool7 : Array CpInfo := pool [(1, .class_ 2), (0, u "java/lang/constant/ConstantDesc"), (0, .class_ 4), (0, u "java/lang/Object")] 32

/-- java/lang/constant/ConstantDesc -/
def k7 : Class := { plain "java/lang/constant/ConstantDesc" (some 0) with
  accessFlags := 1537
  interfaces := #[]
  cf := some (fileOf pool7 1 #[] #[] 1537 3 #[] #[])
  fields := #[]
  methods := #[]
  instanceTypes := #[]
  staticTypes := #[]
  resolved := Array.replicate 37 none
  statics := none }

def pool8 : Array CpInfo := pool [(1, .class_ 2), (0, u "java/lang/Long"), (55, .nameAndType 59 60), (0, u "<init>"), (0, u "()V"), (24, u "valueOf"), (143, u "(J)Ljava/lang/Long;"), (0, .long 18446744073709551488), (1, .long 127), (1, .fieldref 235 236), (0, .class_ 237), (0, .nameAndType 238 239), (0, u "java/lang/Long$LongCache"), (0, u "cache"), (0, u "[Ljava/lang/Long;"), (0, .methodref 1 241), (0, .nameAndType 59 242), (0, u "(J)V"), (27, .methodref 271 58), (0, .class_ 272), (0, u "java/lang/Number"), (0, .fieldref 1 274), (0, .nameAndType 275 276), (0, u "value"), (0, u "J"), (5, u "longValue"), (0, u "()J"), (77, u "TYPE"), (0, u "Ljava/lang/Class;"), (0, .class_ 364), (0, u "java/lang/Comparable"), (0, .class_ 366), (0, u "java/lang/constant/Constable"), (0, .class_ 368), (0, u "java/lang/constant/ConstantDesc"), (0, u "MIN_VALUE"), (1, u "MAX_VALUE"), (4, u "SIZE"), (0, u "I"), (1, u "BYTES"), (1, u "serialVersionUID")] 142

def k8c0 : Code := { maxStack := 4, maxLocals := 3, code := jdk_35_method_24_code, exceptionTable := #[], attributes := #[] }
def k8m0 : Method := { name := "valueOf", desc := "(J)Ljava/lang/Long;", sig := { parameters := [.long], returnType := some (.object "java/lang/Long") }, accessFlags := 9, code := some k8c0 }
def k8c1 : Code := { maxStack := 3, maxLocals := 3, code := jdk_35_method_26_code, exceptionTable := #[], attributes := #[] }
def k8m1 : Method := { name := "<init>", desc := "(J)V", sig := { parameters := [.long], returnType := none }, accessFlags := 1, code := some k8c1 }
def k8c2 : Code := { maxStack := 2, maxLocals := 1, code := jdk_35_method_31_code, exceptionTable := #[], attributes := #[] }
def k8m2 : Method := { name := "longValue", desc := "()J", sig := { parameters := [], returnType := some .long }, accessFlags := 1, code := some k8c2 }
/-- java/lang/Long -/
def k8 : Class := { plain "java/lang/Long" (some 4) with
  accessFlags := 49
  interfaces := #[5, 6, 7]
  cf := some (fileOf pool8 1 #[.nestMembers #[235]] #[{ accessFlags := 9, nameIndex := 85, descriptorIndex := 229, attributes := #[] }, { accessFlags := 1, nameIndex := 59, descriptorIndex := 242, attributes := #[] }, { accessFlags := 1, nameIndex := 282, descriptorIndex := 283, attributes := #[] }] 49 271 #[363, 365, 367] #[{ accessFlags := 25, nameIndex := 369, descriptorIndex := 276, attributes := #[] }, { accessFlags := 25, nameIndex := 371, descriptorIndex := 276, attributes := #[] }, { accessFlags := 25, nameIndex := 361, descriptorIndex := 362, attributes := #[] }, { accessFlags := 18, nameIndex := 275, descriptorIndex := 276, attributes := #[] }, { accessFlags := 25, nameIndex := 376, descriptorIndex := 377, attributes := #[] }, { accessFlags := 25, nameIndex := 379, descriptorIndex := 377, attributes := #[] }, { accessFlags := 26, nameIndex := 381, descriptorIndex := 276, attributes := #[] }])
  fields := #[{ name := "MIN_VALUE", type := .long, accessFlags := 25, slot := 0, constantValue := 0 }, { name := "MAX_VALUE", type := .long, accessFlags := 25, slot := 1, constantValue := 0 }, { name := "TYPE", type := (.object "java/lang/Class"), accessFlags := 25, slot := 2, constantValue := 0 }, { name := "value", type := .long, accessFlags := 18, slot := 0, constantValue := 0 }, { name := "SIZE", type := .int, accessFlags := 25, slot := 3, constantValue := 0 }, { name := "BYTES", type := .int, accessFlags := 25, slot := 4, constantValue := 0 }, { name := "serialVersionUID", type := .long, accessFlags := 26, slot := 5, constantValue := 0 }]
  methods := #[k8m0, k8m1, k8m2]
  instanceTypes := #[.long]
  staticTypes := #[.long, .long, (.object "java/lang/Class"), .int, .int, .long]
  resolved := Array.replicate 524 none
  statics := none }

def pool9 : Array CpInfo := pool [(2, .class_ 4), (1, u "java/lang/Object"), (0, u "<init>"), (0, u "()V"), (0, .class_ 8), (0, u "java/lang/Long"), (7, .class_ 18), (1, u "java/lang/Long$LongCache"), (0, u "$assertionsDisabled"), (0, u "Z"), (8, u "archivedCache"), (0, u "[Ljava/lang/Long;"), (7, u "cache")] 24

def k9m0 : Method := { name := "<init>", desc := "()V", sig := { parameters := [], returnType := none }, accessFlags := 2, code := none }
/-- java/lang/Long$LongCache -/
def k9 : Class := { plain "java/lang/Long$LongCache" (some 0) with
  accessFlags := 48
  interfaces := #[]
  cf := some (fileOf pool9 16 #[.nestHost 7] #[{ accessFlags := 2, nameIndex := 5, descriptorIndex := 6, attributes := #[] }] 48 2 #[] #[{ accessFlags := 24, nameIndex := 38, descriptorIndex := 30, attributes := #[] }, { accessFlags := 8, nameIndex := 29, descriptorIndex := 30, attributes := #[] }, { accessFlags := 4120, nameIndex := 19, descriptorIndex := 20, attributes := #[] }])
  fields := #[{ name := "cache", type := (.array (.object "java/lang/Long")), accessFlags := 24, slot := 0, constantValue := 0 }, { name := "archivedCache", type := (.array (.object "java/lang/Long")), accessFlags := 8, slot := 1, constantValue := 0 }, { name := "$assertionsDisabled", type := .boolean, accessFlags := 4120, slot := 2, constantValue := 0 }]
  methods := #[k9m0]
  instanceTypes := #[]
  staticTypes := #[(.array (.object "java/lang/Long")), (.array (.object "java/lang/Long")), .boolean]
  resolved := Array.replicate 63 none
  statics := some 0 }

def pool10 : Array CpInfo := pool [(8, .class_ 10), (1, u "java/lang/Iterable"), (24, .class_ 36), (0, u "java/lang/Object")] 25

/-- java/lang/Iterable -/
def k10 : Class := { plain "java/lang/Iterable" (some 0) with
  accessFlags := 1537
  interfaces := #[]
  cf := some (fileOf pool10 8 #[] #[] 1537 35 #[] #[])
  fields := #[]
  methods := #[]
  instanceTypes := #[]
  staticTypes := #[]
  resolved := Array.replicate 62 none
  statics := none }

def pool11 : Array CpInfo := pool [(10, .class_ 12), (1, u "java/util/Collection"), (47, .class_ 61), (0, u "java/lang/Object"), (0, .class_ 63), (0, u "java/lang/Iterable")] 51

/-- java/util/Collection -/
def k11 : Class := { plain "java/util/Collection" (some 0) with
  accessFlags := 1537
  interfaces := #[10]
  cf := some (fileOf pool11 10 #[] #[] 1537 60 #[62] #[])
  fields := #[]
  methods := #[]
  instanceTypes := #[]
  staticTypes := #[]
  resolved := Array.replicate 115 none
  statics := none }

def pool12 : Array CpInfo := pool [(1, .methodref 2 3), (0, .class_ 4), (0, .nameAndType 5 6), (0, u "java/lang/Object"), (0, u "<init>"), (0, u "()V"), (1, .class_ 10), (1, u "java/util/AbstractCollection"), (66, .class_ 78), (0, u "java/util/Collection")] 81

def k12c0 : Code := { maxStack := 1, maxLocals := 1, code := jdk_22_method_1_code, exceptionTable := #[], attributes := #[] }
def k12m0 : Method := { name := "<init>", desc := "()V", sig := { parameters := [], returnType := none }, accessFlags := 4, code := some k12c0 }
/-- java/util/AbstractCollection -/
def k12 : Class := { plain "java/util/AbstractCollection" (some 0) with
  accessFlags := 1057
  interfaces := #[11]
  cf := some (fileOf pool12 8 #[] #[{ accessFlags := 4, nameIndex := 5, descriptorIndex := 6, attributes := #[] }] 1057 2 #[77] #[])
  fields := #[]
  methods := #[k12m0]
  instanceTypes := #[]
  staticTypes := #[]
  resolved := Array.replicate 160 none
  statics := none }

def pool13 : Array CpInfo := pool [(8, .class_ 10), (1, u "java/util/SequencedCollection"), (15, .class_ 27), (0, u "java/lang/Object"), (0, .class_ 29), (0, u "java/util/Collection")] 27

/-- java/util/SequencedCollection -/
def k13 : Class := { plain "java/util/SequencedCollection" (some 0) with
  accessFlags := 1537
  interfaces := #[11]
  cf := some (fileOf pool13 8 #[] #[] 1537 26 #[28] #[])
  fields := #[]
  methods := #[]
  instanceTypes := #[]
  staticTypes := #[]
  resolved := Array.replicate 57 none
  statics := none }

def pool14 : Array CpInfo := pool [(8, .class_ 10), (1, u "java/util/List"), (7, u "()Z"), (48, u "isEmpty"), (35, .class_ 104), (0, u "java/lang/Object"), (15, .class_ 121), (0, u "java/util/SequencedCollection")] 129

def k14m0 : Method := { name := "isEmpty", desc := "()Z", sig := { parameters := [], returnType := some .boolean }, accessFlags := 1025, code := none }
/-- java/util/List -/
def k14 : Class := { plain "java/util/List" (some 0) with
  accessFlags := 1537
  interfaces := #[13]
  cf := some (fileOf pool14 8 #[] #[{ accessFlags := 1025, nameIndex := 67, descriptorIndex := 18, attributes := #[] }] 1537 103 #[120] #[])
  fields := #[]
  methods := #[k14m0]
  instanceTypes := #[]
  staticTypes := #[]
  resolved := Array.replicate 251 none
  statics := none }

def pool15 : Array CpInfo := pool [(1, .methodref 2 3), (0, .class_ 4), (0, .nameAndType 5 6), (0, u "java/util/AbstractCollection"), (0, u "<init>"), (0, u "()V"), (0, .fieldref 8 9), (0, .class_ 10), (0, .nameAndType 11 12), (0, u "java/util/AbstractList"), (0, u "modCount"), (0, u "I"), (64, .class_ 78), (0, u "java/util/AbstractList$Itr"), (3, .class_ 83), (0, u "java/util/AbstractList$ListItr"), (9, .class_ 94), (0, u "java/util/AbstractList$RandomAccessSubList"), (3, .class_ 99), (0, u "java/util/AbstractList$SubList"), (33, .class_ 134), (0, u "java/util/List"), (73, .class_ 209), (0, u "java/util/AbstractList$SubList$1"), (0, .class_ 211), (0, u "java/util/AbstractList$RandomAccessSpliterator")] 6

def k15c0 : Code := { maxStack := 2, maxLocals := 1, code := jdk_39_method_1_code, exceptionTable := #[], attributes := #[] }
def k15m0 : Method := { name := "<init>", desc := "()V", sig := { parameters := [], returnType := none }, accessFlags := 4, code := some k15c0 }
/-- java/util/AbstractList -/
def k15 : Class := { plain "java/util/AbstractList" (some 12) with
  accessFlags := 1057
  interfaces := #[14]
  cf := some (fileOf pool15 8 #[.nestMembers #[93, 98, 208, 210, 82, 77]] #[{ accessFlags := 4, nameIndex := 5, descriptorIndex := 6, attributes := #[] }] 1057 2 #[133] #[{ accessFlags := 132, nameIndex := 11, descriptorIndex := 12, attributes := #[] }])
  fields := #[{ name := "modCount", type := .int, accessFlags := 132, slot := 0, constantValue := 0 }]
  methods := #[k15m0]
  instanceTypes := #[.int]
  staticTypes := #[]
  resolved := Array.replicate 218 none
  statics := none }

def pool16 : Array CpInfo := pool [(1, .class_ 2), (0, u "java/util/RandomAccess"), (0, .class_ 4), (0, u "java/lang/Object")] 2

/-- java/util/RandomAccess -/
def k16 : Class := { plain "java/util/RandomAccess" (some 0) with
  accessFlags := 1537
  interfaces := #[]
  cf := some (fileOf pool16 1 #[] #[] 1537 3 #[] #[])
  fields := #[]
  methods := #[]
  instanceTypes := #[]
  staticTypes := #[]
  resolved := Array.replicate 7 none
  statics := none }

def pool17 : Array CpInfo := pool [(1, .class_ 2), (0, u "java/lang/Cloneable"), (0, .class_ 4), (0, u "java/lang/Object")] 2

/-- java/lang/Cloneable -/
def k17 : Class := { plain "java/lang/Cloneable" (some 0) with
  accessFlags := 1537
  interfaces := #[]
  cf := some (fileOf pool17 1 #[] #[] 1537 3 #[] #[])
  fields := #[]
  methods := #[]
  instanceTypes := #[]
  staticTypes := #[]
  resolved := Array.replicate 7 none
  statics := none }

def pool18 : Array CpInfo := pool [(1, .methodref 2 3), (0, .class_ 4), (0, .nameAndType 5 6), (0, u "java/util/AbstractList"), (0, u "<init>"), (0, u "()V"), (2, .fieldref 10 11), (0, .class_ 12), (0, .nameAndType 13 14), (0, u "java/util/ArrayList"), (0, u "elementData"), (0, u "[Ljava/lang/Object;"), (2, u "EMPTY_ELEMENTDATA"), (21, .fieldref 10 40), (0, .nameAndType 41 14), (0, u "DEFAULTCAPACITY_EMPTY_ELEMENTDATA"), (6, .fieldref 10 49), (0, .nameAndType 50 51), (0, u "size"), (0, u "I"), (96, .class_ 149), (0, u "java/util/List"), (23, u "()Z"), (88, .class_ 263), (0, u "java/util/ArrayList$ListItr"), (3, .class_ 268), (0, u "java/util/ArrayList$Itr"), (7, .class_ 277), (0, u "java/util/ArrayList$SubList"), (12, .class_ 291), (0, u "java/util/ArrayList$ArrayListSpliterator"), (37, .class_ 330), (0, u "java/util/RandomAccess"), (0, .class_ 332), (0, u "java/lang/Cloneable"), (0, .class_ 334), (0, u "java/io/Serializable"), (0, u "serialVersionUID"), (0, u "J"), (3, u "DEFAULT_CAPACITY"), (22, u "isEmpty"), (136, .class_ 501), (0, u "java/util/ArrayList$SubList$2"), (0, .class_ 503), (0, u "java/util/ArrayList$SubList$1")] 5

def k18c0 : Code := { maxStack := 2, maxLocals := 1, code := jdk_38_method_2_code, exceptionTable := #[], attributes := #[] }
def k18m0 : Method := { name := "<init>", desc := "()V", sig := { parameters := [], returnType := none }, accessFlags := 1, code := some k18c0 }
def k18c1 : Code := { maxStack := 1, maxLocals := 1, code := jdk_38_method_9_code, exceptionTable := #[], attributes := #[] }
def k18m1 : Method := { name := "isEmpty", desc := "()Z", sig := { parameters := [], returnType := some .boolean }, accessFlags := 1, code := some k18c1 }
/-- java/util/ArrayList -/
def k18 : Class := { plain "java/util/ArrayList" (some 15) with
  accessFlags := 33
  interfaces := #[14, 16, 17, 3]
  cf := some (fileOf pool18 10 #[.nestMembers #[290, 276, 500, 502, 262, 267]] #[{ accessFlags := 1, nameIndex := 5, descriptorIndex := 6, attributes := #[] }, { accessFlags := 1, nameIndex := 363, descriptorIndex := 173, attributes := #[] }] 33 2 #[148, 329, 331, 333] #[{ accessFlags := 26, nameIndex := 335, descriptorIndex := 336, attributes := #[] }, { accessFlags := 26, nameIndex := 340, descriptorIndex := 51, attributes := #[] }, { accessFlags := 26, nameIndex := 17, descriptorIndex := 14, attributes := #[] }, { accessFlags := 26, nameIndex := 41, descriptorIndex := 14, attributes := #[] }, { accessFlags := 128, nameIndex := 13, descriptorIndex := 14, attributes := #[] }, { accessFlags := 2, nameIndex := 50, descriptorIndex := 51, attributes := #[] }])
  fields := #[{ name := "serialVersionUID", type := .long, accessFlags := 26, slot := 0, constantValue := 0 }, { name := "DEFAULT_CAPACITY", type := .int, accessFlags := 26, slot := 1, constantValue := 0 }, { name := "EMPTY_ELEMENTDATA", type := (.array (.object "java/lang/Object")), accessFlags := 26, slot := 2, constantValue := 0 }, { name := "DEFAULTCAPACITY_EMPTY_ELEMENTDATA", type := (.array (.object "java/lang/Object")), accessFlags := 26, slot := 3, constantValue := 0 }, { name := "elementData", type := (.array (.object "java/lang/Object")), accessFlags := 128, slot := 1, constantValue := 0 }, { name := "size", type := .int, accessFlags := 2, slot := 2, constantValue := 0 }]
  methods := #[k18m0, k18m1]
  instanceTypes := #[.int, (.array (.object "java/lang/Object")), .int]
  staticTypes := #[.long, .int, (.array (.object "java/lang/Object")), (.array (.object "java/lang/Object"))]
  resolved := Array.replicate 509 none
  statics := some 1 }

def pool19 : Array CpInfo := pool [(2, .class_ 4), (1, u "java/lang/Object"), (0, u "<init>"), (0, u "()V"), (1, .class_ 10), (1, u "java/lang/Throwable"), (0, u "cause"), (0, u "Ljava/lang/Throwable;"), (2, u "UNASSIGNED_STACK"), (0, u "[Ljava/lang/StackTraceElement;"), (2, u "stackTrace"), (2, u "SUPPRESSED_SENTINEL"), (0, u "Ljava/util/List;"), (2, u "suppressedExceptions"), (6, u "detailMessage"), (0, u "Ljava/lang/String;"), (58, .class_ 94), (0, u "java/lang/Throwable$WrappedPrintStream"), (6, .class_ 103), (1, u "java/lang/Throwable$PrintStreamOrWriter"), (61, u "$assertionsDisabled"), (0, u "Z"), (26, .class_ 194), (0, u "java/lang/Throwable$WrappedPrintWriter"), (5, u "backtrace"), (0, u "Ljava/lang/Object;"), (9, u "depth"), (0, u "I"), (56, .class_ 271), (1, u "java/lang/Throwable$SentinelHolder"), (32, u "EMPTY_THROWABLE_ARRAY"), (0, u "[Ljava/lang/Throwable;"), (12, .class_ 319), (0, u "java/io/Serializable"), (0, u "serialVersionUID"), (0, u "J"), (5, u "NULL_CAUSE_MESSAGE"), (0, u "SELF_SUPPRESSION_MESSAGE"), (0, u "CAUSE_CAPTION"), (0, u "SUPPRESSED_CAPTION")] 73

def k19m0 : Method := { name := "<init>", desc := "()V", sig := { parameters := [], returnType := none }, accessFlags := 1, code := none }
/-- java/lang/Throwable -/
def k19 : Class := { plain "java/lang/Throwable" (some 0) with
  accessFlags := 33
  interfaces := #[3]
  cf := some (fileOf pool19 8 #[.nestMembers #[193, 93, 101, 269]] #[{ accessFlags := 1, nameIndex := 5, descriptorIndex := 6, attributes := #[] }] 33 2 #[318] #[{ accessFlags := 26, nameIndex := 320, descriptorIndex := 321, attributes := #[] }, { accessFlags := 130, nameIndex := 200, descriptorIndex := 201, attributes := #[] }, { accessFlags := 2, nameIndex := 33, descriptorIndex := 34, attributes := #[] }, { accessFlags := 26, nameIndex := 15, descriptorIndex := 16, attributes := #[] }, { accessFlags := 2, nameIndex := 11, descriptorIndex := 12, attributes := #[] }, { accessFlags := 2, nameIndex := 19, descriptorIndex := 16, attributes := #[] }, { accessFlags := 130, nameIndex := 211, descriptorIndex := 212, attributes := #[] }, { accessFlags := 26, nameIndex := 22, descriptorIndex := 23, attributes := #[] }, { accessFlags := 2, nameIndex := 26, descriptorIndex := 23, attributes := #[] }, { accessFlags := 26, nameIndex := 327, descriptorIndex := 34, attributes := #[] }, { accessFlags := 26, nameIndex := 328, descriptorIndex := 34, attributes := #[] }, { accessFlags := 26, nameIndex := 329, descriptorIndex := 34, attributes := #[] }, { accessFlags := 26, nameIndex := 330, descriptorIndex := 34, attributes := #[] }, { accessFlags := 26, nameIndex := 304, descriptorIndex := 305, attributes := #[] }, { accessFlags := 4120, nameIndex := 165, descriptorIndex := 166, attributes := #[] }])
  fields := #[{ name := "serialVersionUID", type := .long, accessFlags := 26, slot := 0, constantValue := 0 }, { name := "backtrace", type := (.object "java/lang/Object"), accessFlags := 130, slot := 0, constantValue := 0 }, { name := "detailMessage", type := (.object "java/lang/String"), accessFlags := 2, slot := 1, constantValue := 0 }, { name := "UNASSIGNED_STACK", type := (.array (.object "java/lang/StackTraceElement")), accessFlags := 26, slot := 1, constantValue := 0 }, { name := "cause", type := (.object "java/lang/Throwable"), accessFlags := 2, slot := 2, constantValue := 0 }, { name := "stackTrace", type := (.array (.object "java/lang/StackTraceElement")), accessFlags := 2, slot := 3, constantValue := 0 }, { name := "depth", type := .int, accessFlags := 130, slot := 4, constantValue := 0 }, { name := "SUPPRESSED_SENTINEL", type := (.object "java/util/List"), accessFlags := 26, slot := 2, constantValue := 0 }, { name := "suppressedExceptions", type := (.object "java/util/List"), accessFlags := 2, slot := 5, constantValue := 0 }, { name := "NULL_CAUSE_MESSAGE", type := (.object "java/lang/String"), accessFlags := 26, slot := 3, constantValue := 0 }, { name := "SELF_SUPPRESSION_MESSAGE", type := (.object "java/lang/String"), accessFlags := 26, slot := 4, constantValue := 0 }, { name := "CAUSE_CAPTION", type := (.object "java/lang/String"), accessFlags := 26, slot := 5, constantValue := 0 }, { name := "SUPPRESSED_CAPTION", type := (.object "java/lang/String"), accessFlags := 26, slot := 6, constantValue := 0 }, { name := "EMPTY_THROWABLE_ARRAY", type := (.array (.object "java/lang/Throwable")), accessFlags := 26, slot := 7, constantValue := 0 }, { name := "$assertionsDisabled", type := .boolean, accessFlags := 4120, slot := 8, constantValue := 0 }]
  methods := #[k19m0]
  instanceTypes := #[(.object "java/lang/Object"), (.object "java/lang/String"), (.object "java/lang/Throwable"), (.array (.object "java/lang/StackTraceElement")), .int, (.object "java/util/List")]
  staticTypes := #[.long, (.array (.object "java/lang/StackTraceElement")), (.object "java/util/List"), (.object "java/lang/String"), (.object "java/lang/String"), (.object "java/lang/String"), (.object "java/lang/String"), (.array (.object "java/lang/Throwable")), .boolean]
  resolved := Array.replicate 404 none
  statics := none }

def pool20 : Array CpInfo := pool [(2, .class_ 4), (1, u "java/lang/Throwable"), (0, u "<init>"), (0, u "()V"), (12, .class_ 20), (0, u "java/lang/Exception"), (0, u "serialVersionUID"), (0, u "J")] 17

def k20m0 : Method := { name := "<init>", desc := "()V", sig := { parameters := [], returnType := none }, accessFlags := 1, code := none }
/-- java/lang/Exception -/
def k20 : Class := { plain "java/lang/Exception" (some 19) with
  accessFlags := 33
  interfaces := #[]
  cf := some (fileOf pool20 19 #[] #[{ accessFlags := 1, nameIndex := 5, descriptorIndex := 6, attributes := #[] }] 33 2 #[] #[{ accessFlags := 24, nameIndex := 21, descriptorIndex := 22, attributes := #[] }])
  fields := #[{ name := "serialVersionUID", type := .long, accessFlags := 24, slot := 0, constantValue := 0 }]
  methods := #[k20m0]
  instanceTypes := #[(.object "java/lang/Object"), (.object "java/lang/String"), (.object "java/lang/Throwable"), (.array (.object "java/lang/StackTraceElement")), .int, (.object "java/util/List")]
  staticTypes := #[.long]
  resolved := Array.replicate 40 none
  statics := none }

def pool21 : Array CpInfo := pool [(2, .class_ 4), (1, u "com/example/narrow_gate/narrowgate/InvalidLimitsException"), (3, .class_ 10), (1, u "java/lang/Exception"), (2, .interfaceMethodref 14 15), (0, .class_ 16), (0, .nameAndType 17 18), (0, u "java/util/List"), (0, u "isEmpty"), (0, u "()Z"), (5, .class_ 25), (0, u "com/example/narrow_gate/narrowgate/InvalidLimitsException$Problem"), (5, u "[Lcom/example/narrow_gate/narrowgate/InvalidLimitsException$Problem;"), (2, u "problems"), (52, u "serialVersionUID"), (0, u "J"), (3, u "(Ljava/util/List;)V"), (5, u "refuseIfAny")] 37

def k21c0 : Code := { maxStack := 3, maxLocals := 1, code := prog_16_method_2_code, exceptionTable := #[], attributes := #[] }
def k21m0 : Method := { name := "refuseIfAny", desc := "(Ljava/util/List;)V", sig := { parameters := [(.object "java/util/List")], returnType := none }, accessFlags := 8, code := some k21c0 }
/-- com/example/narrow_gate/narrowgate/InvalidLimitsException -/
def k21 : Class := { plain "com/example/narrow_gate/narrowgate/InvalidLimitsException" (some 20) with
  accessFlags := 49
  interfaces := #[]
  cf := some (fileOf pool21 2 #[.nestMembers #[24]] #[{ accessFlags := 8, nameIndex := 98, descriptorIndex := 92, attributes := #[] }] 49 8 #[] #[{ accessFlags := 26, nameIndex := 87, descriptorIndex := 88, attributes := #[] }, { accessFlags := 18, nameIndex := 34, descriptorIndex := 31, attributes := #[] }])
  fields := #[{ name := "serialVersionUID", type := .long, accessFlags := 26, slot := 0, constantValue := 0 }, { name := "problems", type := (.array (.object "com/example/narrow_gate/narrowgate/InvalidLimitsException$Problem")), accessFlags := 18, slot := 6, constantValue := 0 }]
  methods := #[k21m0]
  instanceTypes := #[(.object "java/lang/Object"), (.object "java/lang/String"), (.object "java/lang/Throwable"), (.array (.object "java/lang/StackTraceElement")), .int, (.object "java/util/List"), (.array (.object "com/example/narrow_gate/narrowgate/InvalidLimitsException$Problem"))]
  staticTypes := #[.long]
  resolved := Array.replicate 136 none
  statics := none }

def pool22 : Array CpInfo := pool [(1, .class_ 2), (0, u "java/lang/Math"), (1, .class_ 6), (1, u "java/lang/Object"), (0, u "<init>"), (0, u "()V"), (89, .class_ 100), (1, u "java/lang/Math$RandomNumberGeneratorHolder"), (20, u "(JJ)J"), (50, u "negativeZeroFloatBits"), (0, u "J"), (2, u "negativeZeroDoubleBits"), (21, u "max"), (46, u "$assertionsDisabled"), (0, u "Z"), (91, u "twoToTheDoubleScaleDown"), (0, u "D"), (4, u "twoToTheDoubleScaleUp"), (9, u "E"), (3, u "PI"), (2, u "TAU"), (2, u "DEGREES_TO_RADIANS"), (0, u "RADIANS_TO_DEGREES")] 94

def k22m0 : Method := { name := "<init>", desc := "()V", sig := { parameters := [], returnType := none }, accessFlags := 2, code := none }
def k22c1 : Code := { maxStack := 4, maxLocals := 4, code := jdk_29_method_66_code, exceptionTable := #[], attributes := #[] }
def k22m1 : Method := { name := "max", desc := "(JJ)J", sig := { parameters := [.long, .long], returnType := some .long }, accessFlags := 9, code := some k22c1 }
/-- java/lang/Math -/
def k22 : Class := { plain "java/lang/Math" (some 0) with
  accessFlags := 49
  interfaces := #[]
  cf := some (fileOf pool22 1 #[.nestMembers #[98]] #[{ accessFlags := 2, nameIndex := 7, descriptorIndex := 8, attributes := #[] }, { accessFlags := 9, nameIndex := 198, descriptorIndex := 121, attributes := #[] }] 49 4 #[] #[{ accessFlags := 25, nameIndex := 354, descriptorIndex := 339, attributes := #[] }, { accessFlags := 25, nameIndex := 358, descriptorIndex := 339, attributes := #[] }, { accessFlags := 25, nameIndex := 361, descriptorIndex := 339, attributes := #[] }, { accessFlags := 26, nameIndex := 364, descriptorIndex := 339, attributes := #[] }, { accessFlags := 26, nameIndex := 365, descriptorIndex := 339, attributes := #[] }, { accessFlags := 26, nameIndex := 172, descriptorIndex := 173, attributes := #[] }, { accessFlags := 26, nameIndex := 176, descriptorIndex := 173, attributes := #[] }, { accessFlags := 8, nameIndex := 344, descriptorIndex := 339, attributes := #[] }, { accessFlags := 8, nameIndex := 338, descriptorIndex := 339, attributes := #[] }, { accessFlags := 4120, nameIndex := 245, descriptorIndex := 246, attributes := #[] }])
  fields := #[{ name := "E", type := .double, accessFlags := 25, slot := 0, constantValue := 0 }, { name := "PI", type := .double, accessFlags := 25, slot := 1, constantValue := 0 }, { name := "TAU", type := .double, accessFlags := 25, slot := 2, constantValue := 0 }, { name := "DEGREES_TO_RADIANS", type := .double, accessFlags := 26, slot := 3, constantValue := 0 }, { name := "RADIANS_TO_DEGREES", type := .double, accessFlags := 26, slot := 4, constantValue := 0 }, { name := "negativeZeroFloatBits", type := .long, accessFlags := 26, slot := 5, constantValue := 0 }, { name := "negativeZeroDoubleBits", type := .long, accessFlags := 26, slot := 6, constantValue := 0 }, { name := "twoToTheDoubleScaleUp", type := .double, accessFlags := 8, slot := 7, constantValue := 0 }, { name := "twoToTheDoubleScaleDown", type := .double, accessFlags := 8, slot := 8, constantValue := 0 }, { name := "$assertionsDisabled", type := .boolean, accessFlags := 4120, slot := 9, constantValue := 0 }]
  methods := #[k22m0, k22m1]
  instanceTypes := #[]
  staticTypes := #[.double, .double, .double, .double, .double, .long, .long, .double, .double, .boolean]
  resolved := Array.replicate 460 none
  statics := none }

/-- the primitive byte -/
def k23 : Class := { plain "byte" none with kind := .primitive 'B', accessFlags := 0x411 }
/-- [B -/
def k24 : Class := { plain "[B" (some 0) with kind := .array 23 .byte, interfaces := #[17, 3], accessFlags := 1041 }

/-- the primitive int -/
def k25 : Class := { plain "int" none with kind := .primitive 'I', accessFlags := 0x411 }
/-- [I -/
def k26 : Class := { plain "[I" (some 0) with kind := .array 25 .int, interfaces := #[17, 3], accessFlags := 1041 }

/-- [Ljava/lang/Long; -/
def k27 : Class := { plain "[Ljava/lang/Long;" (some 0) with kind := .array 8 (.object "java/lang/Long"), interfaces := #[17, 3], accessFlags := 1041 }

/-- [Ljava/lang/Object; -/
def k28 : Class := { plain "[Ljava/lang/Object;" (some 0) with kind := .array 0 (.object "java/lang/Object"), interfaces := #[17, 3], accessFlags := 1041 }

def heap : Heap := #[{ cls := 9, slots := #[.ref 2, .null, .int 0], vm := .statics 9 },
  { cls := 18, slots := #[.long 0, .int 0, .ref 259, .ref 260], vm := .statics 18 },
  { cls := 27, slots := #[.ref 3, .ref 4, .ref 5, .ref 6, .ref 7, .ref 8, .ref 9, .ref 10, .ref 11, .ref 12, .ref 13, .ref 14, .ref 15, .ref 16, .ref 17, .ref 18, .ref 19, .ref 20, .ref 21, .ref 22, .ref 23, .ref 24, .ref 25, .ref 26, .ref 27, .ref 28, .ref 29, .ref 30, .ref 31, .ref 32, .ref 33, .ref 34, .ref 35, .ref 36, .ref 37, .ref 38, .ref 39, .ref 40, .ref 41, .ref 42, .ref 43, .ref 44, .ref 45, .ref 46, .ref 47, .ref 48, .ref 49, .ref 50, .ref 51, .ref 52, .ref 53, .ref 54, .ref 55, .ref 56, .ref 57, .ref 58, .ref 59, .ref 60, .ref 61, .ref 62, .ref 63, .ref 64, .ref 65, .ref 66, .ref 67, .ref 68, .ref 69, .ref 70, .ref 71, .ref 72, .ref 73, .ref 74, .ref 75, .ref 76, .ref 77, .ref 78, .ref 79, .ref 80, .ref 81, .ref 82, .ref 83, .ref 84, .ref 85, .ref 86, .ref 87, .ref 88, .ref 89, .ref 90, .ref 91, .ref 92, .ref 93, .ref 94, .ref 95, .ref 96, .ref 97, .ref 98, .ref 99, .ref 100, .ref 101, .ref 102, .ref 103, .ref 104, .ref 105, .ref 106, .ref 107, .ref 108, .ref 109, .ref 110, .ref 111, .ref 112, .ref 113, .ref 114, .ref 115, .ref 116, .ref 117, .ref 118, .ref 119, .ref 120, .ref 121, .ref 122, .ref 123, .ref 124, .ref 125, .ref 126, .ref 127, .ref 128, .ref 129, .ref 130, .ref 131, .ref 132, .ref 133, .ref 134, .ref 135, .ref 136, .ref 137, .ref 138, .ref 139, .ref 140, .ref 141, .ref 142, .ref 143, .ref 144, .ref 145, .ref 146, .ref 147, .ref 148, .ref 149, .ref 150, .ref 151, .ref 152, .ref 153, .ref 154, .ref 155, .ref 156, .ref 157, .ref 158, .ref 159, .ref 160, .ref 161, .ref 162, .ref 163, .ref 164, .ref 165, .ref 166, .ref 167, .ref 168, .ref 169, .ref 170, .ref 171, .ref 172, .ref 173, .ref 174, .ref 175, .ref 176, .ref 177, .ref 178, .ref 179, .ref 180, .ref 181, .ref 182, .ref 183, .ref 184, .ref 185, .ref 186, .ref 187, .ref 188, .ref 189, .ref 190, .ref 191, .ref 192, .ref 193, .ref 194, .ref 195, .ref 196, .ref 197, .ref 198, .ref 199, .ref 200, .ref 201, .ref 202, .ref 203, .ref 204, .ref 205, .ref 206, .ref 207, .ref 208, .ref 209, .ref 210, .ref 211, .ref 212, .ref 213, .ref 214, .ref 215, .ref 216, .ref 217, .ref 218, .ref 219, .ref 220, .ref 221, .ref 222, .ref 223, .ref 224, .ref 225, .ref 226, .ref 227, .ref 228, .ref 229, .ref 230, .ref 231, .ref 232, .ref 233, .ref 234, .ref 235, .ref 236, .ref 237, .ref 238, .ref 239, .ref 240, .ref 241, .ref 242, .ref 243, .ref 244, .ref 245, .ref 246, .ref 247, .ref 248, .ref 249, .ref 250, .ref 251, .ref 252, .ref 253, .ref 254, .ref 255, .ref 256, .ref 257, .ref 258], vm := .none },
  { cls := 8, slots := #[.long (-128)], vm := .none },
  { cls := 8, slots := #[.long (-127)], vm := .none },
  { cls := 8, slots := #[.long (-126)], vm := .none },
  { cls := 8, slots := #[.long (-125)], vm := .none },
  { cls := 8, slots := #[.long (-124)], vm := .none },
  { cls := 8, slots := #[.long (-123)], vm := .none },
  { cls := 8, slots := #[.long (-122)], vm := .none },
  { cls := 8, slots := #[.long (-121)], vm := .none },
  { cls := 8, slots := #[.long (-120)], vm := .none },
  { cls := 8, slots := #[.long (-119)], vm := .none },
  { cls := 8, slots := #[.long (-118)], vm := .none },
  { cls := 8, slots := #[.long (-117)], vm := .none },
  { cls := 8, slots := #[.long (-116)], vm := .none },
  { cls := 8, slots := #[.long (-115)], vm := .none },
  { cls := 8, slots := #[.long (-114)], vm := .none },
  { cls := 8, slots := #[.long (-113)], vm := .none },
  { cls := 8, slots := #[.long (-112)], vm := .none },
  { cls := 8, slots := #[.long (-111)], vm := .none },
  { cls := 8, slots := #[.long (-110)], vm := .none },
  { cls := 8, slots := #[.long (-109)], vm := .none },
  { cls := 8, slots := #[.long (-108)], vm := .none },
  { cls := 8, slots := #[.long (-107)], vm := .none },
  { cls := 8, slots := #[.long (-106)], vm := .none },
  { cls := 8, slots := #[.long (-105)], vm := .none },
  { cls := 8, slots := #[.long (-104)], vm := .none },
  { cls := 8, slots := #[.long (-103)], vm := .none },
  { cls := 8, slots := #[.long (-102)], vm := .none },
  { cls := 8, slots := #[.long (-101)], vm := .none },
  { cls := 8, slots := #[.long (-100)], vm := .none },
  { cls := 8, slots := #[.long (-99)], vm := .none },
  { cls := 8, slots := #[.long (-98)], vm := .none },
  { cls := 8, slots := #[.long (-97)], vm := .none },
  { cls := 8, slots := #[.long (-96)], vm := .none },
  { cls := 8, slots := #[.long (-95)], vm := .none },
  { cls := 8, slots := #[.long (-94)], vm := .none },
  { cls := 8, slots := #[.long (-93)], vm := .none },
  { cls := 8, slots := #[.long (-92)], vm := .none },
  { cls := 8, slots := #[.long (-91)], vm := .none },
  { cls := 8, slots := #[.long (-90)], vm := .none },
  { cls := 8, slots := #[.long (-89)], vm := .none },
  { cls := 8, slots := #[.long (-88)], vm := .none },
  { cls := 8, slots := #[.long (-87)], vm := .none },
  { cls := 8, slots := #[.long (-86)], vm := .none },
  { cls := 8, slots := #[.long (-85)], vm := .none },
  { cls := 8, slots := #[.long (-84)], vm := .none },
  { cls := 8, slots := #[.long (-83)], vm := .none },
  { cls := 8, slots := #[.long (-82)], vm := .none },
  { cls := 8, slots := #[.long (-81)], vm := .none },
  { cls := 8, slots := #[.long (-80)], vm := .none },
  { cls := 8, slots := #[.long (-79)], vm := .none },
  { cls := 8, slots := #[.long (-78)], vm := .none },
  { cls := 8, slots := #[.long (-77)], vm := .none },
  { cls := 8, slots := #[.long (-76)], vm := .none },
  { cls := 8, slots := #[.long (-75)], vm := .none },
  { cls := 8, slots := #[.long (-74)], vm := .none },
  { cls := 8, slots := #[.long (-73)], vm := .none },
  { cls := 8, slots := #[.long (-72)], vm := .none },
  { cls := 8, slots := #[.long (-71)], vm := .none },
  { cls := 8, slots := #[.long (-70)], vm := .none },
  { cls := 8, slots := #[.long (-69)], vm := .none },
  { cls := 8, slots := #[.long (-68)], vm := .none },
  { cls := 8, slots := #[.long (-67)], vm := .none },
  { cls := 8, slots := #[.long (-66)], vm := .none },
  { cls := 8, slots := #[.long (-65)], vm := .none },
  { cls := 8, slots := #[.long (-64)], vm := .none },
  { cls := 8, slots := #[.long (-63)], vm := .none },
  { cls := 8, slots := #[.long (-62)], vm := .none },
  { cls := 8, slots := #[.long (-61)], vm := .none },
  { cls := 8, slots := #[.long (-60)], vm := .none },
  { cls := 8, slots := #[.long (-59)], vm := .none },
  { cls := 8, slots := #[.long (-58)], vm := .none },
  { cls := 8, slots := #[.long (-57)], vm := .none },
  { cls := 8, slots := #[.long (-56)], vm := .none },
  { cls := 8, slots := #[.long (-55)], vm := .none },
  { cls := 8, slots := #[.long (-54)], vm := .none },
  { cls := 8, slots := #[.long (-53)], vm := .none },
  { cls := 8, slots := #[.long (-52)], vm := .none },
  { cls := 8, slots := #[.long (-51)], vm := .none },
  { cls := 8, slots := #[.long (-50)], vm := .none },
  { cls := 8, slots := #[.long (-49)], vm := .none },
  { cls := 8, slots := #[.long (-48)], vm := .none },
  { cls := 8, slots := #[.long (-47)], vm := .none },
  { cls := 8, slots := #[.long (-46)], vm := .none },
  { cls := 8, slots := #[.long (-45)], vm := .none },
  { cls := 8, slots := #[.long (-44)], vm := .none },
  { cls := 8, slots := #[.long (-43)], vm := .none },
  { cls := 8, slots := #[.long (-42)], vm := .none },
  { cls := 8, slots := #[.long (-41)], vm := .none },
  { cls := 8, slots := #[.long (-40)], vm := .none },
  { cls := 8, slots := #[.long (-39)], vm := .none },
  { cls := 8, slots := #[.long (-38)], vm := .none },
  { cls := 8, slots := #[.long (-37)], vm := .none },
  { cls := 8, slots := #[.long (-36)], vm := .none },
  { cls := 8, slots := #[.long (-35)], vm := .none },
  { cls := 8, slots := #[.long (-34)], vm := .none },
  { cls := 8, slots := #[.long (-33)], vm := .none },
  { cls := 8, slots := #[.long (-32)], vm := .none },
  { cls := 8, slots := #[.long (-31)], vm := .none },
  { cls := 8, slots := #[.long (-30)], vm := .none },
  { cls := 8, slots := #[.long (-29)], vm := .none },
  { cls := 8, slots := #[.long (-28)], vm := .none },
  { cls := 8, slots := #[.long (-27)], vm := .none },
  { cls := 8, slots := #[.long (-26)], vm := .none },
  { cls := 8, slots := #[.long (-25)], vm := .none },
  { cls := 8, slots := #[.long (-24)], vm := .none },
  { cls := 8, slots := #[.long (-23)], vm := .none },
  { cls := 8, slots := #[.long (-22)], vm := .none },
  { cls := 8, slots := #[.long (-21)], vm := .none },
  { cls := 8, slots := #[.long (-20)], vm := .none },
  { cls := 8, slots := #[.long (-19)], vm := .none },
  { cls := 8, slots := #[.long (-18)], vm := .none },
  { cls := 8, slots := #[.long (-17)], vm := .none },
  { cls := 8, slots := #[.long (-16)], vm := .none },
  { cls := 8, slots := #[.long (-15)], vm := .none },
  { cls := 8, slots := #[.long (-14)], vm := .none },
  { cls := 8, slots := #[.long (-13)], vm := .none },
  { cls := 8, slots := #[.long (-12)], vm := .none },
  { cls := 8, slots := #[.long (-11)], vm := .none },
  { cls := 8, slots := #[.long (-10)], vm := .none },
  { cls := 8, slots := #[.long (-9)], vm := .none },
  { cls := 8, slots := #[.long (-8)], vm := .none },
  { cls := 8, slots := #[.long (-7)], vm := .none },
  { cls := 8, slots := #[.long (-6)], vm := .none },
  { cls := 8, slots := #[.long (-5)], vm := .none },
  { cls := 8, slots := #[.long (-4)], vm := .none },
  { cls := 8, slots := #[.long (-3)], vm := .none },
  { cls := 8, slots := #[.long (-2)], vm := .none },
  { cls := 8, slots := #[.long (-1)], vm := .none },
  { cls := 8, slots := #[.long 0], vm := .none },
  { cls := 8, slots := #[.long 1], vm := .none },
  { cls := 8, slots := #[.long 2], vm := .none },
  { cls := 8, slots := #[.long 3], vm := .none },
  { cls := 8, slots := #[.long 4], vm := .none },
  { cls := 8, slots := #[.long 5], vm := .none },
  { cls := 8, slots := #[.long 6], vm := .none },
  { cls := 8, slots := #[.long 7], vm := .none },
  { cls := 8, slots := #[.long 8], vm := .none },
  { cls := 8, slots := #[.long 9], vm := .none },
  { cls := 8, slots := #[.long 10], vm := .none },
  { cls := 8, slots := #[.long 11], vm := .none },
  { cls := 8, slots := #[.long 12], vm := .none },
  { cls := 8, slots := #[.long 13], vm := .none },
  { cls := 8, slots := #[.long 14], vm := .none },
  { cls := 8, slots := #[.long 15], vm := .none },
  { cls := 8, slots := #[.long 16], vm := .none },
  { cls := 8, slots := #[.long 17], vm := .none },
  { cls := 8, slots := #[.long 18], vm := .none },
  { cls := 8, slots := #[.long 19], vm := .none },
  { cls := 8, slots := #[.long 20], vm := .none },
  { cls := 8, slots := #[.long 21], vm := .none },
  { cls := 8, slots := #[.long 22], vm := .none },
  { cls := 8, slots := #[.long 23], vm := .none },
  { cls := 8, slots := #[.long 24], vm := .none },
  { cls := 8, slots := #[.long 25], vm := .none },
  { cls := 8, slots := #[.long 26], vm := .none },
  { cls := 8, slots := #[.long 27], vm := .none },
  { cls := 8, slots := #[.long 28], vm := .none },
  { cls := 8, slots := #[.long 29], vm := .none },
  { cls := 8, slots := #[.long 30], vm := .none },
  { cls := 8, slots := #[.long 31], vm := .none },
  { cls := 8, slots := #[.long 32], vm := .none },
  { cls := 8, slots := #[.long 33], vm := .none },
  { cls := 8, slots := #[.long 34], vm := .none },
  { cls := 8, slots := #[.long 35], vm := .none },
  { cls := 8, slots := #[.long 36], vm := .none },
  { cls := 8, slots := #[.long 37], vm := .none },
  { cls := 8, slots := #[.long 38], vm := .none },
  { cls := 8, slots := #[.long 39], vm := .none },
  { cls := 8, slots := #[.long 40], vm := .none },
  { cls := 8, slots := #[.long 41], vm := .none },
  { cls := 8, slots := #[.long 42], vm := .none },
  { cls := 8, slots := #[.long 43], vm := .none },
  { cls := 8, slots := #[.long 44], vm := .none },
  { cls := 8, slots := #[.long 45], vm := .none },
  { cls := 8, slots := #[.long 46], vm := .none },
  { cls := 8, slots := #[.long 47], vm := .none },
  { cls := 8, slots := #[.long 48], vm := .none },
  { cls := 8, slots := #[.long 49], vm := .none },
  { cls := 8, slots := #[.long 50], vm := .none },
  { cls := 8, slots := #[.long 51], vm := .none },
  { cls := 8, slots := #[.long 52], vm := .none },
  { cls := 8, slots := #[.long 53], vm := .none },
  { cls := 8, slots := #[.long 54], vm := .none },
  { cls := 8, slots := #[.long 55], vm := .none },
  { cls := 8, slots := #[.long 56], vm := .none },
  { cls := 8, slots := #[.long 57], vm := .none },
  { cls := 8, slots := #[.long 58], vm := .none },
  { cls := 8, slots := #[.long 59], vm := .none },
  { cls := 8, slots := #[.long 60], vm := .none },
  { cls := 8, slots := #[.long 61], vm := .none },
  { cls := 8, slots := #[.long 62], vm := .none },
  { cls := 8, slots := #[.long 63], vm := .none },
  { cls := 8, slots := #[.long 64], vm := .none },
  { cls := 8, slots := #[.long 65], vm := .none },
  { cls := 8, slots := #[.long 66], vm := .none },
  { cls := 8, slots := #[.long 67], vm := .none },
  { cls := 8, slots := #[.long 68], vm := .none },
  { cls := 8, slots := #[.long 69], vm := .none },
  { cls := 8, slots := #[.long 70], vm := .none },
  { cls := 8, slots := #[.long 71], vm := .none },
  { cls := 8, slots := #[.long 72], vm := .none },
  { cls := 8, slots := #[.long 73], vm := .none },
  { cls := 8, slots := #[.long 74], vm := .none },
  { cls := 8, slots := #[.long 75], vm := .none },
  { cls := 8, slots := #[.long 76], vm := .none },
  { cls := 8, slots := #[.long 77], vm := .none },
  { cls := 8, slots := #[.long 78], vm := .none },
  { cls := 8, slots := #[.long 79], vm := .none },
  { cls := 8, slots := #[.long 80], vm := .none },
  { cls := 8, slots := #[.long 81], vm := .none },
  { cls := 8, slots := #[.long 82], vm := .none },
  { cls := 8, slots := #[.long 83], vm := .none },
  { cls := 8, slots := #[.long 84], vm := .none },
  { cls := 8, slots := #[.long 85], vm := .none },
  { cls := 8, slots := #[.long 86], vm := .none },
  { cls := 8, slots := #[.long 87], vm := .none },
  { cls := 8, slots := #[.long 88], vm := .none },
  { cls := 8, slots := #[.long 89], vm := .none },
  { cls := 8, slots := #[.long 90], vm := .none },
  { cls := 8, slots := #[.long 91], vm := .none },
  { cls := 8, slots := #[.long 92], vm := .none },
  { cls := 8, slots := #[.long 93], vm := .none },
  { cls := 8, slots := #[.long 94], vm := .none },
  { cls := 8, slots := #[.long 95], vm := .none },
  { cls := 8, slots := #[.long 96], vm := .none },
  { cls := 8, slots := #[.long 97], vm := .none },
  { cls := 8, slots := #[.long 98], vm := .none },
  { cls := 8, slots := #[.long 99], vm := .none },
  { cls := 8, slots := #[.long 100], vm := .none },
  { cls := 8, slots := #[.long 101], vm := .none },
  { cls := 8, slots := #[.long 102], vm := .none },
  { cls := 8, slots := #[.long 103], vm := .none },
  { cls := 8, slots := #[.long 104], vm := .none },
  { cls := 8, slots := #[.long 105], vm := .none },
  { cls := 8, slots := #[.long 106], vm := .none },
  { cls := 8, slots := #[.long 107], vm := .none },
  { cls := 8, slots := #[.long 108], vm := .none },
  { cls := 8, slots := #[.long 109], vm := .none },
  { cls := 8, slots := #[.long 110], vm := .none },
  { cls := 8, slots := #[.long 111], vm := .none },
  { cls := 8, slots := #[.long 112], vm := .none },
  { cls := 8, slots := #[.long 113], vm := .none },
  { cls := 8, slots := #[.long 114], vm := .none },
  { cls := 8, slots := #[.long 115], vm := .none },
  { cls := 8, slots := #[.long 116], vm := .none },
  { cls := 8, slots := #[.long 117], vm := .none },
  { cls := 8, slots := #[.long 118], vm := .none },
  { cls := 8, slots := #[.long 119], vm := .none },
  { cls := 8, slots := #[.long 120], vm := .none },
  { cls := 8, slots := #[.long 121], vm := .none },
  { cls := 8, slots := #[.long 122], vm := .none },
  { cls := 8, slots := #[.long 123], vm := .none },
  { cls := 8, slots := #[.long 124], vm := .none },
  { cls := 8, slots := #[.long 125], vm := .none },
  { cls := 8, slots := #[.long 126], vm := .none },
  { cls := 8, slots := #[.long 127], vm := .none },
  { cls := 28, slots := #[], vm := .none },
  { cls := 28, slots := #[], vm := .none }]
def classes : Array Class := #[k0, k1, k2, k3, k4, k5, k6, k7, k8, k9, k10, k11, k12, k13, k14, k15, k16, k17, k18, k19, k20, k21, k22, k23, k24, k25, k26, k27, k28]
def interned : List (Array UInt16 × Addr) := []
def slotsUsed : Nat := 519
def theMethod : MethodId := ⟨1, 1⟩
def args0 : Array Value := #[.long 1, .long 2, .int 3, .int 4, .long 5, .long 6]
def aboutOver (below : List Frame) : State where
  vm := { classes := classes, interned := interned.toArray }
  heap := heap
  slotsUsed := slotsUsed
  threads := #[{ frames := .invoking theMethod args0 :: below }]
def below0 : List Frame := [.native { method := ⟨0, 0⟩, args := #[] }]
def about1 : State := aboutOver below0
def p0 : Program := .bare "" "" ""
def e0 : Env := launch0.env 0 0 0
theorem w_frames : about1.frames = Frame.invoking theMethod args0 :: below0 := rfl
set_option maxRecDepth 65536 in
theorem w_args : argsFit about1.vm theMethod args0 = true := by decide +kernel
set_option maxRecDepth 65536 in
theorem w_heap : heapFits about1 = true := by decide +kernel
set_option maxRecDepth 65536 in
theorem w_runnable : about1.curStatus? = some .runnable := by decide +kernel
set_option maxRecDepth 65536 in
theorem w_alone : about1.alone = true := by decide +kernel
set_option maxRecDepth 65536 in
theorem w_named : about1.methodNamed? x = some theMethod := by decide +kernel
set_option maxRecDepth 65536 in
theorem w_hears : about1.hears theMethod below0 = true := by decide +kernel
set_option maxRecDepth 65536 in
theorem w_ripe : about1.ripe theMethod args0 below0 = true := by decide +kernel
theorem w_running : about1.status = .running := rfl
set_option maxRecDepth 65536 in
theorem w_room : about1.hasRoom e0.platform room_1 = true :=
  launch0.hasRoom_least _ room_1 (by decide +kernel) (by decide +kernel) (by decide +kernel) (by decide +kernel) (by decide +kernel) (by decide +kernel)
theorem allAtoms_all (ts : List Jvm.Cond) (a : Array Jvm.Value) (st : Jvm.State) : (allAtoms ts).before a st = ts.all (fun c => c.before a st) := by
  induction ts with
  | nil => rfl
  | cons c t ih =>
    show (Jvm.Cond.and c (allAtoms t)).before a st = _
    rw [Jvm.Cond.before_and, ih, List.all_cons]
def words1 : List Jvm.Cond := Jvm.Cond.code x code maxLocals ret :: tables_1
/-- a 'code' word, met by the world's own term for the bytes: nothing is compared byte by byte -/
theorem code_word {y : MethodName} {bytes : ByteArray} {mx : Nat} {rt : Option FieldType} {a : Array Value} {s : State} {m : MethodId} {meth : Method} {c : Code} (h1 : s.methodNamed? y = some m) (h2 : s.vm.method? m = some meth) (h3 : meth.code = some c) (h4 : c.code = bytes)
    (h5 : (c.maxLocals == mx && c.exceptionTable.isEmpty && decide (c.maxStack ≤ mostOperands) && decide (meth.sig.returnType = rt) && !meth.locks && decide (parseMethodDescriptor y.desc = some meth.sig)) = true) : (Jvm.Cond.code y bytes mx rt).before a s = true := by
  simp only [Bool.and_eq_true, beq_iff_eq, Bool.not_eq_true', decide_eq_true_eq] at h5
  obtain ⟨⟨⟨⟨⟨g1, g2⟩, g3⟩, g4⟩, g5⟩, g6⟩ := h5
  simp [Cond.before, Cond.holds, Cond.value, h1, h2, h3, h4, g1, g2, g3, g4, g5, g6]
def isCode : Jvm.Cond → Bool
  | .code _ _ _ _ => true
  | _ => false
theorem all_split {L : List Jvm.Cond} {P : Jvm.Cond → Bool} (h1 : L.all (fun c => isCode c || P c) = true) (h2 : ∀ c ∈ L.filter isCode, P c = true) : L.all P = true := by
  refine List.all_eq_true.mpr fun c hc => ?_
  have h := List.all_eq_true.mp h1 c hc
  rcases Bool.eq_false_or_eq_true (isCode c) with hi | hi
  · exact h2 c (List.mem_filter.mpr ⟨hc, hi⟩)
  · simpa [hi] using h
set_option maxRecDepth 65536 in
theorem w_c0 : (Jvm.Cond.code x code maxLocals ret).before args0 about1 = true := code_word (m := ⟨1, 1⟩) (meth := k1m1) (c := k1c1) (by decide +kernel) rfl rfl rfl (by decide +kernel)
set_option maxRecDepth 65536 in
theorem w_c1 : (Jvm.Cond.code ({ cls := "com/example/narrow_gate/narrowgate/Limit", name := "<init>", desc := "(JJJ)V" } : Jvm.MethodName) prog_18_method_1_code (7 : Nat) (Option.none : Option Jvm.ClassFile.FieldType)).before args0 about1 = true := code_word (m := ⟨2, 0⟩) (meth := k2m0) (c := k2c0) (by decide +kernel) rfl rfl rfl (by decide +kernel)
set_option maxRecDepth 65536 in
theorem w_c2 : (Jvm.Cond.code ({ cls := "java/lang/Object", name := "<init>", desc := "()V" } : Jvm.MethodName) object_method_1_code (1 : Nat) (Option.none : Option Jvm.ClassFile.FieldType)).before args0 about1 = true := code_word (m := ⟨0, 0⟩) (meth := k0m0) (c := k0c0) (by decide +kernel) rfl rfl rfl (by decide +kernel)
set_option maxRecDepth 65536 in
theorem w_c3 : (Jvm.Cond.code ({ cls := "java/lang/Long", name := "valueOf", desc := "(J)Ljava/lang/Long;" } : Jvm.MethodName) jdk_35_method_24_code (3 : Nat) (Option.some (Jvm.ClassFile.FieldType.object "java/lang/Long"))).before args0 about1 = true := code_word (m := ⟨8, 0⟩) (meth := k8m0) (c := k8c0) (by decide +kernel) rfl rfl rfl (by decide +kernel)
set_option maxRecDepth 65536 in
theorem w_c4 : (Jvm.Cond.code ({ cls := "com/example/narrow_gate/narrowgate/Limit", name := "problems", desc := "(Ljava/lang/Long;Ljava/lang/Long;Ljava/lang/Long;)Ljava/util/List;" } : Jvm.MethodName) prog_18_method_2_code (4 : Nat) (Option.some (Jvm.ClassFile.FieldType.object "java/util/List"))).before args0 about1 = true := code_word (m := ⟨2, 1⟩) (meth := k2m1) (c := k2c1) (by decide +kernel) rfl rfl rfl (by decide +kernel)
set_option maxRecDepth 65536 in
theorem w_c5 : (Jvm.Cond.code ({ cls := "java/util/ArrayList", name := "<init>", desc := "()V" } : Jvm.MethodName) jdk_38_method_2_code (1 : Nat) (Option.none : Option Jvm.ClassFile.FieldType)).before args0 about1 = true := code_word (m := ⟨18, 0⟩) (meth := k18m0) (c := k18c0) (by decide +kernel) rfl rfl rfl (by decide +kernel)
set_option maxRecDepth 65536 in
theorem w_c6 : (Jvm.Cond.code ({ cls := "java/util/AbstractList", name := "<init>", desc := "()V" } : Jvm.MethodName) jdk_39_method_1_code (1 : Nat) (Option.none : Option Jvm.ClassFile.FieldType)).before args0 about1 = true := code_word (m := ⟨15, 0⟩) (meth := k15m0) (c := k15c0) (by decide +kernel) rfl rfl rfl (by decide +kernel)
set_option maxRecDepth 65536 in
theorem w_c7 : (Jvm.Cond.code ({ cls := "java/util/AbstractCollection", name := "<init>", desc := "()V" } : Jvm.MethodName) jdk_22_method_1_code (1 : Nat) (Option.none : Option Jvm.ClassFile.FieldType)).before args0 about1 = true := code_word (m := ⟨12, 0⟩) (meth := k12m0) (c := k12c0) (by decide +kernel) rfl rfl rfl (by decide +kernel)
set_option maxRecDepth 65536 in
theorem w_c8 : (Jvm.Cond.code ({ cls := "java/lang/Long", name := "longValue", desc := "()J" } : Jvm.MethodName) jdk_35_method_31_code (1 : Nat) (Option.some Jvm.ClassFile.FieldType.long)).before args0 about1 = true := code_word (m := ⟨8, 2⟩) (meth := k8m2) (c := k8c2) (by decide +kernel) rfl rfl rfl (by decide +kernel)
set_option maxRecDepth 65536 in
theorem w_c9 : (Jvm.Cond.code ({ cls := "com/example/narrow_gate/narrowgate/InvalidLimitsException", name := "refuseIfAny", desc := "(Ljava/util/List;)V" } : Jvm.MethodName) prog_16_method_2_code (1 : Nat) (Option.none : Option Jvm.ClassFile.FieldType)).before args0 about1 = true := code_word (m := ⟨21, 0⟩) (meth := k21m0) (c := k21c0) (by decide +kernel) rfl rfl rfl (by decide +kernel)
set_option maxRecDepth 65536 in
theorem w_c10 : (Jvm.Cond.code ({ cls := "java/util/ArrayList", name := "isEmpty", desc := "()Z" } : Jvm.MethodName) jdk_38_method_9_code (1 : Nat) (Option.some Jvm.ClassFile.FieldType.boolean)).before args0 about1 = true := code_word (m := ⟨18, 1⟩) (meth := k18m1) (c := k18c1) (by decide +kernel) rfl rfl rfl (by decide +kernel)
set_option maxRecDepth 65536 in
theorem w_c11 : (Jvm.Cond.code ({ cls := "com/example/narrow_gate/narrowgate/Limit", name := "tokensPerSecond", desc := "()D" } : Jvm.MethodName) prog_18_method_6_code (1 : Nat) (Option.some Jvm.ClassFile.FieldType.double)).before args0 about1 = true := code_word (m := ⟨2, 2⟩) (meth := k2m2) (c := k2c2) (by decide +kernel) rfl rfl rfl (by decide +kernel)
set_option maxRecDepth 65536 in
theorem w_c12 : (Jvm.Cond.code ({ cls := "java/lang/Math", name := "max", desc := "(JJ)J" } : Jvm.MethodName) jdk_29_method_66_code (4 : Nat) (Option.some Jvm.ClassFile.FieldType.long)).before args0 about1 = true := code_word (m := ⟨22, 1⟩) (meth := k22m1) (c := k22c1) (by decide +kernel) rfl rfl rfl (by decide +kernel)
set_option maxRecDepth 65536 in
theorem w_c13 : (Jvm.Cond.code ({ cls := "java/lang/Long", name := "<init>", desc := "(J)V" } : Jvm.MethodName) jdk_35_method_26_code (3 : Nat) (Option.none : Option Jvm.ClassFile.FieldType)).before args0 about1 = true := code_word (m := ⟨8, 1⟩) (meth := k8m1) (c := k8c1) (by decide +kernel) rfl rfl rfl (by decide +kernel)
set_option maxRecDepth 65536 in
theorem w_c14 : (Jvm.Cond.code ({ cls := "java/lang/Number", name := "<init>", desc := "()V" } : Jvm.MethodName) jdk_18_method_1_code (1 : Nat) (Option.none : Option Jvm.ClassFile.FieldType)).before args0 about1 = true := code_word (m := ⟨4, 0⟩) (meth := k4m0) (c := k4c0) (by decide +kernel) rfl rfl rfl (by decide +kernel)
def codes1 : List Jvm.Cond := [Jvm.Cond.code x code maxLocals ret, Jvm.Cond.code ({ cls := "com/example/narrow_gate/narrowgate/Limit", name := "<init>", desc := "(JJJ)V" } : Jvm.MethodName) prog_18_method_1_code (7 : Nat) (Option.none : Option Jvm.ClassFile.FieldType), Jvm.Cond.code ({ cls := "java/lang/Object", name := "<init>", desc := "()V" } : Jvm.MethodName) object_method_1_code (1 : Nat) (Option.none : Option Jvm.ClassFile.FieldType), Jvm.Cond.code ({ cls := "java/lang/Long", name := "valueOf", desc := "(J)Ljava/lang/Long;" } : Jvm.MethodName) jdk_35_method_24_code (3 : Nat) (Option.some (Jvm.ClassFile.FieldType.object "java/lang/Long")), Jvm.Cond.code ({ cls := "com/example/narrow_gate/narrowgate/Limit", name := "problems", desc := "(Ljava/lang/Long;Ljava/lang/Long;Ljava/lang/Long;)Ljava/util/List;" } : Jvm.MethodName) prog_18_method_2_code (4 : Nat) (Option.some (Jvm.ClassFile.FieldType.object "java/util/List")), Jvm.Cond.code ({ cls := "java/util/ArrayList", name := "<init>", desc := "()V" } : Jvm.MethodName) jdk_38_method_2_code (1 : Nat) (Option.none : Option Jvm.ClassFile.FieldType), Jvm.Cond.code ({ cls := "java/util/AbstractList", name := "<init>", desc := "()V" } : Jvm.MethodName) jdk_39_method_1_code (1 : Nat) (Option.none : Option Jvm.ClassFile.FieldType), Jvm.Cond.code ({ cls := "java/util/AbstractCollection", name := "<init>", desc := "()V" } : Jvm.MethodName) jdk_22_method_1_code (1 : Nat) (Option.none : Option Jvm.ClassFile.FieldType), Jvm.Cond.code ({ cls := "java/lang/Long", name := "longValue", desc := "()J" } : Jvm.MethodName) jdk_35_method_31_code (1 : Nat) (Option.some Jvm.ClassFile.FieldType.long), Jvm.Cond.code ({ cls := "com/example/narrow_gate/narrowgate/InvalidLimitsException", name := "refuseIfAny", desc := "(Ljava/util/List;)V" } : Jvm.MethodName) prog_16_method_2_code (1 : Nat) (Option.none : Option Jvm.ClassFile.FieldType), Jvm.Cond.code ({ cls := "java/util/ArrayList", name := "isEmpty", desc := "()Z" } : Jvm.MethodName) jdk_38_method_9_code (1 : Nat) (Option.some Jvm.ClassFile.FieldType.boolean), Jvm.Cond.code ({ cls := "com/example/narrow_gate/narrowgate/Limit", name := "tokensPerSecond", desc := "()D" } : Jvm.MethodName) prog_18_method_6_code (1 : Nat) (Option.some Jvm.ClassFile.FieldType.double), Jvm.Cond.code ({ cls := "java/lang/Math", name := "max", desc := "(JJ)J" } : Jvm.MethodName) jdk_29_method_66_code (4 : Nat) (Option.some Jvm.ClassFile.FieldType.long), Jvm.Cond.code ({ cls := "java/lang/Long", name := "<init>", desc := "(J)V" } : Jvm.MethodName) jdk_35_method_26_code (3 : Nat) (Option.none : Option Jvm.ClassFile.FieldType), Jvm.Cond.code ({ cls := "java/lang/Number", name := "<init>", desc := "()V" } : Jvm.MethodName) jdk_18_method_1_code (1 : Nat) (Option.none : Option Jvm.ClassFile.FieldType)]
set_option maxRecDepth 65536 in
theorem codes_eq : words1.filter isCode = codes1 := rfl
theorem w_codes : ∀ c ∈ words1.filter isCode, c.before args0 about1 = true := by
  rw [codes_eq]
  intro c hc
  simp only [codes1, List.mem_cons, List.not_mem_nil, or_false] at hc
  rcases hc with rfl | rfl | rfl | rfl | rfl | rfl | rfl | rfl | rfl | rfl | rfl | rfl | rfl | rfl | rfl
  · exact w_c0
  · exact w_c1
  · exact w_c2
  · exact w_c3
  · exact w_c4
  · exact w_c5
  · exact w_c6
  · exact w_c7
  · exact w_c8
  · exact w_c9
  · exact w_c10
  · exact w_c11
  · exact w_c12
  · exact w_c13
  · exact w_c14
set_option maxRecDepth 65536 in
theorem w_t1 : (words1.take 24).all (fun c => isCode c || c.before args0 about1) = true := by decide +kernel
set_option maxRecDepth 65536 in
theorem w_t2 : ((words1.drop 24).take 24).all (fun c => isCode c || c.before args0 about1) = true := by decide +kernel
set_option maxRecDepth 65536 in
theorem w_t3 : (((words1.drop 24).drop 24).take 24).all (fun c => isCode c || c.before args0 about1) = true := by decide +kernel
set_option maxRecDepth 65536 in
theorem w_t4 : ((((words1.drop 24).drop 24).drop 24).take 24).all (fun c => isCode c || c.before args0 about1) = true := by decide +kernel
set_option maxRecDepth 65536 in
theorem w_t5 : ((((words1.drop 24).drop 24).drop 24).drop 24).all (fun c => isCode c || c.before args0 about1) = true := by decide +kernel
theorem w_tables : (allAtoms (Jvm.Cond.code x code maxLocals ret :: tables_1)).before args0 about1 = true := by
  rw [allAtoms_all]
  show words1.all (fun c => c.before args0 about1) = true
  refine all_split ?_ w_codes
  rw [← List.take_append_drop 24 words1, List.all_append, w_t1, ← List.take_append_drop 24 (words1.drop 24), List.all_append, w_t2, ← List.take_append_drop 24 ((words1.drop 24).drop 24), List.all_append, w_t3, ← List.take_append_drop 24 (((words1.drop 24).drop 24).drop 24), List.all_append, w_t4, w_t5]
  rfl
set_option maxRecDepth 65536 in
theorem w_rest : rest_1_c.before args0 about1 = true := by decide +kernel
set_option maxRecDepth 65536 in
theorem w_case : (Jvm.Cond.and given_1 narrow_1).before args0 about1 = true := by decide +kernel
theorem w_applies : (headSpec (Jvm.Cond.code x code maxLocals ret :: tables_1) room_1).applies x e0.platform about1 = true :=
  (Spec.applies_iff w_frames).mpr ⟨w_running, w_runnable, w_alone, w_named, w_hears, w_ripe, w_room, w_tables⟩
theorem atStart : AtStart classFile x code maxLocals ret World_1 tables_1 room_1 Calls_1 rest_1 Pre_1 launch0 p0 e0 about1 theMethod args0 below0 :=
  ⟨lists_1, trivial, launch0.admits_env _ _ _, launch0.least_env, fairChoices_fair.cas, fairChoices_fair.clock, w_frames, w_args, w_heap, w_applies, trivial, w_rest, w_case⟩
end start1
theorem witness_1 : WitnessClaimed_1 := ⟨start1.p0, start1.e0, start1.about1, start1.theMethod, start1.args0, start1.below0, start1.atStart⟩
end Jvm.Pilot.@@N@@
