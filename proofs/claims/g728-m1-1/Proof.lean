import JvmDerived
import JvmDerived.Pilot.@@N@@Statement
import JvmDerived.Pilot.@@N@@Code
set_option linter.unusedVariables false
set_option linter.unusedSimpArgs false
namespace Jvm.Pilot.@@N@@
open Jvm Jvm.ClassFile Sem Op Lib Jvm.Free Jvm.Stand Jvm.LawKit Jvm.RoadKit Bundle Jvm.Pilot.@@N@@.Jvm.D
section Own
variable {p : Program} {l : Launch} {e : Env} {R : Room} {s : State} {m : MethodId} {args : Array Value} {below : List Frame} {meth : Method} {c : Code} {T : State} {locs : List Loc} {cells slots : Nat} {Z : State} {a0 : Array Value} {h h' : Heap}
/-- from A the run comes to its end, and G holds there -/
def OGo (p : Program) (e : Env) (below : List Frame) (G : State → Outcome → Prop) (A : State) : Prop := ∃ s₂ o, Steps p.tables e below A s₂ ∧ s₂.status = .running ∧ Ended s₂ below o ∧ G s₂ o
theorem OGo.st {G : State → Outcome → Prop} {A B : State} (k : ∀ t, Steps p.tables e below B t → Steps p.tables e below A t) (g : OGo p e below G B) : OGo p e below G A := by
  obtain ⟨s₂, o, q, r⟩ := g
  exact ⟨s₂, o, k _ q, r⟩
theorem OGo.join {α : Type} {G : State → Outcome → Prop} {A : State} (F : α → State) (P : α → Prop) (h1 : ∀ a, P a → OGo p e below G (F a)) (h2 : (∀ a, P a → OGo p e below G (F a)) → OGo p e below G A) : OGo p e below G A := h2 h1
/-- what a body leaves -/
def ODone (s : State) (rm : Room) (Q : Option Value → Heap → List Loc → Prop) (t : State) (o : Outcome) : Prop := ∃ v L, o = .returned v ∧ Q v t.heap L ∧ FrameEnd s o t L rm.cells rm.slots
/-- a body's contract -/
def OMet (l : Launch) (Z : State) (y : MethodName) (bytes : ByteArray) (maxL : Nat) (ret : Option FieldType) (ws : List Jvm.Cond) (rm : Room) (as' : Array Value) (h0 : Heap) (Q : Option Value → Heap → List Loc → Prop) : Prop :=
  MetFree l y (head1 (Jvm.Cond.code y bytes maxL ret :: ws) rm) (fun a U => a = as' ∧ Z.Warmed39 U.vm ∧ U.heap = h0) (fun _ _ _ _ _ => True) (fun _ U o U' => ∃ v L, o = .returned v ∧ Q v U'.heap L ∧ FrameEnd U o U' L rm.cells rm.slots)
section M
variable {y : MethodName} {bytes : ByteArray} {maxL : Nat} {ret : Option FieldType} {ws : List Jvm.Cond} {rm : Room} {as' : Array Value} {Q : Option Value → Heap → List Loc → Prop}
theorem OMet.of (hp : plainFor y = true)
    (body : ∀ (p : Program) (e : Env) (s : State) (m : MethodId) (below : List Frame) (meth : Method) (c : Code) (s₁ : State), p.tables.exec = Jvm.exec → c.code = bytes → c.maxLocals = maxL → s.methodNamed? y = some m → s.vm.findClass y.cls = some m.cls → meth.name = y.name → meth.sig.returnType = ret → meth.locks = false → Z.Warmed39 s.vm →
      Stand p l e rm s m as' below meth c s₁ [] 0 0 → s₁.heap = h → OGo p e below (ODone s rm Q) (s₁.setTop (entryFrame m as' maxL))) : OMet l Z y bytes maxL ret ws rm as' h Q := by
  refine MetFree.of_bodySF hp hisR ?_
  intro p e s m args below meth c s₁ Bd hml hP hK
  obtain ⟨hA, hZ, hh⟩ := hP
  subst hA
  exact body p e s m below meth c s₁ Bd.exec Bd.bytes hml Bd.named (findClass_of_methodNamed Bd.named) (name_of_methodNamed Bd.named Bd.method).1 Bd.returns Bd.notSynchronized hZ (Stand.of_body Bd) (by rw [← hh, Bd.state]; rfl)
theorem OMet.back {len W : Nat} (hM : OMet l Z y bytes maxL ret [] rm as' h Q) (hZ : Z.Warmed39 s.vm) (wc : (Jvm.Cond.code y bytes maxL ret).before a0 Z = true) (wz : (Jvm.Cond.initialized y.cls).before a0 Z = true) (hf : rm.frames + 1 ≤ R.frames) (hl : W + (maxL + 11) + rm.locals ≤ R.locals) :
    Back l R p e below s args y len W (fun A a => a = as' ∧ A.U.heap = h ∧ A.cells + rm.cells ≤ R.cells ∧ A.slots + rm.slots ≤ R.slots) (fun A _ v B => ∃ L, Q v B.U.heap L ∧ B.locs = A.locs ++ L ∧ B.cells = A.cells + rm.cells ∧ B.slots = A.slots + rm.slots) :=
  backOf hM hZ wc wz hf hl
/-- a static call by its contract -/
theorem OMet.static (hM : OMet l Z y bytes maxL ret [] rm as' h Q) (X : Stand p l e R s m args below meth c T locs cells slots) (hx : p.tables.exec = Jvm.exec) (hZ : Z.Warmed39 s.vm) {own : String} {index W : Nat} (hown : s.vm.findClass own = some m.cls)
    (w1 : (Jvm.Cond.methodLink own index y).before a0 Z = true) (w2 : (Jvm.Cond.static y).before a0 Z = true) (w3 : (Jvm.Cond.initialized y.cls).before a0 Z = true) (w4 : (Jvm.Cond.code y bytes maxL ret).before a0 Z = true)
    (hy : y.cls ≠ "java/lang/invoke/MethodHandle" ∧ y.cls ≠ "java/lang/invoke/VarHandle") (hf : rm.frames + 1 ≤ R.frames) (hl : W + (maxL + 11) + rm.locals ≤ R.locals) (eT : T.heap = h) (hc : cells + rm.cells ≤ R.cells) (hs : slots + rm.slots ≤ R.slots)
    {g : JFrame} (hg : g.method = m) (hsize : g.locals.size = c.maxLocals) {argsL rest : List Value} (ha : argsL.toArray = as') (hlen : ∀ sig, parseMethodDescriptor y.desc = some sig → argsL.length = sig.parameters.length) (hstack : g.stack = argsL.reverse ++ rest) (hW : 2 * g.monitorRoom + (rest.map fun v => v.category).sum ≤ W)
    (hd : decode c.code g.pc = .ok (.invokestatic index, 3)) :
    ∃ (v : Option Value) (T' : State) (L : List Loc), Stand p l e R s m args below meth c T' (locs ++ L) (cells + rm.cells) (slots + rm.slots) ∧ Q v T'.heap L ∧ ∀ target, Steps p.tables e below (T'.setTop { g with pc := g.pc + 3, stack := v.toList ++ rest }) target → Steps p.tables e below (T.setTop g) target := by
  obtain ⟨v, vm, ⟨T', L', k', n'⟩, -, X', ⟨L, hQ, e1, e2, e3⟩, st⟩ := Jvm.LawKit.callS X hx hown (mvT hZ w1) (mvT hZ w2) (mvT hZ w3) (mvT hZ w4) hy (OMet.back (W := W) hM hZ w4 w3 hf hl) (g := g) hg hsize hlen hstack hW hd (fun _ _ => ⟨ha, eT, hc, hs⟩)
  dsimp only [Pt.U, Pt.locs, Pt.cells, Pt.slots] at X' e1 e2 e3 st hQ
  subst e1 e2 e3
  exact ⟨v, T', L, X', hQ, st⟩
/-- a constructor by its contract -/
theorem OMet.init (hM : OMet l Z y bytes maxL none [] rm as' h Q) (X : Stand p l e R s m args below meth c T locs cells slots) (hx : p.tables.exec = Jvm.exec) (hZ : Z.Warmed39 s.vm) {own : String} {index W : Nat} (hy1 : y.name = "<init>") (hown : s.vm.findClass own = some m.cls)
    (w1 : (Jvm.Cond.methodLink own index y).before a0 Z = true) (w2 : (Jvm.Cond.instanceMethod y).before a0 Z = true) (w3 : (Jvm.Cond.initialized y.cls).before a0 Z = true) (w4 : (Jvm.Cond.code y bytes maxL none).before a0 Z = true)
    (hy : y.cls ≠ "java/lang/invoke/MethodHandle" ∧ y.cls ≠ "java/lang/invoke/VarHandle") (hf : rm.frames + 1 ≤ R.frames) (hl : W + (maxL + 11) + rm.locals ≤ R.locals) (eT : T.heap = h) (hc : cells + rm.cells ≤ R.cells) (hs : slots + rm.slots ≤ R.slots)
    {g : JFrame} (hg : g.method = m) (hsize : g.locals.size = c.maxLocals) {a : Addr} {argsL rest : List Value} (ha : (Value.ref a :: argsL).toArray = as') (hlen : ∀ sig, parseMethodDescriptor y.desc = some sig → argsL.length = sig.parameters.length) (hstack : g.stack = argsL.reverse ++ .ref a :: rest) (hW : 2 * g.monitorRoom + (rest.map fun v => v.category).sum ≤ W)
    (hd : decode c.code g.pc = .ok (.invokespecial index, 3)) :
    ∃ (v : Option Value) (T' : State) (L : List Loc), Stand p l e R s m args below meth c T' (locs ++ L) (cells + rm.cells) (slots + rm.slots) ∧ Q v T'.heap L ∧ ∀ target, Steps p.tables e below (T'.setTop { g with pc := g.pc + 3, stack := v.toList ++ rest }) target → Steps p.tables e below (T.setTop g) target := by
  obtain ⟨v, vm, ⟨T', L', k', n'⟩, -, X', ⟨L, hQ, e1, e2, e3⟩, st⟩ := X.specialBack hx hy1 hown (mvT hZ w1) (mvT hZ w2) (mvT hZ w4) hy (OMet.back (W := W) hM hZ w4 w3 hf hl) (g := g) hg hsize (Steps.refl _) (a := a) hlen hstack hW hd (fun _ _ => ⟨ha, eT, hc, hs⟩)
  dsimp only [Pt.U, Pt.locs, Pt.cells, Pt.slots] at X' e1 e2 e3 st hQ
  subst e1 e2 e3
  exact ⟨v, T', L, X', hQ, fun _ k => st.trans k⟩
/-- a virtual call by the contract of the body that the receiver's class selects -/
theorem OMet.virt (hM : OMet l Z y bytes maxL ret [] rm as' h Q) (X : Stand p l e R s m args below meth c T locs cells slots) (hx : p.tables.exec = Jvm.exec) (hZ : Z.Warmed39 s.vm) {own C : String} {index W : Nat} {y0 : MethodName} (hown : s.vm.findClass own = some m.cls)
    (w1 : (Jvm.Cond.methodLink own index y0).before a0 Z = true) (w2 : (Jvm.Cond.declares y0).before a0 Z = true) (nf : NotFace s y0) (w5 : (Jvm.Cond.selects C y0 y).before a0 Z = true) (w6 : (Jvm.Cond.instanceMethod y).before a0 Z = true)
    (w3 : (Jvm.Cond.initialized y.cls).before a0 Z = true) (w4 : (Jvm.Cond.code y bytes maxL ret).before a0 Z = true)
    (hy : y0.cls ≠ "java/lang/invoke/MethodHandle" ∧ y0.cls ≠ "java/lang/invoke/VarHandle") (hf : rm.frames + 1 ≤ R.frames) (hl : W + (maxL + 11) + rm.locals ≤ R.locals) (eT : T.heap = h) (hc : cells + rm.cells ≤ R.cells) (hs : slots + rm.slots ≤ R.slots)
    {g : JFrame} (hg : g.method = m) (hsize : g.locals.size = c.maxLocals) {a : Addr} (E : Exa Z h a C) {argsL rest : List Value} (ha : (Value.ref a :: argsL).toArray = as') (hlen : ∀ sig, parseMethodDescriptor y0.desc = some sig → argsL.length = sig.parameters.length) (hstack : g.stack = argsL.reverse ++ .ref a :: rest) (hW : 2 * g.monitorRoom + (rest.map fun v => v.category).sum ≤ W)
    (hd : decode c.code g.pc = .ok (.invokevirtual index, 3)) :
    ∃ (v : Option Value) (T' : State) (L : List Loc), Stand p l e R s m args below meth c T' (locs ++ L) (cells + rm.cells) (slots + rm.slots) ∧ Q v T'.heap L ∧ ∀ target, Steps p.tables e below (T'.setTop { g with pc := g.pc + 3, stack := v.toList ++ rest }) target → Steps p.tables e below (T.setTop g) target := by
  obtain ⟨cB, kB, qa, qb, qc⟩ := isOf hZ eT E
  obtain ⟨v, vm, ⟨T', L', k', n'⟩, -, X', ⟨L, hQ, e1, e2, e3⟩, st⟩ := X.virtualBack hx hown (mvT hZ w1) (mvT hZ w2) nf (mvT hZ w5) (mvT hZ w6) hy (OMet.back (W := W) hM hZ w4 w3 hf hl) qa qc (g := g) hg hsize (Steps.refl _) hlen hstack hW hd (fun _ _ => ⟨ha, eT, hc, hs⟩)
  dsimp only [Pt.U, Pt.locs, Pt.cells, Pt.slots] at X' e1 e2 e3 st hQ
  subst e1 e2 e3
  exact ⟨v, T', L, X', hQ, fun _ k => st.trans k⟩
/-- a call through an interface by the contract of the body that the receiver's class selects -/
theorem OMet.iface (hM : OMet l Z y bytes maxL ret [] rm as' h Q) (X : Stand p l e R s m args below meth c T locs cells slots) (hx : p.tables.exec = Jvm.exec) (hZ : Z.Warmed39 s.vm) {own C : String} {index count W : Nat} {y0 : MethodName} (hown : s.vm.findClass own = some m.cls)
    (w1 : (Jvm.Cond.methodLink own index y0).before a0 Z = true) (w2 : (Jvm.Cond.declares y0).before a0 Z = true) (w7 : (Jvm.Cond.interfaceMethod y0.cls y0.cls y0.name y0.desc).before a0 Z = true) (w5 : (Jvm.Cond.selects C y0 y).before a0 Z = true) (w6 : (Jvm.Cond.instanceMethod y).before a0 Z = true)
    (w8 : (Jvm.Cond.publicMethod y).before a0 Z = true) (w9 : (Jvm.Cond.unhidden C y0.name y0.desc).before a0 Z = true) (w0 : (Jvm.Cond.castable C y0.cls).before a0 Z = true) (w3 : (Jvm.Cond.initialized y.cls).before a0 Z = true) (w4 : (Jvm.Cond.code y bytes maxL ret).before a0 Z = true)
    (hy : y0.cls ≠ "java/lang/invoke/MethodHandle" ∧ y0.cls ≠ "java/lang/invoke/VarHandle") (hf : rm.frames + 1 ≤ R.frames) (hl : W + (maxL + 11) + rm.locals ≤ R.locals) (eT : T.heap = h) (hc : cells + rm.cells ≤ R.cells) (hs : slots + rm.slots ≤ R.slots)
    {g : JFrame} (hg : g.method = m) (hsize : g.locals.size = c.maxLocals) {a : Addr} (E : Exa Z h a C) {argsL rest : List Value} (ha : (Value.ref a :: argsL).toArray = as') (hlen : ∀ sig, parseMethodDescriptor y0.desc = some sig → argsL.length = sig.parameters.length) (hstack : g.stack = argsL.reverse ++ .ref a :: rest) (hW : 2 * g.monitorRoom + (rest.map fun v => v.category).sum ≤ W)
    (hd : decode c.code g.pc = .ok (.invokeinterface index count, 5)) :
    ∃ (v : Option Value) (T' : State) (L : List Loc), Stand p l e R s m args below meth c T' (locs ++ L) (cells + rm.cells) (slots + rm.slots) ∧ Q v T'.heap L ∧ ∀ target, Steps p.tables e below (T'.setTop { g with pc := g.pc + 5, stack := v.toList ++ rest }) target → Steps p.tables e below (T.setTop g) target := by
  obtain ⟨cB, kB, qa, qb, qc⟩ := isOf hZ eT E
  obtain ⟨v, vm, ⟨T', L', k', n'⟩, -, X', ⟨L, hQ, e1, e2, e3⟩, st⟩ := X.interfaceBack hx hown (mvT hZ w1) (mvT hZ w2) (mvT hZ w7 (by simp [Cond.onTables, Cond.keepsFace, Cond.keeps, Cond.steady, Cond.faceAtom, hy.1, hy.2])) (mvT hZ w5) (mvT hZ w6) (mvT hZ w8) (mvT hZ w9) (mvT hZ w0) hy (OMet.back (W := W) hM hZ w4 w3 hf hl) qa qb qc (g := g) hg hsize (Steps.refl _) hlen hstack hW hd (fun _ _ => ⟨ha, eT, hc, hs⟩)
  dsimp only [Pt.U, Pt.locs, Pt.cells, Pt.slots] at X' e1 e2 e3 st hQ
  subst e1 e2 e3
  exact ⟨v, T', L, X', hQ, fun _ k => st.trans k⟩
end M
theorem nf_sel {C : String} {y : MethodName} (hZ : Z.Warmed39 s.vm) (w : (Jvm.Cond.selects C y y).before a0 Z = true) : NotFace s y := notFace_of_selects (args := #[]) (mvT hZ w)
/-- the returns -/
theorem own_ret (X : Stand p l e R s m args below meth c T locs cells slots) {rm : Room} {Q : Option Value → Heap → List Loc → Prop} {A : State} {v : Option Value} (hv : meth.sig.returnType = none → v = none) (hlk : meth.locks = false)
    (k : ∀ fs, (∀ (f : JFrame) (acts : List Action), f.method = m → f.locked = none → f.entered = [] → (doReturn e (T.setTop f) acts v).1 = T.setFrames fs) → Steps p.tables e below A (T.setFrames fs)) (hQ : Q v T.heap locs) (hc : cells ≤ rm.cells) (hs : slots ≤ rm.slots) : OGo p e below (ODone s rm Q) A := by
  obtain ⟨fs, hr, hrun, hended, hW, hsame⟩ := X.leave (v := v) hv hlk
  exact ⟨_, _, k fs hr, hrun, hended, v, locs, rfl, hQ, ⟨_, rfl⟩, hW, hsame.mono hc hs⟩
theorem own_retZ (X : Stand p l e R s m args below meth c T locs cells slots) (hx : p.tables.exec = Jvm.exec) {rm : Room} {Q : Option Value → Heap → List Loc → Prop} {pc : Nat} {Ls : Array Slot} {z : Int32} {rest : List Value} (hret : meth.sig.returnType = some .boolean) (hlk : meth.locks = false)
    (hd : decode c.code pc = .ok (.ireturn, 1)) (hQ : Q (some (.int (nar .boolean z))) T.heap locs) (hc : cells ≤ rm.cells) (hs : slots ≤ rm.slots) : OGo p e below (ODone s rm Q) (T.setTop (mkF m pc Ls (.int z :: rest))) :=
  own_ret X (fun h => by rw [hret] at h; cases h) hlk (fun fs hr => retN X hx hret (Or.inl rfl) hd hr) hQ hc hs
theorem own_retI (X : Stand p l e R s m args below meth c T locs cells slots) (hx : p.tables.exec = Jvm.exec) {rm : Room} {Q : Option Value → Heap → List Loc → Prop} {pc : Nat} {Ls : Array Slot} {z : Int32} {rest : List Value} (hret : meth.sig.returnType = some .int) (hlk : meth.locks = false)
    (hd : decode c.code pc = .ok (.ireturn, 1)) (hQ : Q (some (.int z)) T.heap locs) (hc : cells ≤ rm.cells) (hs : slots ≤ rm.slots) : OGo p e below (ODone s rm Q) (T.setTop (mkF m pc Ls (.int z :: rest))) :=
  own_ret X (fun h => by rw [hret] at h; cases h) hlk (fun fs hr => retOut X hx hret rfl (Or.inl ⟨rfl, Or.inl rfl, z, rfl⟩) hd hr) hQ hc hs
theorem own_retJ (X : Stand p l e R s m args below meth c T locs cells slots) (hx : p.tables.exec = Jvm.exec) {rm : Room} {Q : Option Value → Heap → List Loc → Prop} {pc : Nat} {Ls : Array Slot} {z : Int64} {rest : List Value} (hret : meth.sig.returnType = some .long) (hlk : meth.locks = false)
    (hd : decode c.code pc = .ok (.lreturn, 1)) (hQ : Q (some (.long z)) T.heap locs) (hc : cells ≤ rm.cells) (hs : slots ≤ rm.slots) : OGo p e below (ODone s rm Q) (T.setTop (mkF m pc Ls (.long z :: rest))) :=
  own_ret X (fun h => by rw [hret] at h; cases h) hlk (fun fs hr => retOut X hx hret rfl (Or.inr (Or.inl ⟨rfl, rfl, z, rfl⟩)) hd hr) hQ hc hs
theorem own_retA (X : Stand p l e R s m args below meth c T locs cells slots) (hx : p.tables.exec = Jvm.exec) {rm : Room} {Q : Option Value → Heap → List Loc → Prop} {pc : Nat} {Ls : Array Slot} {w : Value} {t : FieldType} {rest : List Value} (hret : meth.sig.returnType = some t) (hlk : meth.locks = false)
    (hn : narrow t w = w) (ht : t.isReference = true) (hw : w.isRef = true) (hd : decode c.code pc = .ok (.areturn, 1)) (hQ : Q (some w) T.heap locs) (hc : cells ≤ rm.cells) (hs : slots ≤ rm.slots) : OGo p e below (ODone s rm Q) (T.setTop (mkF m pc Ls (w :: rest))) :=
  own_ret X (fun h => by rw [hret] at h; cases h) hlk (fun fs hr => retOut X hx hret hn (Or.inr (Or.inr (Or.inr (Or.inr ⟨rfl, ht, hw⟩)))) hd hr) hQ hc hs
theorem own_ret0 (X : Stand p l e R s m args below meth c T locs cells slots) (hx : p.tables.exec = Jvm.exec) {rm : Room} {Q : Option Value → Heap → List Loc → Prop} {pc : Nat} {Ls : Array Slot} (hret : meth.sig.returnType = none) (hlk : meth.locks = false)
    (hd : decode c.code pc = .ok (.return_, 1)) (hQ : Q none T.heap locs) (hc : cells ≤ rm.cells) (hs : slots ≤ rm.slots) : OGo p e below (ODone s rm Q) (T.setTop (mkF m pc Ls [])) :=
  own_ret X (fun _ => rfl) hlk (fun fs hr => X.returnOut hx hret hd hr) hQ hc hs
/-- a body that returns r and leaves the heap as it was -/
def OPure (r : Option Value) (h0 : Heap) (n0 : Nat) (v : Option Value) (h : Heap) (L : List Loc) : Prop := v = r ∧ Fr n0 L ∧ h = h0
/-- the start's words -/
theorem own_int {k : Int32} {t : Term} (hq : (Jvm.Cond.eq t (.int k)).value args s none s [] = some true) : t.eval args s none [] s = some (.int k) := by
  obtain ⟨x, y, e1, e2, k1, k2⟩ := cmp_v (Or.inl hq)
  have e3 : y = .int k := (Option.some.inj e2).symm
  subst e3
  obtain ⟨z, rfl⟩ := k2
  have q : (Jvm.Cond.eq t (.int k)).value args s none s [] = some (decide (z = k)) := by simp [Jvm.Cond.value, e1, Term.eval]
  rw [e1, gotT q hq]
theorem own_long {k : Int64} {t : Term} (hq : (Jvm.Cond.eq t (.long k)).value args s none s [] = some true) : t.eval args s none [] s = some (.long k) := by
  obtain ⟨x, y, e1, e2, k1, k2⟩ := cmp_v (Or.inl hq)
  have e3 : y = .long k := (Option.some.inj e2).symm
  subst e3
  obtain ⟨z, rfl⟩ := k2
  have q : (Jvm.Cond.eq t (.long k)).value args s none s [] = some (decide (z = k)) := eq_L e1 e2
  rw [e1, gotT q hq]
theorem own_ord {k : Int32} {t : Term} {C n d : String} {x : Addr} (ht : t.eval args s none [] s = some (.ref x)) (hq : (Jvm.Cond.eq (.field t C n d) (.int k)).value args s none s [] = some true) : Fld s s.heap x C n d (.int k) :=
  Fld.start ((fld_at ht).symm.trans (own_int hq))
theorem own_ordL {k : Int64} {t : Term} {C n d : String} {x : Addr} (ht : t.eval args s none [] s = some (.ref x)) (hq : (Jvm.Cond.eq (.field t C n d) (.long k)).value args s none s [] = some true) : Fld s s.heap x C n d (.long k) :=
  Fld.start ((fld_at ht).symm.trans (own_long hq))
theorem own_sta {t : String × String × String} {C : String} (hq : (Jvm.Cond.exactly (.static t.1 t.2.1 t.2.2) C).value args s none s [] = some true) (w1 : (Jvm.Cond.initialized t.1).before args s = true) (w2 : (Jvm.Cond.laysStatic t.1 t.2.1 t.2.2).before args s = true) :
    ∃ a, (Term.static t.1 t.2.1 t.2.2).eval args s none [] s = some (.ref a) ∧ Sta s s.heap t.1 t.2.1 t.2.2 (.ref a) ∧ Exa s s.heap a C := by
  obtain ⟨a, ea⟩ := exa_v hq
  exact ⟨a, ea, Sta.start ea (Or.inr ⟨w1, w2⟩), Exa.start ea hq⟩
theorem own_len {t : Term} {a : Addr} {c : Cell} {z : Int32} (et : t.eval args s none [] s = some (.ref a)) (ha : s.arrayAt? a = some c) (hq : (Term.length t).eval args s none [] s = some (.int z)) : c.slots.size < 2 ^ 31 ∧ c.slots.size.toInt32 = z := by
  by_cases hl : c.slots.size < 2 ^ 31
  · rw [len_f et ha hl] at hq
    exact ⟨hl, Value.int.inj (Option.some.inj hq)⟩
  · simp [Term.eval, et, ha, hl] at hq
theorem own_b01 {z : Int32} (hz : z = 0 ∨ z = 1) : narrow .boolean (.int z) = .int z ∧ fits .boolean (.int z) = true ∧ nar .boolean z = z := by
  rcases hz with rfl | rfl <;> decide
theorem own_ns_root {O K : String} {n : Nat} (w : (Jvm.Cond.noSuperclass O).before a0 Z = true) (wi : (Jvm.Cond.instantiable K n).before a0 Z = true) (hn : O ≠ K) : NS Z O K := by
  obtain ⟨c, k, h1, h2, h3, -⟩ := Cond.noSuperclass_spec w
  obtain ⟨t, kt, g1, -⟩ := Cond.instantiable_spec wi
  refine ⟨c, t, h1, g1, fun f => ?_⟩
  cases f with
  | zero => rfl
  | succ f => simp [Vm.isSubclassAux, ids_ne h1 g1 hn, h2, h3]
theorem own_ns_no {C S K : String} {n : Nat} (w : (Jvm.Cond.superclass C S).before a0 Z = true) (wi : (Jvm.Cond.instantiable K n).before a0 Z = true) (N : NS Z C K) (hn : C ≠ K) : ∃ c t, Z.vm.findClass C = some c ∧ Z.vm.findClass K = some t ∧ Z.vm.assignable c t = false := by
  obtain ⟨c, t, h0, g0, n3⟩ := N
  obtain ⟨p, k, kp, -, h2, -, -, h5, -, h7⟩ := Cond.superclass_spec h0 w
  obtain ⟨t', kt, g1, g2, g3, g4, -⟩ := Cond.instantiable_spec wi
  cases g0.symm.trans g1
  have g5 : kt.isInterface = false := (Bool.or_eq_false_iff.mp g4).1
  refine ⟨c, t, h0, g0, ?_⟩
  show Z.vm.assignableAux (255 + 1) c t = false
  simp [Vm.assignableAux, ids_ne h0 g0 hn, h2, g2, h5, g3, g5, Vm.isSubclass, n3]
end Own
theorem own_sec (t r : Int64) (hr : (t / (1 : Int64) + (if t - (t / (1 : Int64)) * (1 : Int64) = (0 : Int64) then (0 : Int32) else (1 : Int32)).toInt64) = r) : r = t := by
  have q1 : t / (1 : Int64) = t := by
    have q := (c_ldiv t 1 1 rfl (by decide))
    apply Int64.toInt_inj.mp
    rcases Int.lt_or_le t.toInt 0 with u | u
    · have := q.2 u; omega
    · have := q.1 u; omega
  have q2 : t - (t / (1 : Int64)) * (1 : Int64) = (0 : Int64) := by
    rw [lrem_mod]
    apply Int64.toInt_inj.mp
    rw [Int64.toInt_mod]
    show t.toInt.tmod 1 = 0
    exact Int.tmod_one _
  rw [if_pos q2, q1] at hr
  rw [← hr]
  apply Int64.toInt_inj.mp
  have := c_ladd t (0 : Int32).toInt64
  have e0 : ((0 : Int32).toInt64).toInt = 0 := rfl
  have := rng64 t
  have := rng64 (t + (0 : Int32).toInt64)
  omega
theorem own_ms (t r : Int64) (ht : 0 ≤ t.toInt) (hr : (t / (1000 : Int64) + (if t - (t / (1000 : Int64)) * (1000 : Int64) = (0 : Int64) then (0 : Int32) else (1 : Int32)).toInt64) = r) : ¬ r < (0 : Int64) ∧ ¬ (9223372036854776 : Int64) < r ∧ (0 : Int64) < t - (r - (1 : Int64)) * (1000 : Int64) ∧ ¬ (1000 : Int64) < t - (r - (1 : Int64)) * (1000 : Int64) := by
  have a1 := (c_ldiv t 1000 1000 rfl (by decide)).1 ht
  have a2 := (c_lrem t 1000 1000 rfl).1 ht
  have b0 := rng64 t
  have e3 : (1000 : Int64).toInt = 1000 := rfl
  have e4 : (9223372036854776 : Int64).toInt = 9223372036854776 := rfl
  have e5 : (1 : Int64).toInt = 1 := rfl
  have e6 : (0 : Int64).toInt = 0 := rfl
  have key : r.toInt = t.toInt / 1000 + (if t.toInt % 1000 = 0 then 0 else 1) := by
    rw [← hr]
    by_cases c : t - (t / (1000 : Int64)) * (1000 : Int64) = (0 : Int64)
    · have c' : t.toInt % 1000 = 0 := by rw [← a2, c]; rfl
      rw [if_pos c, if_pos c']
      have := c_ladd (t / 1000) (0 : Int32).toInt64
      have e0 : ((0 : Int32).toInt64).toInt = 0 := rfl
      have := rng64 (t / 1000 + (0 : Int32).toInt64)
      omega
    · have c' : ¬ t.toInt % 1000 = 0 := fun u => c (Int64.toInt_inj.mp (by rw [a2, u]; rfl))
      rw [if_neg c, if_neg c']
      have := c_ladd (t / 1000) (1 : Int32).toInt64
      have e0 : ((1 : Int32).toInt64).toInt = 1 := rfl
      have := rng64 (t / 1000 + (1 : Int32).toInt64)
      omega
  have k1 := c_lsub r 1
  have k2 := c_lmul (r - 1) 1000
  have k3 := c_lsub t ((r - 1) * 1000)
  have r1 := rng64 (r - 1)
  have r2 := rng64 ((r - 1) * 1000)
  have r3 := rng64 (t - (r - 1) * 1000)
  have r4 := rng64 r
  have k1' : (r - 1).toInt = r.toInt - 1 := by split at key <;> omega
  rw [k1', e3] at k2
  rw [Int64.lt_iff_toInt_lt, Int64.lt_iff_toInt_lt, Int64.lt_iff_toInt_lt, Int64.lt_iff_toInt_lt, e3, e4, e6]
  split at key <;> omega
theorem own_pos (x : Int64) : 0 ≤ (x &&& (9223372036854775807 : Int64)).toInt := by
  have := c_maskL x (9223372036854775807 : Int64) 63 (by decide) (by decide)
  have := rng64 x
  omega
theorem d1_0 : decode prog_120_method_5_code 0 = .ok (.lload_n 1, 1) := by decide +kernel
theorem d1_1 : decode prog_120_method_5_code 1 = .ok (.aload_n 0, 1) := by decide +kernel
theorem d1_2 : decode prog_120_method_5_code 2 = .ok (.getfield 33, 3) := by decide +kernel
theorem d1_5 : decode prog_120_method_5_code 5 = .ok (.ldiv, 1) := by decide +kernel
theorem d1_6 : decode prog_120_method_5_code 6 = .ok (.lload_n 1, 1) := by decide +kernel
theorem d1_7 : decode prog_120_method_5_code 7 = .ok (.aload_n 0, 1) := by decide +kernel
theorem d1_8 : decode prog_120_method_5_code 8 = .ok (.getfield 33, 3) := by decide +kernel
theorem d1_11 : decode prog_120_method_5_code 11 = .ok (.lrem, 1) := by decide +kernel
theorem d1_12 : decode prog_120_method_5_code 12 = .ok (.lconst 0, 1) := by decide +kernel
theorem d1_13 : decode prog_120_method_5_code 13 = .ok (.lcmp, 1) := by decide +kernel
theorem d1_14 : decode prog_120_method_5_code 14 = .ok (.ifCond .ne 7, 3) := by decide +kernel
theorem d1_17 : decode prog_120_method_5_code 17 = .ok (.iconst 0, 1) := by decide +kernel
theorem d1_18 : decode prog_120_method_5_code 18 = .ok (.goto 4, 3) := by decide +kernel
theorem d1_21 : decode prog_120_method_5_code 21 = .ok (.iconst 1, 1) := by decide +kernel
theorem d1_22 : decode prog_120_method_5_code 22 = .ok (.i2l, 1) := by decide +kernel
theorem d1_23 : decode prog_120_method_5_code 23 = .ok (.ladd, 1) := by decide +kernel
theorem d1_24 : decode prog_120_method_5_code 24 = .ok (.lreturn, 1) := by decide +kernel
theorem pn_com_example_lean_rumor_leanrumor_trace_TimeUnit : plainName "com/example/lean_rumor/leanrumor/trace/TimeUnit" = true := by first | (simp [plainName, overriddenIn]; done) | decide +kernel
theorem ef_rm1 (m : MethodId) (x0 : Addr) (x1 : Int64) : entryFrame m #[(.ref x0), (.long x1)] 3 = mkF m 0 #[.val (.ref x0), .val (.long x1), .second] [] := by first | (simp [entryFrame, mkF, argsToLocals, Value.category]; done) | rfl
set_option maxRecDepth 65536 in
set_option maxHeartbeats 40000000 in
theorem rm1 (l : Launch) (Z : State) (a0 : Array Value) (hw : ∀ d ∈ tables_1, d.before a0 Z = true) (a : Addr) (t P r : Int64) (h0 : Heap) (n0 : Nat) (F : Fld Z h0 a "com/example/lean_rumor/leanrumor/trace/TimeUnit" "perSecond" "J" (.long P)) (hP : P ≠ 0) (hr : (t / P + (if t - (t / P) * P = (0 : Int64) then (0 : Int32) else (1 : Int32)).toInt64) = r) :
    OMet l Z (⟨"com/example/lean_rumor/leanrumor/trace/TimeUnit", "secondsUp", "(J)J"⟩ : MethodName) prog_120_method_5_code 3 (some .long) [] ({ frames := 0, cells := 0, slots := 0, locals := 0 } : Room) #[(.ref a), (.long t)] h0 (OPure (some (.long r)) h0 n0) := by
  refine OMet.of (plainFor_of_name pn_com_example_lean_rumor_leanrumor_trace_TimeUnit) ?_
  intro p e s m below meth c s₁ hx hby hml hnd hown hnm hret hlk hZ X0 e0
  replace hown : s.vm.findClass "com/example/lean_rumor/leanrumor/trace/TimeUnit" = some m.cls := hown
  replace hml : c.maxLocals = 3 := hml
  have N0 := Fr.nil n0
  rw [ef_rm1 m a t]
  refine OGo.st (B := s₁.setTop (mkF m 1 #[.val (.ref a), .val (.long t), .second] [(.long t)])) (fun _ k => XS.lloadN X0.here hx rfl (hb hby d1_0) rfl k) ?_
  refine OGo.st (B := s₁.setTop (mkF m 2 #[.val (.ref a), .val (.long t), .second] [(.ref a), (.long t)])) (fun _ k => XS.aloadN X0.here hx rfl (hb hby d1_1) rfl rfl k) ?_
  obtain ⟨T1, X1, e1, st1⟩ := getF X0 hx hZ hown (host := "") (Or.inl (hw _ (List.mem_of_getElem? (i := 9) rfl))) Via.refl e0 F (g := (mkF m 2 #[.val (.ref a), .val (.long t), .second] [(.ref a), (.long t)])) rfl rfl (hb hby d1_2)
  refine OGo.st (B := T1.setTop (mkF m 5 #[.val (.ref a), .val (.long t), .second] [(.long P), (.long t)])) st1 ?_
  refine OGo.st (B := T1.setTop (mkF m 6 #[.val (.ref a), .val (.long t), .second] [(.long (t / P))])) (fun _ k => XS.ldiv X1.here hx rfl (hb hby d1_5) rfl hP k) ?_
  refine OGo.st (B := T1.setTop (mkF m 7 #[.val (.ref a), .val (.long t), .second] [(.long t), (.long (t / P))])) (fun _ k => XS.lloadN X1.here hx rfl (hb hby d1_6) rfl k) ?_
  refine OGo.st (B := T1.setTop (mkF m 8 #[.val (.ref a), .val (.long t), .second] [(.ref a), (.long t), (.long (t / P))])) (fun _ k => XS.aloadN X1.here hx rfl (hb hby d1_7) rfl rfl k) ?_
  obtain ⟨T2, X2, e2, st2⟩ := getF X1 hx hZ hown (host := "") (Or.inl (hw _ (List.mem_of_getElem? (i := 9) rfl))) Via.refl e1 F (g := (mkF m 8 #[.val (.ref a), .val (.long t), .second] [(.ref a), (.long t), (.long (t / P))])) rfl rfl (hb hby d1_8)
  refine OGo.st (B := T2.setTop (mkF m 11 #[.val (.ref a), .val (.long t), .second] [(.long P), (.long t), (.long (t / P))])) st2 ?_
  refine OGo.st (B := T2.setTop (mkF m 12 #[.val (.ref a), .val (.long t), .second] [(.long (t - (t / P) * P)), (.long (t / P))])) (fun _ k => XS.lrem X2.here hx rfl (hb hby d1_11) rfl hP k) ?_
  refine OGo.st (B := T2.setTop (mkF m 13 #[.val (.ref a), .val (.long t), .second] [(.long (0 : Int64)), (.long (t - (t / P) * P)), (.long (t / P))])) (fun _ k => XS.lconst X2.here hx rfl (hb hby d1_12) k) ?_
  refine OGo.st (B := T2.setTop (mkF m 14 #[.val (.ref a), .val (.long t), .second] [(.int (lcmpW (t - (t / P) * P) (0 : Int64))), (.long (t / P))])) (fun _ k => XS.lcmp X2.here hx rfl (hb hby d1_13) rfl k) ?_
  by_cases hz : (t - (t / P) * P) = (0 : Int64)
  · skip
    refine OGo.st (B := T2.setTop (mkF m 17 #[.val (.ref a), .val (.long t), .second] [(.long (t / P))])) (fun _ k => XS.ifNo X2.here hx rfl (hb hby d1_14) rfl ((if0 _ _).trans (teq ((lw_eq _ _).mpr hz)).2) k) ?_
    refine OGo.st (B := T2.setTop (mkF m 18 #[.val (.ref a), .val (.long t), .second] [(.int (0 : Int32)), (.long (t / P))])) (fun _ k => XS.iconst X2.here hx rfl (hb hby d1_17) k) ?_
    refine OGo.st (B := T2.setTop (mkF m 22 #[.val (.ref a), .val (.long t), .second] [(.int (0 : Int32)), (.long (t / P))])) (fun _ k => XS.goto X2.here hx rfl (pc0 := 18) (pc' := 22) rfl (hb hby d1_18) (by decide) (by decide) k) ?_
    refine OGo.st (B := T2.setTop (mkF m 23 #[.val (.ref a), .val (.long t), .second] [(.long ((0 : Int32).toInt64)), (.long (t / P))])) (fun _ k => XS.i2l X2.here hx rfl (hb hby d1_22) rfl k) ?_
    refine OGo.st (B := T2.setTop (mkF m 24 #[.val (.ref a), .val (.long t), .second] [(.long ((t / P) + ((0 : Int32).toInt64)))])) (fun _ k => XS.ladd X2.here hx rfl (hb hby d1_23) rfl k) ?_
    exact own_retJ X2 hx hret hlk (hb hby d1_24) ⟨by rw [← hr, if_pos hz], N0, e2⟩ (by decide) (by decide)
  · skip
    refine OGo.st (B := T2.setTop (mkF m 21 #[.val (.ref a), .val (.long t), .second] [(.long (t / P))])) (fun _ k => XS.ifYes X2.here hx rfl (pc0 := 14) (pc' := 21) rfl (hb hby d1_14) rfl ((if0 _ _).trans (feq (mt (lw_eq _ _).mp hz)).2) (by decide) (by decide) k) ?_
    refine OGo.st (B := T2.setTop (mkF m 22 #[.val (.ref a), .val (.long t), .second] [(.int (1 : Int32)), (.long (t / P))])) (fun _ k => XS.iconst X2.here hx rfl (hb hby d1_21) k) ?_
    refine OGo.st (B := T2.setTop (mkF m 23 #[.val (.ref a), .val (.long t), .second] [(.long ((1 : Int32).toInt64)), (.long (t / P))])) (fun _ k => XS.i2l X2.here hx rfl (hb hby d1_22) rfl k) ?_
    refine OGo.st (B := T2.setTop (mkF m 24 #[.val (.ref a), .val (.long t), .second] [(.long ((t / P) + ((1 : Int32).toInt64)))])) (fun _ k => XS.ladd X2.here hx rfl (hb hby d1_23) rfl k) ?_
    exact own_retJ X2 hx hret hlk (hb hby d1_24) ⟨by rw [← hr, if_neg hz], N0, e2⟩ (by decide) (by decide)
theorem pd_0 : parseMethodDescriptor "(J)J" = some ⟨[.long], some .long⟩ := by decide +kernel
theorem pn_com_example_lean_rumor_leanrumor_trace_TimeUnitSecondsUpPinLaw : plainName "com/example/lean_rumor/leanrumor/trace/TimeUnitSecondsUpPinLaw" = true := by first | (simp [plainName, overriddenIn]; done) | decide +kernel
theorem ef_rm0 (m : MethodId) (x0 : Int64) (x1 : Int32) : entryFrame m #[(.long x0), (.int x1)] maxLocals = mkF m 0 #[.val (.long x0), .second, .val (.int x1), .unset, .unset, .unset, .unset, .unset, .unset, .unset, .unset] [] := by first | (simp [entryFrame, mkF, argsToLocals, Value.category, maxLocals]; done) | rfl
set_option maxRecDepth 65536 in
set_option maxHeartbeats 40000000 in
theorem rm0 (l : Launch) (Z : State) (a0 : Array Value) (hw : ∀ d ∈ tables_1, d.before a0 Z = true) (q : Int64) (p2 : Int32) (w0 w1 : Addr) (h0 : Heap) (n0 : Nat) (S_SECONDS : Sta Z h0 "com/example/lean_rumor/leanrumor/trace/TimeUnit" "SECONDS" "Lcom/example/lean_rumor/leanrumor/trace/TimeUnit;" (.ref w0)) (S_MILLISECONDS : Sta Z h0 "com/example/lean_rumor/leanrumor/trace/TimeUnit" "MILLISECONDS" "Lcom/example/lean_rumor/leanrumor/trace/TimeUnit;" (.ref w1)) (E0 : Exa Z h0 w0 "com/example/lean_rumor/leanrumor/trace/TimeUnit") (E1 : Exa Z h0 w1 "com/example/lean_rumor/leanrumor/trace/TimeUnit") (F0 : Fld Z h0 w0 "com/example/lean_rumor/leanrumor/trace/TimeUnit" "perSecond" "J" (.long 1)) (F1 : Fld Z h0 w1 "com/example/lean_rumor/leanrumor/trace/TimeUnit" "perSecond" "J" (.long 1000)) :
    OMet l Z x code maxLocals ret tables_1 room_1 #[(.long q), (.int p2)] h0 (fun v _ L => v = some (.int (1 : Int32)) ∧ Fr n0 L) := by
  refine OMet.of (plainFor_of_name pn_com_example_lean_rumor_leanrumor_trace_TimeUnitSecondsUpPinLaw) ?_
  intro p e s m below meth c s₁ hx hby hml hnd hown hnm hret hlk hZ X0 e0
  replace hown : s.vm.findClass "com/example/lean_rumor/leanrumor/trace/TimeUnitSecondsUpPinLaw" = some m.cls := hown
  replace hml : c.maxLocals = 11 := hml
  have N0 := Fr.nil n0
  replace hret : meth.sig.returnType = some .boolean := hret
  rw [ef_rm0 m q p2]
  refine OGo.st (B := s₁.setTop (mkF m 1 #[.val (.long q), .second, .val (.int p2), .unset, .unset, .unset, .unset, .unset, .unset, .unset, .unset] [(.long q)])) (fun _ k => XS.lloadN X0.here hx rfl (hb hby at_0) rfl k) ?_
  refine OGo.st (B := s₁.setTop (mkF m 4 #[.val (.long q), .second, .val (.int p2), .unset, .unset, .unset, .unset, .unset, .unset, .unset, .unset] [(.long (9223372036854775807 : Int64)), (.long q)])) (X0.ldc2Long hx hown (mvT hZ (hw _ (List.mem_of_getElem? (i := 0) rfl))) (g := (mkF m 1 #[.val (.long q), .second, .val (.int p2), .unset, .unset, .unset, .unset, .unset, .unset, .unset, .unset] [(.long q)])) rfl (hb hby at_1)) ?_
  refine OGo.st (B := s₁.setTop (mkF m 5 #[.val (.long q), .second, .val (.int p2), .unset, .unset, .unset, .unset, .unset, .unset, .unset, .unset] [(.long (q &&& (9223372036854775807 : Int64)))])) (fun _ k => XS.land X0.here hx rfl (hb hby at_4) rfl k) ?_
  refine OGo.st (B := s₁.setTop (mkF m 6 #[.val (.long q), .second, .val (.int p2), .val (.long (q &&& (9223372036854775807 : Int64))), .second, .unset, .unset, .unset, .unset, .unset, .unset] [])) (fun _ k => XS.lstoreN X0.here hx rfl (hb hby at_5) rfl (l' := #[.val (.long q), .second, .val (.int p2), .val (.long (q &&& (9223372036854775807 : Int64))), .second, .unset, .unset, .unset, .unset, .unset, .unset]) rfl k) ?_
  refine OGo.st (B := s₁.setTop (mkF m 7 #[.val (.long q), .second, .val (.int p2), .val (.long (q &&& (9223372036854775807 : Int64))), .second, .unset, .unset, .unset, .unset, .unset, .unset] [(.int p2)])) (fun _ k => XS.iloadN X0.here hx rfl (hb hby at_6) rfl k) ?_
  refine OGo.st (B := s₁.setTop (mkF m 8 #[.val (.long q), .second, .val (.int p2), .val (.long (q &&& (9223372036854775807 : Int64))), .second, .unset, .unset, .unset, .unset, .unset, .unset] [(.int (1 : Int32)), (.int p2)])) (fun _ k => XS.iconst X0.here hx rfl (hb hby at_7) k) ?_
  refine OGo.st (B := s₁.setTop (mkF m 9 #[.val (.long q), .second, .val (.int p2), .val (.long (q &&& (9223372036854775807 : Int64))), .second, .unset, .unset, .unset, .unset, .unset, .unset] [(.int (p2 &&& (1 : Int32)))])) (fun _ k => XS.iand X0.here hx rfl (hb hby at_8) rfl k) ?_
  rcases and_one p2 with hk | hk
  · skip
    rw [hk]
    refine OGo.st (B := s₁.setTop (mkF m 12 #[.val (.long q), .second, .val (.int p2), .val (.long (q &&& (9223372036854775807 : Int64))), .second, .unset, .unset, .unset, .unset, .unset, .unset] [])) (fun _ k => XS.ifNo X0.here hx rfl (hb hby at_9) rfl (by decide) k) ?_
    obtain ⟨T1, X1, e1, st1⟩ := getS2 X0 hx hZ hown (host := "") (Or.inl (hw _ (List.mem_of_getElem? (i := 1) rfl))) Via.refl e0 S_SECONDS (g := (mkF m 12 #[.val (.long q), .second, .val (.int p2), .val (.long (q &&& (9223372036854775807 : Int64))), .second, .unset, .unset, .unset, .unset, .unset, .unset] [])) rfl (hb hby at_12)
    refine OGo.st (B := T1.setTop (mkF m 15 #[.val (.long q), .second, .val (.int p2), .val (.long (q &&& (9223372036854775807 : Int64))), .second, .unset, .unset, .unset, .unset, .unset, .unset] [(.ref w0)])) st1 ?_
    refine OGo.st (B := T1.setTop (mkF m 16 #[.val (.long q), .second, .val (.int p2), .val (.long (q &&& (9223372036854775807 : Int64))), .second, .unset, .unset, .unset, .unset, .unset, .unset] [(.long (q &&& (9223372036854775807 : Int64))), (.ref w0)])) (fun _ k => XS.lloadN X1.here hx rfl (hb hby at_15) rfl k) ?_
    obtain ⟨r, hr⟩ : ∃ r, ((q &&& (9223372036854775807 : Int64)) / (1 : Int64) + (if (q &&& (9223372036854775807 : Int64)) - ((q &&& (9223372036854775807 : Int64)) / (1 : Int64)) * (1 : Int64) = (0 : Int64) then (0 : Int32) else (1 : Int32)).toInt64) = r := ⟨_, rfl⟩
    have hrt := own_sec _ _ hr
    obtain ⟨v2, T2, L2, X2, hQ2, st2⟩ := (rm1 l Z a0 hw w0 (q &&& (9223372036854775807 : Int64)) (1 : Int64) r h0 n0 F0 (by decide) hr).virt (W := 0) X1 hx hZ hown (hw _ (List.mem_of_getElem? (i := 4) rfl)) (hw _ (List.mem_of_getElem? (i := 5) rfl)) (nf_sel hZ (hw _ (List.mem_of_getElem? (i := 7) rfl))) (hw _ (List.mem_of_getElem? (i := 7) rfl)) (hw _ (List.mem_of_getElem? (i := 6) rfl)) (hw _ (List.mem_of_getElem? (i := 2) rfl)) (hw _ (List.mem_of_getElem? (i := 8) rfl)) (by decide) (by decide) (by decide) e1 (by decide) (by decide) (g := (mkF m 16 #[.val (.long q), .second, .val (.int p2), .val (.long (q &&& (9223372036854775807 : Int64))), .second, .unset, .unset, .unset, .unset, .unset, .unset] [(.long (q &&& (9223372036854775807 : Int64))), (.ref w0)])) rfl (by rw [hml]; rfl) E0 (argsL := [(.long (q &&& (9223372036854775807 : Int64)))]) (rest := []) rfl (lenOf pd_0 rfl) rfl (by show 2 * 0 + _ ≤ _; exact Nat.le_of_eq rfl) (hb hby at_16)
    obtain ⟨rfl, N2q, e2⟩ := hQ2
    have N2 := Fr.app N0 N2q
    refine OGo.st (B := T2.setTop (mkF m 19 #[.val (.long q), .second, .val (.int p2), .val (.long (q &&& (9223372036854775807 : Int64))), .second, .unset, .unset, .unset, .unset, .unset, .unset] [(.long r)])) st2 ?_
    refine OGo.st (B := T2.setTop (mkF m 21 #[.val (.long q), .second, .val (.int p2), .val (.long (q &&& (9223372036854775807 : Int64))), .second, .val (.long r), .second, .unset, .unset, .unset, .unset] [])) (fun _ k => XS.lstore X2.here hx rfl (hb hby at_19) rfl (l' := #[.val (.long q), .second, .val (.int p2), .val (.long (q &&& (9223372036854775807 : Int64))), .second, .val (.long r), .second, .unset, .unset, .unset, .unset]) rfl k) ?_
    refine OGo.st (B := T2.setTop (mkF m 23 #[.val (.long q), .second, .val (.int p2), .val (.long (q &&& (9223372036854775807 : Int64))), .second, .val (.long r), .second, .unset, .unset, .unset, .unset] [(.long r)])) (fun _ k => XS.lload X2.here hx rfl (hb hby at_21) rfl k) ?_
    refine OGo.st (B := T2.setTop (mkF m 24 #[.val (.long q), .second, .val (.int p2), .val (.long (q &&& (9223372036854775807 : Int64))), .second, .val (.long r), .second, .unset, .unset, .unset, .unset] [(.long (q &&& (9223372036854775807 : Int64))), (.long r)])) (fun _ k => XS.lloadN X2.here hx rfl (hb hby at_23) rfl k) ?_
    refine OGo.st (B := T2.setTop (mkF m 25 #[.val (.long q), .second, .val (.int p2), .val (.long (q &&& (9223372036854775807 : Int64))), .second, .val (.long r), .second, .unset, .unset, .unset, .unset] [(.int (lcmpW r (q &&& (9223372036854775807 : Int64))))])) (fun _ k => XS.lcmp X2.here hx rfl (hb hby at_24) rfl k) ?_
    refine OGo.st (B := T2.setTop (mkF m 28 #[.val (.long q), .second, .val (.int p2), .val (.long (q &&& (9223372036854775807 : Int64))), .second, .val (.long r), .second, .unset, .unset, .unset, .unset] [])) (fun _ k => XS.ifNo X2.here hx rfl (hb hby at_25) rfl ((if0 _ _).trans (teq ((lw_eq _ _).mpr hrt)).2) k) ?_
    refine OGo.st (B := T2.setTop (mkF m 29 #[.val (.long q), .second, .val (.int p2), .val (.long (q &&& (9223372036854775807 : Int64))), .second, .val (.long r), .second, .unset, .unset, .unset, .unset] [(.int (1 : Int32))])) (fun _ k => XS.iconst X2.here hx rfl (hb hby at_28) k) ?_
    refine OGo.st (B := T2.setTop (mkF m 33 #[.val (.long q), .second, .val (.int p2), .val (.long (q &&& (9223372036854775807 : Int64))), .second, .val (.long r), .second, .unset, .unset, .unset, .unset] [(.int (1 : Int32))])) (fun _ k => XS.goto X2.here hx rfl (pc0 := 29) (pc' := 33) rfl (hb hby at_29) (by decide) (by decide) k) ?_
    exact own_retZ X2 hx hret hlk (hb hby at_33) ⟨rfl, N2⟩ (by decide) (by decide)
  · skip
    rw [hk]
    refine OGo.st (B := s₁.setTop (mkF m 34 #[.val (.long q), .second, .val (.int p2), .val (.long (q &&& (9223372036854775807 : Int64))), .second, .unset, .unset, .unset, .unset, .unset, .unset] [])) (fun _ k => XS.ifYes X0.here hx rfl (pc0 := 9) (pc' := 34) rfl (hb hby at_9) rfl (by decide) (by decide) (by decide) k) ?_
    obtain ⟨T3, X3, e3, st3⟩ := getS2 X0 hx hZ hown (host := "") (Or.inl (hw _ (List.mem_of_getElem? (i := 11) rfl))) Via.refl e0 S_MILLISECONDS (g := (mkF m 34 #[.val (.long q), .second, .val (.int p2), .val (.long (q &&& (9223372036854775807 : Int64))), .second, .unset, .unset, .unset, .unset, .unset, .unset] [])) rfl (hb hby at_34)
    refine OGo.st (B := T3.setTop (mkF m 37 #[.val (.long q), .second, .val (.int p2), .val (.long (q &&& (9223372036854775807 : Int64))), .second, .unset, .unset, .unset, .unset, .unset, .unset] [(.ref w1)])) st3 ?_
    refine OGo.st (B := T3.setTop (mkF m 38 #[.val (.long q), .second, .val (.int p2), .val (.long (q &&& (9223372036854775807 : Int64))), .second, .unset, .unset, .unset, .unset, .unset, .unset] [(.long (q &&& (9223372036854775807 : Int64))), (.ref w1)])) (fun _ k => XS.lloadN X3.here hx rfl (hb hby at_37) rfl k) ?_
    obtain ⟨r, hr⟩ : ∃ r, ((q &&& (9223372036854775807 : Int64)) / (1000 : Int64) + (if (q &&& (9223372036854775807 : Int64)) - ((q &&& (9223372036854775807 : Int64)) / (1000 : Int64)) * (1000 : Int64) = (0 : Int64) then (0 : Int32) else (1 : Int32)).toInt64) = r := ⟨_, rfl⟩
    obtain ⟨m1, m2, m3, m4⟩ := own_ms _ _ (own_pos q) hr
    obtain ⟨v4, T4, L4, X4, hQ4, st4⟩ := (rm1 l Z a0 hw w1 (q &&& (9223372036854775807 : Int64)) (1000 : Int64) r h0 n0 F1 (by decide) hr).virt (W := 0) X3 hx hZ hown (hw _ (List.mem_of_getElem? (i := 4) rfl)) (hw _ (List.mem_of_getElem? (i := 5) rfl)) (nf_sel hZ (hw _ (List.mem_of_getElem? (i := 7) rfl))) (hw _ (List.mem_of_getElem? (i := 7) rfl)) (hw _ (List.mem_of_getElem? (i := 6) rfl)) (hw _ (List.mem_of_getElem? (i := 2) rfl)) (hw _ (List.mem_of_getElem? (i := 8) rfl)) (by decide) (by decide) (by decide) e3 (by decide) (by decide) (g := (mkF m 38 #[.val (.long q), .second, .val (.int p2), .val (.long (q &&& (9223372036854775807 : Int64))), .second, .unset, .unset, .unset, .unset, .unset, .unset] [(.long (q &&& (9223372036854775807 : Int64))), (.ref w1)])) rfl (by rw [hml]; rfl) E1 (argsL := [(.long (q &&& (9223372036854775807 : Int64)))]) (rest := []) rfl (lenOf pd_0 rfl) rfl (by show 2 * 0 + _ ≤ _; exact Nat.le_of_eq rfl) (hb hby at_38)
    obtain ⟨rfl, N4q, e4⟩ := hQ4
    have N4 := Fr.app N0 N4q
    refine OGo.st (B := T4.setTop (mkF m 41 #[.val (.long q), .second, .val (.int p2), .val (.long (q &&& (9223372036854775807 : Int64))), .second, .unset, .unset, .unset, .unset, .unset, .unset] [(.long r)])) st4 ?_
    refine OGo.st (B := T4.setTop (mkF m 43 #[.val (.long q), .second, .val (.int p2), .val (.long (q &&& (9223372036854775807 : Int64))), .second, .val (.long r), .second, .unset, .unset, .unset, .unset] [])) (fun _ k => XS.lstore X4.here hx rfl (hb hby at_41) rfl (l' := #[.val (.long q), .second, .val (.int p2), .val (.long (q &&& (9223372036854775807 : Int64))), .second, .val (.long r), .second, .unset, .unset, .unset, .unset]) rfl k) ?_
    refine OGo.st (B := T4.setTop (mkF m 45 #[.val (.long q), .second, .val (.int p2), .val (.long (q &&& (9223372036854775807 : Int64))), .second, .val (.long r), .second, .unset, .unset, .unset, .unset] [(.long r)])) (fun _ k => XS.lload X4.here hx rfl (hb hby at_43) rfl k) ?_
    refine OGo.st (B := T4.setTop (mkF m 46 #[.val (.long q), .second, .val (.int p2), .val (.long (q &&& (9223372036854775807 : Int64))), .second, .val (.long r), .second, .unset, .unset, .unset, .unset] [(.long (0 : Int64)), (.long r)])) (fun _ k => XS.lconst X4.here hx rfl (hb hby at_45) k) ?_
    refine OGo.st (B := T4.setTop (mkF m 47 #[.val (.long q), .second, .val (.int p2), .val (.long (q &&& (9223372036854775807 : Int64))), .second, .val (.long r), .second, .unset, .unset, .unset, .unset] [(.int (lcmpW r (0 : Int64)))])) (fun _ k => XS.lcmp X4.here hx rfl (hb hby at_46) rfl k) ?_
    refine OGo.st (B := T4.setTop (mkF m 52 #[.val (.long q), .second, .val (.int p2), .val (.long (q &&& (9223372036854775807 : Int64))), .second, .val (.long r), .second, .unset, .unset, .unset, .unset] [])) (fun _ k => XS.ifYes X4.here hx rfl (pc0 := 47) (pc' := 52) rfl (hb hby at_47) rfl ((if0 _ _).trans (flt (mt (lw_lt _ _).mp m1)).2.1) (by decide) (by decide) k) ?_
    refine OGo.st (B := T4.setTop (mkF m 54 #[.val (.long q), .second, .val (.int p2), .val (.long (q &&& (9223372036854775807 : Int64))), .second, .val (.long r), .second, .unset, .unset, .unset, .unset] [(.long r)])) (fun _ k => XS.lload X4.here hx rfl (hb hby at_52) rfl k) ?_
    refine OGo.st (B := T4.setTop (mkF m 57 #[.val (.long q), .second, .val (.int p2), .val (.long (q &&& (9223372036854775807 : Int64))), .second, .val (.long r), .second, .unset, .unset, .unset, .unset] [(.long (9223372036854776 : Int64)), (.long r)])) (X4.ldc2Long hx hown (mvT hZ (hw _ (List.mem_of_getElem? (i := 13) rfl))) (g := (mkF m 54 #[.val (.long q), .second, .val (.int p2), .val (.long (q &&& (9223372036854775807 : Int64))), .second, .val (.long r), .second, .unset, .unset, .unset, .unset] [(.long r)])) rfl (hb hby at_54)) ?_
    refine OGo.st (B := T4.setTop (mkF m 58 #[.val (.long q), .second, .val (.int p2), .val (.long (q &&& (9223372036854775807 : Int64))), .second, .val (.long r), .second, .unset, .unset, .unset, .unset] [(.int (lcmpW r (9223372036854776 : Int64)))])) (fun _ k => XS.lcmp X4.here hx rfl (hb hby at_57) rfl k) ?_
    refine OGo.st (B := T4.setTop (mkF m 63 #[.val (.long q), .second, .val (.int p2), .val (.long (q &&& (9223372036854775807 : Int64))), .second, .val (.long r), .second, .unset, .unset, .unset, .unset] [])) (fun _ k => XS.ifYes X4.here hx rfl (pc0 := 58) (pc' := 63) rfl (hb hby at_58) rfl ((if0 _ _).trans (flt (mt (lw_gt _ _).mp m2)).2.2.2) (by decide) (by decide) k) ?_
    refine OGo.st (B := T4.setTop (mkF m 65 #[.val (.long q), .second, .val (.int p2), .val (.long (q &&& (9223372036854775807 : Int64))), .second, .val (.long r), .second, .unset, .unset, .unset, .unset] [(.long r)])) (fun _ k => XS.lload X4.here hx rfl (hb hby at_63) rfl k) ?_
    refine OGo.st (B := T4.setTop (mkF m 66 #[.val (.long q), .second, .val (.int p2), .val (.long (q &&& (9223372036854775807 : Int64))), .second, .val (.long r), .second, .unset, .unset, .unset, .unset] [(.long (1 : Int64)), (.long r)])) (fun _ k => XS.lconst X4.here hx rfl (hb hby at_65) k) ?_
    refine OGo.st (B := T4.setTop (mkF m 67 #[.val (.long q), .second, .val (.int p2), .val (.long (q &&& (9223372036854775807 : Int64))), .second, .val (.long r), .second, .unset, .unset, .unset, .unset] [(.long (r - (1 : Int64)))])) (fun _ k => XS.lsub X4.here hx rfl (hb hby at_66) rfl k) ?_
    refine OGo.st (B := T4.setTop (mkF m 70 #[.val (.long q), .second, .val (.int p2), .val (.long (q &&& (9223372036854775807 : Int64))), .second, .val (.long r), .second, .unset, .unset, .unset, .unset] [(.long (1000 : Int64)), (.long (r - (1 : Int64)))])) (X4.ldc2Long hx hown (mvT hZ (hw _ (List.mem_of_getElem? (i := 14) rfl))) (g := (mkF m 67 #[.val (.long q), .second, .val (.int p2), .val (.long (q &&& (9223372036854775807 : Int64))), .second, .val (.long r), .second, .unset, .unset, .unset, .unset] [(.long (r - (1 : Int64)))])) rfl (hb hby at_67)) ?_
    refine OGo.st (B := T4.setTop (mkF m 71 #[.val (.long q), .second, .val (.int p2), .val (.long (q &&& (9223372036854775807 : Int64))), .second, .val (.long r), .second, .unset, .unset, .unset, .unset] [(.long ((r - (1 : Int64)) * (1000 : Int64)))])) (fun _ k => XS.lmul X4.here hx rfl (hb hby at_70) rfl k) ?_
    refine OGo.st (B := T4.setTop (mkF m 73 #[.val (.long q), .second, .val (.int p2), .val (.long (q &&& (9223372036854775807 : Int64))), .second, .val (.long r), .second, .val (.long ((r - (1 : Int64)) * (1000 : Int64))), .second, .unset, .unset] [])) (fun _ k => XS.lstore X4.here hx rfl (hb hby at_71) rfl (l' := #[.val (.long q), .second, .val (.int p2), .val (.long (q &&& (9223372036854775807 : Int64))), .second, .val (.long r), .second, .val (.long ((r - (1 : Int64)) * (1000 : Int64))), .second, .unset, .unset]) rfl k) ?_
    refine OGo.st (B := T4.setTop (mkF m 74 #[.val (.long q), .second, .val (.int p2), .val (.long (q &&& (9223372036854775807 : Int64))), .second, .val (.long r), .second, .val (.long ((r - (1 : Int64)) * (1000 : Int64))), .second, .unset, .unset] [(.long (q &&& (9223372036854775807 : Int64)))])) (fun _ k => XS.lloadN X4.here hx rfl (hb hby at_73) rfl k) ?_
    refine OGo.st (B := T4.setTop (mkF m 76 #[.val (.long q), .second, .val (.int p2), .val (.long (q &&& (9223372036854775807 : Int64))), .second, .val (.long r), .second, .val (.long ((r - (1 : Int64)) * (1000 : Int64))), .second, .unset, .unset] [(.long ((r - (1 : Int64)) * (1000 : Int64))), (.long (q &&& (9223372036854775807 : Int64)))])) (fun _ k => XS.lload X4.here hx rfl (hb hby at_74) rfl k) ?_
    refine OGo.st (B := T4.setTop (mkF m 77 #[.val (.long q), .second, .val (.int p2), .val (.long (q &&& (9223372036854775807 : Int64))), .second, .val (.long r), .second, .val (.long ((r - (1 : Int64)) * (1000 : Int64))), .second, .unset, .unset] [(.long ((q &&& (9223372036854775807 : Int64)) - ((r - (1 : Int64)) * (1000 : Int64))))])) (fun _ k => XS.lsub X4.here hx rfl (hb hby at_76) rfl k) ?_
    refine OGo.st (B := T4.setTop (mkF m 79 #[.val (.long q), .second, .val (.int p2), .val (.long (q &&& (9223372036854775807 : Int64))), .second, .val (.long r), .second, .val (.long ((r - (1 : Int64)) * (1000 : Int64))), .second, .val (.long ((q &&& (9223372036854775807 : Int64)) - ((r - (1 : Int64)) * (1000 : Int64)))), .second] [])) (fun _ k => XS.lstore X4.here hx rfl (hb hby at_77) rfl (l' := #[.val (.long q), .second, .val (.int p2), .val (.long (q &&& (9223372036854775807 : Int64))), .second, .val (.long r), .second, .val (.long ((r - (1 : Int64)) * (1000 : Int64))), .second, .val (.long ((q &&& (9223372036854775807 : Int64)) - ((r - (1 : Int64)) * (1000 : Int64)))), .second]) rfl k) ?_
    refine OGo.st (B := T4.setTop (mkF m 81 #[.val (.long q), .second, .val (.int p2), .val (.long (q &&& (9223372036854775807 : Int64))), .second, .val (.long r), .second, .val (.long ((r - (1 : Int64)) * (1000 : Int64))), .second, .val (.long ((q &&& (9223372036854775807 : Int64)) - ((r - (1 : Int64)) * (1000 : Int64)))), .second] [(.long ((q &&& (9223372036854775807 : Int64)) - ((r - (1 : Int64)) * (1000 : Int64))))])) (fun _ k => XS.lload X4.here hx rfl (hb hby at_79) rfl k) ?_
    refine OGo.st (B := T4.setTop (mkF m 82 #[.val (.long q), .second, .val (.int p2), .val (.long (q &&& (9223372036854775807 : Int64))), .second, .val (.long r), .second, .val (.long ((r - (1 : Int64)) * (1000 : Int64))), .second, .val (.long ((q &&& (9223372036854775807 : Int64)) - ((r - (1 : Int64)) * (1000 : Int64)))), .second] [(.long (0 : Int64)), (.long ((q &&& (9223372036854775807 : Int64)) - ((r - (1 : Int64)) * (1000 : Int64))))])) (fun _ k => XS.lconst X4.here hx rfl (hb hby at_81) k) ?_
    refine OGo.st (B := T4.setTop (mkF m 83 #[.val (.long q), .second, .val (.int p2), .val (.long (q &&& (9223372036854775807 : Int64))), .second, .val (.long r), .second, .val (.long ((r - (1 : Int64)) * (1000 : Int64))), .second, .val (.long ((q &&& (9223372036854775807 : Int64)) - ((r - (1 : Int64)) * (1000 : Int64)))), .second] [(.int (lcmpW ((q &&& (9223372036854775807 : Int64)) - ((r - (1 : Int64)) * (1000 : Int64))) (0 : Int64)))])) (fun _ k => XS.lcmp X4.here hx rfl (hb hby at_82) rfl k) ?_
    refine OGo.st (B := T4.setTop (mkF m 86 #[.val (.long q), .second, .val (.int p2), .val (.long (q &&& (9223372036854775807 : Int64))), .second, .val (.long r), .second, .val (.long ((r - (1 : Int64)) * (1000 : Int64))), .second, .val (.long ((q &&& (9223372036854775807 : Int64)) - ((r - (1 : Int64)) * (1000 : Int64)))), .second] [])) (fun _ k => XS.ifNo X4.here hx rfl (hb hby at_83) rfl ((if0 _ _).trans (tlt ((lw_gt _ _).mpr m3)).2.2.2) k) ?_
    refine OGo.st (B := T4.setTop (mkF m 88 #[.val (.long q), .second, .val (.int p2), .val (.long (q &&& (9223372036854775807 : Int64))), .second, .val (.long r), .second, .val (.long ((r - (1 : Int64)) * (1000 : Int64))), .second, .val (.long ((q &&& (9223372036854775807 : Int64)) - ((r - (1 : Int64)) * (1000 : Int64)))), .second] [(.long ((q &&& (9223372036854775807 : Int64)) - ((r - (1 : Int64)) * (1000 : Int64))))])) (fun _ k => XS.lload X4.here hx rfl (hb hby at_86) rfl k) ?_
    refine OGo.st (B := T4.setTop (mkF m 91 #[.val (.long q), .second, .val (.int p2), .val (.long (q &&& (9223372036854775807 : Int64))), .second, .val (.long r), .second, .val (.long ((r - (1 : Int64)) * (1000 : Int64))), .second, .val (.long ((q &&& (9223372036854775807 : Int64)) - ((r - (1 : Int64)) * (1000 : Int64)))), .second] [(.long (1000 : Int64)), (.long ((q &&& (9223372036854775807 : Int64)) - ((r - (1 : Int64)) * (1000 : Int64))))])) (X4.ldc2Long hx hown (mvT hZ (hw _ (List.mem_of_getElem? (i := 14) rfl))) (g := (mkF m 88 #[.val (.long q), .second, .val (.int p2), .val (.long (q &&& (9223372036854775807 : Int64))), .second, .val (.long r), .second, .val (.long ((r - (1 : Int64)) * (1000 : Int64))), .second, .val (.long ((q &&& (9223372036854775807 : Int64)) - ((r - (1 : Int64)) * (1000 : Int64)))), .second] [(.long ((q &&& (9223372036854775807 : Int64)) - ((r - (1 : Int64)) * (1000 : Int64))))])) rfl (hb hby at_88)) ?_
    refine OGo.st (B := T4.setTop (mkF m 92 #[.val (.long q), .second, .val (.int p2), .val (.long (q &&& (9223372036854775807 : Int64))), .second, .val (.long r), .second, .val (.long ((r - (1 : Int64)) * (1000 : Int64))), .second, .val (.long ((q &&& (9223372036854775807 : Int64)) - ((r - (1 : Int64)) * (1000 : Int64)))), .second] [(.int (lcmpW ((q &&& (9223372036854775807 : Int64)) - ((r - (1 : Int64)) * (1000 : Int64))) (1000 : Int64)))])) (fun _ k => XS.lcmp X4.here hx rfl (hb hby at_91) rfl k) ?_
    refine OGo.st (B := T4.setTop (mkF m 95 #[.val (.long q), .second, .val (.int p2), .val (.long (q &&& (9223372036854775807 : Int64))), .second, .val (.long r), .second, .val (.long ((r - (1 : Int64)) * (1000 : Int64))), .second, .val (.long ((q &&& (9223372036854775807 : Int64)) - ((r - (1 : Int64)) * (1000 : Int64)))), .second] [])) (fun _ k => XS.ifNo X4.here hx rfl (hb hby at_92) rfl ((if0 _ _).trans (flt (mt (lw_gt _ _).mp m4)).2.2.1) k) ?_
    refine OGo.st (B := T4.setTop (mkF m 96 #[.val (.long q), .second, .val (.int p2), .val (.long (q &&& (9223372036854775807 : Int64))), .second, .val (.long r), .second, .val (.long ((r - (1 : Int64)) * (1000 : Int64))), .second, .val (.long ((q &&& (9223372036854775807 : Int64)) - ((r - (1 : Int64)) * (1000 : Int64)))), .second] [(.int (1 : Int32))])) (fun _ k => XS.iconst X4.here hx rfl (hb hby at_95) k) ?_
    refine OGo.st (B := T4.setTop (mkF m 100 #[.val (.long q), .second, .val (.int p2), .val (.long (q &&& (9223372036854775807 : Int64))), .second, .val (.long r), .second, .val (.long ((r - (1 : Int64)) * (1000 : Int64))), .second, .val (.long ((q &&& (9223372036854775807 : Int64)) - ((r - (1 : Int64)) * (1000 : Int64)))), .second] [(.int (1 : Int32))])) (fun _ k => XS.goto X4.here hx rfl (pc0 := 96) (pc' := 100) rfl (hb hby at_96) (by decide) (by decide) k) ?_
    exact own_retZ X4 hx hret hlk (hb hby at_100) ⟨rfl, N4⟩ (by decide) (by decide)
set_option maxRecDepth 65536 in
set_option maxHeartbeats 40000000 in
theorem comes_1 {Post : Tables → Env → Array Value → State → Outcome → State → Prop} (hpost : ∀ tb e args s v u, (limb_1_1.after args s (.returned v) u = true ∧ limb_1_2.after args s (.returned v) u = true ∧ True) → FrameEnd s (.returned v) u (Jvm.fieldLocs frame_1_writes args s ++ Jvm.arrayLocs frame_1_arrays args s ++ Jvm.staticLocs frame_1_statics s) 0 0 → Post tb e args s (.returned v) u) :
    ArmFor flags0 classFile x code maxLocals ret World_1 tables_1 room_1 Calls_1 rest_1 Pre_1 Post := by
  intro l hfl _ _ p e ha hc hk s m args below hf hA hF happ hP
  obtain ⟨hcalls, hrest, hpre⟩ := hP
  obtain ⟨-, -, -, hnamed, -, -, -, hat⟩ := (Spec.applies_iff hf).mp happ
  obtain ⟨hg, hn⟩ := and_e (Cond.before_iff.mp (show (Jvm.Cond.and given_1 narrow_1).before args s = true from hpre))
  obtain ⟨q1, q2⟩ := and_e hg
  obtain ⟨q3, q4⟩ := and_e q2
  obtain ⟨w0, w1, rfl⟩ : ∃ w0 w1 : Value, args = #[w0, w1] := by
    have hs : args.size = 2 := by simpa [Cond.value, given_1] using q1
    obtain ⟨L⟩ := args
    match L, hs with
    | [w0, w1], _ => exact ⟨w0, w1, rfl⟩
  have hw := fun d (hd : d ∈ tables_1) => atoms_spec (ws := Jvm.Cond.code x code maxLocals ret :: tables_1) hat d (List.mem_cons_of_mem _ hd)
  obtain ⟨i0, ei0⟩ := isL_v q3
  obtain rfl : w0 = (.long i0) := Option.some.inj ei0
  obtain ⟨i1, ei1⟩ := is_v q4
  obtain rfl : w1 = (.int i1) := Option.some.inj ei1
  obtain ⟨q5, q6⟩ := and_e hn
  obtain ⟨q7, q8⟩ := and_e q6
  obtain ⟨q9, q10⟩ := and_e q8
  obtain ⟨u_SECONDS, ev_SECONDS, S_SECONDS, E_SECONDS⟩ := own_sta (t := ("com/example/lean_rumor/leanrumor/trace/TimeUnit", "SECONDS", "Lcom/example/lean_rumor/leanrumor/trace/TimeUnit;")) q5 (hw _ (List.mem_of_getElem? (i := 2) rfl)) (hw _ (List.mem_of_getElem? (i := 3) rfl))
  replace S_SECONDS : Sta s s.heap "com/example/lean_rumor/leanrumor/trace/TimeUnit" "SECONDS" "Lcom/example/lean_rumor/leanrumor/trace/TimeUnit;" (.ref u_SECONDS) := S_SECONDS
  obtain ⟨u_MILLISECONDS, ev_MILLISECONDS, S_MILLISECONDS, E_MILLISECONDS⟩ := own_sta (t := ("com/example/lean_rumor/leanrumor/trace/TimeUnit", "MILLISECONDS", "Lcom/example/lean_rumor/leanrumor/trace/TimeUnit;")) q9 (hw _ (List.mem_of_getElem? (i := 2) rfl)) (hw _ (List.mem_of_getElem? (i := 12) rfl))
  replace S_MILLISECONDS : Sta s s.heap "com/example/lean_rumor/leanrumor/trace/TimeUnit" "MILLISECONDS" "Lcom/example/lean_rumor/leanrumor/trace/TimeUnit;" (.ref u_MILLISECONDS) := S_MILLISECONDS
  have O_SECONDS := own_ordL ev_SECONDS q7
  have O_MILLISECONDS := own_ordL ev_MILLISECONDS q10
  obtain ⟨n, o, h1, h2, h3, _, L, rfl, ⟨rfl, N⟩, hq⟩ := rm0 l s _ hw i0 i1 u_SECONDS u_MILLISECONDS s.heap s.heap.size S_SECONDS S_MILLISECONDS E_SECONDS E_MILLISECONDS O_SECONDS O_MILLISECONDS p e ha hc hk s m _ below hf ((Spec.applies_iff_loose hf).mp happ).1 ⟨rfl, State.Warmed39.refl s, rfl⟩ trivial
  refine ⟨n, _, h1, h2, h3, hpost _ _ _ _ _ _ ⟨Cond.after_iff.mpr rfl, Cond.after_iff.mpr (eq_i res_at (Term.int_eval (1)) rfl), trivial⟩ ⟨hq.1, hq.2.1, (hq.2.2.sift fun y hy => Or.inr (N y hy)).mono (by decide) (by decide)⟩⟩
theorem main_1_1 : Claimed_1_1 := comes_1 fun _ _ _ _ _ _ h hF => ⟨h.1, hF⟩
theorem main_1_2 : Claimed_1_2 := comes_1 fun _ _ _ _ _ _ h hF => ⟨h.2.1, hF⟩
end Jvm.Pilot.@@N@@
namespace Jvm.Pilot.@@N@@
open Jvm Jvm.ClassFile Sem Op Lib Jvm.Free Jvm.Stand Jvm.Pilot.@@N@@.Jvm.D
/-! MADE BY PROGRAM (witnessworld.py) out of the Statement's table words and the real class files: 12 classes; the members and pool entries that the words name. The judged class is class 1, her method 1. -/
namespace start1
open Jvm.ClassFile
def u (s : String) : CpInfo := .utf8 (stringToUtf16 s)
/-- a pool by its gaps: so many unusable entries, then the entry; so many at the end -/
def gap : Nat → List CpInfo → List CpInfo
  | 0, r => r
  | n + 1, r => .unusable :: gap n r
def poolList (es : List (Nat × CpInfo)) (last : Nat) : List CpInfo := es.foldr (fun e r => gap e.1 (e.2 :: r)) (gap last [])
def pool (es : List (Nat × CpInfo)) (last : Nat) : Array CpInfo := ⟨poolList es last⟩
def fileOf (pool : Array CpInfo) (this : Nat) (attrs : Array Attribute := #[]) (ms : Array MethodInfo := #[]) (fl : Nat := 33) (sup : Nat := 0) (ifs : Array Nat := #[]) (fds : Array FieldInfo := #[]) : ClassFile where
  minorVersion := 0
  majorVersion := 65
  constantPool := pool
  accessFlags := fl
  thisClass := this
  superClass := sup
  interfaces := ifs
  fields := fds
  methods := ms
  attributes := attrs
def plain (name : String) (sup : Option ClassId) : Class where
  name := name
  kind := .ordinary
  loader := none
  accessFlags := 33
  super := sup
  interfaces := #[]
  cf := none
  fields := #[]
  methods := #[]
  instanceTypes := #[]
  staticTypes := #[]
  resolved := #[]
  callSites := []
  init := .initialized
  statics := none
  mirror := none

def pool0 : Array CpInfo := pool [(5, u "<init>"), (0, u "()V"), (1, .class_ 10), (1, u "java/lang/Object")] 113

def k0m0 : Method := { name := "<init>", desc := "()V", sig := { parameters := [], returnType := none }, accessFlags := 1, code := none }
/-- java/lang/Object -/
def k0 : Class := { plain "java/lang/Object" none with
  accessFlags := 33
  interfaces := #[]
  cf := some (fileOf pool0 8 #[] #[{ accessFlags := 1, nameIndex := 5, descriptorIndex := 6, attributes := #[] }] 33 0 #[] #[])
  fields := #[]
  methods := #[k0m0]
  instanceTypes := #[]
  staticTypes := #[]
  resolved := Array.replicate 124 none
  statics := none }

def pool1 : Array CpInfo := pool [(2, .class_ 4), (1, u "java/lang/Object"), (0, u "<init>"), (0, u "()V"), (2, .long 9223372036854775807), (1, .fieldref 12 13), (0, .class_ 14), (0, .nameAndType 15 16), (0, u "com/example/lean_rumor/leanrumor/trace/TimeUnit"), (0, u "SECONDS"), (0, u "Lcom/example/lean_rumor/leanrumor/trace/TimeUnit;"), (0, .methodref 12 18), (0, .nameAndType 19 20), (0, u "secondsUp"), (0, u "(J)J"), (0, .fieldref 12 22), (0, .nameAndType 23 16), (0, u "MILLISECONDS"), (0, .long 9223372036854776), (1, .long 1000), (1, .class_ 29), (0, u "com/example/lean_rumor/leanrumor/trace/TimeUnitSecondsUpPinLaw"), (2, u "law"), (0, u "(JI)Z")] 3

def k1m0 : Method := { name := "<init>", desc := "()V", sig := { parameters := [], returnType := none }, accessFlags := 1, code := none }
def k1c1 : Code := { maxStack := 4, maxLocals := 11, code := code, exceptionTable := #[], attributes := #[] }
def k1m1 : Method := { name := "law", desc := "(JI)Z", sig := { parameters := [.long, .int], returnType := some .boolean }, accessFlags := 9, code := some k1c1 }
/-- com/example/lean_rumor/leanrumor/trace/TimeUnitSecondsUpPinLaw -/
def k1 : Class := { plain "com/example/lean_rumor/leanrumor/trace/TimeUnitSecondsUpPinLaw" (some 0) with
  accessFlags := 49
  interfaces := #[]
  cf := some (fileOf pool1 28 #[] #[{ accessFlags := 1, nameIndex := 5, descriptorIndex := 6, attributes := #[] }, { accessFlags := 9, nameIndex := 32, descriptorIndex := 33, attributes := #[] }] 49 2 #[] #[])
  fields := #[]
  methods := #[k1m0, k1m1]
  instanceTypes := #[]
  staticTypes := #[]
  resolved := Array.replicate 37 none
  statics := none }

def pool2 : Array CpInfo := pool [(1, .class_ 2), (0, u "java/lang/constant/Constable"), (0, .class_ 4), (0, u "java/lang/Object")] 6

/-- java/lang/constant/Constable -/
def k2 : Class := { plain "java/lang/constant/Constable" (some 0) with
  accessFlags := 1537
  interfaces := #[]
  cf := some (fileOf pool2 1 #[] #[] 1537 3 #[] #[])
  fields := #[]
  methods := #[]
  instanceTypes := #[]
  staticTypes := #[]
  resolved := Array.replicate 11 none
  statics := none }

def pool3 : Array CpInfo := pool [(1, .class_ 2), (0, u "java/lang/Comparable"), (0, .class_ 4), (0, u "java/lang/Object")] 7

/-- java/lang/Comparable -/
def k3 : Class := { plain "java/lang/Comparable" (some 0) with
  accessFlags := 1537
  interfaces := #[]
  cf := some (fileOf pool3 1 #[] #[] 1537 3 #[] #[])
  fields := #[]
  methods := #[]
  instanceTypes := #[]
  staticTypes := #[]
  resolved := Array.replicate 12 none
  statics := none }

def pool4 : Array CpInfo := pool [(1, .class_ 2), (0, u "java/io/Serializable"), (0, .class_ 4), (0, u "java/lang/Object")] 2

/-- java/io/Serializable -/
def k4 : Class := { plain "java/io/Serializable" (some 0) with
  accessFlags := 1537
  interfaces := #[]
  cf := some (fileOf pool4 1 #[] #[] 1537 3 #[] #[])
  fields := #[]
  methods := #[]
  instanceTypes := #[]
  staticTypes := #[]
  resolved := Array.replicate 7 none
  statics := none }

def pool5 : Array CpInfo := pool [(2, .class_ 4), (1, u "java/lang/Enum"), (0, u "name"), (0, u "Ljava/lang/String;"), (2, u "ordinal"), (0, u "I"), (1, .class_ 14), (1, u "java/lang/Object"), (4, u "hash"), (86, .class_ 108), (1, u "java/lang/Enum$EnumDesc"), (2, .class_ 112), (0, u "java/lang/constant/Constable"), (0, .class_ 114), (0, u "java/lang/Comparable"), (0, .class_ 116), (0, u "java/io/Serializable")] 87

/-- java/lang/Enum -/
def k5 : Class := { plain "java/lang/Enum" (some 0) with
  accessFlags := 1057
  interfaces := #[2, 3, 4]
  cf := some (fileOf pool5 2 #[.nestMembers #[106]] #[] 1057 12 #[111, 113, 115] #[{ accessFlags := 18, nameIndex := 5, descriptorIndex := 6, attributes := #[] }, { accessFlags := 18, nameIndex := 9, descriptorIndex := 10, attributes := #[] }, { accessFlags := 2, nameIndex := 19, descriptorIndex := 10, attributes := #[] }])
  fields := #[{ name := "name", type := (.object "java/lang/String"), accessFlags := 18, slot := 0, constantValue := 0 }, { name := "ordinal", type := .int, accessFlags := 18, slot := 1, constantValue := 0 }, { name := "hash", type := .int, accessFlags := 2, slot := 2, constantValue := 0 }]
  methods := #[]
  instanceTypes := #[(.object "java/lang/String"), .int, .int]
  staticTypes := #[]
  resolved := Array.replicate 204 none
  statics := none }

def pool6 : Array CpInfo := pool [(1, .class_ 2), (0, u "com/example/lean_rumor/leanrumor/trace/TimeUnit"), (2, u "SECONDS"), (0, u "Lcom/example/lean_rumor/leanrumor/trace/TimeUnit;"), (2, u "MILLISECONDS"), (2, u "$VALUES"), (0, u "[Lcom/example/lean_rumor/leanrumor/trace/TimeUnit;"), (6, .class_ 22), (1, u "java/lang/Enum"), (8, u "name"), (0, u "Ljava/lang/String;"), (0, .fieldref 1 34), (0, .nameAndType 35 36), (0, u "perSecond"), (0, u "J"), (23, u "(J)J"), (0, u "secondsUp")] 8

def k6c0 : Code := { maxStack := 6, maxLocals := 3, code := prog_120_method_5_code, exceptionTable := #[], attributes := #[] }
def k6m0 : Method := { name := "secondsUp", desc := "(J)J", sig := { parameters := [.long], returnType := some .long }, accessFlags := 1, code := some k6c0 }
/-- com/example/lean_rumor/leanrumor/trace/TimeUnit -/
def k6 : Class := { plain "com/example/lean_rumor/leanrumor/trace/TimeUnit" (some 5) with
  accessFlags := 16433
  interfaces := #[]
  cf := some (fileOf pool6 1 #[] #[{ accessFlags := 1, nameIndex := 61, descriptorIndex := 60, attributes := #[] }] 16433 20 #[] #[{ accessFlags := 16409, nameIndex := 5, descriptorIndex := 6, attributes := #[] }, { accessFlags := 16409, nameIndex := 9, descriptorIndex := 6, attributes := #[] }, { accessFlags := 18, nameIndex := 31, descriptorIndex := 32, attributes := #[] }, { accessFlags := 18, nameIndex := 35, descriptorIndex := 36, attributes := #[] }, { accessFlags := 4122, nameIndex := 12, descriptorIndex := 13, attributes := #[] }])
  fields := #[{ name := "SECONDS", type := (.object "com/example/lean_rumor/leanrumor/trace/TimeUnit"), accessFlags := 16409, slot := 0, constantValue := 0 }, { name := "MILLISECONDS", type := (.object "com/example/lean_rumor/leanrumor/trace/TimeUnit"), accessFlags := 16409, slot := 1, constantValue := 0 }, { name := "name", type := (.object "java/lang/String"), accessFlags := 18, slot := 3, constantValue := 0 }, { name := "perSecond", type := .long, accessFlags := 18, slot := 4, constantValue := 0 }, { name := "$VALUES", type := (.array (.object "com/example/lean_rumor/leanrumor/trace/TimeUnit")), accessFlags := 4122, slot := 2, constantValue := 0 }]
  methods := #[k6m0]
  instanceTypes := #[(.object "java/lang/String"), .int, .int, (.object "java/lang/String"), .long]
  staticTypes := #[(.object "com/example/lean_rumor/leanrumor/trace/TimeUnit"), (.object "com/example/lean_rumor/leanrumor/trace/TimeUnit"), (.array (.object "com/example/lean_rumor/leanrumor/trace/TimeUnit"))]
  resolved := Array.replicate 70 none
  statics := some 0 }

def pool7 : Array CpInfo := pool [(1, u "java/lang/Cloneable"), (0, .class_ 1), (0, u "java/lang/Object"), (0, .class_ 3)] 3

/-- java/lang/Cloneable -/
def k7 : Class := { plain "java/lang/Cloneable" (some 0) with
  accessFlags := 1537
  interfaces := #[]
  cf := some (fileOf pool7 2 #[] #[] 1537 4 #[] #[])
  fields := #[]
  methods := #[]
  instanceTypes := #[]
  staticTypes := #[]
  resolved := Array.replicate 8 none
  statics := none }

/-- the primitive byte -/
def k8 : Class := { plain "byte" none with kind := .primitive 'B', accessFlags := 0x411 }
/-- [B -/
def k9 : Class := { plain "[B" (some 0) with kind := .array 8 .byte, interfaces := #[7, 4], accessFlags := 1041 }

/-- the primitive int -/
def k10 : Class := { plain "int" none with kind := .primitive 'I', accessFlags := 0x411 }
/-- [I -/
def k11 : Class := { plain "[I" (some 0) with kind := .array 10 .int, interfaces := #[7, 4], accessFlags := 1041 }

def heap : Heap := #[{ cls := 6, slots := #[.ref 1, .ref 2, .null], vm := .statics 6 },
  { cls := 6, slots := #[.null, .int 0, .int 0, .null, .long 1], vm := .none },
  { cls := 6, slots := #[.null, .int 1, .int 0, .null, .long 1000], vm := .none }]
def classes : Array Class := #[k0, k1, k2, k3, k4, k5, k6, k7, k8, k9, k10, k11]
def interned : List (Array UInt16 × Addr) := []
def slotsUsed : Nat := 13
def theMethod : MethodId := ⟨1, 1⟩
def args0 : Array Value := #[.long 5, .int 1]
def aboutOver (below : List Frame) : State where
  vm := { classes := classes, interned := interned.toArray }
  heap := heap
  slotsUsed := slotsUsed
  threads := #[{ frames := .invoking theMethod args0 :: below }]
def below0 : List Frame := [.native { method := ⟨0, 0⟩, args := #[] }]
def about1 : State := aboutOver below0
def p0 : Program := .bare "" "" ""
def e0 : Env := launch0.env 0 0 0
theorem w_frames : about1.frames = Frame.invoking theMethod args0 :: below0 := rfl
set_option maxRecDepth 65536 in
theorem w_args : argsFit about1.vm theMethod args0 = true := by decide +kernel
set_option maxRecDepth 65536 in
theorem w_heap : heapFits about1 = true := by decide +kernel
set_option maxRecDepth 65536 in
theorem w_runnable : about1.curStatus? = some .runnable := by decide +kernel
set_option maxRecDepth 65536 in
theorem w_alone : about1.alone = true := by decide +kernel
set_option maxRecDepth 65536 in
theorem w_named : about1.methodNamed? x = some theMethod := by decide +kernel
set_option maxRecDepth 65536 in
theorem w_hears : about1.hears theMethod below0 = true := by decide +kernel
set_option maxRecDepth 65536 in
theorem w_ripe : about1.ripe theMethod args0 below0 = true := by decide +kernel
theorem w_running : about1.status = .running := rfl
set_option maxRecDepth 65536 in
theorem w_room : about1.hasRoom e0.platform room_1 = true :=
  launch0.hasRoom_least _ room_1 (by decide +kernel) (by decide +kernel) (by decide +kernel) (by decide +kernel) (by decide +kernel) (by decide +kernel)
theorem allAtoms_all (ts : List Jvm.Cond) (a : Array Jvm.Value) (st : Jvm.State) : (allAtoms ts).before a st = ts.all (fun c => c.before a st) := by
  induction ts with
  | nil => rfl
  | cons c t ih =>
    show (Jvm.Cond.and c (allAtoms t)).before a st = _
    rw [Jvm.Cond.before_and, ih, List.all_cons]
def words1 : List Jvm.Cond := Jvm.Cond.code x code maxLocals ret :: tables_1
/-- a 'code' word, met by the world's own term for the bytes: nothing is compared byte by byte -/
theorem code_word {y : MethodName} {bytes : ByteArray} {mx : Nat} {rt : Option FieldType} {a : Array Value} {s : State} {m : MethodId} {meth : Method} {c : Code} (h1 : s.methodNamed? y = some m) (h2 : s.vm.method? m = some meth) (h3 : meth.code = some c) (h4 : c.code = bytes)
    (h5 : (c.maxLocals == mx && c.exceptionTable.isEmpty && decide (c.maxStack ≤ mostOperands) && decide (meth.sig.returnType = rt) && !meth.locks && decide (parseMethodDescriptor y.desc = some meth.sig)) = true) : (Jvm.Cond.code y bytes mx rt).before a s = true := by
  simp only [Bool.and_eq_true, beq_iff_eq, Bool.not_eq_true', decide_eq_true_eq] at h5
  obtain ⟨⟨⟨⟨⟨g1, g2⟩, g3⟩, g4⟩, g5⟩, g6⟩ := h5
  simp [Cond.before, Cond.holds, Cond.value, h1, h2, h3, h4, g1, g2, g3, g4, g5, g6]
def isCode : Jvm.Cond → Bool
  | .code _ _ _ _ => true
  | _ => false
theorem all_split {L : List Jvm.Cond} {P : Jvm.Cond → Bool} (h1 : L.all (fun c => isCode c || P c) = true) (h2 : ∀ c ∈ L.filter isCode, P c = true) : L.all P = true := by
  refine List.all_eq_true.mpr fun c hc => ?_
  have h := List.all_eq_true.mp h1 c hc
  rcases Bool.eq_false_or_eq_true (isCode c) with hi | hi
  · exact h2 c (List.mem_filter.mpr ⟨hc, hi⟩)
  · simpa [hi] using h
set_option maxRecDepth 65536 in
theorem w_c0 : (Jvm.Cond.code x code maxLocals ret).before args0 about1 = true := code_word (m := ⟨1, 1⟩) (meth := k1m1) (c := k1c1) (by decide +kernel) rfl rfl rfl (by decide +kernel)
set_option maxRecDepth 65536 in
theorem w_c1 : (Jvm.Cond.code ({ cls := "com/example/lean_rumor/leanrumor/trace/TimeUnit", name := "secondsUp", desc := "(J)J" } : Jvm.MethodName) prog_120_method_5_code (3 : Nat) (Option.some Jvm.ClassFile.FieldType.long)).before args0 about1 = true := code_word (m := ⟨6, 0⟩) (meth := k6m0) (c := k6c0) (by decide +kernel) rfl rfl rfl (by decide +kernel)
def codes1 : List Jvm.Cond := [Jvm.Cond.code x code maxLocals ret, Jvm.Cond.code ({ cls := "com/example/lean_rumor/leanrumor/trace/TimeUnit", name := "secondsUp", desc := "(J)J" } : Jvm.MethodName) prog_120_method_5_code (3 : Nat) (Option.some Jvm.ClassFile.FieldType.long)]
set_option maxRecDepth 65536 in
theorem codes_eq : words1.filter isCode = codes1 := rfl
theorem w_codes : ∀ c ∈ words1.filter isCode, c.before args0 about1 = true := by
  rw [codes_eq]
  intro c hc
  simp only [codes1, List.mem_cons, List.not_mem_nil, or_false] at hc
  rcases hc with rfl | rfl
  · exact w_c0
  · exact w_c1
set_option maxRecDepth 65536 in
theorem w_t1 : words1.all (fun c => isCode c || c.before args0 about1) = true := by decide +kernel
theorem w_tables : (allAtoms (Jvm.Cond.code x code maxLocals ret :: tables_1)).before args0 about1 = true := by
  rw [allAtoms_all]
  show words1.all (fun c => c.before args0 about1) = true
  refine all_split ?_ w_codes
  rw [w_t1]
set_option maxRecDepth 65536 in
theorem w_case : (Jvm.Cond.and given_1 narrow_1).before args0 about1 = true := by decide +kernel
theorem w_applies : (headSpec (Jvm.Cond.code x code maxLocals ret :: tables_1) room_1).applies x e0.platform about1 = true :=
  (Spec.applies_iff w_frames).mpr ⟨w_running, w_runnable, w_alone, w_named, w_hears, w_ripe, w_room, w_tables⟩
theorem atStart : AtStart classFile x code maxLocals ret World_1 tables_1 room_1 Calls_1 rest_1 Pre_1 launch0 p0 e0 about1 theMethod args0 below0 :=
  ⟨lists_1, trivial, launch0.admits_env _ _ _, launch0.least_env, fairChoices_fair.cas, fairChoices_fair.clock, w_frames, w_args, w_heap, w_applies, trivial, trivial, w_case⟩
end start1
theorem witness_1 : WitnessClaimed_1 := ⟨start1.p0, start1.e0, start1.about1, start1.theMethod, start1.args0, start1.below0, start1.atStart⟩
end Jvm.Pilot.@@N@@
