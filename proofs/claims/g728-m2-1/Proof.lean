import JvmDerived
import JvmDerived.Pilot.@@N@@Statement
import JvmDerived.Pilot.@@N@@Code
set_option linter.unusedVariables false
set_option linter.unusedSimpArgs false
namespace Jvm.Pilot.@@N@@
open Jvm Jvm.ClassFile Sem Op Lib Jvm.Free Jvm.Stand Jvm.LawKit Jvm.RoadKit Bundle Jvm.Pilot.@@N@@.Jvm.D
section Own
variable {p : Program} {l : Launch} {e : Env} {R : Room} {s : State} {m : MethodId} {args : Array Value} {below : List Frame} {meth : Method} {c : Code} {T : State} {locs : List Loc} {cells slots : Nat} {Z : State} {a0 : Array Value} {h h' : Heap}
/-- from A the run comes to its end, and G holds there -/
def OGo (p : Program) (e : Env) (below : List Frame) (G : State → Outcome → Prop) (A : State) : Prop := ∃ s₂ o, Steps p.tables e below A s₂ ∧ s₂.status = .running ∧ Ended s₂ below o ∧ G s₂ o
theorem OGo.st {G : State → Outcome → Prop} {A B : State} (k : ∀ t, Steps p.tables e below B t → Steps p.tables e below A t) (g : OGo p e below G B) : OGo p e below G A := by
  obtain ⟨s₂, o, q, r⟩ := g
  exact ⟨s₂, o, k _ q, r⟩
theorem OGo.join {α : Type} {G : State → Outcome → Prop} {A : State} (F : α → State) (P : α → Prop) (h1 : ∀ a, P a → OGo p e below G (F a)) (h2 : (∀ a, P a → OGo p e below G (F a)) → OGo p e below G A) : OGo p e below G A := h2 h1
/-- what a body leaves -/
def ODone (s : State) (rm : Room) (Q : Option Value → Heap → List Loc → Prop) (t : State) (o : Outcome) : Prop := ∃ v L, o = .returned v ∧ Q v t.heap L ∧ FrameEnd s o t L rm.cells rm.slots
/-- a body's contract -/
def OMet (l : Launch) (Z : State) (y : MethodName) (bytes : ByteArray) (maxL : Nat) (ret : Option FieldType) (ws : List Jvm.Cond) (rm : Room) (as' : Array Value) (h0 : Heap) (Q : Option Value → Heap → List Loc → Prop) : Prop :=
  MetFree l y (head1 (Jvm.Cond.code y bytes maxL ret :: ws) rm) (fun a U => a = as' ∧ Z.Warmed39 U.vm ∧ U.heap = h0) (fun _ _ _ _ _ => True) (fun _ U o U' => ∃ v L, o = .returned v ∧ Q v U'.heap L ∧ FrameEnd U o U' L rm.cells rm.slots)
section M
variable {y : MethodName} {bytes : ByteArray} {maxL : Nat} {ret : Option FieldType} {ws : List Jvm.Cond} {rm : Room} {as' : Array Value} {Q : Option Value → Heap → List Loc → Prop}
theorem OMet.of (hp : plainFor y = true)
    (body : ∀ (p : Program) (e : Env) (s : State) (m : MethodId) (below : List Frame) (meth : Method) (c : Code) (s₁ : State), p.tables.exec = Jvm.exec → c.code = bytes → c.maxLocals = maxL → s.methodNamed? y = some m → s.vm.findClass y.cls = some m.cls → meth.name = y.name → meth.sig.returnType = ret → meth.locks = false → Z.Warmed39 s.vm →
      Stand p l e rm s m as' below meth c s₁ [] 0 0 → s₁.heap = h → OGo p e below (ODone s rm Q) (s₁.setTop (entryFrame m as' maxL))) : OMet l Z y bytes maxL ret ws rm as' h Q := by
  refine MetFree.of_bodySF hp hisR ?_
  intro p e s m args below meth c s₁ Bd hml hP hK
  obtain ⟨hA, hZ, hh⟩ := hP
  subst hA
  exact body p e s m below meth c s₁ Bd.exec Bd.bytes hml Bd.named (findClass_of_methodNamed Bd.named) (name_of_methodNamed Bd.named Bd.method).1 Bd.returns Bd.notSynchronized hZ (Stand.of_body Bd) (by rw [← hh, Bd.state]; rfl)
theorem OMet.back {len W : Nat} (hM : OMet l Z y bytes maxL ret [] rm as' h Q) (hZ : Z.Warmed39 s.vm) (wc : (Jvm.Cond.code y bytes maxL ret).before a0 Z = true) (wz : (Jvm.Cond.initialized y.cls).before a0 Z = true) (hf : rm.frames + 1 ≤ R.frames) (hl : W + (maxL + 11) + rm.locals ≤ R.locals) :
    Back l R p e below s args y len W (fun A a => a = as' ∧ A.U.heap = h ∧ A.cells + rm.cells ≤ R.cells ∧ A.slots + rm.slots ≤ R.slots) (fun A _ v B => ∃ L, Q v B.U.heap L ∧ B.locs = A.locs ++ L ∧ B.cells = A.cells + rm.cells ∧ B.slots = A.slots + rm.slots) :=
  backOf hM hZ wc wz hf hl
/-- a static call by its contract -/
theorem OMet.static (hM : OMet l Z y bytes maxL ret [] rm as' h Q) (X : Stand p l e R s m args below meth c T locs cells slots) (hx : p.tables.exec = Jvm.exec) (hZ : Z.Warmed39 s.vm) {own : String} {index W : Nat} (hown : s.vm.findClass own = some m.cls)
    (w1 : (Jvm.Cond.methodLink own index y).before a0 Z = true) (w2 : (Jvm.Cond.static y).before a0 Z = true) (w3 : (Jvm.Cond.initialized y.cls).before a0 Z = true) (w4 : (Jvm.Cond.code y bytes maxL ret).before a0 Z = true)
    (hy : y.cls ≠ "java/lang/invoke/MethodHandle" ∧ y.cls ≠ "java/lang/invoke/VarHandle") (hf : rm.frames + 1 ≤ R.frames) (hl : W + (maxL + 11) + rm.locals ≤ R.locals) (eT : T.heap = h) (hc : cells + rm.cells ≤ R.cells) (hs : slots + rm.slots ≤ R.slots)
    {g : JFrame} (hg : g.method = m) (hsize : g.locals.size = c.maxLocals) {argsL rest : List Value} (ha : argsL.toArray = as') (hlen : ∀ sig, parseMethodDescriptor y.desc = some sig → argsL.length = sig.parameters.length) (hstack : g.stack = argsL.reverse ++ rest) (hW : 2 * g.monitorRoom + (rest.map fun v => v.category).sum ≤ W)
    (hd : decode c.code g.pc = .ok (.invokestatic index, 3)) :
    ∃ (v : Option Value) (T' : State) (L : List Loc), Stand p l e R s m args below meth c T' (locs ++ L) (cells + rm.cells) (slots + rm.slots) ∧ Q v T'.heap L ∧ ∀ target, Steps p.tables e below (T'.setTop { g with pc := g.pc + 3, stack := v.toList ++ rest }) target → Steps p.tables e below (T.setTop g) target := by
  obtain ⟨v, vm, ⟨T', L', k', n'⟩, -, X', ⟨L, hQ, e1, e2, e3⟩, st⟩ := Jvm.LawKit.callS X hx hown (mvT hZ w1) (mvT hZ w2) (mvT hZ w3) (mvT hZ w4) hy (OMet.back (W := W) hM hZ w4 w3 hf hl) (g := g) hg hsize hlen hstack hW hd (fun _ _ => ⟨ha, eT, hc, hs⟩)
  dsimp only [Pt.U, Pt.locs, Pt.cells, Pt.slots] at X' e1 e2 e3 st hQ
  subst e1 e2 e3
  exact ⟨v, T', L, X', hQ, st⟩
/-- a constructor by its contract -/
theorem OMet.init (hM : OMet l Z y bytes maxL none [] rm as' h Q) (X : Stand p l e R s m args below meth c T locs cells slots) (hx : p.tables.exec = Jvm.exec) (hZ : Z.Warmed39 s.vm) {own : String} {index W : Nat} (hy1 : y.name = "<init>") (hown : s.vm.findClass own = some m.cls)
    (w1 : (Jvm.Cond.methodLink own index y).before a0 Z = true) (w2 : (Jvm.Cond.instanceMethod y).before a0 Z = true) (w3 : (Jvm.Cond.initialized y.cls).before a0 Z = true) (w4 : (Jvm.Cond.code y bytes maxL none).before a0 Z = true)
    (hy : y.cls ≠ "java/lang/invoke/MethodHandle" ∧ y.cls ≠ "java/lang/invoke/VarHandle") (hf : rm.frames + 1 ≤ R.frames) (hl : W + (maxL + 11) + rm.locals ≤ R.locals) (eT : T.heap = h) (hc : cells + rm.cells ≤ R.cells) (hs : slots + rm.slots ≤ R.slots)
    {g : JFrame} (hg : g.method = m) (hsize : g.locals.size = c.maxLocals) {a : Addr} {argsL rest : List Value} (ha : (Value.ref a :: argsL).toArray = as') (hlen : ∀ sig, parseMethodDescriptor y.desc = some sig → argsL.length = sig.parameters.length) (hstack : g.stack = argsL.reverse ++ .ref a :: rest) (hW : 2 * g.monitorRoom + (rest.map fun v => v.category).sum ≤ W)
    (hd : decode c.code g.pc = .ok (.invokespecial index, 3)) :
    ∃ (v : Option Value) (T' : State) (L : List Loc), Stand p l e R s m args below meth c T' (locs ++ L) (cells + rm.cells) (slots + rm.slots) ∧ Q v T'.heap L ∧ ∀ target, Steps p.tables e below (T'.setTop { g with pc := g.pc + 3, stack := v.toList ++ rest }) target → Steps p.tables e below (T.setTop g) target := by
  obtain ⟨v, vm, ⟨T', L', k', n'⟩, -, X', ⟨L, hQ, e1, e2, e3⟩, st⟩ := X.specialBack hx hy1 hown (mvT hZ w1) (mvT hZ w2) (mvT hZ w4) hy (OMet.back (W := W) hM hZ w4 w3 hf hl) (g := g) hg hsize (Steps.refl _) (a := a) hlen hstack hW hd (fun _ _ => ⟨ha, eT, hc, hs⟩)
  dsimp only [Pt.U, Pt.locs, Pt.cells, Pt.slots] at X' e1 e2 e3 st hQ
  subst e1 e2 e3
  exact ⟨v, T', L, X', hQ, fun _ k => st.trans k⟩
/-- a virtual call by the contract of the body that the receiver's class selects -/
theorem OMet.virt (hM : OMet l Z y bytes maxL ret [] rm as' h Q) (X : Stand p l e R s m args below meth c T locs cells slots) (hx : p.tables.exec = Jvm.exec) (hZ : Z.Warmed39 s.vm) {own C : String} {index W : Nat} {y0 : MethodName} (hown : s.vm.findClass own = some m.cls)
    (w1 : (Jvm.Cond.methodLink own index y0).before a0 Z = true) (w2 : (Jvm.Cond.declares y0).before a0 Z = true) (nf : NotFace s y0) (w5 : (Jvm.Cond.selects C y0 y).before a0 Z = true) (w6 : (Jvm.Cond.instanceMethod y).before a0 Z = true)
    (w3 : (Jvm.Cond.initialized y.cls).before a0 Z = true) (w4 : (Jvm.Cond.code y bytes maxL ret).before a0 Z = true)
    (hy : y0.cls ≠ "java/lang/invoke/MethodHandle" ∧ y0.cls ≠ "java/lang/invoke/VarHandle") (hf : rm.frames + 1 ≤ R.frames) (hl : W + (maxL + 11) + rm.locals ≤ R.locals) (eT : T.heap = h) (hc : cells + rm.cells ≤ R.cells) (hs : slots + rm.slots ≤ R.slots)
    {g : JFrame} (hg : g.method = m) (hsize : g.locals.size = c.maxLocals) {a : Addr} (E : Exa Z h a C) {argsL rest : List Value} (ha : (Value.ref a :: argsL).toArray = as') (hlen : ∀ sig, parseMethodDescriptor y0.desc = some sig → argsL.length = sig.parameters.length) (hstack : g.stack = argsL.reverse ++ .ref a :: rest) (hW : 2 * g.monitorRoom + (rest.map fun v => v.category).sum ≤ W)
    (hd : decode c.code g.pc = .ok (.invokevirtual index, 3)) :
    ∃ (v : Option Value) (T' : State) (L : List Loc), Stand p l e R s m args below meth c T' (locs ++ L) (cells + rm.cells) (slots + rm.slots) ∧ Q v T'.heap L ∧ ∀ target, Steps p.tables e below (T'.setTop { g with pc := g.pc + 3, stack := v.toList ++ rest }) target → Steps p.tables e below (T.setTop g) target := by
  obtain ⟨cB, kB, qa, qb, qc⟩ := isOf hZ eT E
  obtain ⟨v, vm, ⟨T', L', k', n'⟩, -, X', ⟨L, hQ, e1, e2, e3⟩, st⟩ := X.virtualBack hx hown (mvT hZ w1) (mvT hZ w2) nf (mvT hZ w5) (mvT hZ w6) hy (OMet.back (W := W) hM hZ w4 w3 hf hl) qa qc (g := g) hg hsize (Steps.refl _) hlen hstack hW hd (fun _ _ => ⟨ha, eT, hc, hs⟩)
  dsimp only [Pt.U, Pt.locs, Pt.cells, Pt.slots] at X' e1 e2 e3 st hQ
  subst e1 e2 e3
  exact ⟨v, T', L, X', hQ, fun _ k => st.trans k⟩
/-- a call through an interface by the contract of the body that the receiver's class selects -/
theorem OMet.iface (hM : OMet l Z y bytes maxL ret [] rm as' h Q) (X : Stand p l e R s m args below meth c T locs cells slots) (hx : p.tables.exec = Jvm.exec) (hZ : Z.Warmed39 s.vm) {own C : String} {index count W : Nat} {y0 : MethodName} (hown : s.vm.findClass own = some m.cls)
    (w1 : (Jvm.Cond.methodLink own index y0).before a0 Z = true) (w2 : (Jvm.Cond.declares y0).before a0 Z = true) (w7 : (Jvm.Cond.interfaceMethod y0.cls y0.cls y0.name y0.desc).before a0 Z = true) (w5 : (Jvm.Cond.selects C y0 y).before a0 Z = true) (w6 : (Jvm.Cond.instanceMethod y).before a0 Z = true)
    (w8 : (Jvm.Cond.publicMethod y).before a0 Z = true) (w9 : (Jvm.Cond.unhidden C y0.name y0.desc).before a0 Z = true) (w0 : (Jvm.Cond.castable C y0.cls).before a0 Z = true) (w3 : (Jvm.Cond.initialized y.cls).before a0 Z = true) (w4 : (Jvm.Cond.code y bytes maxL ret).before a0 Z = true)
    (hy : y0.cls ≠ "java/lang/invoke/MethodHandle" ∧ y0.cls ≠ "java/lang/invoke/VarHandle") (hf : rm.frames + 1 ≤ R.frames) (hl : W + (maxL + 11) + rm.locals ≤ R.locals) (eT : T.heap = h) (hc : cells + rm.cells ≤ R.cells) (hs : slots + rm.slots ≤ R.slots)
    {g : JFrame} (hg : g.method = m) (hsize : g.locals.size = c.maxLocals) {a : Addr} (E : Exa Z h a C) {argsL rest : List Value} (ha : (Value.ref a :: argsL).toArray = as') (hlen : ∀ sig, parseMethodDescriptor y0.desc = some sig → argsL.length = sig.parameters.length) (hstack : g.stack = argsL.reverse ++ .ref a :: rest) (hW : 2 * g.monitorRoom + (rest.map fun v => v.category).sum ≤ W)
    (hd : decode c.code g.pc = .ok (.invokeinterface index count, 5)) :
    ∃ (v : Option Value) (T' : State) (L : List Loc), Stand p l e R s m args below meth c T' (locs ++ L) (cells + rm.cells) (slots + rm.slots) ∧ Q v T'.heap L ∧ ∀ target, Steps p.tables e below (T'.setTop { g with pc := g.pc + 5, stack := v.toList ++ rest }) target → Steps p.tables e below (T.setTop g) target := by
  obtain ⟨cB, kB, qa, qb, qc⟩ := isOf hZ eT E
  obtain ⟨v, vm, ⟨T', L', k', n'⟩, -, X', ⟨L, hQ, e1, e2, e3⟩, st⟩ := X.interfaceBack hx hown (mvT hZ w1) (mvT hZ w2) (mvT hZ w7 (by simp [Cond.onTables, Cond.keepsFace, Cond.keeps, Cond.steady, Cond.faceAtom, hy.1, hy.2])) (mvT hZ w5) (mvT hZ w6) (mvT hZ w8) (mvT hZ w9) (mvT hZ w0) hy (OMet.back (W := W) hM hZ w4 w3 hf hl) qa qb qc (g := g) hg hsize (Steps.refl _) hlen hstack hW hd (fun _ _ => ⟨ha, eT, hc, hs⟩)
  dsimp only [Pt.U, Pt.locs, Pt.cells, Pt.slots] at X' e1 e2 e3 st hQ
  subst e1 e2 e3
  exact ⟨v, T', L, X', hQ, fun _ k => st.trans k⟩
end M
theorem nf_sel {C : String} {y : MethodName} (hZ : Z.Warmed39 s.vm) (w : (Jvm.Cond.selects C y y).before a0 Z = true) : NotFace s y := notFace_of_selects (args := #[]) (mvT hZ w)
/-- the returns -/
theorem own_ret (X : Stand p l e R s m args below meth c T locs cells slots) {rm : Room} {Q : Option Value → Heap → List Loc → Prop} {A : State} {v : Option Value} (hv : meth.sig.returnType = none → v = none) (hlk : meth.locks = false)
    (k : ∀ fs, (∀ (f : JFrame) (acts : List Action), f.method = m → f.locked = none → f.entered = [] → (doReturn e (T.setTop f) acts v).1 = T.setFrames fs) → Steps p.tables e below A (T.setFrames fs)) (hQ : Q v T.heap locs) (hc : cells ≤ rm.cells) (hs : slots ≤ rm.slots) : OGo p e below (ODone s rm Q) A := by
  obtain ⟨fs, hr, hrun, hended, hW, hsame⟩ := X.leave (v := v) hv hlk
  exact ⟨_, _, k fs hr, hrun, hended, v, locs, rfl, hQ, ⟨_, rfl⟩, hW, hsame.mono hc hs⟩
theorem own_retZ (X : Stand p l e R s m args below meth c T locs cells slots) (hx : p.tables.exec = Jvm.exec) {rm : Room} {Q : Option Value → Heap → List Loc → Prop} {pc : Nat} {Ls : Array Slot} {z : Int32} {rest : List Value} (hret : meth.sig.returnType = some .boolean) (hlk : meth.locks = false)
    (hd : decode c.code pc = .ok (.ireturn, 1)) (hQ : Q (some (.int (nar .boolean z))) T.heap locs) (hc : cells ≤ rm.cells) (hs : slots ≤ rm.slots) : OGo p e below (ODone s rm Q) (T.setTop (mkF m pc Ls (.int z :: rest))) :=
  own_ret X (fun h => by rw [hret] at h; cases h) hlk (fun fs hr => retN X hx hret (Or.inl rfl) hd hr) hQ hc hs
theorem own_retI (X : Stand p l e R s m args below meth c T locs cells slots) (hx : p.tables.exec = Jvm.exec) {rm : Room} {Q : Option Value → Heap → List Loc → Prop} {pc : Nat} {Ls : Array Slot} {z : Int32} {rest : List Value} (hret : meth.sig.returnType = some .int) (hlk : meth.locks = false)
    (hd : decode c.code pc = .ok (.ireturn, 1)) (hQ : Q (some (.int z)) T.heap locs) (hc : cells ≤ rm.cells) (hs : slots ≤ rm.slots) : OGo p e below (ODone s rm Q) (T.setTop (mkF m pc Ls (.int z :: rest))) :=
  own_ret X (fun h => by rw [hret] at h; cases h) hlk (fun fs hr => retOut X hx hret rfl (Or.inl ⟨rfl, Or.inl rfl, z, rfl⟩) hd hr) hQ hc hs
theorem own_retJ (X : Stand p l e R s m args below meth c T locs cells slots) (hx : p.tables.exec = Jvm.exec) {rm : Room} {Q : Option Value → Heap → List Loc → Prop} {pc : Nat} {Ls : Array Slot} {z : Int64} {rest : List Value} (hret : meth.sig.returnType = some .long) (hlk : meth.locks = false)
    (hd : decode c.code pc = .ok (.lreturn, 1)) (hQ : Q (some (.long z)) T.heap locs) (hc : cells ≤ rm.cells) (hs : slots ≤ rm.slots) : OGo p e below (ODone s rm Q) (T.setTop (mkF m pc Ls (.long z :: rest))) :=
  own_ret X (fun h => by rw [hret] at h; cases h) hlk (fun fs hr => retOut X hx hret rfl (Or.inr (Or.inl ⟨rfl, rfl, z, rfl⟩)) hd hr) hQ hc hs
theorem own_retA (X : Stand p l e R s m args below meth c T locs cells slots) (hx : p.tables.exec = Jvm.exec) {rm : Room} {Q : Option Value → Heap → List Loc → Prop} {pc : Nat} {Ls : Array Slot} {w : Value} {t : FieldType} {rest : List Value} (hret : meth.sig.returnType = some t) (hlk : meth.locks = false)
    (hn : narrow t w = w) (ht : t.isReference = true) (hw : w.isRef = true) (hd : decode c.code pc = .ok (.areturn, 1)) (hQ : Q (some w) T.heap locs) (hc : cells ≤ rm.cells) (hs : slots ≤ rm.slots) : OGo p e below (ODone s rm Q) (T.setTop (mkF m pc Ls (w :: rest))) :=
  own_ret X (fun h => by rw [hret] at h; cases h) hlk (fun fs hr => retOut X hx hret hn (Or.inr (Or.inr (Or.inr (Or.inr ⟨rfl, ht, hw⟩)))) hd hr) hQ hc hs
theorem own_ret0 (X : Stand p l e R s m args below meth c T locs cells slots) (hx : p.tables.exec = Jvm.exec) {rm : Room} {Q : Option Value → Heap → List Loc → Prop} {pc : Nat} {Ls : Array Slot} (hret : meth.sig.returnType = none) (hlk : meth.locks = false)
    (hd : decode c.code pc = .ok (.return_, 1)) (hQ : Q none T.heap locs) (hc : cells ≤ rm.cells) (hs : slots ≤ rm.slots) : OGo p e below (ODone s rm Q) (T.setTop (mkF m pc Ls [])) :=
  own_ret X (fun _ => rfl) hlk (fun fs hr => X.returnOut hx hret hd hr) hQ hc hs
/-- a body that returns r and leaves the heap as it was -/
def OPure (r : Option Value) (h0 : Heap) (n0 : Nat) (v : Option Value) (h : Heap) (L : List Loc) : Prop := v = r ∧ Fr n0 L ∧ h = h0
/-- the start's words -/
theorem own_int {k : Int32} {t : Term} (hq : (Jvm.Cond.eq t (.int k)).value args s none s [] = some true) : t.eval args s none [] s = some (.int k) := by
  obtain ⟨x, y, e1, e2, k1, k2⟩ := cmp_v (Or.inl hq)
  have e3 : y = .int k := (Option.some.inj e2).symm
  subst e3
  obtain ⟨z, rfl⟩ := k2
  have q : (Jvm.Cond.eq t (.int k)).value args s none s [] = some (decide (z = k)) := by simp [Jvm.Cond.value, e1, Term.eval]
  rw [e1, gotT q hq]
theorem own_long {k : Int64} {t : Term} (hq : (Jvm.Cond.eq t (.long k)).value args s none s [] = some true) : t.eval args s none [] s = some (.long k) := by
  obtain ⟨x, y, e1, e2, k1, k2⟩ := cmp_v (Or.inl hq)
  have e3 : y = .long k := (Option.some.inj e2).symm
  subst e3
  obtain ⟨z, rfl⟩ := k2
  have q : (Jvm.Cond.eq t (.long k)).value args s none s [] = some (decide (z = k)) := eq_L e1 e2
  rw [e1, gotT q hq]
theorem own_ord {k : Int32} {t : Term} {C n d : String} {x : Addr} (ht : t.eval args s none [] s = some (.ref x)) (hq : (Jvm.Cond.eq (.field t C n d) (.int k)).value args s none s [] = some true) : Fld s s.heap x C n d (.int k) :=
  Fld.start ((fld_at ht).symm.trans (own_int hq))
theorem own_ordL {k : Int64} {t : Term} {C n d : String} {x : Addr} (ht : t.eval args s none [] s = some (.ref x)) (hq : (Jvm.Cond.eq (.field t C n d) (.long k)).value args s none s [] = some true) : Fld s s.heap x C n d (.long k) :=
  Fld.start ((fld_at ht).symm.trans (own_long hq))
theorem own_sta {t : String × String × String} {C : String} (hq : (Jvm.Cond.exactly (.static t.1 t.2.1 t.2.2) C).value args s none s [] = some true) (w1 : (Jvm.Cond.initialized t.1).before args s = true) (w2 : (Jvm.Cond.laysStatic t.1 t.2.1 t.2.2).before args s = true) :
    ∃ a, (Term.static t.1 t.2.1 t.2.2).eval args s none [] s = some (.ref a) ∧ Sta s s.heap t.1 t.2.1 t.2.2 (.ref a) ∧ Exa s s.heap a C := by
  obtain ⟨a, ea⟩ := exa_v hq
  exact ⟨a, ea, Sta.start ea (Or.inr ⟨w1, w2⟩), Exa.start ea hq⟩
theorem own_len {t : Term} {a : Addr} {c : Cell} {z : Int32} (et : t.eval args s none [] s = some (.ref a)) (ha : s.arrayAt? a = some c) (hq : (Term.length t).eval args s none [] s = some (.int z)) : c.slots.size < 2 ^ 31 ∧ c.slots.size.toInt32 = z := by
  by_cases hl : c.slots.size < 2 ^ 31
  · rw [len_f et ha hl] at hq
    exact ⟨hl, Value.int.inj (Option.some.inj hq)⟩
  · simp [Term.eval, et, ha, hl] at hq
theorem own_b01 {z : Int32} (hz : z = 0 ∨ z = 1) : narrow .boolean (.int z) = .int z ∧ fits .boolean (.int z) = true ∧ nar .boolean z = z := by
  rcases hz with rfl | rfl <;> decide
theorem own_ns_root {O K : String} {n : Nat} (w : (Jvm.Cond.noSuperclass O).before a0 Z = true) (wi : (Jvm.Cond.instantiable K n).before a0 Z = true) (hn : O ≠ K) : NS Z O K := by
  obtain ⟨c, k, h1, h2, h3, -⟩ := Cond.noSuperclass_spec w
  obtain ⟨t, kt, g1, -⟩ := Cond.instantiable_spec wi
  refine ⟨c, t, h1, g1, fun f => ?_⟩
  cases f with
  | zero => rfl
  | succ f => simp [Vm.isSubclassAux, ids_ne h1 g1 hn, h2, h3]
theorem own_ns_no {C S K : String} {n : Nat} (w : (Jvm.Cond.superclass C S).before a0 Z = true) (wi : (Jvm.Cond.instantiable K n).before a0 Z = true) (N : NS Z C K) (hn : C ≠ K) : ∃ c t, Z.vm.findClass C = some c ∧ Z.vm.findClass K = some t ∧ Z.vm.assignable c t = false := by
  obtain ⟨c, t, h0, g0, n3⟩ := N
  obtain ⟨p, k, kp, -, h2, -, -, h5, -, h7⟩ := Cond.superclass_spec h0 w
  obtain ⟨t', kt, g1, g2, g3, g4, -⟩ := Cond.instantiable_spec wi
  cases g0.symm.trans g1
  have g5 : kt.isInterface = false := (Bool.or_eq_false_iff.mp g4).1
  refine ⟨c, t, h0, g0, ?_⟩
  show Z.vm.assignableAux (255 + 1) c t = false
  simp [Vm.assignableAux, ids_ne h0 g0 hn, h2, g2, h5, g3, g5, Vm.isSubclass, n3]
end Own
theorem d2_0 : decode jdk_30_method_1_code 0 = .ok (.aload_n 0, 1) := by decide +kernel
theorem d2_1 : decode jdk_30_method_1_code 1 = .ok (.invokespecial 1, 3) := by decide +kernel
theorem d2_4 : decode jdk_30_method_1_code 4 = .ok (.return_, 1) := by decide +kernel
theorem pn_java_lang_Record : plainName "java/lang/Record" = true := by first | (simp [plainName, overriddenIn]; done) | decide +kernel
theorem ef_rm2 (m : MethodId) (x0 : Addr) : entryFrame m #[(.ref x0)] 1 = mkF m 0 #[.val (.ref x0)] [] := by first | (simp [entryFrame, mkF, argsToLocals, Value.category]; done) | rfl
set_option maxRecDepth 65536 in
set_option maxHeartbeats 40000000 in
theorem rm2 (l : Launch) (Z : State) (a0 : Array Value) (hw : ∀ d ∈ tables_1, d.before a0 Z = true) (a : Addr) (h0 : Heap) (n0 : Nat) :
    OMet l Z (⟨"java/lang/Record", "<init>", "()V"⟩ : MethodName) jdk_30_method_1_code 1 none [] ({ frames := 1, cells := 0, slots := 0, locals := 12 } : Room) #[(.ref a)] h0 (OPure none h0 n0) := by
  refine OMet.of (plainFor_of_name pn_java_lang_Record) ?_
  intro p e s m below meth c s₁ hx hby hml hnd hown hnm hret hlk hZ X0 e0
  replace hown : s.vm.findClass "java/lang/Record" = some m.cls := hown
  replace hml : c.maxLocals = 1 := hml
  have N0 := Fr.nil n0
  rw [ef_rm2 m a]
  refine OGo.st (B := s₁.setTop (mkF m 1 #[.val (.ref a)] [(.ref a)])) (fun _ kz => XS.aloadN X0.here hx rfl (hb hby d2_0) rfl rfl kz) ?_
  obtain ⟨T1, X1, e1, st1⟩ := initO X0 hx hZ hown (hw _ (List.mem_of_getElem? (i := 11) rfl)) (hw _ (List.mem_of_getElem? (i := 12) rfl)) (hw _ (List.mem_of_getElem? (i := 13) rfl)) e0 (g := (mkF m 1 #[.val (.ref a)] [(.ref a)])) rfl (by rw [hml]; rfl) rfl (hb hby d2_1) (by decide) (W := 0) (by show 2 * 0 + _ ≤ _; exact Nat.le_of_eq rfl) (by decide)
  refine OGo.st (B := T1.setTop (mkF m 4 #[.val (.ref a)] [])) st1 ?_
  exact own_ret0 X1 hx hret hlk (hb hby d2_4) ⟨rfl, N0, e1⟩ (by decide) (by decide)
theorem own_cmp (a b : Int32) : cmpValue (FP.dcmp (FP.i2d a) (FP.i2d b)) .l = lcmpW a.toInt64 b.toInt64 := by
  rw [i2d_w, i2d_w]
  have h1 : B53 a.toInt64 := by have := rng32 a; have := c_i2l a; unfold B53; omega
  have h2 : B53 b.toInt64 := by have := rng32 b; have := c_i2l b; unfold B53; omega
  exact dcmpV_w h1 h2 .l
theorem own_gt (a b : Int32) : (b.toInt64 < a.toInt64) ↔ b < a := by
  rw [Int64.lt_iff_toInt_lt, Int32.lt_iff_toInt_lt, c_i2l, c_i2l]
theorem pd_1 : parseMethodDescriptor "()V" = some ⟨[], none⟩ := by decide +kernel
theorem d1_0 : decode prog_64_method_1_code 0 = .ok (.aload_n 0, 1) := by decide +kernel
theorem d1_1 : decode prog_64_method_1_code 1 = .ok (.invokespecial 1, 3) := by decide +kernel
theorem d1_4 : decode prog_64_method_1_code 4 = .ok (.aload_n 0, 1) := by decide +kernel
theorem d1_5 : decode prog_64_method_1_code 5 = .ok (.iload_n 1, 1) := by decide +kernel
theorem d1_6 : decode prog_64_method_1_code 6 = .ok (.putfield 7, 3) := by decide +kernel
theorem d1_9 : decode prog_64_method_1_code 9 = .ok (.aload_n 0, 1) := by decide +kernel
theorem d1_10 : decode prog_64_method_1_code 10 = .ok (.dload_n 2, 1) := by decide +kernel
theorem d1_11 : decode prog_64_method_1_code 11 = .ok (.putfield 13, 3) := by decide +kernel
theorem d1_14 : decode prog_64_method_1_code 14 = .ok (.return_, 1) := by decide +kernel
theorem pn_com_example_lean_rumor_leanrumor_node_Verdict : plainName "com/example/lean_rumor/leanrumor/node/Verdict" = true := by first | (simp [plainName, overriddenIn]; done) | decide +kernel
theorem ef_rm1 (m : MethodId) (x0 : Addr) (x1 : Int32) (x2 : UInt64) : entryFrame m #[(.ref x0), (.int x1), (.double x2)] 4 = mkF m 0 #[.val (.ref x0), .val (.int x1), .val (.double x2), .second] [] := by first | (simp [entryFrame, mkF, argsToLocals, Value.category]; done) | rfl
set_option maxRecDepth 65536 in
set_option maxHeartbeats 40000000 in
theorem rm1 (l : Launch) (Z : State) (a0 : Array Value) (hw : ∀ d ∈ tables_1, d.before a0 Z = true) (a : Addr) (u : Int32) (d : UInt64) (h0 : Heap) (n0 : Nat) (Z0 : n0 ≤ h0.size) (hu : u = 0 ∨ u = 1) (E_a : Exa Z h0 a "com/example/lean_rumor/leanrumor/node/Verdict") (g_a : n0 ≤ a) (G_wanted : Fld Z h0 a "com/example/lean_rumor/leanrumor/node/Verdict" "wanted" "Z" (.int (0 : Int32))) (G_preference : Fld Z h0 a "com/example/lean_rumor/leanrumor/node/Verdict" "preference" "D" (.double 0)) :
    OMet l Z (⟨"com/example/lean_rumor/leanrumor/node/Verdict", "<init>", "(ZD)V"⟩ : MethodName) prog_64_method_1_code 4 none [] ({ frames := 2, cells := 0, slots := 0, locals := 24 } : Room) #[(.ref a), (.int u), (.double d)] h0 (fun v h L => v = none ∧ Fr n0 L ∧ Keep h0 h [a] ∧ Exa Z h a "com/example/lean_rumor/leanrumor/node/Verdict" ∧ Fld Z h a "com/example/lean_rumor/leanrumor/node/Verdict" "wanted" "Z" (.int u) ∧ Fld Z h a "com/example/lean_rumor/leanrumor/node/Verdict" "preference" "D" (.double d)) := by
  refine OMet.of (plainFor_of_name pn_com_example_lean_rumor_leanrumor_node_Verdict) ?_
  intro p e s m below meth c s₁ hx hby hml hnd hown hnm hret hlk hZ X0 e0
  replace hown : s.vm.findClass "com/example/lean_rumor/leanrumor/node/Verdict" = some m.cls := hown
  replace hml : c.maxLocals = 4 := hml
  have N0 := Fr.nil n0
  rw [ef_rm1 m a u d]
  refine OGo.st (B := s₁.setTop (mkF m 1 #[.val (.ref a), .val (.int u), .val (.double d), .second] [(.ref a)])) (fun _ kz => XS.aloadN X0.here hx rfl (hb hby d1_0) rfl rfl kz) ?_
  obtain ⟨v1, T1, L1, X1, hQ1, st1⟩ := (rm2 l Z a0 hw a h0 n0).init (W := 0) X0 hx hZ rfl hown (hw _ (List.mem_of_getElem? (i := 6) rfl)) (hw _ (List.mem_of_getElem? (i := 7) rfl)) (hw _ (List.mem_of_getElem? (i := 9) rfl)) (hw _ (List.mem_of_getElem? (i := 10) rfl)) (by decide) (by decide) (by decide) e0 (by decide) (by decide) (g := (mkF m 1 #[.val (.ref a), .val (.int u), .val (.double d), .second] [(.ref a)])) rfl (by rw [hml]; rfl) (argsL := []) (rest := []) rfl (lenOf pd_1 rfl) rfl (by show 2 * 0 + _ ≤ _; exact Nat.le_of_eq rfl) (hb hby d1_1)
  obtain ⟨rfl, N1q, e1⟩ := hQ1
  have N1 := Fr.app N0 N1q
  refine OGo.st (B := T1.setTop (mkF m 4 #[.val (.ref a), .val (.int u), .val (.double d), .second] [])) st1 ?_
  refine OGo.st (B := T1.setTop (mkF m 5 #[.val (.ref a), .val (.int u), .val (.double d), .second] [(.ref a)])) (fun _ kz => XS.aloadN X1.here hx rfl (hb hby d1_4) rfl rfl kz) ?_
  refine OGo.st (B := T1.setTop (mkF m 6 #[.val (.ref a), .val (.int u), .val (.double d), .second] [(.int u), (.ref a)])) (fun _ kz => XS.iloadN X1.here hx rfl (hb hby d1_5) rfl kz) ?_
  obtain ⟨T2, h2, X2, e2, W2, st2⟩ := putF X1 hx hZ hown (host := "") (Or.inl (hw _ (List.mem_of_getElem? (i := 14) rfl))) Via.refl e1 G_wanted E_a (Or.inr ⟨(hw _ (List.mem_of_getElem? (i := 15) rfl)), rfl, hnm⟩) (hw _ (List.mem_of_getElem? (i := 1) rfl)) (ty := .boolean) (by decide) (own_b01 hu).1 (own_b01 hu).2.1 (g := (mkF m 6 #[.val (.ref a), .val (.int u), .val (.double d), .second] [(.int u), (.ref a)])) rfl rfl (hb hby d1_6)
  have F2_wanted := G_wanted.same W2
  have N2 := Fr.snoc X2 N1 g_a
  have K2 : Keep h0 h2 [a] := (Keep.refl h0 [a]).wr W2 (Or.inl (List.mem_of_getElem? (i := 0) rfl))
  refine OGo.st (B := T2.setTop (mkF m 9 #[.val (.ref a), .val (.int u), .val (.double d), .second] [])) st2 ?_
  refine OGo.st (B := T2.setTop (mkF m 10 #[.val (.ref a), .val (.int u), .val (.double d), .second] [(.ref a)])) (fun _ kz => XS.aloadN X2.here hx rfl (hb hby d1_9) rfl rfl kz) ?_
  refine OGo.st (B := T2.setTop (mkF m 11 #[.val (.ref a), .val (.int u), .val (.double d), .second] [(.double d), (.ref a)])) (fun _ kz => XS.dloadN X2.here hx rfl (hb hby d1_10) rfl kz) ?_
  obtain ⟨T3, h3, X3, e3, W3, st3⟩ := putF X2 hx hZ hown (host := "") (Or.inl (hw _ (List.mem_of_getElem? (i := 16) rfl))) Via.refl e2 (G_preference.other W2 (Or.inr (slot_ne (Or.inr (hw _ (List.mem_of_getElem? (i := 17) rfl))) (Or.inr (hw _ (List.mem_of_getElem? (i := 15) rfl))) (by decide) (t := .double) (t' := .boolean) (by decide) (by decide)))) (E_a.wr W2) (Or.inr ⟨(hw _ (List.mem_of_getElem? (i := 17) rfl)), rfl, hnm⟩) (hw _ (List.mem_of_getElem? (i := 1) rfl)) (ty := .double) (by decide) rfl rfl (g := (mkF m 11 #[.val (.ref a), .val (.int u), .val (.double d), .second] [(.double d), (.ref a)])) rfl rfl (hb hby d1_11)
  have F3_preference := (G_preference.other W2 (Or.inr (slot_ne (Or.inr (hw _ (List.mem_of_getElem? (i := 17) rfl))) (Or.inr (hw _ (List.mem_of_getElem? (i := 15) rfl))) (by decide) (t := .double) (t' := .boolean) (by decide) (by decide)))).same W3
  have N3 := Fr.snoc X3 N2 g_a
  have K3 : Keep h0 h3 [a] := K2.wr W3 (Or.inl (List.mem_of_getElem? (i := 0) rfl))
  refine OGo.st (B := T3.setTop (mkF m 14 #[.val (.ref a), .val (.int u), .val (.double d), .second] [])) st3 ?_
  exact own_ret0 X3 hx hret hlk (hb hby d1_14) (by rw [e3]; exact ⟨rfl, N3, K3, ((E_a.wr W2).wr W3), (F2_wanted.other W3 (Or.inr (slot_ne (Or.inr (hw _ (List.mem_of_getElem? (i := 15) rfl))) (Or.inr (hw _ (List.mem_of_getElem? (i := 17) rfl))) (by decide) (t := .boolean) (t' := .double) (by decide) (by decide)))), F3_preference⟩) (by decide) (by decide)
theorem d4_0 : decode prog_64_method_3_code 0 = .ok (.aload_n 0, 1) := by decide +kernel
theorem d4_1 : decode prog_64_method_3_code 1 = .ok (.getfield 7, 3) := by decide +kernel
theorem d4_4 : decode prog_64_method_3_code 4 = .ok (.ifCond .ne 12, 3) := by decide +kernel
theorem d4_7 : decode prog_64_method_3_code 7 = .ok (.aload_n 0, 1) := by decide +kernel
theorem d4_8 : decode prog_64_method_3_code 8 = .ok (.getfield 13, 3) := by decide +kernel
theorem d4_11 : decode prog_64_method_3_code 11 = .ok (.dload_n 1, 1) := by decide +kernel
theorem d4_12 : decode prog_64_method_3_code 12 = .ok (.dcmp .l, 1) := by decide +kernel
theorem d4_13 : decode prog_64_method_3_code 13 = .ok (.ifCond .le 7, 3) := by decide +kernel
theorem d4_16 : decode prog_64_method_3_code 16 = .ok (.iconst 1, 1) := by decide +kernel
theorem d4_17 : decode prog_64_method_3_code 17 = .ok (.goto 4, 3) := by decide +kernel
theorem d4_20 : decode prog_64_method_3_code 20 = .ok (.iconst 0, 1) := by decide +kernel
theorem d4_21 : decode prog_64_method_3_code 21 = .ok (.ireturn, 1) := by decide +kernel
theorem ef_rm4 (m : MethodId) (x0 : Addr) (x1 : UInt64) : entryFrame m #[(.ref x0), (.double x1)] 3 = mkF m 0 #[.val (.ref x0), .val (.double x1), .second] [] := by first | (simp [entryFrame, mkF, argsToLocals, Value.category]; done) | rfl
set_option maxRecDepth 65536 in
set_option maxHeartbeats 40000000 in
theorem rm4 (l : Launch) (Z : State) (a0 : Array Value) (hw : ∀ d ∈ tables_1, d.before a0 Z = true) (a : Addr) (u x y r : Int32) (h0 : Heap) (n0 : Nat) (F1 : Fld Z h0 a "com/example/lean_rumor/leanrumor/node/Verdict" "wanted" "Z" (.int u)) (F2 : Fld Z h0 a "com/example/lean_rumor/leanrumor/node/Verdict" "preference" "D" (.double (FP.i2d x))) (hr : (if ¬ u = 0 ∨ y < x then (1 : Int32) else 0) = r) :
    OMet l Z (⟨"com/example/lean_rumor/leanrumor/node/Verdict", "passes", "(D)Z"⟩ : MethodName) prog_64_method_3_code 3 (some .boolean) [] ({ frames := 0, cells := 0, slots := 0, locals := 0 } : Room) #[(.ref a), (.double (FP.i2d y))] h0 (OPure (some (.int r)) h0 n0) := by
  refine OMet.of (plainFor_of_name pn_com_example_lean_rumor_leanrumor_node_Verdict) ?_
  intro p e s m below meth c s₁ hx hby hml hnd hown hnm hret hlk hZ X0 e0
  replace hown : s.vm.findClass "com/example/lean_rumor/leanrumor/node/Verdict" = some m.cls := hown
  replace hml : c.maxLocals = 3 := hml
  have N0 := Fr.nil n0
  rw [ef_rm4 m a (FP.i2d y)]
  refine OGo.st (B := s₁.setTop (mkF m 1 #[.val (.ref a), .val (.double (FP.i2d y)), .second] [(.ref a)])) (fun _ kz => XS.aloadN X0.here hx rfl (hb hby d4_0) rfl rfl kz) ?_
  obtain ⟨T1, X1, e1, st1⟩ := getF X0 hx hZ hown (host := "") (Or.inl (hw _ (List.mem_of_getElem? (i := 14) rfl))) Via.refl e0 F1 (g := (mkF m 1 #[.val (.ref a), .val (.double (FP.i2d y)), .second] [(.ref a)])) rfl rfl (hb hby d4_1)
  refine OGo.st (B := T1.setTop (mkF m 4 #[.val (.ref a), .val (.double (FP.i2d y)), .second] [(.int u)])) st1 ?_
  by_cases h1 : u = (0 : Int32)
  · skip
    refine OGo.st (B := T1.setTop (mkF m 7 #[.val (.ref a), .val (.double (FP.i2d y)), .second] [])) (fun _ kz => XS.ifNo X1.here hx rfl (hb hby d4_4) rfl ((if0 _ _).trans (teq h1).2) kz) ?_
    refine OGo.st (B := T1.setTop (mkF m 8 #[.val (.ref a), .val (.double (FP.i2d y)), .second] [(.ref a)])) (fun _ kz => XS.aloadN X1.here hx rfl (hb hby d4_7) rfl rfl kz) ?_
    obtain ⟨T2, X2, e2, st2⟩ := getF X1 hx hZ hown (host := "") (Or.inl (hw _ (List.mem_of_getElem? (i := 16) rfl))) Via.refl e1 F2 (g := (mkF m 8 #[.val (.ref a), .val (.double (FP.i2d y)), .second] [(.ref a)])) rfl rfl (hb hby d4_8)
    refine OGo.st (B := T2.setTop (mkF m 11 #[.val (.ref a), .val (.double (FP.i2d y)), .second] [(.double (FP.i2d x))])) st2 ?_
    refine OGo.st (B := T2.setTop (mkF m 12 #[.val (.ref a), .val (.double (FP.i2d y)), .second] [(.double (FP.i2d y)), (.double (FP.i2d x))])) (fun _ kz => XS.dloadN X2.here hx rfl (hb hby d4_11) rfl kz) ?_
    refine OGo.st (B := T2.setTop (mkF m 13 #[.val (.ref a), .val (.double (FP.i2d y)), .second] [(.int (lcmpW x.toInt64 y.toInt64))])) (fun _ kz => XS.dcmpS X2.here hx rfl (hb hby d4_12) rfl (own_cmp x y) kz) ?_
    by_cases h2 : y.toInt64 < x.toInt64
    · skip
      refine OGo.st (B := T2.setTop (mkF m 16 #[.val (.ref a), .val (.double (FP.i2d y)), .second] [])) (fun _ kz => XS.ifNo X2.here hx rfl (hb hby d4_13) rfl ((if0 _ _).trans (tlt ((lw_gt _ _).mpr h2)).2.2.2) kz) ?_
      refine OGo.st (B := T2.setTop (mkF m 17 #[.val (.ref a), .val (.double (FP.i2d y)), .second] [(.int (1 : Int32))])) (fun _ kz => XS.iconst X2.here hx rfl (hb hby d4_16) kz) ?_
      refine OGo.st (B := T2.setTop (mkF m 21 #[.val (.ref a), .val (.double (FP.i2d y)), .second] [(.int (1 : Int32))])) (fun _ kz => XS.goto X2.here hx rfl (pc0 := 17) (pc' := 21) rfl (hb hby d4_17) (by decide) (by decide) kz) ?_
      exact own_retZ X2 hx hret hlk (hb hby d4_21) ⟨by rw [← hr]; simp [h1, (own_gt x y).mp h2, nar], N0, e2⟩ (by decide) (by decide)
    · skip
      refine OGo.st (B := T2.setTop (mkF m 20 #[.val (.ref a), .val (.double (FP.i2d y)), .second] [])) (fun _ kz => XS.ifYes X2.here hx rfl (pc0 := 13) (pc' := 20) rfl (hb hby d4_13) rfl ((if0 _ _).trans (flt (mt (lw_gt _ _).mp h2)).2.2.2) (by decide) (by decide) kz) ?_
      refine OGo.st (B := T2.setTop (mkF m 21 #[.val (.ref a), .val (.double (FP.i2d y)), .second] [(.int (0 : Int32))])) (fun _ kz => XS.iconst X2.here hx rfl (hb hby d4_20) kz) ?_
      exact own_retZ X2 hx hret hlk (hb hby d4_21) ⟨by rw [← hr]; simp [h1, mt (own_gt x y).mpr h2, nar], N0, e2⟩ (by decide) (by decide)
  · skip
    refine OGo.st (B := T1.setTop (mkF m 16 #[.val (.ref a), .val (.double (FP.i2d y)), .second] [])) (fun _ kz => XS.ifYes X1.here hx rfl (pc0 := 4) (pc' := 16) rfl (hb hby d4_4) rfl ((if0 _ _).trans (feq h1).2) (by decide) (by decide) kz) ?_
    refine OGo.st (B := T1.setTop (mkF m 17 #[.val (.ref a), .val (.double (FP.i2d y)), .second] [(.int (1 : Int32))])) (fun _ kz => XS.iconst X1.here hx rfl (hb hby d4_16) kz) ?_
    refine OGo.st (B := T1.setTop (mkF m 21 #[.val (.ref a), .val (.double (FP.i2d y)), .second] [(.int (1 : Int32))])) (fun _ kz => XS.goto X1.here hx rfl (pc0 := 17) (pc' := 21) rfl (hb hby d4_17) (by decide) (by decide) kz) ?_
    exact own_retZ X1 hx hret hlk (hb hby d4_21) ⟨by rw [← hr]; simp [h1, nar], N0, e1⟩ (by decide) (by decide)
theorem pd_0 : parseMethodDescriptor "(ZD)V" = some ⟨[.boolean, .double], none⟩ := by decide +kernel
theorem pd_2 : parseMethodDescriptor "(D)Z" = some ⟨[.double], some .boolean⟩ := by decide +kernel
theorem pn_com_example_lean_rumor_leanrumor_node_VerdictPassesPinLaw : plainName "com/example/lean_rumor/leanrumor/node/VerdictPassesPinLaw" = true := by first | (simp [plainName, overriddenIn]; done) | decide +kernel
theorem ef_rm0 (m : MethodId) (x0 : Int32) (x1 : Int32) (x2 : Int32) : entryFrame m #[(.int x0), (.int x1), (.int x2)] maxLocals = mkF m 0 #[.val (.int x0), .val (.int x1), .val (.int x2), .unset, .unset, .unset, .unset] [] := by first | (simp [entryFrame, mkF, argsToLocals, Value.category, maxLocals]; done) | rfl
set_option maxRecDepth 65536 in
set_option maxHeartbeats 40000000 in
theorem rm0 (l : Launch) (Z : State) (a0 : Array Value) (hw : ∀ d ∈ tables_1, d.before a0 Z = true) (fl xa ya : Int32) (h0 : Heap) (n0 : Nat) (Z0 : n0 ≤ h0.size) :
    OMet l Z x code maxLocals ret tables_1 room_1 #[(.int fl), (.int xa), (.int ya)] h0 (fun v _ L => v = some (.int (1 : Int32)) ∧ Fr n0 L) := by
  refine OMet.of (plainFor_of_name pn_com_example_lean_rumor_leanrumor_node_VerdictPassesPinLaw) ?_
  intro p e s m below meth c s₁ hx hby hml hnd hown hnm hret hlk hZ X0 e0
  replace hown : s.vm.findClass "com/example/lean_rumor/leanrumor/node/VerdictPassesPinLaw" = some m.cls := hown
  replace hml : c.maxLocals = 7 := hml
  have N0 := Fr.nil n0
  replace hret : meth.sig.returnType = some .boolean := hret
  rw [ef_rm0 m fl xa ya]
  refine OGo.st (B := s₁.setTop (mkF m 1 #[.val (.int fl), .val (.int xa), .val (.int ya), .unset, .unset, .unset, .unset] [(.int fl)])) (fun _ kz => XS.iloadN X0.here hx rfl (hb hby at_0) rfl kz) ?_
  refine OGo.st (B := s₁.setTop (mkF m 2 #[.val (.int fl), .val (.int xa), .val (.int ya), .unset, .unset, .unset, .unset] [(.int (1 : Int32)), (.int fl)])) (fun _ kz => XS.iconst X0.here hx rfl (hb hby at_1) kz) ?_
  refine OGo.st (B := s₁.setTop (mkF m 3 #[.val (.int fl), .val (.int xa), .val (.int ya), .unset, .unset, .unset, .unset] [(.int (fl &&& (1 : Int32)))])) (fun _ kz => XS.iand X0.here hx rfl (hb hby at_2) rfl kz) ?_
  refine OGo.join (fun (u : Int32) => s₁.setTop (mkF m 11 #[.val (.int fl), .val (.int xa), .val (.int ya), .unset, .unset, .unset, .unset] [(.int u)])) (fun u => u = 0 ∨ u = 1) ?_ ?_
  · skip
    intro u h_u
    show OGo p e below _ (s₁.setTop (mkF m 11 #[.val (.int fl), .val (.int xa), .val (.int ya), .unset, .unset, .unset, .unset] [(.int u)]))
    refine OGo.st (B := s₁.setTop (mkF m 12 #[.val (.int fl), .val (.int xa), .val (.int ya), .val (.int u), .unset, .unset, .unset] [])) (fun _ kz => XS.istoreN X0.here hx rfl (hb hby at_11) rfl (l' := #[.val (.int fl), .val (.int xa), .val (.int ya), .val (.int u), .unset, .unset, .unset]) rfl kz) ?_
    obtain ⟨T2, h2, X2, e2, E2, A2, D2, U2, st2⟩ := newO X0 hx hZ hown (hw _ (List.mem_of_getElem? (i := 0) rfl)) (hw _ (List.mem_of_getElem? (i := 1) rfl)) (hw _ (List.mem_of_getElem? (i := 2) rfl)) e0 (g := (mkF m 12 #[.val (.int fl), .val (.int xa), .val (.int ya), .val (.int u), .unset, .unset, .unset] [])) rfl (hb hby at_12) (by decide) (by decide)
    obtain ⟨ob, g2⟩ : ∃ z, z = h0.size := ⟨_, rfl⟩
    rw [← g2] at A2 D2 st2
    have g_ob : n0 ≤ ob := Nat.le_trans Z0 (Nat.le_trans (Keep.refl h0 []).1 (Nat.le_of_eq g2.symm))
    have sz_ob : h0.size ≤ ob := Nat.le_trans (Keep.refl h0 []).1 (Nat.le_of_eq g2.symm)
    have K2 : Keep h0 h2 [] := (Keep.refl h0 []).ext E2
    have F2_wanted : Fld Z h2 ob "com/example/lean_rumor/leanrumor/node/Verdict" "wanted" "Z" (.int (0 : Int32)) := D2 (Or.inr (hw _ (List.mem_of_getElem? (i := 15) rfl))) (ty := .boolean) (by decide)
    have F2_preference : Fld Z h2 ob "com/example/lean_rumor/leanrumor/node/Verdict" "preference" "D" (.double 0) := D2 (Or.inr (hw _ (List.mem_of_getElem? (i := 17) rfl))) (ty := .double) (by decide)
    refine OGo.st (B := T2.setTop (mkF m 15 #[.val (.int fl), .val (.int xa), .val (.int ya), .val (.int u), .unset, .unset, .unset] [(.ref ob)])) st2 ?_
    refine OGo.st (B := T2.setTop (mkF m 16 #[.val (.int fl), .val (.int xa), .val (.int ya), .val (.int u), .unset, .unset, .unset] [(.ref ob), (.ref ob)])) (fun _ kz => XS.dup X2.here hx rfl (hb hby at_15) rfl rfl kz) ?_
    refine OGo.st (B := T2.setTop (mkF m 17 #[.val (.int fl), .val (.int xa), .val (.int ya), .val (.int u), .unset, .unset, .unset] [(.int u), (.ref ob), (.ref ob)])) (fun _ kz => XS.iloadN X2.here hx rfl (hb hby at_16) rfl kz) ?_
    refine OGo.st (B := T2.setTop (mkF m 18 #[.val (.int fl), .val (.int xa), .val (.int ya), .val (.int u), .unset, .unset, .unset] [(.int xa), (.int u), (.ref ob), (.ref ob)])) (fun _ kz => XS.iloadN X2.here hx rfl (hb hby at_17) rfl kz) ?_
    refine OGo.st (B := T2.setTop (mkF m 19 #[.val (.int fl), .val (.int xa), .val (.int ya), .val (.int u), .unset, .unset, .unset] [(.double (FP.i2d xa)), (.int u), (.ref ob), (.ref ob)])) (fun _ kz => XS.i2dS X2.here hx rfl (hb hby at_18) rfl rfl kz) ?_
    obtain ⟨v3, T3, L3, X3, hQ3, st3⟩ := (rm1 l Z a0 hw ob u (FP.i2d xa) h2 n0 (Nat.le_trans Z0 K2.1) h_u A2 g_ob F2_wanted F2_preference).init (W := 1) X2 hx hZ rfl hown (hw _ (List.mem_of_getElem? (i := 3) rfl)) (hw _ (List.mem_of_getElem? (i := 4) rfl)) (hw _ (List.mem_of_getElem? (i := 2) rfl)) (hw _ (List.mem_of_getElem? (i := 5) rfl)) (by decide) (by decide) (by decide) e2 (by decide) (by decide) (g := (mkF m 19 #[.val (.int fl), .val (.int xa), .val (.int ya), .val (.int u), .unset, .unset, .unset] [(.double (FP.i2d xa)), (.int u), (.ref ob), (.ref ob)])) rfl (by rw [hml]; rfl) (argsL := [(.int u), (.double (FP.i2d xa))]) (rest := [(.ref ob)]) rfl (lenOf pd_0 rfl) rfl (by show 2 * 0 + _ ≤ _; exact Nat.le_of_eq rfl) (hb hby at_19)
    obtain ⟨rfl, N3q, J3, Y3_0, Y3_1, Y3_2⟩ := hQ3
    have N3 := Fr.app N0 N3q
    have K3 : Keep h0 T3.heap [] := K2.trans J3 (allS (Or.inr sz_ob) all0)
    refine OGo.st (B := T3.setTop (mkF m 22 #[.val (.int fl), .val (.int xa), .val (.int ya), .val (.int u), .unset, .unset, .unset] [(.ref ob)])) st3 ?_
    refine OGo.st (B := T3.setTop (mkF m 24 #[.val (.int fl), .val (.int xa), .val (.int ya), .val (.int u), .val (.ref ob), .unset, .unset] [])) (fun _ kz => XS.astore X3.here hx rfl (hb hby at_22) rfl rfl (l' := #[.val (.int fl), .val (.int xa), .val (.int ya), .val (.int u), .val (.ref ob), .unset, .unset]) rfl kz) ?_
    refine OGo.st (B := T3.setTop (mkF m 26 #[.val (.int fl), .val (.int xa), .val (.int ya), .val (.int u), .val (.ref ob), .unset, .unset] [(.ref ob)])) (fun _ kz => XS.aload X3.here hx rfl (hb hby at_24) rfl rfl kz) ?_
    refine OGo.st (B := T3.setTop (mkF m 27 #[.val (.int fl), .val (.int xa), .val (.int ya), .val (.int u), .val (.ref ob), .unset, .unset] [(.int ya), (.ref ob)])) (fun _ kz => XS.iloadN X3.here hx rfl (hb hby at_26) rfl kz) ?_
    refine OGo.st (B := T3.setTop (mkF m 28 #[.val (.int fl), .val (.int xa), .val (.int ya), .val (.int u), .val (.ref ob), .unset, .unset] [(.double (FP.i2d ya)), (.ref ob)])) (fun _ kz => XS.i2dS X3.here hx rfl (hb hby at_27) rfl rfl kz) ?_
    obtain ⟨r, hr⟩ : ∃ r, (if ¬ u = 0 ∨ ya < xa then (1 : Int32) else 0) = r := ⟨_, rfl⟩
    obtain ⟨v4, T4, L4, X4, hQ4, st4⟩ := (rm4 l Z a0 hw ob u xa ya r T3.heap n0 Y3_1 Y3_2 hr).virt (W := 0) X3 hx hZ hown (hw _ (List.mem_of_getElem? (i := 18) rfl)) (hw _ (List.mem_of_getElem? (i := 19) rfl)) (nf_sel hZ (hw _ (List.mem_of_getElem? (i := 21) rfl))) (hw _ (List.mem_of_getElem? (i := 21) rfl)) (hw _ (List.mem_of_getElem? (i := 20) rfl)) (hw _ (List.mem_of_getElem? (i := 2) rfl)) (hw _ (List.mem_of_getElem? (i := 22) rfl)) (by decide) (by decide) (by decide) rfl (by decide) (by decide) (g := (mkF m 28 #[.val (.int fl), .val (.int xa), .val (.int ya), .val (.int u), .val (.ref ob), .unset, .unset] [(.double (FP.i2d ya)), (.ref ob)])) rfl (by rw [hml]; rfl) Y3_0 (argsL := [(.double (FP.i2d ya))]) (rest := []) rfl (lenOf pd_2 rfl) rfl (by show 2 * 0 + _ ≤ _; exact Nat.le_of_eq rfl) (hb hby at_28)
    obtain ⟨rfl, N4q, e4⟩ := hQ4
    have N4 := Fr.app N3 N4q
    refine OGo.st (B := T4.setTop (mkF m 31 #[.val (.int fl), .val (.int xa), .val (.int ya), .val (.int u), .val (.ref ob), .unset, .unset] [(.int r)])) st4 ?_
    refine OGo.st (B := T4.setTop (mkF m 33 #[.val (.int fl), .val (.int xa), .val (.int ya), .val (.int u), .val (.ref ob), .val (.int r), .unset] [])) (fun _ kz => XS.istore X4.here hx rfl (hb hby at_31) rfl (l' := #[.val (.int fl), .val (.int xa), .val (.int ya), .val (.int u), .val (.ref ob), .val (.int r), .unset]) rfl kz) ?_
    refine OGo.st (B := T4.setTop (mkF m 34 #[.val (.int fl), .val (.int xa), .val (.int ya), .val (.int u), .val (.ref ob), .val (.int r), .unset] [(.int u)])) (fun _ kz => XS.iloadN X4.here hx rfl (hb hby at_33) rfl kz) ?_
    by_cases h1 : u = (0 : Int32)
    · skip
      refine OGo.st (B := T4.setTop (mkF m 43 #[.val (.int fl), .val (.int xa), .val (.int ya), .val (.int u), .val (.ref ob), .val (.int r), .unset] [])) (fun _ kz => XS.ifYes X4.here hx rfl (pc0 := 34) (pc' := 43) rfl (hb hby at_34) rfl ((if0 _ _).trans (teq h1).1) (by decide) (by decide) kz) ?_
      refine OGo.st (B := T4.setTop (mkF m 44 #[.val (.int fl), .val (.int xa), .val (.int ya), .val (.int u), .val (.ref ob), .val (.int r), .unset] [(.int xa)])) (fun _ kz => XS.iloadN X4.here hx rfl (hb hby at_43) rfl kz) ?_
      refine OGo.st (B := T4.setTop (mkF m 45 #[.val (.int fl), .val (.int xa), .val (.int ya), .val (.int u), .val (.ref ob), .val (.int r), .unset] [(.int ya), (.int xa)])) (fun _ kz => XS.iloadN X4.here hx rfl (hb hby at_44) rfl kz) ?_
      by_cases h2 : ya < xa
      · skip
        refine OGo.st (B := T4.setTop (mkF m 48 #[.val (.int fl), .val (.int xa), .val (.int ya), .val (.int u), .val (.ref ob), .val (.int r), .unset] [])) (fun _ kz => XS.icmpNo X4.here hx rfl (hb hby at_45) rfl (tlt h2).2.2.2 kz) ?_
        refine OGo.st (B := T4.setTop (mkF m 49 #[.val (.int fl), .val (.int xa), .val (.int ya), .val (.int u), .val (.ref ob), .val (.int r), .unset] [(.int (1 : Int32))])) (fun _ kz => XS.iconst X4.here hx rfl (hb hby at_48) kz) ?_
        refine OGo.st (B := T4.setTop (mkF m 53 #[.val (.int fl), .val (.int xa), .val (.int ya), .val (.int u), .val (.ref ob), .val (.int r), .unset] [(.int (1 : Int32))])) (fun _ kz => XS.goto X4.here hx rfl (pc0 := 49) (pc' := 53) rfl (hb hby at_49) (by decide) (by decide) kz) ?_
        refine OGo.st (B := T4.setTop (mkF m 55 #[.val (.int fl), .val (.int xa), .val (.int ya), .val (.int u), .val (.ref ob), .val (.int r), .val (.int (1 : Int32))] [])) (fun _ kz => XS.istore X4.here hx rfl (hb hby at_53) rfl (l' := #[.val (.int fl), .val (.int xa), .val (.int ya), .val (.int u), .val (.ref ob), .val (.int r), .val (.int (1 : Int32))]) rfl kz) ?_
        refine OGo.st (B := T4.setTop (mkF m 57 #[.val (.int fl), .val (.int xa), .val (.int ya), .val (.int u), .val (.ref ob), .val (.int r), .val (.int (1 : Int32))] [(.int r)])) (fun _ kz => XS.iload X4.here hx rfl (hb hby at_55) rfl kz) ?_
        refine OGo.st (B := T4.setTop (mkF m 59 #[.val (.int fl), .val (.int xa), .val (.int ya), .val (.int u), .val (.ref ob), .val (.int r), .val (.int (1 : Int32))] [(.int (1 : Int32)), (.int r)])) (fun _ kz => XS.iload X4.here hx rfl (hb hby at_57) rfl kz) ?_
        refine OGo.st (B := T4.setTop (mkF m 62 #[.val (.int fl), .val (.int xa), .val (.int ya), .val (.int u), .val (.ref ob), .val (.int r), .val (.int (1 : Int32))] [])) (fun _ kz => XS.icmpNo X4.here hx rfl (hb hby at_59) rfl (teq (hr.symm.trans (if_pos (Or.inr h2)))).2 kz) ?_
        refine OGo.st (B := T4.setTop (mkF m 63 #[.val (.int fl), .val (.int xa), .val (.int ya), .val (.int u), .val (.ref ob), .val (.int r), .val (.int (1 : Int32))] [(.int (1 : Int32))])) (fun _ kz => XS.iconst X4.here hx rfl (hb hby at_62) kz) ?_
        refine OGo.st (B := T4.setTop (mkF m 67 #[.val (.int fl), .val (.int xa), .val (.int ya), .val (.int u), .val (.ref ob), .val (.int r), .val (.int (1 : Int32))] [(.int (1 : Int32))])) (fun _ kz => XS.goto X4.here hx rfl (pc0 := 63) (pc' := 67) rfl (hb hby at_63) (by decide) (by decide) kz) ?_
        exact own_retZ X4 hx hret hlk (hb hby at_67) ⟨rfl, N4⟩ (by decide) (by decide)
      · skip
        refine OGo.st (B := T4.setTop (mkF m 52 #[.val (.int fl), .val (.int xa), .val (.int ya), .val (.int u), .val (.ref ob), .val (.int r), .unset] [])) (fun _ kz => XS.icmpYes X4.here hx rfl (pc0 := 45) (pc' := 52) rfl (hb hby at_45) rfl (flt h2).2.2.2 (by decide) (by decide) kz) ?_
        refine OGo.st (B := T4.setTop (mkF m 53 #[.val (.int fl), .val (.int xa), .val (.int ya), .val (.int u), .val (.ref ob), .val (.int r), .unset] [(.int (0 : Int32))])) (fun _ kz => XS.iconst X4.here hx rfl (hb hby at_52) kz) ?_
        refine OGo.st (B := T4.setTop (mkF m 55 #[.val (.int fl), .val (.int xa), .val (.int ya), .val (.int u), .val (.ref ob), .val (.int r), .val (.int (0 : Int32))] [])) (fun _ kz => XS.istore X4.here hx rfl (hb hby at_53) rfl (l' := #[.val (.int fl), .val (.int xa), .val (.int ya), .val (.int u), .val (.ref ob), .val (.int r), .val (.int (0 : Int32))]) rfl kz) ?_
        refine OGo.st (B := T4.setTop (mkF m 57 #[.val (.int fl), .val (.int xa), .val (.int ya), .val (.int u), .val (.ref ob), .val (.int r), .val (.int (0 : Int32))] [(.int r)])) (fun _ kz => XS.iload X4.here hx rfl (hb hby at_55) rfl kz) ?_
        refine OGo.st (B := T4.setTop (mkF m 59 #[.val (.int fl), .val (.int xa), .val (.int ya), .val (.int u), .val (.ref ob), .val (.int r), .val (.int (0 : Int32))] [(.int (0 : Int32)), (.int r)])) (fun _ kz => XS.iload X4.here hx rfl (hb hby at_57) rfl kz) ?_
        refine OGo.st (B := T4.setTop (mkF m 62 #[.val (.int fl), .val (.int xa), .val (.int ya), .val (.int u), .val (.ref ob), .val (.int r), .val (.int (0 : Int32))] [])) (fun _ kz => XS.icmpNo X4.here hx rfl (hb hby at_59) rfl (teq (hr.symm.trans (if_neg (fun q => q.elim (fun z => z h1) h2)))).2 kz) ?_
        refine OGo.st (B := T4.setTop (mkF m 63 #[.val (.int fl), .val (.int xa), .val (.int ya), .val (.int u), .val (.ref ob), .val (.int r), .val (.int (0 : Int32))] [(.int (1 : Int32))])) (fun _ kz => XS.iconst X4.here hx rfl (hb hby at_62) kz) ?_
        refine OGo.st (B := T4.setTop (mkF m 67 #[.val (.int fl), .val (.int xa), .val (.int ya), .val (.int u), .val (.ref ob), .val (.int r), .val (.int (0 : Int32))] [(.int (1 : Int32))])) (fun _ kz => XS.goto X4.here hx rfl (pc0 := 63) (pc' := 67) rfl (hb hby at_63) (by decide) (by decide) kz) ?_
        exact own_retZ X4 hx hret hlk (hb hby at_67) ⟨rfl, N4⟩ (by decide) (by decide)
    · skip
      refine OGo.st (B := T4.setTop (mkF m 37 #[.val (.int fl), .val (.int xa), .val (.int ya), .val (.int u), .val (.ref ob), .val (.int r), .unset] [])) (fun _ kz => XS.ifNo X4.here hx rfl (hb hby at_34) rfl ((if0 _ _).trans (feq h1).1) kz) ?_
      refine OGo.st (B := T4.setTop (mkF m 38 #[.val (.int fl), .val (.int xa), .val (.int ya), .val (.int u), .val (.ref ob), .val (.int r), .unset] [(.int (1 : Int32))])) (fun _ kz => XS.iconst X4.here hx rfl (hb hby at_37) kz) ?_
      refine OGo.st (B := T4.setTop (mkF m 40 #[.val (.int fl), .val (.int xa), .val (.int ya), .val (.int u), .val (.ref ob), .val (.int r), .val (.int (1 : Int32))] [])) (fun _ kz => XS.istore X4.here hx rfl (hb hby at_38) rfl (l' := #[.val (.int fl), .val (.int xa), .val (.int ya), .val (.int u), .val (.ref ob), .val (.int r), .val (.int (1 : Int32))]) rfl kz) ?_
      refine OGo.st (B := T4.setTop (mkF m 55 #[.val (.int fl), .val (.int xa), .val (.int ya), .val (.int u), .val (.ref ob), .val (.int r), .val (.int (1 : Int32))] [])) (fun _ kz => XS.goto X4.here hx rfl (pc0 := 40) (pc' := 55) rfl (hb hby at_40) (by decide) (by decide) kz) ?_
      refine OGo.st (B := T4.setTop (mkF m 57 #[.val (.int fl), .val (.int xa), .val (.int ya), .val (.int u), .val (.ref ob), .val (.int r), .val (.int (1 : Int32))] [(.int r)])) (fun _ kz => XS.iload X4.here hx rfl (hb hby at_55) rfl kz) ?_
      refine OGo.st (B := T4.setTop (mkF m 59 #[.val (.int fl), .val (.int xa), .val (.int ya), .val (.int u), .val (.ref ob), .val (.int r), .val (.int (1 : Int32))] [(.int (1 : Int32)), (.int r)])) (fun _ kz => XS.iload X4.here hx rfl (hb hby at_57) rfl kz) ?_
      refine OGo.st (B := T4.setTop (mkF m 62 #[.val (.int fl), .val (.int xa), .val (.int ya), .val (.int u), .val (.ref ob), .val (.int r), .val (.int (1 : Int32))] [])) (fun _ kz => XS.icmpNo X4.here hx rfl (hb hby at_59) rfl (teq (hr.symm.trans (if_pos (Or.inl h1)))).2 kz) ?_
      refine OGo.st (B := T4.setTop (mkF m 63 #[.val (.int fl), .val (.int xa), .val (.int ya), .val (.int u), .val (.ref ob), .val (.int r), .val (.int (1 : Int32))] [(.int (1 : Int32))])) (fun _ kz => XS.iconst X4.here hx rfl (hb hby at_62) kz) ?_
      refine OGo.st (B := T4.setTop (mkF m 67 #[.val (.int fl), .val (.int xa), .val (.int ya), .val (.int u), .val (.ref ob), .val (.int r), .val (.int (1 : Int32))] [(.int (1 : Int32))])) (fun _ kz => XS.goto X4.here hx rfl (pc0 := 63) (pc' := 67) rfl (hb hby at_63) (by decide) (by decide) kz) ?_
      exact own_retZ X4 hx hret hlk (hb hby at_67) ⟨rfl, N4⟩ (by decide) (by decide)
  · skip
    intro hj1
    by_cases k1 : (fl &&& (1 : Int32)) = (0 : Int32)
    · skip
      refine OGo.st (B := s₁.setTop (mkF m 10 #[.val (.int fl), .val (.int xa), .val (.int ya), .unset, .unset, .unset, .unset] [])) (fun _ kz => XS.ifYes X0.here hx rfl (pc0 := 3) (pc' := 10) rfl (hb hby at_3) rfl ((if0 _ _).trans (teq k1).1) (by decide) (by decide) kz) ?_
      refine OGo.st (B := s₁.setTop (mkF m 11 #[.val (.int fl), .val (.int xa), .val (.int ya), .unset, .unset, .unset, .unset] [(.int (0 : Int32))])) (fun _ kz => XS.iconst X0.here hx rfl (hb hby at_10) kz) ?_
      exact hj1 (0 : Int32) (Or.inl rfl)
    · skip
      refine OGo.st (B := s₁.setTop (mkF m 6 #[.val (.int fl), .val (.int xa), .val (.int ya), .unset, .unset, .unset, .unset] [])) (fun _ kz => XS.ifNo X0.here hx rfl (hb hby at_3) rfl ((if0 _ _).trans (feq k1).1) kz) ?_
      refine OGo.st (B := s₁.setTop (mkF m 7 #[.val (.int fl), .val (.int xa), .val (.int ya), .unset, .unset, .unset, .unset] [(.int (1 : Int32))])) (fun _ kz => XS.iconst X0.here hx rfl (hb hby at_6) kz) ?_
      refine OGo.st (B := s₁.setTop (mkF m 11 #[.val (.int fl), .val (.int xa), .val (.int ya), .unset, .unset, .unset, .unset] [(.int (1 : Int32))])) (fun _ kz => XS.goto X0.here hx rfl (pc0 := 7) (pc' := 11) rfl (hb hby at_7) (by decide) (by decide) kz) ?_
      exact hj1 (1 : Int32) (Or.inr rfl)
set_option maxRecDepth 65536 in
set_option maxHeartbeats 40000000 in
theorem comes_1 {Post : Tables → Env → Array Value → State → Outcome → State → Prop} (hpost : ∀ tb e args s v u, (limb_1_1.after args s (.returned v) u = true ∧ limb_1_2.after args s (.returned v) u = true ∧ True) → FrameEnd s (.returned v) u (Jvm.fieldLocs frame_1_writes args s ++ Jvm.arrayLocs frame_1_arrays args s ++ Jvm.staticLocs frame_1_statics s) 16 128 → Post tb e args s (.returned v) u) :
    ArmFor flags0 classFile x code maxLocals ret World_1 tables_1 room_1 Calls_1 rest_1 Pre_1 Post := by
  intro l hfl _ _ p e ha hc hk s m args below hf hA hF happ hP
  obtain ⟨hcalls, hrest, hpre⟩ := hP
  obtain ⟨-, -, -, hnamed, -, -, -, hat⟩ := (Spec.applies_iff hf).mp happ
  obtain ⟨hg, hn⟩ := and_e (Cond.before_iff.mp (show (Jvm.Cond.and given_1 narrow_1).before args s = true from hpre))
  obtain ⟨q1, q2⟩ := and_e hg
  obtain ⟨q3, q4⟩ := and_e q2
  obtain ⟨q5, q6⟩ := and_e q4
  obtain ⟨w0, w1, w2, rfl⟩ : ∃ w0 w1 w2 : Value, args = #[w0, w1, w2] := by
    have hs : args.size = 3 := by simpa [Cond.value, given_1] using q1
    obtain ⟨L⟩ := args
    match L, hs with
    | [w0, w1, w2], _ => exact ⟨w0, w1, w2, rfl⟩
  have hw := fun d (hd : d ∈ tables_1) => atoms_spec (ws := Jvm.Cond.code x code maxLocals ret :: tables_1) hat d (List.mem_cons_of_mem _ hd)
  obtain ⟨i0, ei0⟩ := is_v q3
  obtain rfl : w0 = (.int i0) := Option.some.inj ei0
  obtain ⟨i1, ei1⟩ := is_v q5
  obtain rfl : w1 = (.int i1) := Option.some.inj ei1
  obtain ⟨i2, ei2⟩ := is_v q6
  obtain rfl : w2 = (.int i2) := Option.some.inj ei2
  obtain ⟨n, o, h1, h2, h3, _, L, rfl, ⟨rfl, N⟩, hq⟩ := rm0 l s _ hw i0 i1 i2 s.heap s.heap.size (Nat.le_refl _) p e ha hc hk s m _ below hf ((Spec.applies_iff_loose hf).mp happ).1 ⟨rfl, State.Warmed39.refl s, rfl⟩ trivial
  refine ⟨n, _, h1, h2, h3, hpost _ _ _ _ _ _ ⟨Cond.after_iff.mpr rfl, Cond.after_iff.mpr (eq_i res_at (Term.int_eval (1)) rfl), trivial⟩ ⟨hq.1, hq.2.1, (hq.2.2.sift fun y hy => Or.inr (N y hy)).mono (by decide) (by decide)⟩⟩
theorem main_1_1 : Claimed_1_1 := comes_1 fun _ _ _ _ _ _ h hF => ⟨h.1, hF⟩
theorem main_1_2 : Claimed_1_2 := comes_1 fun _ _ _ _ _ _ h hF => ⟨h.2.1, hF⟩
end Jvm.Pilot.@@N@@
namespace Jvm.Pilot.@@N@@
open Jvm Jvm.ClassFile Sem Op Lib Jvm.Free Jvm.Stand Jvm.Pilot.@@N@@.Jvm.D
/-! MADE BY PROGRAM (witnessworld.py) out of the Statement's table words and the real class files: 10 classes; the members and pool entries that the words name. The judged class is class 1, her method 1. -/
namespace start1
open Jvm.ClassFile
def u (s : String) : CpInfo := .utf8 (stringToUtf16 s)
/-- a pool by its gaps: so many unusable entries, then the entry; so many at the end -/
def gap : Nat → List CpInfo → List CpInfo
  | 0, r => r
  | n + 1, r => .unusable :: gap n r
def poolList (es : List (Nat × CpInfo)) (last : Nat) : List CpInfo := es.foldr (fun e r => gap e.1 (e.2 :: r)) (gap last [])
def pool (es : List (Nat × CpInfo)) (last : Nat) : Array CpInfo := ⟨poolList es last⟩
def fileOf (pool : Array CpInfo) (this : Nat) (attrs : Array Attribute := #[]) (ms : Array MethodInfo := #[]) (fl : Nat := 33) (sup : Nat := 0) (ifs : Array Nat := #[]) (fds : Array FieldInfo := #[]) : ClassFile where
  minorVersion := 0
  majorVersion := 65
  constantPool := pool
  accessFlags := fl
  thisClass := this
  superClass := sup
  interfaces := ifs
  fields := fds
  methods := ms
  attributes := attrs
def plain (name : String) (sup : Option ClassId) : Class where
  name := name
  kind := .ordinary
  loader := none
  accessFlags := 33
  super := sup
  interfaces := #[]
  cf := none
  fields := #[]
  methods := #[]
  instanceTypes := #[]
  staticTypes := #[]
  resolved := #[]
  callSites := []
  init := .initialized
  statics := none
  mirror := none

def pool0 : Array CpInfo := pool [(5, u "<init>"), (0, u "()V"), (1, .class_ 10), (1, u "java/lang/Object")] 113

def k0c0 : Code := { maxStack := 0, maxLocals := 1, code := object_method_1_code, exceptionTable := #[], attributes := #[] }
def k0m0 : Method := { name := "<init>", desc := "()V", sig := { parameters := [], returnType := none }, accessFlags := 1, code := some k0c0 }
/-- java/lang/Object -/
def k0 : Class := { plain "java/lang/Object" none with
  accessFlags := 33
  interfaces := #[]
  cf := some (fileOf pool0 8 #[] #[{ accessFlags := 1, nameIndex := 5, descriptorIndex := 6, attributes := #[] }] 33 0 #[] #[])
  fields := #[]
  methods := #[k0m0]
  instanceTypes := #[]
  staticTypes := #[]
  resolved := Array.replicate 124 none
  statics := none }

def pool1 : Array CpInfo := pool [(2, .class_ 4), (1, u "java/lang/Object"), (0, u "<init>"), (0, u "()V"), (0, .class_ 8), (0, u "com/example/lean_rumor/leanrumor/node/Verdict"), (0, .methodref 7 10), (0, .nameAndType 5 11), (0, u "(ZD)V"), (0, .methodref 7 13), (0, .nameAndType 14 15), (0, u "passes"), (0, u "(D)Z"), (0, .class_ 17), (0, u "com/example/lean_rumor/leanrumor/node/VerdictPassesPinLaw"), (2, u "law"), (0, u "(III)Z")] 3

def k1m0 : Method := { name := "<init>", desc := "()V", sig := { parameters := [], returnType := none }, accessFlags := 1, code := none }
def k1c1 : Code := { maxStack := 5, maxLocals := 7, code := code, exceptionTable := #[], attributes := #[] }
def k1m1 : Method := { name := "law", desc := "(III)Z", sig := { parameters := [.int, .int, .int], returnType := some .boolean }, accessFlags := 9, code := some k1c1 }
/-- com/example/lean_rumor/leanrumor/node/VerdictPassesPinLaw -/
def k1 : Class := { plain "com/example/lean_rumor/leanrumor/node/VerdictPassesPinLaw" (some 0) with
  accessFlags := 49
  interfaces := #[]
  cf := some (fileOf pool1 16 #[] #[{ accessFlags := 1, nameIndex := 5, descriptorIndex := 6, attributes := #[] }, { accessFlags := 9, nameIndex := 20, descriptorIndex := 21, attributes := #[] }] 49 2 #[] #[])
  fields := #[]
  methods := #[k1m0, k1m1]
  instanceTypes := #[]
  staticTypes := #[]
  resolved := Array.replicate 25 none
  statics := none }

def pool2 : Array CpInfo := pool [(1, .methodref 2 3), (0, .class_ 4), (0, .nameAndType 5 6), (0, u "java/lang/Object"), (0, u "<init>"), (0, u "()V"), (0, .class_ 8), (0, u "java/lang/Record")] 13

def k2c0 : Code := { maxStack := 1, maxLocals := 1, code := jdk_30_method_1_code, exceptionTable := #[], attributes := #[] }
def k2m0 : Method := { name := "<init>", desc := "()V", sig := { parameters := [], returnType := none }, accessFlags := 4, code := some k2c0 }
/-- java/lang/Record -/
def k2 : Class := { plain "java/lang/Record" (some 0) with
  accessFlags := 1057
  interfaces := #[]
  cf := some (fileOf pool2 7 #[] #[{ accessFlags := 4, nameIndex := 5, descriptorIndex := 6, attributes := #[] }] 1057 2 #[] #[])
  fields := #[]
  methods := #[k2m0]
  instanceTypes := #[]
  staticTypes := #[]
  resolved := Array.replicate 22 none
  statics := none }

def pool3 : Array CpInfo := pool [(1, .methodref 2 3), (0, .class_ 4), (0, .nameAndType 5 6), (0, u "java/lang/Record"), (0, u "<init>"), (0, u "()V"), (0, .fieldref 8 9), (0, .class_ 10), (0, .nameAndType 11 12), (0, u "com/example/lean_rumor/leanrumor/node/Verdict"), (0, u "wanted"), (0, u "Z"), (0, .fieldref 8 14), (0, .nameAndType 15 16), (0, u "preference"), (0, u "D"), (2, u "(ZD)V"), (14, u "WANTED"), (0, u "Lcom/example/lean_rumor/leanrumor/node/Verdict;"), (5, u "passes"), (0, u "(D)Z")] 30

def k3c0 : Code := { maxStack := 3, maxLocals := 4, code := prog_64_method_1_code, exceptionTable := #[], attributes := #[] }
def k3m0 : Method := { name := "<init>", desc := "(ZD)V", sig := { parameters := [.boolean, .double], returnType := none }, accessFlags := 1, code := some k3c0 }
def k3c1 : Code := { maxStack := 4, maxLocals := 3, code := prog_64_method_3_code, exceptionTable := #[], attributes := #[] }
def k3m1 : Method := { name := "passes", desc := "(D)Z", sig := { parameters := [.double], returnType := some .boolean }, accessFlags := 1, code := some k3c1 }
/-- com/example/lean_rumor/leanrumor/node/Verdict -/
def k3 : Class := { plain "com/example/lean_rumor/leanrumor/node/Verdict" (some 2) with
  accessFlags := 49
  interfaces := #[]
  cf := some (fileOf pool3 8 #[] #[{ accessFlags := 1, nameIndex := 5, descriptorIndex := 19, attributes := #[] }, { accessFlags := 1, nameIndex := 41, descriptorIndex := 42, attributes := #[] }] 49 2 #[] #[{ accessFlags := 18, nameIndex := 11, descriptorIndex := 12, attributes := #[] }, { accessFlags := 18, nameIndex := 15, descriptorIndex := 16, attributes := #[] }, { accessFlags := 25, nameIndex := 34, descriptorIndex := 35, attributes := #[] }])
  fields := #[{ name := "wanted", type := .boolean, accessFlags := 18, slot := 0, constantValue := 0 }, { name := "preference", type := .double, accessFlags := 18, slot := 1, constantValue := 0 }, { name := "WANTED", type := (.object "com/example/lean_rumor/leanrumor/node/Verdict"), accessFlags := 25, slot := 0, constantValue := 0 }]
  methods := #[k3m0, k3m1]
  instanceTypes := #[.boolean, .double]
  staticTypes := #[(.object "com/example/lean_rumor/leanrumor/node/Verdict")]
  resolved := Array.replicate 73 none
  statics := none }

def pool4 : Array CpInfo := pool [(1, u "java/lang/Cloneable"), (0, .class_ 1), (0, u "java/lang/Object"), (0, .class_ 3)] 3

/-- java/lang/Cloneable -/
def k4 : Class := { plain "java/lang/Cloneable" (some 0) with
  accessFlags := 1537
  interfaces := #[]
  cf := some (fileOf pool4 2 #[] #[] 1537 4 #[] #[])
  fields := #[]
  methods := #[]
  instanceTypes := #[]
  staticTypes := #[]
  resolved := Array.replicate 8 none
  statics := none }

def pool5 : Array CpInfo := pool [(1, u "java/io/Serializable"), (0, .class_ 1), (0, u "java/lang/Object"), (0, .class_ 3)] 3

/-- java/io/Serializable -/
def k5 : Class := { plain "java/io/Serializable" (some 0) with
  accessFlags := 1537
  interfaces := #[]
  cf := some (fileOf pool5 2 #[] #[] 1537 4 #[] #[])
  fields := #[]
  methods := #[]
  instanceTypes := #[]
  staticTypes := #[]
  resolved := Array.replicate 8 none
  statics := none }

/-- the primitive byte -/
def k6 : Class := { plain "byte" none with kind := .primitive 'B', accessFlags := 0x411 }
/-- [B -/
def k7 : Class := { plain "[B" (some 0) with kind := .array 6 .byte, interfaces := #[4, 5], accessFlags := 1041 }

/-- the primitive int -/
def k8 : Class := { plain "int" none with kind := .primitive 'I', accessFlags := 0x411 }
/-- [I -/
def k9 : Class := { plain "[I" (some 0) with kind := .array 8 .int, interfaces := #[4, 5], accessFlags := 1041 }

def heap : Heap := #[]
def classes : Array Class := #[k0, k1, k2, k3, k4, k5, k6, k7, k8, k9]
def interned : List (Array UInt16 × Addr) := []
def slotsUsed : Nat := 0
def theMethod : MethodId := ⟨1, 1⟩
def args0 : Array Value := #[.int 0, .int 2, .int 1]
def aboutOver (below : List Frame) : State where
  vm := { classes := classes, interned := interned.toArray }
  heap := heap
  slotsUsed := slotsUsed
  threads := #[{ frames := .invoking theMethod args0 :: below }]
def below0 : List Frame := [.native { method := ⟨0, 0⟩, args := #[] }]
def about1 : State := aboutOver below0
def p0 : Program := .bare "" "" ""
def e0 : Env := launch0.env 0 0 0
theorem w_frames : about1.frames = Frame.invoking theMethod args0 :: below0 := rfl
set_option maxRecDepth 65536 in
theorem w_args : argsFit about1.vm theMethod args0 = true := by decide +kernel
set_option maxRecDepth 65536 in
theorem w_heap : heapFits about1 = true := by decide +kernel
set_option maxRecDepth 65536 in
theorem w_runnable : about1.curStatus? = some .runnable := by decide +kernel
set_option maxRecDepth 65536 in
theorem w_alone : about1.alone = true := by decide +kernel
set_option maxRecDepth 65536 in
theorem w_named : about1.methodNamed? x = some theMethod := by decide +kernel
set_option maxRecDepth 65536 in
theorem w_hears : about1.hears theMethod below0 = true := by decide +kernel
set_option maxRecDepth 65536 in
theorem w_ripe : about1.ripe theMethod args0 below0 = true := by decide +kernel
theorem w_running : about1.status = .running := rfl
set_option maxRecDepth 65536 in
theorem w_room : about1.hasRoom e0.platform room_1 = true :=
  launch0.hasRoom_least _ room_1 (by decide +kernel) (by decide +kernel) (by decide +kernel) (by decide +kernel) (by decide +kernel) (by decide +kernel)
theorem allAtoms_all (ts : List Jvm.Cond) (a : Array Jvm.Value) (st : Jvm.State) : (allAtoms ts).before a st = ts.all (fun c => c.before a st) := by
  induction ts with
  | nil => rfl
  | cons c t ih =>
    show (Jvm.Cond.and c (allAtoms t)).before a st = _
    rw [Jvm.Cond.before_and, ih, List.all_cons]
def words1 : List Jvm.Cond := Jvm.Cond.code x code maxLocals ret :: tables_1
/-- a 'code' word, met by the world's own term for the bytes: nothing is compared byte by byte -/
theorem code_word {y : MethodName} {bytes : ByteArray} {mx : Nat} {rt : Option FieldType} {a : Array Value} {s : State} {m : MethodId} {meth : Method} {c : Code} (h1 : s.methodNamed? y = some m) (h2 : s.vm.method? m = some meth) (h3 : meth.code = some c) (h4 : c.code = bytes)
    (h5 : (c.maxLocals == mx && c.exceptionTable.isEmpty && decide (c.maxStack ≤ mostOperands) && decide (meth.sig.returnType = rt) && !meth.locks && decide (parseMethodDescriptor y.desc = some meth.sig)) = true) : (Jvm.Cond.code y bytes mx rt).before a s = true := by
  simp only [Bool.and_eq_true, beq_iff_eq, Bool.not_eq_true', decide_eq_true_eq] at h5
  obtain ⟨⟨⟨⟨⟨g1, g2⟩, g3⟩, g4⟩, g5⟩, g6⟩ := h5
  simp [Cond.before, Cond.holds, Cond.value, h1, h2, h3, h4, g1, g2, g3, g4, g5, g6]
def isCode : Jvm.Cond → Bool
  | .code _ _ _ _ => true
  | _ => false
theorem all_split {L : List Jvm.Cond} {P : Jvm.Cond → Bool} (h1 : L.all (fun c => isCode c || P c) = true) (h2 : ∀ c ∈ L.filter isCode, P c = true) : L.all P = true := by
  refine List.all_eq_true.mpr fun c hc => ?_
  have h := List.all_eq_true.mp h1 c hc
  rcases Bool.eq_false_or_eq_true (isCode c) with hi | hi
  · exact h2 c (List.mem_filter.mpr ⟨hc, hi⟩)
  · simpa [hi] using h
set_option maxRecDepth 65536 in
theorem w_c0 : (Jvm.Cond.code x code maxLocals ret).before args0 about1 = true := code_word (m := ⟨1, 1⟩) (meth := k1m1) (c := k1c1) (by decide +kernel) rfl rfl rfl (by decide +kernel)
set_option maxRecDepth 65536 in
theorem w_c1 : (Jvm.Cond.code ({ cls := "com/example/lean_rumor/leanrumor/node/Verdict", name := "<init>", desc := "(ZD)V" } : Jvm.MethodName) prog_64_method_1_code (4 : Nat) (Option.none : Option Jvm.ClassFile.FieldType)).before args0 about1 = true := code_word (m := ⟨3, 0⟩) (meth := k3m0) (c := k3c0) (by decide +kernel) rfl rfl rfl (by decide +kernel)
set_option maxRecDepth 65536 in
theorem w_c2 : (Jvm.Cond.code ({ cls := "java/lang/Record", name := "<init>", desc := "()V" } : Jvm.MethodName) jdk_30_method_1_code (1 : Nat) (Option.none : Option Jvm.ClassFile.FieldType)).before args0 about1 = true := code_word (m := ⟨2, 0⟩) (meth := k2m0) (c := k2c0) (by decide +kernel) rfl rfl rfl (by decide +kernel)
set_option maxRecDepth 65536 in
theorem w_c3 : (Jvm.Cond.code ({ cls := "java/lang/Object", name := "<init>", desc := "()V" } : Jvm.MethodName) object_method_1_code (1 : Nat) (Option.none : Option Jvm.ClassFile.FieldType)).before args0 about1 = true := code_word (m := ⟨0, 0⟩) (meth := k0m0) (c := k0c0) (by decide +kernel) rfl rfl rfl (by decide +kernel)
set_option maxRecDepth 65536 in
theorem w_c4 : (Jvm.Cond.code ({ cls := "com/example/lean_rumor/leanrumor/node/Verdict", name := "passes", desc := "(D)Z" } : Jvm.MethodName) prog_64_method_3_code (3 : Nat) (Option.some Jvm.ClassFile.FieldType.boolean)).before args0 about1 = true := code_word (m := ⟨3, 1⟩) (meth := k3m1) (c := k3c1) (by decide +kernel) rfl rfl rfl (by decide +kernel)
def codes1 : List Jvm.Cond := [Jvm.Cond.code x code maxLocals ret, Jvm.Cond.code ({ cls := "com/example/lean_rumor/leanrumor/node/Verdict", name := "<init>", desc := "(ZD)V" } : Jvm.MethodName) prog_64_method_1_code (4 : Nat) (Option.none : Option Jvm.ClassFile.FieldType), Jvm.Cond.code ({ cls := "java/lang/Record", name := "<init>", desc := "()V" } : Jvm.MethodName) jdk_30_method_1_code (1 : Nat) (Option.none : Option Jvm.ClassFile.FieldType), Jvm.Cond.code ({ cls := "java/lang/Object", name := "<init>", desc := "()V" } : Jvm.MethodName) object_method_1_code (1 : Nat) (Option.none : Option Jvm.ClassFile.FieldType), Jvm.Cond.code ({ cls := "com/example/lean_rumor/leanrumor/node/Verdict", name := "passes", desc := "(D)Z" } : Jvm.MethodName) prog_64_method_3_code (3 : Nat) (Option.some Jvm.ClassFile.FieldType.boolean)]
set_option maxRecDepth 65536 in
theorem codes_eq : words1.filter isCode = codes1 := rfl
theorem w_codes : ∀ c ∈ words1.filter isCode, c.before args0 about1 = true := by
  rw [codes_eq]
  intro c hc
  simp only [codes1, List.mem_cons, List.not_mem_nil, or_false] at hc
  rcases hc with rfl | rfl | rfl | rfl | rfl
  · exact w_c0
  · exact w_c1
  · exact w_c2
  · exact w_c3
  · exact w_c4
set_option maxRecDepth 65536 in
theorem w_t1 : words1.all (fun c => isCode c || c.before args0 about1) = true := by decide +kernel
theorem w_tables : (allAtoms (Jvm.Cond.code x code maxLocals ret :: tables_1)).before args0 about1 = true := by
  rw [allAtoms_all]
  show words1.all (fun c => c.before args0 about1) = true
  refine all_split ?_ w_codes
  rw [w_t1]
set_option maxRecDepth 65536 in
theorem w_case : (Jvm.Cond.and given_1 narrow_1).before args0 about1 = true := by decide +kernel
theorem w_applies : (headSpec (Jvm.Cond.code x code maxLocals ret :: tables_1) room_1).applies x e0.platform about1 = true :=
  (Spec.applies_iff w_frames).mpr ⟨w_running, w_runnable, w_alone, w_named, w_hears, w_ripe, w_room, w_tables⟩
theorem atStart : AtStart classFile x code maxLocals ret World_1 tables_1 room_1 Calls_1 rest_1 Pre_1 launch0 p0 e0 about1 theMethod args0 below0 :=
  ⟨lists_1, trivial, launch0.admits_env _ _ _, launch0.least_env, fairChoices_fair.cas, fairChoices_fair.clock, w_frames, w_args, w_heap, w_applies, trivial, trivial, w_case⟩
end start1
theorem witness_1 : WitnessClaimed_1 := ⟨start1.p0, start1.e0, start1.about1, start1.theMethod, start1.args0, start1.below0, start1.atStart⟩
end Jvm.Pilot.@@N@@
