import JvmDerived
import JvmDerived.Pilot.@@N@@Statement
import JvmDerived.Pilot.@@N@@Code
set_option linter.unusedVariables false
set_option linter.unusedSimpArgs false
namespace Jvm.Pilot.@@N@@
open Jvm Jvm.ClassFile Sem Op Lib Jvm.Free Jvm.Stand Jvm.LawKit Jvm.RoadKit Bundle Jvm.Pilot.@@N@@.Jvm.D
section Own
variable {p : Program} {l : Launch} {e : Env} {R : Room} {s : State} {m : MethodId} {args : Array Value} {below : List Frame} {meth : Method} {c : Code} {T : State} {locs : List Loc} {cells slots : Nat} {Z : State} {a0 : Array Value} {h h' : Heap}
/-- from A the run comes to its end, and G holds there -/
def OGo (p : Program) (e : Env) (below : List Frame) (G : State → Outcome → Prop) (A : State) : Prop := ∃ s₂ o, Steps p.tables e below A s₂ ∧ s₂.status = .running ∧ Ended s₂ below o ∧ G s₂ o
theorem OGo.st {G : State → Outcome → Prop} {A B : State} (k : ∀ t, Steps p.tables e below B t → Steps p.tables e below A t) (g : OGo p e below G B) : OGo p e below G A := by
  obtain ⟨s₂, o, q, r⟩ := g
  exact ⟨s₂, o, k _ q, r⟩
theorem OGo.join {α : Type} {G : State → Outcome → Prop} {A : State} (F : α → State) (P : α → Prop) (h1 : ∀ a, P a → OGo p e below G (F a)) (h2 : (∀ a, P a → OGo p e below G (F a)) → OGo p e below G A) : OGo p e below G A := h2 h1
/-- what a body leaves -/
def ODone (s : State) (rm : Room) (Q : Option Value → Heap → List Loc → Prop) (t : State) (o : Outcome) : Prop := ∃ v L, o = .returned v ∧ Q v t.heap L ∧ FrameEnd s o t L rm.cells rm.slots
/-- a body's contract -/
def OMet (l : Launch) (Z : State) (y : MethodName) (bytes : ByteArray) (maxL : Nat) (ret : Option FieldType) (ws : List Jvm.Cond) (rm : Room) (as' : Array Value) (h0 : Heap) (Q : Option Value → Heap → List Loc → Prop) : Prop :=
  MetFree l y (head1 (Jvm.Cond.code y bytes maxL ret :: ws) rm) (fun a U => a = as' ∧ Z.Warmed39 U.vm ∧ U.heap = h0) (fun _ _ _ _ _ => True) (fun _ U o U' => ∃ v L, o = .returned v ∧ Q v U'.heap L ∧ FrameEnd U o U' L rm.cells rm.slots)
section M
variable {y : MethodName} {bytes : ByteArray} {maxL : Nat} {ret : Option FieldType} {ws : List Jvm.Cond} {rm : Room} {as' : Array Value} {Q : Option Value → Heap → List Loc → Prop}
theorem OMet.of (hp : plainFor y = true)
    (body : ∀ (p : Program) (e : Env) (s : State) (m : MethodId) (below : List Frame) (meth : Method) (c : Code) (s₁ : State), p.tables.exec = Jvm.exec → c.code = bytes → c.maxLocals = maxL → s.methodNamed? y = some m → s.vm.findClass y.cls = some m.cls → meth.name = y.name → meth.sig.returnType = ret → meth.locks = false → Z.Warmed39 s.vm →
      Stand p l e rm s m as' below meth c s₁ [] 0 0 → s₁.heap = h → OGo p e below (ODone s rm Q) (s₁.setTop (entryFrame m as' maxL))) : OMet l Z y bytes maxL ret ws rm as' h Q := by
  refine MetFree.of_bodySF hp hisR ?_
  intro p e s m args below meth c s₁ Bd hml hP hK
  obtain ⟨hA, hZ, hh⟩ := hP
  subst hA
  exact body p e s m below meth c s₁ Bd.exec Bd.bytes hml Bd.named (findClass_of_methodNamed Bd.named) (name_of_methodNamed Bd.named Bd.method).1 Bd.returns Bd.notSynchronized hZ (Stand.of_body Bd) (by rw [← hh, Bd.state]; rfl)
theorem OMet.back {len W : Nat} (hM : OMet l Z y bytes maxL ret [] rm as' h Q) (hZ : Z.Warmed39 s.vm) (wc : (Jvm.Cond.code y bytes maxL ret).before a0 Z = true) (wz : (Jvm.Cond.initialized y.cls).before a0 Z = true) (hf : rm.frames + 1 ≤ R.frames) (hl : W + (maxL + 11) + rm.locals ≤ R.locals) :
    Back l R p e below s args y len W (fun A a => a = as' ∧ A.U.heap = h ∧ A.cells + rm.cells ≤ R.cells ∧ A.slots + rm.slots ≤ R.slots) (fun A _ v B => ∃ L, Q v B.U.heap L ∧ B.locs = A.locs ++ L ∧ B.cells = A.cells + rm.cells ∧ B.slots = A.slots + rm.slots) :=
  backOf hM hZ wc wz hf hl
/-- a static call by its contract -/
theorem OMet.static (hM : OMet l Z y bytes maxL ret [] rm as' h Q) (X : Stand p l e R s m args below meth c T locs cells slots) (hx : p.tables.exec = Jvm.exec) (hZ : Z.Warmed39 s.vm) {own : String} {index W : Nat} (hown : s.vm.findClass own = some m.cls)
    (w1 : (Jvm.Cond.methodLink own index y).before a0 Z = true) (w2 : (Jvm.Cond.static y).before a0 Z = true) (w3 : (Jvm.Cond.initialized y.cls).before a0 Z = true) (w4 : (Jvm.Cond.code y bytes maxL ret).before a0 Z = true)
    (hy : y.cls ≠ "java/lang/invoke/MethodHandle" ∧ y.cls ≠ "java/lang/invoke/VarHandle") (hf : rm.frames + 1 ≤ R.frames) (hl : W + (maxL + 11) + rm.locals ≤ R.locals) (eT : T.heap = h) (hc : cells + rm.cells ≤ R.cells) (hs : slots + rm.slots ≤ R.slots)
    {g : JFrame} (hg : g.method = m) (hsize : g.locals.size = c.maxLocals) {argsL rest : List Value} (ha : argsL.toArray = as') (hlen : ∀ sig, parseMethodDescriptor y.desc = some sig → argsL.length = sig.parameters.length) (hstack : g.stack = argsL.reverse ++ rest) (hW : 2 * g.monitorRoom + (rest.map fun v => v.category).sum ≤ W)
    (hd : decode c.code g.pc = .ok (.invokestatic index, 3)) :
    ∃ (v : Option Value) (T' : State) (L : List Loc), Stand p l e R s m args below meth c T' (locs ++ L) (cells + rm.cells) (slots + rm.slots) ∧ Q v T'.heap L ∧ ∀ target, Steps p.tables e below (T'.setTop { g with pc := g.pc + 3, stack := v.toList ++ rest }) target → Steps p.tables e below (T.setTop g) target := by
  obtain ⟨v, vm, ⟨T', L', k', n'⟩, -, X', ⟨L, hQ, e1, e2, e3⟩, st⟩ := Jvm.LawKit.callS X hx hown (mvT hZ w1) (mvT hZ w2) (mvT hZ w3) (mvT hZ w4) hy (OMet.back (W := W) hM hZ w4 w3 hf hl) (g := g) hg hsize hlen hstack hW hd (fun _ _ => ⟨ha, eT, hc, hs⟩)
  dsimp only [Pt.U, Pt.locs, Pt.cells, Pt.slots] at X' e1 e2 e3 st hQ
  subst e1 e2 e3
  exact ⟨v, T', L, X', hQ, st⟩
/-- a constructor by its contract -/
theorem OMet.init (hM : OMet l Z y bytes maxL none [] rm as' h Q) (X : Stand p l e R s m args below meth c T locs cells slots) (hx : p.tables.exec = Jvm.exec) (hZ : Z.Warmed39 s.vm) {own : String} {index W : Nat} (hy1 : y.name = "<init>") (hown : s.vm.findClass own = some m.cls)
    (w1 : (Jvm.Cond.methodLink own index y).before a0 Z = true) (w2 : (Jvm.Cond.instanceMethod y).before a0 Z = true) (w3 : (Jvm.Cond.initialized y.cls).before a0 Z = true) (w4 : (Jvm.Cond.code y bytes maxL none).before a0 Z = true)
    (hy : y.cls ≠ "java/lang/invoke/MethodHandle" ∧ y.cls ≠ "java/lang/invoke/VarHandle") (hf : rm.frames + 1 ≤ R.frames) (hl : W + (maxL + 11) + rm.locals ≤ R.locals) (eT : T.heap = h) (hc : cells + rm.cells ≤ R.cells) (hs : slots + rm.slots ≤ R.slots)
    {g : JFrame} (hg : g.method = m) (hsize : g.locals.size = c.maxLocals) {a : Addr} {argsL rest : List Value} (ha : (Value.ref a :: argsL).toArray = as') (hlen : ∀ sig, parseMethodDescriptor y.desc = some sig → argsL.length = sig.parameters.length) (hstack : g.stack = argsL.reverse ++ .ref a :: rest) (hW : 2 * g.monitorRoom + (rest.map fun v => v.category).sum ≤ W)
    (hd : decode c.code g.pc = .ok (.invokespecial index, 3)) :
    ∃ (v : Option Value) (T' : State) (L : List Loc), Stand p l e R s m args below meth c T' (locs ++ L) (cells + rm.cells) (slots + rm.slots) ∧ Q v T'.heap L ∧ ∀ target, Steps p.tables e below (T'.setTop { g with pc := g.pc + 3, stack := v.toList ++ rest }) target → Steps p.tables e below (T.setTop g) target := by
  obtain ⟨v, vm, ⟨T', L', k', n'⟩, -, X', ⟨L, hQ, e1, e2, e3⟩, st⟩ := X.specialBack hx hy1 hown (mvT hZ w1) (mvT hZ w2) (mvT hZ w4) hy (OMet.back (W := W) hM hZ w4 w3 hf hl) (g := g) hg hsize (Steps.refl _) (a := a) hlen hstack hW hd (fun _ _ => ⟨ha, eT, hc, hs⟩)
  dsimp only [Pt.U, Pt.locs, Pt.cells, Pt.slots] at X' e1 e2 e3 st hQ
  subst e1 e2 e3
  exact ⟨v, T', L, X', hQ, fun _ k => st.trans k⟩
/-- a virtual call by the contract of the body that the receiver's class selects -/
theorem OMet.virt (hM : OMet l Z y bytes maxL ret [] rm as' h Q) (X : Stand p l e R s m args below meth c T locs cells slots) (hx : p.tables.exec = Jvm.exec) (hZ : Z.Warmed39 s.vm) {own C : String} {index W : Nat} {y0 : MethodName} (hown : s.vm.findClass own = some m.cls)
    (w1 : (Jvm.Cond.methodLink own index y0).before a0 Z = true) (w2 : (Jvm.Cond.declares y0).before a0 Z = true) (nf : NotFace s y0) (w5 : (Jvm.Cond.selects C y0 y).before a0 Z = true) (w6 : (Jvm.Cond.instanceMethod y).before a0 Z = true)
    (w3 : (Jvm.Cond.initialized y.cls).before a0 Z = true) (w4 : (Jvm.Cond.code y bytes maxL ret).before a0 Z = true)
    (hy : y0.cls ≠ "java/lang/invoke/MethodHandle" ∧ y0.cls ≠ "java/lang/invoke/VarHandle") (hf : rm.frames + 1 ≤ R.frames) (hl : W + (maxL + 11) + rm.locals ≤ R.locals) (eT : T.heap = h) (hc : cells + rm.cells ≤ R.cells) (hs : slots + rm.slots ≤ R.slots)
    {g : JFrame} (hg : g.method = m) (hsize : g.locals.size = c.maxLocals) {a : Addr} (E : Exa Z h a C) {argsL rest : List Value} (ha : (Value.ref a :: argsL).toArray = as') (hlen : ∀ sig, parseMethodDescriptor y0.desc = some sig → argsL.length = sig.parameters.length) (hstack : g.stack = argsL.reverse ++ .ref a :: rest) (hW : 2 * g.monitorRoom + (rest.map fun v => v.category).sum ≤ W)
    (hd : decode c.code g.pc = .ok (.invokevirtual index, 3)) :
    ∃ (v : Option Value) (T' : State) (L : List Loc), Stand p l e R s m args below meth c T' (locs ++ L) (cells + rm.cells) (slots + rm.slots) ∧ Q v T'.heap L ∧ ∀ target, Steps p.tables e below (T'.setTop { g with pc := g.pc + 3, stack := v.toList ++ rest }) target → Steps p.tables e below (T.setTop g) target := by
  obtain ⟨cB, kB, qa, qb, qc⟩ := isOf hZ eT E
  obtain ⟨v, vm, ⟨T', L', k', n'⟩, -, X', ⟨L, hQ, e1, e2, e3⟩, st⟩ := X.virtualBack hx hown (mvT hZ w1) (mvT hZ w2) nf (mvT hZ w5) (mvT hZ w6) hy (OMet.back (W := W) hM hZ w4 w3 hf hl) qa qc (g := g) hg hsize (Steps.refl _) hlen hstack hW hd (fun _ _ => ⟨ha, eT, hc, hs⟩)
  dsimp only [Pt.U, Pt.locs, Pt.cells, Pt.slots] at X' e1 e2 e3 st hQ
  subst e1 e2 e3
  exact ⟨v, T', L, X', hQ, fun _ k => st.trans k⟩
/-- a call through an interface by the contract of the body that the receiver's class selects -/
theorem OMet.iface (hM : OMet l Z y bytes maxL ret [] rm as' h Q) (X : Stand p l e R s m args below meth c T locs cells slots) (hx : p.tables.exec = Jvm.exec) (hZ : Z.Warmed39 s.vm) {own C : String} {index count W : Nat} {y0 : MethodName} (hown : s.vm.findClass own = some m.cls)
    (w1 : (Jvm.Cond.methodLink own index y0).before a0 Z = true) (w2 : (Jvm.Cond.declares y0).before a0 Z = true) (w7 : (Jvm.Cond.interfaceMethod y0.cls y0.cls y0.name y0.desc).before a0 Z = true) (w5 : (Jvm.Cond.selects C y0 y).before a0 Z = true) (w6 : (Jvm.Cond.instanceMethod y).before a0 Z = true)
    (w8 : (Jvm.Cond.publicMethod y).before a0 Z = true) (w9 : (Jvm.Cond.unhidden C y0.name y0.desc).before a0 Z = true) (w0 : (Jvm.Cond.castable C y0.cls).before a0 Z = true) (w3 : (Jvm.Cond.initialized y.cls).before a0 Z = true) (w4 : (Jvm.Cond.code y bytes maxL ret).before a0 Z = true)
    (hy : y0.cls ≠ "java/lang/invoke/MethodHandle" ∧ y0.cls ≠ "java/lang/invoke/VarHandle") (hf : rm.frames + 1 ≤ R.frames) (hl : W + (maxL + 11) + rm.locals ≤ R.locals) (eT : T.heap = h) (hc : cells + rm.cells ≤ R.cells) (hs : slots + rm.slots ≤ R.slots)
    {g : JFrame} (hg : g.method = m) (hsize : g.locals.size = c.maxLocals) {a : Addr} (E : Exa Z h a C) {argsL rest : List Value} (ha : (Value.ref a :: argsL).toArray = as') (hlen : ∀ sig, parseMethodDescriptor y0.desc = some sig → argsL.length = sig.parameters.length) (hstack : g.stack = argsL.reverse ++ .ref a :: rest) (hW : 2 * g.monitorRoom + (rest.map fun v => v.category).sum ≤ W)
    (hd : decode c.code g.pc = .ok (.invokeinterface index count, 5)) :
    ∃ (v : Option Value) (T' : State) (L : List Loc), Stand p l e R s m args below meth c T' (locs ++ L) (cells + rm.cells) (slots + rm.slots) ∧ Q v T'.heap L ∧ ∀ target, Steps p.tables e below (T'.setTop { g with pc := g.pc + 5, stack := v.toList ++ rest }) target → Steps p.tables e below (T.setTop g) target := by
  obtain ⟨cB, kB, qa, qb, qc⟩ := isOf hZ eT E
  obtain ⟨v, vm, ⟨T', L', k', n'⟩, -, X', ⟨L, hQ, e1, e2, e3⟩, st⟩ := X.interfaceBack hx hown (mvT hZ w1) (mvT hZ w2) (mvT hZ w7 (by simp [Cond.onTables, Cond.keepsFace, Cond.keeps, Cond.steady, Cond.faceAtom, hy.1, hy.2])) (mvT hZ w5) (mvT hZ w6) (mvT hZ w8) (mvT hZ w9) (mvT hZ w0) hy (OMet.back (W := W) hM hZ w4 w3 hf hl) qa qb qc (g := g) hg hsize (Steps.refl _) hlen hstack hW hd (fun _ _ => ⟨ha, eT, hc, hs⟩)
  dsimp only [Pt.U, Pt.locs, Pt.cells, Pt.slots] at X' e1 e2 e3 st hQ
  subst e1 e2 e3
  exact ⟨v, T', L, X', hQ, fun _ k => st.trans k⟩
end M
theorem nf_sel {C : String} {y : MethodName} (hZ : Z.Warmed39 s.vm) (w : (Jvm.Cond.selects C y y).before a0 Z = true) : NotFace s y := notFace_of_selects (args := #[]) (mvT hZ w)
/-- the returns -/
theorem own_ret (X : Stand p l e R s m args below meth c T locs cells slots) {rm : Room} {Q : Option Value → Heap → List Loc → Prop} {A : State} {v : Option Value} (hv : meth.sig.returnType = none → v = none) (hlk : meth.locks = false)
    (k : ∀ fs, (∀ (f : JFrame) (acts : List Action), f.method = m → f.locked = none → f.entered = [] → (doReturn e (T.setTop f) acts v).1 = T.setFrames fs) → Steps p.tables e below A (T.setFrames fs)) (hQ : Q v T.heap locs) (hc : cells ≤ rm.cells) (hs : slots ≤ rm.slots) : OGo p e below (ODone s rm Q) A := by
  obtain ⟨fs, hr, hrun, hended, hW, hsame⟩ := X.leave (v := v) hv hlk
  exact ⟨_, _, k fs hr, hrun, hended, v, locs, rfl, hQ, ⟨_, rfl⟩, hW, hsame.mono hc hs⟩
theorem own_retZ (X : Stand p l e R s m args below meth c T locs cells slots) (hx : p.tables.exec = Jvm.exec) {rm : Room} {Q : Option Value → Heap → List Loc → Prop} {pc : Nat} {Ls : Array Slot} {z : Int32} {rest : List Value} (hret : meth.sig.returnType = some .boolean) (hlk : meth.locks = false)
    (hd : decode c.code pc = .ok (.ireturn, 1)) (hQ : Q (some (.int (nar .boolean z))) T.heap locs) (hc : cells ≤ rm.cells) (hs : slots ≤ rm.slots) : OGo p e below (ODone s rm Q) (T.setTop (mkF m pc Ls (.int z :: rest))) :=
  own_ret X (fun h => by rw [hret] at h; cases h) hlk (fun fs hr => retN X hx hret (Or.inl rfl) hd hr) hQ hc hs
theorem own_retI (X : Stand p l e R s m args below meth c T locs cells slots) (hx : p.tables.exec = Jvm.exec) {rm : Room} {Q : Option Value → Heap → List Loc → Prop} {pc : Nat} {Ls : Array Slot} {z : Int32} {rest : List Value} (hret : meth.sig.returnType = some .int) (hlk : meth.locks = false)
    (hd : decode c.code pc = .ok (.ireturn, 1)) (hQ : Q (some (.int z)) T.heap locs) (hc : cells ≤ rm.cells) (hs : slots ≤ rm.slots) : OGo p e below (ODone s rm Q) (T.setTop (mkF m pc Ls (.int z :: rest))) :=
  own_ret X (fun h => by rw [hret] at h; cases h) hlk (fun fs hr => retOut X hx hret rfl (Or.inl ⟨rfl, Or.inl rfl, z, rfl⟩) hd hr) hQ hc hs
theorem own_retJ (X : Stand p l e R s m args below meth c T locs cells slots) (hx : p.tables.exec = Jvm.exec) {rm : Room} {Q : Option Value → Heap → List Loc → Prop} {pc : Nat} {Ls : Array Slot} {z : Int64} {rest : List Value} (hret : meth.sig.returnType = some .long) (hlk : meth.locks = false)
    (hd : decode c.code pc = .ok (.lreturn, 1)) (hQ : Q (some (.long z)) T.heap locs) (hc : cells ≤ rm.cells) (hs : slots ≤ rm.slots) : OGo p e below (ODone s rm Q) (T.setTop (mkF m pc Ls (.long z :: rest))) :=
  own_ret X (fun h => by rw [hret] at h; cases h) hlk (fun fs hr => retOut X hx hret rfl (Or.inr (Or.inl ⟨rfl, rfl, z, rfl⟩)) hd hr) hQ hc hs
theorem own_retA (X : Stand p l e R s m args below meth c T locs cells slots) (hx : p.tables.exec = Jvm.exec) {rm : Room} {Q : Option Value → Heap → List Loc → Prop} {pc : Nat} {Ls : Array Slot} {w : Value} {t : FieldType} {rest : List Value} (hret : meth.sig.returnType = some t) (hlk : meth.locks = false)
    (hn : narrow t w = w) (ht : t.isReference = true) (hw : w.isRef = true) (hd : decode c.code pc = .ok (.areturn, 1)) (hQ : Q (some w) T.heap locs) (hc : cells ≤ rm.cells) (hs : slots ≤ rm.slots) : OGo p e below (ODone s rm Q) (T.setTop (mkF m pc Ls (w :: rest))) :=
  own_ret X (fun h => by rw [hret] at h; cases h) hlk (fun fs hr => retOut X hx hret hn (Or.inr (Or.inr (Or.inr (Or.inr ⟨rfl, ht, hw⟩)))) hd hr) hQ hc hs
theorem own_ret0 (X : Stand p l e R s m args below meth c T locs cells slots) (hx : p.tables.exec = Jvm.exec) {rm : Room} {Q : Option Value → Heap → List Loc → Prop} {pc : Nat} {Ls : Array Slot} (hret : meth.sig.returnType = none) (hlk : meth.locks = false)
    (hd : decode c.code pc = .ok (.return_, 1)) (hQ : Q none T.heap locs) (hc : cells ≤ rm.cells) (hs : slots ≤ rm.slots) : OGo p e below (ODone s rm Q) (T.setTop (mkF m pc Ls [])) :=
  own_ret X (fun _ => rfl) hlk (fun fs hr => X.returnOut hx hret hd hr) hQ hc hs
/-- a body that returns r and leaves the heap as it was -/
def OPure (r : Option Value) (h0 : Heap) (n0 : Nat) (v : Option Value) (h : Heap) (L : List Loc) : Prop := v = r ∧ Fr n0 L ∧ h = h0
/-- the start's words -/
theorem own_int {k : Int32} {t : Term} (hq : (Jvm.Cond.eq t (.int k)).value args s none s [] = some true) : t.eval args s none [] s = some (.int k) := by
  obtain ⟨x, y, e1, e2, k1, k2⟩ := cmp_v (Or.inl hq)
  have e3 : y = .int k := (Option.some.inj e2).symm
  subst e3
  obtain ⟨z, rfl⟩ := k2
  have q : (Jvm.Cond.eq t (.int k)).value args s none s [] = some (decide (z = k)) := by simp [Jvm.Cond.value, e1, Term.eval]
  rw [e1, gotT q hq]
theorem own_long {k : Int64} {t : Term} (hq : (Jvm.Cond.eq t (.long k)).value args s none s [] = some true) : t.eval args s none [] s = some (.long k) := by
  obtain ⟨x, y, e1, e2, k1, k2⟩ := cmp_v (Or.inl hq)
  have e3 : y = .long k := (Option.some.inj e2).symm
  subst e3
  obtain ⟨z, rfl⟩ := k2
  have q : (Jvm.Cond.eq t (.long k)).value args s none s [] = some (decide (z = k)) := eq_L e1 e2
  rw [e1, gotT q hq]
theorem own_ord {k : Int32} {t : Term} {C n d : String} {x : Addr} (ht : t.eval args s none [] s = some (.ref x)) (hq : (Jvm.Cond.eq (.field t C n d) (.int k)).value args s none s [] = some true) : Fld s s.heap x C n d (.int k) :=
  Fld.start ((fld_at ht).symm.trans (own_int hq))
theorem own_ordL {k : Int64} {t : Term} {C n d : String} {x : Addr} (ht : t.eval args s none [] s = some (.ref x)) (hq : (Jvm.Cond.eq (.field t C n d) (.long k)).value args s none s [] = some true) : Fld s s.heap x C n d (.long k) :=
  Fld.start ((fld_at ht).symm.trans (own_long hq))
theorem own_sta {t : String × String × String} {C : String} (hq : (Jvm.Cond.exactly (.static t.1 t.2.1 t.2.2) C).value args s none s [] = some true) (w1 : (Jvm.Cond.initialized t.1).before args s = true) (w2 : (Jvm.Cond.laysStatic t.1 t.2.1 t.2.2).before args s = true) :
    ∃ a, (Term.static t.1 t.2.1 t.2.2).eval args s none [] s = some (.ref a) ∧ Sta s s.heap t.1 t.2.1 t.2.2 (.ref a) ∧ Exa s s.heap a C := by
  obtain ⟨a, ea⟩ := exa_v hq
  exact ⟨a, ea, Sta.start ea (Or.inr ⟨w1, w2⟩), Exa.start ea hq⟩
theorem own_len {t : Term} {a : Addr} {c : Cell} {z : Int32} (et : t.eval args s none [] s = some (.ref a)) (ha : s.arrayAt? a = some c) (hq : (Term.length t).eval args s none [] s = some (.int z)) : c.slots.size < 2 ^ 31 ∧ c.slots.size.toInt32 = z := by
  by_cases hl : c.slots.size < 2 ^ 31
  · rw [len_f et ha hl] at hq
    exact ⟨hl, Value.int.inj (Option.some.inj hq)⟩
  · simp [Term.eval, et, ha, hl] at hq
theorem own_b01 {z : Int32} (hz : z = 0 ∨ z = 1) : narrow .boolean (.int z) = .int z ∧ fits .boolean (.int z) = true ∧ nar .boolean z = z := by
  rcases hz with rfl | rfl <;> decide
theorem own_ns_root {O K : String} {n : Nat} (w : (Jvm.Cond.noSuperclass O).before a0 Z = true) (wi : (Jvm.Cond.instantiable K n).before a0 Z = true) (hn : O ≠ K) : NS Z O K := by
  obtain ⟨c, k, h1, h2, h3, -⟩ := Cond.noSuperclass_spec w
  obtain ⟨t, kt, g1, -⟩ := Cond.instantiable_spec wi
  refine ⟨c, t, h1, g1, fun f => ?_⟩
  cases f with
  | zero => rfl
  | succ f => simp [Vm.isSubclassAux, ids_ne h1 g1 hn, h2, h3]
theorem own_ns_no {C S K : String} {n : Nat} (w : (Jvm.Cond.superclass C S).before a0 Z = true) (wi : (Jvm.Cond.instantiable K n).before a0 Z = true) (N : NS Z C K) (hn : C ≠ K) : ∃ c t, Z.vm.findClass C = some c ∧ Z.vm.findClass K = some t ∧ Z.vm.assignable c t = false := by
  obtain ⟨c, t, h0, g0, n3⟩ := N
  obtain ⟨p, k, kp, -, h2, -, -, h5, -, h7⟩ := Cond.superclass_spec h0 w
  obtain ⟨t', kt, g1, g2, g3, g4, -⟩ := Cond.instantiable_spec wi
  cases g0.symm.trans g1
  have g5 : kt.isInterface = false := (Bool.or_eq_false_iff.mp g4).1
  refine ⟨c, t, h0, g0, ?_⟩
  show Z.vm.assignableAux (255 + 1) c t = false
  simp [Vm.assignableAux, ids_ne h0 g0 hn, h2, g2, h5, g3, g5, Vm.isSubclass, n3]
end Own
section OwnW
variable {p : Program} {l : Launch} {e : Env} {R : Room} {s : State} {m : MethodId} {args : Array Value} {below : List Frame} {meth : Method} {c : Code} {T : State} {locs : List Loc} {cells slots : Nat} {Z : State} {a0 : Array Value} {h h' : Heap}
/-- what a law that loads String constants leaves -/
def ODoneW (s : State) (rm : Room) (Q : Option Value → Heap → List Loc → Prop) (t : State) (o : Outcome) : Prop := ∃ v L, o = .returned v ∧ Q v t.heap L ∧ ReturnedEndW s o t L rm.cells rm.slots
/-- the law's own contract, from the very start Z -/
def OLaw (l : Launch) (Z : State) (y : MethodName) (bytes : ByteArray) (maxL : Nat) (ret : Option FieldType) (ws : List Jvm.Cond) (rm : Room) (as' : Array Value) (Q : Option Value → Heap → List Loc → Prop) : Prop :=
  MetFree l y (head1 (Jvm.Cond.code y bytes maxL ret :: ws) rm) (fun a U => a = as' ∧ U = Z) (fun _ _ _ _ _ => True) (fun _ U o U' => ∃ v L, o = .returned v ∧ Q v U'.heap L ∧ ReturnedEndW U o U' L rm.cells rm.slots)
theorem OLaw.of {y : MethodName} {bytes : ByteArray} {maxL : Nat} {ret : Option FieldType} {ws : List Jvm.Cond} {rm : Room} {as' : Array Value} {Q : Option Value → Heap → List Loc → Prop} (hp : plainFor y = true)
    (body : ∀ (p : Program) (e : Env) (m : MethodId) (below : List Frame) (meth : Method) (c : Code) (s₁ : State), p.tables.exec = Jvm.exec → c.code = bytes → c.maxLocals = maxL → Z.vm.findClass y.cls = some m.cls → meth.name = y.name → meth.sig.returnType = ret → meth.locks = false →
      Stand p l e rm Z m as' below meth c s₁ [] 0 0 → s₁.heap = Z.heap → OGo p e below (ODoneW Z rm Q) (s₁.setTop (entryFrame m as' maxL))) : OLaw l Z y bytes maxL ret ws rm as' Q := by
  refine MetFree.of_bodySF hp hisR ?_
  intro p e s m args below meth c s₁ Bd hml hP hK
  obtain ⟨hA, hU⟩ := hP
  subst hA
  subst hU
  exact body p e m below meth c s₁ Bd.exec Bd.bytes hml (findClass_of_methodNamed Bd.named) (name_of_methodNamed Bd.named Bd.method).1 Bd.returns Bd.notSynchronized (Stand.of_body Bd) (by rw [Bd.state]; rfl)
theorem own_retZW {vm₁ : Vm} (X : Stand p l e R (s.setVm vm₁) m args below meth c T locs cells slots) (hx : p.tables.exec = Jvm.exec) {n : Nat} (hS : s.Since vm₁ n) (hn : n ≤ T.heap.size) {rm : Room} {Q : Option Value → Heap → List Loc → Prop} {pc : Nat} {Ls : Array Slot} {z : Int32} {rest : List Value} (hret : meth.sig.returnType = some .boolean) (hlk : meth.locks = false)
    (hd : decode c.code pc = .ok (.ireturn, 1)) (hQ : Q (some (.int (nar .boolean z))) T.heap locs) (hc : cells ≤ rm.cells) (hs : slots ≤ rm.slots) : OGo p e below (ODoneW s rm Q) (T.setTop (mkF m pc Ls (.int z :: rest))) := by
  obtain ⟨fs, hr, hrun, hended, hE⟩ := X.leaveW hS hn (v := some (.int (nar .boolean z))) (fun h => by rw [hret] at h; cases h) hlk
  exact ⟨_, _, retN X hx hret (Or.inl rfl) hd hr, hrun, hended, _, locs, rfl, hQ, hE.1, hE.2.1, hE.2.2.1, hE.2.2.2.mono hc hs⟩
theorem own_strings (w1 : (Jvm.Cond.initialized "java/lang/String").before a0 Z = true) (w2 : (Jvm.Cond.instantiable "java/lang/String" 4).before a0 Z = true) (w3 : (Jvm.Cond.arrayClass .byte).before a0 Z = true) (w4 : (Jvm.Cond.laysFinal "java/lang/String" "java/lang/String" "value" "[B").before a0 Z = true)
    (w5 : (Jvm.Cond.laysFinal "java/lang/String" "java/lang/String" "coder" "B").before a0 Z = true) (w6 : (Jvm.Cond.soleField "java/lang/String" "value").before a0 Z = true) (w7 : (Jvm.Cond.soleField "java/lang/String" "coder").before a0 Z = true) : ∀ d ∈ Bundle.stringAtoms, d.before a0 Z = true := by
  intro d hd
  simp only [Bundle.stringAtoms, List.mem_cons, List.not_mem_nil, or_false] at hd
  rcases hd with rfl | rfl | rfl | rfl | rfl | rfl | rfl
  · exact w1
  · exact w2
  · exact w3
  · exact w4
  · exact w5
  · exact w6
  · exact w7
end OwnW
section OwnLit
variable {p : Program} {l : Launch} {e : Env} {R : Room} {s : State} {m : MethodId} {args : Array Value} {below : List Frame} {meth : Method} {c : Code} {T : State} {locs : List Loc} {cells slots : Nat} {Z : State} {a0 : Array Value} {h : Heap} {vm0 : Vm}
/-- the empty literal's two cells, as facts of the walk -/
theorem own_lit {W : State} (hal : Z.vm.Alike W.vm) {lo hi : Nat} {a : Addr} {units : Array UInt16} (H : Jvm.SlIn lo hi W a units) (hu : (stringBytes units).size = 0) :
    ∃ (b : Addr) (k : ClassId), Exa Z W.heap a "java/lang/String" ∧ Fld Z W.heap a "java/lang/String" "coder" "B" (.int 0) ∧ Fld Z W.heap a "java/lang/String" "value" "[B" (.ref b) ∧ Arv Z W.heap b k .byte 0 [] (.int 0) ∧ Exa Z W.heap b "[B" := by
  obtain ⟨q, cS, rfl, ⟨⟨s1, s2, s3, ⟨cv, kv, iv, s4, s4'⟩, ⟨cc, kc, ic, s5, s5'⟩, s6, s7, s8, s9, s10, s11, s12, -, -, -, s16⟩, hfS, hcS⟩, ⟨kS, k1, k2, k3⟩, hB, hbyt, -⟩ := H
  obtain ⟨kv', z4⟩ := ff_back hal s4
  obtain ⟨kc', z5⟩ := ff_back hal s5
  have hfZ : Z.vm.findClass "java/lang/String" = some q.sC.cls := by rw [← hal.findClass, hcS]; exact hfS
  obtain ⟨kz, hkz, -⟩ := Vm.findClass_spec hfZ
  obtain ⟨kz', hkz', ekz⟩ := hal.2.2 _ _ hkz
  have ekS : kz' = kS := Option.some.inj (hkz'.symm.trans (hcS ▸ k1))
  have hBZ : Z.vm.findClass "[B" = some q.SA.cls := by rw [← hal.findClass]; exact hB
  obtain ⟨kb, hkb, -⟩ := Vm.findClass_spec hBZ
  obtain ⟨kb', hkb', ekb⟩ := hal.2.2 _ _ hkb
  obtain ⟨hst, k9, hk9, comp, hkind9⟩ := s11
  have ek9 : k9 = kb' := Option.some.inj (hk9.symm.trans hkb')
  have hkB : kb.kind = .array comp .byte := by rw [ek9, ekb] at hkind9; exact hkind9
  have hz : q.SA.slots.size = 0 := by rw [hbyt]; exact hu
  refine ⟨q.sd, q.SA.cls, ⟨q.sC, kz, s1, hfZ, hkz, s3, fun _ => by rw [k3, ← ekS, ekz]⟩, ⟨q.sC, cc, kc', ic, q.fSC, s1, z5, s7, s2, s3, by rw [← hal.assignable]; exact s5', s9⟩, ⟨q.sC, cv, kv', iv, q.fSV, s1, z4, s6, s2, s3, by rw [← hal.assignable]; exact s4', s8⟩, ?_, ?_⟩
  · exact ⟨q.SA, ⟨s10, ⟨hst, kb, hkb, comp, hkB⟩, s12⟩, rfl, by rw [hz]; rfl, by decide, fun i hi => by rw [hz] at hi; exact absurd hi (Nat.not_lt_zero _), fun i hi => by rw [hz] at hi; exact absurd hi (Nat.not_lt_zero _)⟩
  · have hst' : q.SA.vm.isStatics = false := by cases hv : q.SA.vm <;> first | rfl | exact absurd hv (hst _)
    exact ⟨q.SA, kb, s10, hBZ, hkb, hst', fun ho => by rw [hkB] at ho; cases ho⟩
/-- ldc of the empty String, read -/
theorem own_ldcE (X : Stand p l e R (s.setVm vm0) m args below meth c T locs cells slots) (hx : p.tables.exec = Jvm.exec) (hZ : Z.Warmed39 vm0) {own : String} {index : Nat} (hown : vm0.findClass own = some m.cls) (w : (Jvm.Cond.stringLink own index "").before a0 Z = true) (wS : ∀ a ∈ Bundle.stringAtoms, a.before a0 Z = true)
    (eT : T.heap = h) {k0 : Nat} (hS : s.Since vm0 k0) (hk : k0 ≤ h.size) (N : Fr s.heap.size locs) (hkeep : ∀ (b : Addr) (cl : Cell), Z.heap[b]? = some cl → s.heap[b]? = some cl) (I : IB Z vm0 []) (hh : Jvm.Lit.constHeld Z own index) (hcw : Jvm.Lit.compactW.before a0 Z = true)
    {g : JFrame} (hg : g.method = m) (hd : decode c.code g.pc = .ok (.ldc index, 2)) (hc : cells + 2 ≤ R.cells) (hl' : slots + (0 + 4) ≤ R.slots) :
    ∃ (a : Addr) (T' : State) (h' : Heap) (k1 : Nat) (b : Addr) (k : ClassId), Stand p l e R (s.setVm T'.vm) m args below meth c T' locs (cells + 2) (slots + (0 + 4)) ∧ T'.heap = h' ∧ Ext h h' ∧ s.Since T'.vm k1 ∧ k1 ≤ h'.size ∧ Z.Warmed39 (s.setVm T'.vm).vm ∧ (s.setVm T'.vm).vm.findClass own = some m.cls ∧
      Exa Z h' a "java/lang/String" ∧ Fld Z h' a "java/lang/String" "coder" "B" (.int 0) ∧ Fld Z h' a "java/lang/String" "value" "[B" (.ref b) ∧ Arv Z h' b k .byte 0 [] (.int 0) ∧ Exa Z h' b "[B" ∧
      ∀ target, Steps p.tables e below (T'.setTop { g with pc := g.pc + 2, stack := .ref a :: g.stack }) target → Steps p.tables e below (T.setTop g) target := by
  have ht : ∀ c ∈ ("" : String).toList, c.toNat < 256 := by simp
  have wi : (Jvm.Cond.instantiable "java/lang/String" 4).before a0 Z = true := wS _ (by simp [Bundle.stringAtoms, Bundle.sN])
  have wa : (Jvm.Cond.arrayClass .byte).before a0 Z = true := wS _ (by simp [Bundle.stringAtoms])
  have hH : ConstHeldL (s.setVm vm0) own index := heldCarry hZ w I (by simp) hkeep (heldStart hh w ht hcw wa wi)
  have wS' : ∀ d ∈ Bundle.stringAtoms, d.before args (s.setVm vm0) = true := by
    intro d hd
    have q := wS d hd
    simp only [Bundle.stringAtoms, List.mem_cons, List.not_mem_nil, or_false] at hd
    rcases hd with rfl | rfl | rfl | rfl | rfl | rfl | rfl
    · exact mv (s := s.setVm vm0) hZ q
    · exact mv (s := s.setVm vm0) hZ q
    · exact mvA (s := s.setVm vm0) hZ q
    · exact mv (s := s.setVm vm0) hZ q
    · exact mv (s := s.setVm vm0) hZ q
    · exact mv (s := s.setVm vm0) hZ q
    · exact mv (s := s.setVm vm0) hZ q
  obtain ⟨a, T', X', hS', -, hb, -, -, ⟨units, htext, hin⟩, st⟩ := X.ldcColdF (oldF X N) hx (own := own) hown (mvS hZ w) wS' hH (fun units hu => Jvm.ClassFile.lat_of_text hu ht) hg hd (n := 0) (by simp) (by decide) hc hl'
  subst eT
  have E := ext_of hb
  have hW : Z.Warmed39 T'.vm := State.Warmed39.trans (t := s.setVm vm0) hZ hS'.1
  obtain ⟨b, k, r1, r2, r3, r4, r5⟩ := own_lit hW.alike hin (Nat.le_zero.mp (text_bytes_le htext))
  exact ⟨a, T', _, _, b, k, X', rfl, E, hS.trans hS' (Nat.le_trans hk E.1), Nat.le_refl _, hW, by rw [show (s.setVm T'.vm).vm = T'.vm from rfl, hS'.1.alike.findClass]; exact hown, r1, r2, r3, r4, r5, st⟩
/-- the return of a byte -/
theorem own_retB (X : Stand p l e R s m args below meth c T locs cells slots) (hx : p.tables.exec = Jvm.exec) {rm : Room} {Q : Option Value → Heap → List Loc → Prop} {pc : Nat} {Ls : Array Slot} {z : Int32} {rest : List Value} (hret : meth.sig.returnType = some .byte) (hlk : meth.locks = false)
    (hd : decode c.code pc = .ok (.ireturn, 1)) (hQ : Q (some (.int (nar .byte z))) T.heap locs) (hc : cells ≤ rm.cells) (hs : slots ≤ rm.slots) : OGo p e below (ODone s rm Q) (T.setTop (mkF m pc Ls (.int z :: rest))) :=
  own_ret X (fun h => by rw [hret] at h; cases h) hlk (fun fs hr => retN X hx hret (Or.inr (Or.inl rfl)) hd hr) hQ hc hs
end OwnLit
theorem d1_0 : decode jdk_29_method_66_code 0 = .ok (.lload_n 0, 1) := by decide +kernel
theorem d1_1 : decode jdk_29_method_66_code 1 = .ok (.lload_n 2, 1) := by decide +kernel
theorem d1_2 : decode jdk_29_method_66_code 2 = .ok (.lcmp, 1) := by decide +kernel
theorem d1_3 : decode jdk_29_method_66_code 3 = .ok (.ifCond .lt 7, 3) := by decide +kernel
theorem d1_6 : decode jdk_29_method_66_code 6 = .ok (.lload_n 0, 1) := by decide +kernel
theorem d1_7 : decode jdk_29_method_66_code 7 = .ok (.goto 4, 3) := by decide +kernel
theorem d1_10 : decode jdk_29_method_66_code 10 = .ok (.lload_n 2, 1) := by decide +kernel
theorem d1_11 : decode jdk_29_method_66_code 11 = .ok (.lreturn, 1) := by decide +kernel
theorem ef_rm1 (m : MethodId) (x0 : Int64) (x1 : Int64) : entryFrame m #[(.long x0), (.long x1)] 4 = mkF m 0 #[.val (.long x0), .second, .val (.long x1), .second] [] := by first | (simp [entryFrame, mkF, argsToLocals, Value.category]; done) | rfl
set_option maxRecDepth 65536 in
set_option maxHeartbeats 40000000 in
theorem rm1 (l : Launch) (Z : State) (a0 : Array Value) (hw : ∀ d ∈ tables_1, d.before a0 Z = true) (a b r : Int64) (h0 : Heap) (n0 : Nat) (hr : (if a < b then b else a) = r) :
    OMet l Z (⟨"java/lang/Math", "max", "(JJ)J"⟩ : MethodName) jdk_29_method_66_code 4 (some .long) [] ({ frames := 0, cells := 0, slots := 0, locals := 0 } : Room) #[(.long a), (.long b)] h0 (OPure (some (.long r)) h0 n0) := by
  refine OMet.of (Jvm.Free.JP.mathPlain rfl (by decide +kernel)) ?_
  intro p e s m below meth c s₁ hx hby hml hnd hown hnm hret hlk hZ X0 e0
  replace hown : s.vm.findClass "java/lang/Math" = some m.cls := hown
  replace hml : c.maxLocals = 4 := hml
  have N0 := Fr.nil n0
  rw [ef_rm1 m a b]
  refine OGo.st (B := s₁.setTop (mkF m 1 #[.val (.long a), .second, .val (.long b), .second] [(.long a)])) (fun _ kz => XS.lloadN X0.here hx rfl (hb hby d1_0) rfl kz) ?_
  refine OGo.st (B := s₁.setTop (mkF m 2 #[.val (.long a), .second, .val (.long b), .second] [(.long b), (.long a)])) (fun _ kz => XS.lloadN X0.here hx rfl (hb hby d1_1) rfl kz) ?_
  refine OGo.st (B := s₁.setTop (mkF m 3 #[.val (.long a), .second, .val (.long b), .second] [(.int (lcmpW a b))])) (fun _ kz => XS.lcmp X0.here hx rfl (hb hby d1_2) rfl kz) ?_
  by_cases h1 : a < b
  · skip
    refine OGo.st (B := s₁.setTop (mkF m 10 #[.val (.long a), .second, .val (.long b), .second] [])) (fun _ kz => XS.ifYes X0.here hx rfl (pc0 := 3) (pc' := 10) rfl (hb hby d1_3) rfl ((if0 _ _).trans (tlt ((lw_lt _ _).mpr h1)).1) (by decide) (by decide) kz) ?_
    refine OGo.st (B := s₁.setTop (mkF m 11 #[.val (.long a), .second, .val (.long b), .second] [(.long b)])) (fun _ kz => XS.lloadN X0.here hx rfl (hb hby d1_10) rfl kz) ?_
    exact own_retJ X0 hx hret hlk (hb hby d1_11) ⟨by rw [← hr, if_pos h1], N0, e0⟩ (by decide) (by decide)
  · skip
    refine OGo.st (B := s₁.setTop (mkF m 6 #[.val (.long a), .second, .val (.long b), .second] [])) (fun _ kz => XS.ifNo X0.here hx rfl (hb hby d1_3) rfl ((if0 _ _).trans (flt (mt (lw_lt _ _).mp h1)).1) kz) ?_
    refine OGo.st (B := s₁.setTop (mkF m 7 #[.val (.long a), .second, .val (.long b), .second] [(.long a)])) (fun _ kz => XS.lloadN X0.here hx rfl (hb hby d1_6) rfl kz) ?_
    refine OGo.st (B := s₁.setTop (mkF m 11 #[.val (.long a), .second, .val (.long b), .second] [(.long a)])) (fun _ kz => XS.goto X0.here hx rfl (pc0 := 7) (pc' := 11) rfl (hb hby d1_7) (by decide) (by decide) kz) ?_
    exact own_retJ X0 hx hret hlk (hb hby d1_11) ⟨by rw [← hr, if_neg h1], N0, e0⟩ (by decide) (by decide)
theorem d2_0 : decode jdk_29_method_70_code 0 = .ok (.lload_n 0, 1) := by decide +kernel
theorem d2_1 : decode jdk_29_method_70_code 1 = .ok (.lload_n 2, 1) := by decide +kernel
theorem d2_2 : decode jdk_29_method_70_code 2 = .ok (.lcmp, 1) := by decide +kernel
theorem d2_3 : decode jdk_29_method_70_code 3 = .ok (.ifCond .gt 7, 3) := by decide +kernel
theorem d2_6 : decode jdk_29_method_70_code 6 = .ok (.lload_n 0, 1) := by decide +kernel
theorem d2_7 : decode jdk_29_method_70_code 7 = .ok (.goto 4, 3) := by decide +kernel
theorem d2_10 : decode jdk_29_method_70_code 10 = .ok (.lload_n 2, 1) := by decide +kernel
theorem d2_11 : decode jdk_29_method_70_code 11 = .ok (.lreturn, 1) := by decide +kernel
theorem ef_rm2 (m : MethodId) (x0 : Int64) (x1 : Int64) : entryFrame m #[(.long x0), (.long x1)] 4 = mkF m 0 #[.val (.long x0), .second, .val (.long x1), .second] [] := by first | (simp [entryFrame, mkF, argsToLocals, Value.category]; done) | rfl
set_option maxRecDepth 65536 in
set_option maxHeartbeats 40000000 in
theorem rm2 (l : Launch) (Z : State) (a0 : Array Value) (hw : ∀ d ∈ tables_1, d.before a0 Z = true) (a b r : Int64) (h0 : Heap) (n0 : Nat) (hr : (if b < a then b else a) = r) :
    OMet l Z (⟨"java/lang/Math", "min", "(JJ)J"⟩ : MethodName) jdk_29_method_70_code 4 (some .long) [] ({ frames := 0, cells := 0, slots := 0, locals := 0 } : Room) #[(.long a), (.long b)] h0 (OPure (some (.long r)) h0 n0) := by
  refine OMet.of (Jvm.Free.JP.mathPlain rfl (by decide +kernel)) ?_
  intro p e s m below meth c s₁ hx hby hml hnd hown hnm hret hlk hZ X0 e0
  replace hown : s.vm.findClass "java/lang/Math" = some m.cls := hown
  replace hml : c.maxLocals = 4 := hml
  have N0 := Fr.nil n0
  rw [ef_rm2 m a b]
  refine OGo.st (B := s₁.setTop (mkF m 1 #[.val (.long a), .second, .val (.long b), .second] [(.long a)])) (fun _ kz => XS.lloadN X0.here hx rfl (hb hby d2_0) rfl kz) ?_
  refine OGo.st (B := s₁.setTop (mkF m 2 #[.val (.long a), .second, .val (.long b), .second] [(.long b), (.long a)])) (fun _ kz => XS.lloadN X0.here hx rfl (hb hby d2_1) rfl kz) ?_
  refine OGo.st (B := s₁.setTop (mkF m 3 #[.val (.long a), .second, .val (.long b), .second] [(.int (lcmpW a b))])) (fun _ kz => XS.lcmp X0.here hx rfl (hb hby d2_2) rfl kz) ?_
  by_cases h1 : b < a
  · skip
    refine OGo.st (B := s₁.setTop (mkF m 10 #[.val (.long a), .second, .val (.long b), .second] [])) (fun _ kz => XS.ifYes X0.here hx rfl (pc0 := 3) (pc' := 10) rfl (hb hby d2_3) rfl ((if0 _ _).trans (tlt ((lw_gt _ _).mpr h1)).2.2.1) (by decide) (by decide) kz) ?_
    refine OGo.st (B := s₁.setTop (mkF m 11 #[.val (.long a), .second, .val (.long b), .second] [(.long b)])) (fun _ kz => XS.lloadN X0.here hx rfl (hb hby d2_10) rfl kz) ?_
    exact own_retJ X0 hx hret hlk (hb hby d2_11) ⟨by rw [← hr, if_pos h1], N0, e0⟩ (by decide) (by decide)
  · skip
    refine OGo.st (B := s₁.setTop (mkF m 6 #[.val (.long a), .second, .val (.long b), .second] [])) (fun _ kz => XS.ifNo X0.here hx rfl (hb hby d2_3) rfl ((if0 _ _).trans (flt (mt (lw_gt _ _).mp h1)).2.2.1) kz) ?_
    refine OGo.st (B := s₁.setTop (mkF m 7 #[.val (.long a), .second, .val (.long b), .second] [(.long a)])) (fun _ kz => XS.lloadN X0.here hx rfl (hb hby d2_6) rfl kz) ?_
    refine OGo.st (B := s₁.setTop (mkF m 11 #[.val (.long a), .second, .val (.long b), .second] [(.long a)])) (fun _ kz => XS.goto X0.here hx rfl (pc0 := 7) (pc' := 11) rfl (hb hby d2_7) (by decide) (by decide) kz) ?_
    exact own_retJ X0 hx hret hlk (hb hby d2_11) ⟨by rw [← hr, if_neg h1], N0, e0⟩ (by decide) (by decide)
theorem d4_0 : decode jdk_30_method_1_code 0 = .ok (.aload_n 0, 1) := by decide +kernel
theorem d4_1 : decode jdk_30_method_1_code 1 = .ok (.invokespecial 1, 3) := by decide +kernel
theorem d4_4 : decode jdk_30_method_1_code 4 = .ok (.return_, 1) := by decide +kernel
theorem pn_java_lang_Record : plainName "java/lang/Record" = true := by first | (simp [plainName, overriddenIn]; done) | decide +kernel
theorem ef_rm4 (m : MethodId) (x0 : Addr) : entryFrame m #[(.ref x0)] 1 = mkF m 0 #[.val (.ref x0)] [] := by first | (simp [entryFrame, mkF, argsToLocals, Value.category]; done) | rfl
set_option maxRecDepth 65536 in
set_option maxHeartbeats 40000000 in
theorem rm4 (l : Launch) (Z : State) (a0 : Array Value) (hw : ∀ d ∈ tables_1, d.before a0 Z = true) (a : Addr) (h0 : Heap) (n0 : Nat) :
    OMet l Z (⟨"java/lang/Record", "<init>", "()V"⟩ : MethodName) jdk_30_method_1_code 1 none [] ({ frames := 1, cells := 0, slots := 0, locals := 12 } : Room) #[(.ref a)] h0 (OPure none h0 n0) := by
  refine OMet.of (plainFor_of_name pn_java_lang_Record) ?_
  intro p e s m below meth c s₁ hx hby hml hnd hown hnm hret hlk hZ X0 e0
  replace hown : s.vm.findClass "java/lang/Record" = some m.cls := hown
  replace hml : c.maxLocals = 1 := hml
  have N0 := Fr.nil n0
  rw [ef_rm4 m a]
  refine OGo.st (B := s₁.setTop (mkF m 1 #[.val (.ref a)] [(.ref a)])) (fun _ kz => XS.aloadN X0.here hx rfl (hb hby d4_0) rfl rfl kz) ?_
  obtain ⟨T1, X1, e1, st1⟩ := initO X0 hx hZ hown (hw _ (List.mem_of_getElem? (i := 28) rfl)) (hw _ (List.mem_of_getElem? (i := 29) rfl)) (hw _ (List.mem_of_getElem? (i := 30) rfl)) e0 (g := (mkF m 1 #[.val (.ref a)] [(.ref a)])) rfl (by rw [hml]; rfl) rfl (hb hby d4_1) (by decide) (W := 0) (by show 2 * 0 + _ ≤ _; exact Nat.le_of_eq rfl) (by decide)
  refine OGo.st (B := T1.setTop (mkF m 4 #[.val (.ref a)] [])) st1 ?_
  exact own_ret0 X1 hx hret hlk (hb hby d4_4) ⟨rfl, N0, e1⟩ (by decide) (by decide)
theorem d12_0 : decode jdk_123_method_3_code 0 = .ok (.iload_n 1, 1) := by decide +kernel
theorem d12_1 : decode jdk_123_method_3_code 1 = .ok (.iload_n 2, 1) := by decide +kernel
theorem d12_2 : decode jdk_123_method_3_code 2 = .ok (.iadd, 1) := by decide +kernel
theorem d12_3 : decode jdk_123_method_3_code 3 = .ok (.istore_n 3, 1) := by decide +kernel
theorem d12_4 : decode jdk_123_method_3_code 4 = .ok (.iload_n 1, 1) := by decide +kernel
theorem d12_5 : decode jdk_123_method_3_code 5 = .ok (.istore 4, 2) := by decide +kernel
theorem d12_7 : decode jdk_123_method_3_code 7 = .ok (.iload 4, 2) := by decide +kernel
theorem d12_9 : decode jdk_123_method_3_code 9 = .ok (.iload_n 3, 1) := by decide +kernel
theorem d12_10 : decode jdk_123_method_3_code 10 = .ok (.if_icmp .ge 21, 3) := by decide +kernel
theorem d12_31 : decode jdk_123_method_3_code 31 = .ok (.iload_n 2, 1) := by decide +kernel
theorem d12_32 : decode jdk_123_method_3_code 32 = .ok (.ireturn, 1) := by decide +kernel
theorem pn_java_lang_StringCoding : plainName "java/lang/StringCoding" = true := by first | (simp [plainName, overriddenIn]; done) | decide +kernel
theorem ef_rm12 (m : MethodId) (x0 : Addr) (x1 : Int32) (x2 : Int32) : entryFrame m #[(.ref x0), (.int x1), (.int x2)] 5 = mkF m 0 #[.val (.ref x0), .val (.int x1), .val (.int x2), .unset, .unset] [] := by first | (simp [entryFrame, mkF, argsToLocals, Value.category]; done) | rfl
set_option maxRecDepth 65536 in
set_option maxHeartbeats 40000000 in
theorem rm12 (l : Launch) (Z : State) (a0 : Array Value) (hw : ∀ d ∈ tables_1, d.before a0 Z = true) (a : Addr) (h0 : Heap) (n0 : Nat) :
    OMet l Z (⟨"java/lang/StringCoding", "countPositives", "([BII)I"⟩ : MethodName) jdk_123_method_3_code 5 (some .int) [] ({ frames := 0, cells := 0, slots := 0, locals := 0 } : Room) #[(.ref a), (.int (0 : Int32)), (.int (0 : Int32))] h0 (OPure (some (.int (0 : Int32))) h0 n0) := by
  refine OMet.of (plainFor_of_name pn_java_lang_StringCoding) ?_
  intro p e s m below meth c s₁ hx hby hml hnd hown hnm hret hlk hZ X0 e0
  replace hown : s.vm.findClass "java/lang/StringCoding" = some m.cls := hown
  replace hml : c.maxLocals = 5 := hml
  have N0 := Fr.nil n0
  rw [ef_rm12 m a (0 : Int32) (0 : Int32)]
  refine OGo.st (B := s₁.setTop (mkF m 1 #[.val (.ref a), .val (.int (0 : Int32)), .val (.int (0 : Int32)), .unset, .unset] [(.int (0 : Int32))])) (fun _ kz => XS.iloadN X0.here hx rfl (hb hby d12_0) rfl kz) ?_
  refine OGo.st (B := s₁.setTop (mkF m 2 #[.val (.ref a), .val (.int (0 : Int32)), .val (.int (0 : Int32)), .unset, .unset] [(.int (0 : Int32)), (.int (0 : Int32))])) (fun _ kz => XS.iloadN X0.here hx rfl (hb hby d12_1) rfl kz) ?_
  refine OGo.st (B := s₁.setTop (mkF m 3 #[.val (.ref a), .val (.int (0 : Int32)), .val (.int (0 : Int32)), .unset, .unset] [(.int ((0 : Int32) + (0 : Int32)))])) (fun _ kz => XS.iadd X0.here hx rfl (hb hby d12_2) rfl kz) ?_
  rw [(by decide : ((0 : Int32) + (0 : Int32)) = (0 : Int32))]
  refine OGo.st (B := s₁.setTop (mkF m 4 #[.val (.ref a), .val (.int (0 : Int32)), .val (.int (0 : Int32)), .val (.int (0 : Int32)), .unset] [])) (fun _ kz => XS.istoreN X0.here hx rfl (hb hby d12_3) rfl (l' := #[.val (.ref a), .val (.int (0 : Int32)), .val (.int (0 : Int32)), .val (.int (0 : Int32)), .unset]) rfl kz) ?_
  refine OGo.st (B := s₁.setTop (mkF m 5 #[.val (.ref a), .val (.int (0 : Int32)), .val (.int (0 : Int32)), .val (.int (0 : Int32)), .unset] [(.int (0 : Int32))])) (fun _ kz => XS.iloadN X0.here hx rfl (hb hby d12_4) rfl kz) ?_
  refine OGo.st (B := s₁.setTop (mkF m 7 #[.val (.ref a), .val (.int (0 : Int32)), .val (.int (0 : Int32)), .val (.int (0 : Int32)), .val (.int (0 : Int32))] [])) (fun _ kz => XS.istore X0.here hx rfl (hb hby d12_5) rfl (l' := #[.val (.ref a), .val (.int (0 : Int32)), .val (.int (0 : Int32)), .val (.int (0 : Int32)), .val (.int (0 : Int32))]) rfl kz) ?_
  refine OGo.st (B := s₁.setTop (mkF m 9 #[.val (.ref a), .val (.int (0 : Int32)), .val (.int (0 : Int32)), .val (.int (0 : Int32)), .val (.int (0 : Int32))] [(.int (0 : Int32))])) (fun _ kz => XS.iload X0.here hx rfl (hb hby d12_7) rfl kz) ?_
  refine OGo.st (B := s₁.setTop (mkF m 10 #[.val (.ref a), .val (.int (0 : Int32)), .val (.int (0 : Int32)), .val (.int (0 : Int32)), .val (.int (0 : Int32))] [(.int (0 : Int32)), (.int (0 : Int32))])) (fun _ kz => XS.iloadN X0.here hx rfl (hb hby d12_9) rfl kz) ?_
  refine OGo.st (B := s₁.setTop (mkF m 31 #[.val (.ref a), .val (.int (0 : Int32)), .val (.int (0 : Int32)), .val (.int (0 : Int32)), .val (.int (0 : Int32))] [])) (fun _ kz => XS.icmpYes X0.here hx rfl (pc0 := 10) (pc' := 31) rfl (hb hby d12_10) rfl (by decide) (by decide) (by decide) kz) ?_
  refine OGo.st (B := s₁.setTop (mkF m 32 #[.val (.ref a), .val (.int (0 : Int32)), .val (.int (0 : Int32)), .val (.int (0 : Int32)), .val (.int (0 : Int32))] [(.int (0 : Int32))])) (fun _ kz => XS.iloadN X0.here hx rfl (hb hby d12_31) rfl kz) ?_
  exact own_retI X0 hx hret hlk (hb hby d12_32) ⟨rfl, N0, e0⟩ (by decide) (by decide)
theorem pd_9 : parseMethodDescriptor "([BII)I" = some ⟨[(.array .byte), .int, .int], some .int⟩ := by decide +kernel
theorem d11_0 : decode jdk_123_method_2_code 0 = .ok (.aload_n 0, 1) := by decide +kernel
theorem d11_1 : decode jdk_123_method_2_code 1 = .ok (.iload_n 1, 1) := by decide +kernel
theorem d11_2 : decode jdk_123_method_2_code 2 = .ok (.iload_n 2, 1) := by decide +kernel
theorem d11_3 : decode jdk_123_method_2_code 3 = .ok (.invokestatic 7, 3) := by decide +kernel
theorem d11_6 : decode jdk_123_method_2_code 6 = .ok (.iload_n 2, 1) := by decide +kernel
theorem d11_7 : decode jdk_123_method_2_code 7 = .ok (.if_icmp .eq 7, 3) := by decide +kernel
theorem d11_14 : decode jdk_123_method_2_code 14 = .ok (.iconst 0, 1) := by decide +kernel
theorem d11_15 : decode jdk_123_method_2_code 15 = .ok (.ireturn, 1) := by decide +kernel
theorem ef_rm11 (m : MethodId) (x0 : Addr) (x1 : Int32) (x2 : Int32) : entryFrame m #[(.ref x0), (.int x1), (.int x2)] 3 = mkF m 0 #[.val (.ref x0), .val (.int x1), .val (.int x2)] [] := by first | (simp [entryFrame, mkF, argsToLocals, Value.category]; done) | rfl
set_option maxRecDepth 65536 in
set_option maxHeartbeats 40000000 in
theorem rm11 (l : Launch) (Z : State) (a0 : Array Value) (hw : ∀ d ∈ tables_1, d.before a0 Z = true) (a : Addr) (h0 : Heap) (n0 : Nat) :
    OMet l Z (⟨"java/lang/StringCoding", "hasNegatives", "([BII)Z"⟩ : MethodName) jdk_123_method_2_code 3 (some .boolean) [] ({ frames := 1, cells := 0, slots := 0, locals := 16 } : Room) #[(.ref a), (.int (0 : Int32)), (.int (0 : Int32))] h0 (OPure (some (.int (0 : Int32))) h0 n0) := by
  refine OMet.of (plainFor_of_name pn_java_lang_StringCoding) ?_
  intro p e s m below meth c s₁ hx hby hml hnd hown hnm hret hlk hZ X0 e0
  replace hown : s.vm.findClass "java/lang/StringCoding" = some m.cls := hown
  replace hml : c.maxLocals = 3 := hml
  have N0 := Fr.nil n0
  rw [ef_rm11 m a (0 : Int32) (0 : Int32)]
  refine OGo.st (B := s₁.setTop (mkF m 1 #[.val (.ref a), .val (.int (0 : Int32)), .val (.int (0 : Int32))] [(.ref a)])) (fun _ kz => XS.aloadN X0.here hx rfl (hb hby d11_0) rfl rfl kz) ?_
  refine OGo.st (B := s₁.setTop (mkF m 2 #[.val (.ref a), .val (.int (0 : Int32)), .val (.int (0 : Int32))] [(.int (0 : Int32)), (.ref a)])) (fun _ kz => XS.iloadN X0.here hx rfl (hb hby d11_1) rfl kz) ?_
  refine OGo.st (B := s₁.setTop (mkF m 3 #[.val (.ref a), .val (.int (0 : Int32)), .val (.int (0 : Int32))] [(.int (0 : Int32)), (.int (0 : Int32)), (.ref a)])) (fun _ kz => XS.iloadN X0.here hx rfl (hb hby d11_2) rfl kz) ?_
  obtain ⟨v1, T1, L1, X1, hQ1, st1⟩ := (rm12 l Z a0 hw a h0 n0).static (W := 0) X0 hx hZ hown (hw _ (List.mem_of_getElem? (i := 61) rfl)) (hw _ (List.mem_of_getElem? (i := 62) rfl)) (hw _ (List.mem_of_getElem? (i := 59) rfl)) (hw _ (List.mem_of_getElem? (i := 63) rfl)) (by decide) (by decide) (by decide) e0 (by decide) (by decide) (g := (mkF m 3 #[.val (.ref a), .val (.int (0 : Int32)), .val (.int (0 : Int32))] [(.int (0 : Int32)), (.int (0 : Int32)), (.ref a)])) rfl (by rw [hml]; rfl) (argsL := [(.ref a), (.int (0 : Int32)), (.int (0 : Int32))]) (rest := []) rfl (lenOf pd_9 rfl) rfl (by show 2 * 0 + _ ≤ _; exact Nat.le_of_eq rfl) (hb hby d11_3)
  obtain ⟨rfl, N1q, e1⟩ := hQ1
  have N1 := Fr.app N0 N1q
  refine OGo.st (B := T1.setTop (mkF m 6 #[.val (.ref a), .val (.int (0 : Int32)), .val (.int (0 : Int32))] [(.int (0 : Int32))])) st1 ?_
  refine OGo.st (B := T1.setTop (mkF m 7 #[.val (.ref a), .val (.int (0 : Int32)), .val (.int (0 : Int32))] [(.int (0 : Int32)), (.int (0 : Int32))])) (fun _ kz => XS.iloadN X1.here hx rfl (hb hby d11_6) rfl kz) ?_
  refine OGo.st (B := T1.setTop (mkF m 14 #[.val (.ref a), .val (.int (0 : Int32)), .val (.int (0 : Int32))] [])) (fun _ kz => XS.icmpYes X1.here hx rfl (pc0 := 7) (pc' := 14) rfl (hb hby d11_7) rfl (by decide) (by decide) (by decide) kz) ?_
  refine OGo.st (B := T1.setTop (mkF m 15 #[.val (.ref a), .val (.int (0 : Int32)), .val (.int (0 : Int32))] [(.int (0 : Int32))])) (fun _ kz => XS.iconst X1.here hx rfl (hb hby d11_14) kz) ?_
  exact own_retZ X1 hx hret hlk (hb hby d11_15) ⟨rfl, N1, e1⟩ (by decide) (by decide)
theorem pd_8 : parseMethodDescriptor "([BII)Z" = some ⟨[(.array .byte), .int, .int], some .boolean⟩ := by decide +kernel
theorem d10_0 : decode jdk_42_method_46_code 0 = .ok (.iload_n 0, 1) := by decide +kernel
theorem d10_1 : decode jdk_42_method_46_code 1 = .ok (.iconst 1, 1) := by decide +kernel
theorem d10_2 : decode jdk_42_method_46_code 2 = .ok (.if_icmp .ne 9, 3) := by decide +kernel
theorem d10_11 : decode jdk_42_method_46_code 11 = .ok (.aload_n 1, 1) := by decide +kernel
theorem d10_12 : decode jdk_42_method_46_code 12 = .ok (.iconst 0, 1) := by decide +kernel
theorem d10_13 : decode jdk_42_method_46_code 13 = .ok (.aload_n 1, 1) := by decide +kernel
theorem d10_14 : decode jdk_42_method_46_code 14 = .ok (.arraylength, 1) := by decide +kernel
theorem d10_15 : decode jdk_42_method_46_code 15 = .ok (.invokestatic 128, 3) := by decide +kernel
theorem d10_18 : decode jdk_42_method_46_code 18 = .ok (.ifCond .ne 11, 3) := by decide +kernel
theorem d10_21 : decode jdk_42_method_46_code 21 = .ok (.aload_n 1, 1) := by decide +kernel
theorem d10_22 : decode jdk_42_method_46_code 22 = .ok (.invokevirtual 279, 3) := by decide +kernel
theorem d10_25 : decode jdk_42_method_46_code 25 = .ok (.checkcast 280, 3) := by decide +kernel
theorem d10_28 : decode jdk_42_method_46_code 28 = .ok (.areturn, 1) := by decide +kernel
theorem pn_java_lang_String : plainName "java/lang/String" = true := by first | (simp [plainName, overriddenIn]; done) | decide +kernel
theorem ef_rm10 (m : MethodId) (x0 : Int32) (x1 : Addr) (x2 : Int32) : entryFrame m #[(.int x0), (.ref x1), (.int x2)] 9 = mkF m 0 #[.val (.int x0), .val (.ref x1), .val (.int x2), .unset, .unset, .unset, .unset, .unset, .unset] [] := by first | (simp [entryFrame, mkF, argsToLocals, Value.category]; done) | rfl
set_option maxRecDepth 65536 in
set_option maxHeartbeats 40000000 in
theorem rm10 (l : Launch) (Z : State) (a0 : Array Value) (hw : ∀ d ∈ tables_1, d.before a0 Z = true) (a : Addr) (k : ClassId) (h0 : Heap) (n0 : Nat) (Z0 : n0 ≤ h0.size) (V : Arv Z h0 a k .byte 0 [] (.int 0)) (E : Exa Z h0 a "[B") :
    OMet l Z (⟨"java/lang/String", "encodeUTF8", "(B[BZ)[B"⟩ : MethodName) jdk_42_method_46_code 9 (some (.array .byte)) [] ({ frames := 2, cells := 1, slots := 0, locals := 30 } : Room) #[(.int (0 : Int32)), (.ref a), (.int (1 : Int32))] h0 (fun v h L => ∃ b, v = some (.ref b) ∧ Fr n0 L ∧ Keep h0 h [] ∧ ∃ k, Arv Z h b k .byte 0 [] (.int 0)) := by
  refine OMet.of (plainFor_of_name pn_java_lang_String) ?_
  intro p e s m below meth c s₁ hx hby hml hnd hown hnm hret hlk hZ X0 e0
  replace hown : s.vm.findClass "java/lang/String" = some m.cls := hown
  replace hml : c.maxLocals = 9 := hml
  have N0 := Fr.nil n0
  rw [ef_rm10 m (0 : Int32) a (1 : Int32)]
  refine OGo.st (B := s₁.setTop (mkF m 1 #[.val (.int (0 : Int32)), .val (.ref a), .val (.int (1 : Int32)), .unset, .unset, .unset, .unset, .unset, .unset] [(.int (0 : Int32))])) (fun _ kz => XS.iloadN X0.here hx rfl (hb hby d10_0) rfl kz) ?_
  refine OGo.st (B := s₁.setTop (mkF m 2 #[.val (.int (0 : Int32)), .val (.ref a), .val (.int (1 : Int32)), .unset, .unset, .unset, .unset, .unset, .unset] [(.int (1 : Int32)), (.int (0 : Int32))])) (fun _ kz => XS.iconst X0.here hx rfl (hb hby d10_1) kz) ?_
  refine OGo.st (B := s₁.setTop (mkF m 11 #[.val (.int (0 : Int32)), .val (.ref a), .val (.int (1 : Int32)), .unset, .unset, .unset, .unset, .unset, .unset] [])) (fun _ kz => XS.icmpYes X0.here hx rfl (pc0 := 2) (pc' := 11) rfl (hb hby d10_2) rfl (by decide) (by decide) (by decide) kz) ?_
  refine OGo.st (B := s₁.setTop (mkF m 12 #[.val (.int (0 : Int32)), .val (.ref a), .val (.int (1 : Int32)), .unset, .unset, .unset, .unset, .unset, .unset] [(.ref a)])) (fun _ kz => XS.aloadN X0.here hx rfl (hb hby d10_11) rfl rfl kz) ?_
  refine OGo.st (B := s₁.setTop (mkF m 13 #[.val (.int (0 : Int32)), .val (.ref a), .val (.int (1 : Int32)), .unset, .unset, .unset, .unset, .unset, .unset] [(.int (0 : Int32)), (.ref a)])) (fun _ kz => XS.iconst X0.here hx rfl (hb hby d10_12) kz) ?_
  refine OGo.st (B := s₁.setTop (mkF m 14 #[.val (.int (0 : Int32)), .val (.ref a), .val (.int (1 : Int32)), .unset, .unset, .unset, .unset, .unset, .unset] [(.ref a), (.int (0 : Int32)), (.ref a)])) (fun _ kz => XS.aloadN X0.here hx rfl (hb hby d10_13) rfl rfl kz) ?_
  have W1 := V
  obtain ⟨c1, a1, q1, z1, m1, y1, f1⟩ := W1
  refine OGo.st (B := s₁.setTop (mkF m 15 #[.val (.int (0 : Int32)), .val (.ref a), .val (.int (1 : Int32)), .unset, .unset, .unset, .unset, .unset, .unset] [(.int c1.slots.size.toInt32), (.int (0 : Int32)), (.ref a)])) (X0.arraylength hx (by rw [e0]; exact a1.1) (State.isArrayOf_alike hZ.alike a1.2.1) (g := (mkF m 14 #[.val (.int (0 : Int32)), .val (.ref a), .val (.int (1 : Int32)), .unset, .unset, .unset, .unset, .unset, .unset] [(.ref a), (.int (0 : Int32)), (.ref a)])) rfl rfl (hb hby d10_14)) ?_
  rw [len_of z1 m1]
  obtain ⟨v2, T2, L2, X2, hQ2, st2⟩ := (rm11 l Z a0 hw a h0 n0).static (W := 0) X0 hx hZ hown (hw _ (List.mem_of_getElem? (i := 57) rfl)) (hw _ (List.mem_of_getElem? (i := 58) rfl)) (hw _ (List.mem_of_getElem? (i := 59) rfl)) (hw _ (List.mem_of_getElem? (i := 60) rfl)) (by decide) (by decide) (by decide) e0 (by decide) (by decide) (g := (mkF m 15 #[.val (.int (0 : Int32)), .val (.ref a), .val (.int (1 : Int32)), .unset, .unset, .unset, .unset, .unset, .unset] [(.int (0 : Int32)), (.int (0 : Int32)), (.ref a)])) rfl (by rw [hml]; rfl) (argsL := [(.ref a), (.int (0 : Int32)), (.int (0 : Int32))]) (rest := []) rfl (lenOf pd_8 rfl) rfl (by show 2 * 0 + _ ≤ _; exact Nat.le_of_eq rfl) (hb hby d10_15)
  obtain ⟨rfl, N2q, e2⟩ := hQ2
  have N2 := Fr.app N0 N2q
  refine OGo.st (B := T2.setTop (mkF m 18 #[.val (.int (0 : Int32)), .val (.ref a), .val (.int (1 : Int32)), .unset, .unset, .unset, .unset, .unset, .unset] [(.int (0 : Int32))])) st2 ?_
  refine OGo.st (B := T2.setTop (mkF m 21 #[.val (.int (0 : Int32)), .val (.ref a), .val (.int (1 : Int32)), .unset, .unset, .unset, .unset, .unset, .unset] [])) (fun _ kz => XS.ifNo X2.here hx rfl (hb hby d10_18) rfl (by decide) kz) ?_
  refine OGo.st (B := T2.setTop (mkF m 22 #[.val (.int (0 : Int32)), .val (.ref a), .val (.int (1 : Int32)), .unset, .unset, .unset, .unset, .unset, .unset] [(.ref a)])) (fun _ kz => XS.aloadN X2.here hx rfl (hb hby d10_21) rfl rfl kz) ?_
  obtain ⟨T3, h3, X3, e3, E3, V3, A3, st3⟩ := cloneH X2 hx hZ hown (hw _ (List.mem_of_getElem? (i := 64) rfl)) (hw _ (List.mem_of_getElem? (i := 65) rfl)) (hw _ (List.mem_of_getElem? (i := 69) rfl)) (hw _ (List.mem_of_getElem? (i := 67) rfl)) (hw _ (List.mem_of_getElem? (i := 68) rfl)) (hw _ (List.mem_of_getElem? (i := 70) rfl)) e2 (Arv.arh V) E (g := (mkF m 22 #[.val (.int (0 : Int32)), .val (.ref a), .val (.int (1 : Int32)), .unset, .unset, .unset, .unset, .unset, .unset] [(.ref a)])) rfl (by rw [hml]; rfl) rfl (hb hby d10_22) (by decide) (W := 0) (cap := 0) (by show 2 * 0 + _ ≤ _; exact Nat.le_of_eq rfl) (by decide) (by decide) (by decide) (by decide)
  obtain ⟨nb, g3⟩ : ∃ z, z = h0.size := ⟨_, rfl⟩
  rw [← g3] at V3 A3 st3
  have g_nb : n0 ≤ nb := Nat.le_trans Z0 (Nat.le_trans (Keep.refl h0 []).1 (Nat.le_of_eq g3.symm))
  have sz_nb : h0.size ≤ nb := Nat.le_trans (Keep.refl h0 []).1 (Nat.le_of_eq g3.symm)
  have K3 : Keep h0 h3 [] := (Keep.refl h0 []).ext E3
  refine OGo.st (B := T3.setTop (mkF m 25 #[.val (.int (0 : Int32)), .val (.ref a), .val (.int (1 : Int32)), .unset, .unset, .unset, .unset, .unset, .unset] [(.ref nb)])) st3 ?_
  obtain ⟨T4, X4, e4, st4⟩ := castY X3 hx hZ hown (hw _ (List.mem_of_getElem? (i := 71) rfl)) e3 (Ins.self A3) (g := (mkF m 25 #[.val (.int (0 : Int32)), .val (.ref a), .val (.int (1 : Int32)), .unset, .unset, .unset, .unset, .unset, .unset] [(.ref nb)])) rfl rfl (hb hby d10_25)
  refine OGo.st (B := T4.setTop (mkF m 28 #[.val (.int (0 : Int32)), .val (.ref a), .val (.int (1 : Int32)), .unset, .unset, .unset, .unset, .unset, .unset] [(.ref nb)])) st4 ?_
  exact own_retA X4 hx hret hlk rfl rfl rfl (hb hby d10_28) ⟨nb, rfl, N2, by rw [e4]; exact ⟨K3, k, V3⟩⟩ (by decide) (by decide)
theorem pd_7 : parseMethodDescriptor "(B[BZ)[B" = some ⟨[.byte, (.array .byte), .boolean], some (.array .byte)⟩ := by decide +kernel
theorem d9_0 : decode jdk_42_method_18_code 0 = .ok (.aload_n 0, 1) := by decide +kernel
theorem d9_1 : decode jdk_42_method_18_code 1 = .ok (.getstatic 86, 3) := by decide +kernel
theorem d9_4 : decode jdk_42_method_18_code 4 = .ok (.if_acmp .ne 10, 3) := by decide +kernel
theorem d9_7 : decode jdk_42_method_18_code 7 = .ok (.iload_n 1, 1) := by decide +kernel
theorem d9_8 : decode jdk_42_method_18_code 8 = .ok (.aload_n 2, 1) := by decide +kernel
theorem d9_9 : decode jdk_42_method_18_code 9 = .ok (.iconst 1, 1) := by decide +kernel
theorem d9_10 : decode jdk_42_method_18_code 10 = .ok (.invokestatic 252, 3) := by decide +kernel
theorem d9_13 : decode jdk_42_method_18_code 13 = .ok (.areturn, 1) := by decide +kernel
theorem ef_rm9 (m : MethodId) (x0 : Addr) (x1 : Int32) (x2 : Addr) : entryFrame m #[(.ref x0), (.int x1), (.ref x2)] 3 = mkF m 0 #[.val (.ref x0), .val (.int x1), .val (.ref x2)] [] := by first | (simp [entryFrame, mkF, argsToLocals, Value.category]; done) | rfl
set_option maxRecDepth 65536 in
set_option maxHeartbeats 40000000 in
theorem rm9 (l : Launch) (Z : State) (a0 : Array Value) (hw : ∀ d ∈ tables_1, d.before a0 Z = true) (a : Addr) (k : ClassId) (u : Addr) (S_inst : Sta Z Z.heap "sun/nio/cs/UTF_8" "INSTANCE" "Lsun/nio/cs/UTF_8;" (.ref u)) (h0 : Heap) (n0 : Nat) (Z0 : n0 ≤ h0.size) (O0 : Old Z n0 h0) (V : Arv Z h0 a k .byte 0 [] (.int 0)) (E : Exa Z h0 a "[B") :
    OMet l Z (⟨"java/lang/String", "encode", "(Ljava/nio/charset/Charset;B[B)[B"⟩ : MethodName) jdk_42_method_18_code 3 (some (.array .byte)) [] ({ frames := 3, cells := 1, slots := 0, locals := 50 } : Room) #[(.ref u), (.int (0 : Int32)), (.ref a)] h0 (fun v h L => ∃ b, v = some (.ref b) ∧ Fr n0 L ∧ Keep h0 h [] ∧ ∃ k, Arv Z h b k .byte 0 [] (.int 0)) := by
  refine OMet.of (plainFor_of_name pn_java_lang_String) ?_
  intro p e s m below meth c s₁ hx hby hml hnd hown hnm hret hlk hZ X0 e0
  replace hown : s.vm.findClass "java/lang/String" = some m.cls := hown
  replace hml : c.maxLocals = 3 := hml
  have N0 := Fr.nil n0
  rw [ef_rm9 m u (0 : Int32) a]
  refine OGo.st (B := s₁.setTop (mkF m 1 #[.val (.ref u), .val (.int (0 : Int32)), .val (.ref a)] [(.ref u)])) (fun _ kz => XS.aloadN X0.here hx rfl (hb hby d9_0) rfl rfl kz) ?_
  obtain ⟨T1, X1, e1, st1⟩ := getS2 X0 hx hZ hown (host := "") (Or.inl (hw _ (List.mem_of_getElem? (i := 52) rfl))) Via.refl e0 (S_inst.ext O0.2) (g := (mkF m 1 #[.val (.ref u), .val (.int (0 : Int32)), .val (.ref a)] [(.ref u)])) rfl (hb hby d9_1)
  refine OGo.st (B := T1.setTop (mkF m 4 #[.val (.ref u), .val (.int (0 : Int32)), .val (.ref a)] [(.ref u), (.ref u)])) st1 ?_
  refine OGo.st (B := T1.setTop (mkF m 7 #[.val (.ref u), .val (.int (0 : Int32)), .val (.ref a)] [])) (fun _ kz => Jvm.RoadKit.acmp (g := (mkF m 4 #[.val (.ref u), .val (.int (0 : Int32)), .val (.ref a)] [(.ref u), (.ref u)])) X1 hx rfl rfl rfl (pc0 := 4) (pc' := 7) (same := true) rfl (hb hby d9_4) rfl (decide_eq_true rfl) (by decide) (by decide) kz) ?_
  refine OGo.st (B := T1.setTop (mkF m 8 #[.val (.ref u), .val (.int (0 : Int32)), .val (.ref a)] [(.int (0 : Int32))])) (fun _ kz => XS.iloadN X1.here hx rfl (hb hby d9_7) rfl kz) ?_
  refine OGo.st (B := T1.setTop (mkF m 9 #[.val (.ref u), .val (.int (0 : Int32)), .val (.ref a)] [(.ref a), (.int (0 : Int32))])) (fun _ kz => XS.aloadN X1.here hx rfl (hb hby d9_8) rfl rfl kz) ?_
  refine OGo.st (B := T1.setTop (mkF m 10 #[.val (.ref u), .val (.int (0 : Int32)), .val (.ref a)] [(.int (1 : Int32)), (.ref a), (.int (0 : Int32))])) (fun _ kz => XS.iconst X1.here hx rfl (hb hby d9_9) kz) ?_
  obtain ⟨v2, T2, L2, X2, hQ2, st2⟩ := (rm10 l Z a0 hw a k h0 n0 Z0 V E).static (W := 0) X1 hx hZ hown (hw _ (List.mem_of_getElem? (i := 54) rfl)) (hw _ (List.mem_of_getElem? (i := 55) rfl)) (hw _ (List.mem_of_getElem? (i := 13) rfl)) (hw _ (List.mem_of_getElem? (i := 56) rfl)) (by decide) (by decide) (by decide) e1 (by decide) (by decide) (g := (mkF m 10 #[.val (.ref u), .val (.int (0 : Int32)), .val (.ref a)] [(.int (1 : Int32)), (.ref a), (.int (0 : Int32))])) rfl (by rw [hml]; rfl) (argsL := [(.int (0 : Int32)), (.ref a), (.int (1 : Int32))]) (rest := []) rfl (lenOf pd_7 rfl) rfl (by show 2 * 0 + _ ≤ _; exact Nat.le_of_eq rfl) (hb hby d9_10)
  obtain ⟨b2, rfl, N2q, J2, k2, V2⟩ := hQ2
  have N2 := Fr.app N0 N2q
  have K2 : Keep h0 T2.heap [] := (Keep.refl h0 []).trans J2 all0
  have O2 := O0.keep J2 all0
  refine OGo.st (B := T2.setTop (mkF m 13 #[.val (.ref u), .val (.int (0 : Int32)), .val (.ref a)] [(.ref b2)])) st2 ?_
  exact own_retA X2 hx hret hlk rfl rfl rfl (hb hby d9_13) ⟨b2, rfl, N2, K2, k2, V2⟩ (by decide) (by decide)
theorem d8_0 : decode jdk_42_method_152_code 0 = .ok (.getstatic 38, 3) := by decide +kernel
theorem d8_3 : decode jdk_42_method_152_code 3 = .ok (.ifCond .eq 10, 3) := by decide +kernel
theorem d8_6 : decode jdk_42_method_152_code 6 = .ok (.aload_n 0, 1) := by decide +kernel
theorem d8_7 : decode jdk_42_method_152_code 7 = .ok (.getfield 15, 3) := by decide +kernel
theorem d8_10 : decode jdk_42_method_152_code 10 = .ok (.goto 4, 3) := by decide +kernel
theorem d8_14 : decode jdk_42_method_152_code 14 = .ok (.ireturn, 1) := by decide +kernel
theorem ef_rm8 (m : MethodId) (x0 : Addr) : entryFrame m #[(.ref x0)] 1 = mkF m 0 #[.val (.ref x0)] [] := by first | (simp [entryFrame, mkF, argsToLocals, Value.category]; done) | rfl
set_option maxRecDepth 65536 in
set_option maxHeartbeats 40000000 in
theorem rm8 (l : Launch) (Z : State) (a0 : Array Value) (hw : ∀ d ∈ tables_1, d.before a0 Z = true) (a : Addr) (cs : Int32) (h0 : Heap) (n0 : Nat) (S_cs : Sta Z h0 "java/lang/String" "COMPACT_STRINGS" "Z" (.int cs)) (hcs : ¬ cs = 0) (F : Fld Z h0 a "java/lang/String" "coder" "B" (.int 0)) :
    OMet l Z (⟨"java/lang/String", "coder", "()B"⟩ : MethodName) jdk_42_method_152_code 1 (some .byte) [] ({ frames := 0, cells := 0, slots := 0, locals := 0 } : Room) #[(.ref a)] h0 (OPure (some (.int (0 : Int32))) h0 n0) := by
  refine OMet.of (plainFor_of_name pn_java_lang_String) ?_
  intro p e s m below meth c s₁ hx hby hml hnd hown hnm hret hlk hZ X0 e0
  replace hown : s.vm.findClass "java/lang/String" = some m.cls := hown
  replace hml : c.maxLocals = 1 := hml
  have N0 := Fr.nil n0
  rw [ef_rm8 m a]
  obtain ⟨T1, X1, e1, st1⟩ := getS2 X0 hx hZ hown (host := "") (Or.inl (hw _ (List.mem_of_getElem? (i := 46) rfl))) Via.refl e0 S_cs (g := (mkF m 0 #[.val (.ref a)] [])) rfl (hb hby d8_0)
  refine OGo.st (B := T1.setTop (mkF m 3 #[.val (.ref a)] [(.int cs)])) st1 ?_
  refine OGo.st (B := T1.setTop (mkF m 6 #[.val (.ref a)] [])) (fun _ kz => XS.ifNo X1.here hx rfl (hb hby d8_3) rfl ((if0 _ _).trans (feq hcs).1) kz) ?_
  refine OGo.st (B := T1.setTop (mkF m 7 #[.val (.ref a)] [(.ref a)])) (fun _ kz => XS.aloadN X1.here hx rfl (hb hby d8_6) rfl rfl kz) ?_
  obtain ⟨T2, X2, e2, st2⟩ := getF X1 hx hZ hown (host := "") (Or.inl (hw _ (List.mem_of_getElem? (i := 47) rfl))) Via.refl e1 F (g := (mkF m 7 #[.val (.ref a)] [(.ref a)])) rfl rfl (hb hby d8_7)
  refine OGo.st (B := T2.setTop (mkF m 10 #[.val (.ref a)] [(.int (0 : Int32))])) st2 ?_
  refine OGo.st (B := T2.setTop (mkF m 14 #[.val (.ref a)] [(.int (0 : Int32))])) (fun _ kz => XS.goto X2.here hx rfl (pc0 := 10) (pc' := 14) rfl (hb hby d8_10) (by decide) (by decide) kz) ?_
  exact own_retB X2 hx hret hlk (hb hby d8_14) ⟨rfl, N0, e2⟩ (by decide) (by decide)
theorem pd_5 : parseMethodDescriptor "()B" = some ⟨[], some .byte⟩ := by decide +kernel
theorem pd_6 : parseMethodDescriptor "(Ljava/nio/charset/Charset;B[B)[B" = some ⟨[(.object "java/nio/charset/Charset"), .byte, (.array .byte)], some (.array .byte)⟩ := by decide +kernel
theorem d7_0 : decode jdk_42_method_64_code 0 = .ok (.aload_n 1, 1) := by decide +kernel
theorem d7_1 : decode jdk_42_method_64_code 1 = .ok (.ifnonnull 11, 3) := by decide +kernel
theorem d7_12 : decode jdk_42_method_64_code 12 = .ok (.aload_n 1, 1) := by decide +kernel
theorem d7_13 : decode jdk_42_method_64_code 13 = .ok (.aload_n 0, 1) := by decide +kernel
theorem d7_14 : decode jdk_42_method_64_code 14 = .ok (.invokevirtual 335, 3) := by decide +kernel
theorem d7_17 : decode jdk_42_method_64_code 17 = .ok (.aload_n 0, 1) := by decide +kernel
theorem d7_18 : decode jdk_42_method_64_code 18 = .ok (.getfield 9, 3) := by decide +kernel
theorem d7_21 : decode jdk_42_method_64_code 21 = .ok (.invokestatic 535, 3) := by decide +kernel
theorem d7_24 : decode jdk_42_method_64_code 24 = .ok (.areturn, 1) := by decide +kernel
theorem ef_rm7 (m : MethodId) (x0 : Addr) (x1 : Addr) : entryFrame m #[(.ref x0), (.ref x1)] 2 = mkF m 0 #[.val (.ref x0), .val (.ref x1)] [] := by first | (simp [entryFrame, mkF, argsToLocals, Value.category]; done) | rfl
set_option maxRecDepth 65536 in
set_option maxHeartbeats 40000000 in
theorem rm7 (l : Launch) (Z : State) (a0 : Array Value) (hw : ∀ d ∈ tables_1, d.before a0 Z = true) (tg b : Addr) (k : ClassId) (cs : Int32) (u : Addr) (S_inst : Sta Z Z.heap "sun/nio/cs/UTF_8" "INSTANCE" "Lsun/nio/cs/UTF_8;" (.ref u)) (h0 : Heap) (n0 : Nat) (Z0 : n0 ≤ h0.size) (O0 : Old Z n0 h0) (S_cs : Sta Z Z.heap "java/lang/String" "COMPACT_STRINGS" "Z" (.int cs)) (hcs : ¬ cs = 0) (E_t : Exa Z h0 tg "java/lang/String") (F_c : Fld Z h0 tg "java/lang/String" "coder" "B" (.int 0)) (F_v : Fld Z h0 tg "java/lang/String" "value" "[B" (.ref b)) (V : Arv Z h0 b k .byte 0 [] (.int 0)) (E_b : Exa Z h0 b "[B") :
    OMet l Z (⟨"java/lang/String", "getBytes", "(Ljava/nio/charset/Charset;)[B"⟩ : MethodName) jdk_42_method_64_code 2 (some (.array .byte)) [] ({ frames := 4, cells := 1, slots := 0, locals := 64 } : Room) #[(.ref tg), (.ref u)] h0 (fun v h L => ∃ b, v = some (.ref b) ∧ Fr n0 L ∧ Keep h0 h [] ∧ ∃ k, Arv Z h b k .byte 0 [] (.int 0)) := by
  refine OMet.of (plainFor_of_name pn_java_lang_String) ?_
  intro p e s m below meth c s₁ hx hby hml hnd hown hnm hret hlk hZ X0 e0
  replace hown : s.vm.findClass "java/lang/String" = some m.cls := hown
  replace hml : c.maxLocals = 2 := hml
  have N0 := Fr.nil n0
  rw [ef_rm7 m tg u]
  refine OGo.st (B := s₁.setTop (mkF m 1 #[.val (.ref tg), .val (.ref u)] [(.ref u)])) (fun _ kz => XS.aloadN X0.here hx rfl (hb hby d7_0) rfl rfl kz) ?_
  refine OGo.st (B := s₁.setTop (mkF m 12 #[.val (.ref tg), .val (.ref u)] [])) (fun _ kz => XS.ifnonnullYes X0.here hx rfl (pc0 := 1) (pc' := 12) rfl (hb hby d7_1) rfl (by decide) (by decide) kz) ?_
  refine OGo.st (B := s₁.setTop (mkF m 13 #[.val (.ref tg), .val (.ref u)] [(.ref u)])) (fun _ kz => XS.aloadN X0.here hx rfl (hb hby d7_12) rfl rfl kz) ?_
  refine OGo.st (B := s₁.setTop (mkF m 14 #[.val (.ref tg), .val (.ref u)] [(.ref tg), (.ref u)])) (fun _ kz => XS.aloadN X0.here hx rfl (hb hby d7_13) rfl rfl kz) ?_
  obtain ⟨v1, T1, L1, X1, hQ1, st1⟩ := (rm8 l Z a0 hw tg cs h0 n0 (S_cs.ext O0.2) hcs F_c).virt (W := 1) X0 hx hZ hown (hw _ (List.mem_of_getElem? (i := 41) rfl)) (hw _ (List.mem_of_getElem? (i := 42) rfl)) (nf_sel hZ (hw _ (List.mem_of_getElem? (i := 44) rfl))) (hw _ (List.mem_of_getElem? (i := 44) rfl)) (hw _ (List.mem_of_getElem? (i := 43) rfl)) (hw _ (List.mem_of_getElem? (i := 13) rfl)) (hw _ (List.mem_of_getElem? (i := 45) rfl)) (by decide) (by decide) (by decide) e0 (by decide) (by decide) (g := (mkF m 14 #[.val (.ref tg), .val (.ref u)] [(.ref tg), (.ref u)])) rfl (by rw [hml]; rfl) E_t (argsL := []) (rest := [(.ref u)]) rfl (lenOf pd_5 rfl) rfl (by show 2 * 0 + _ ≤ _; exact Nat.le_of_eq rfl) (hb hby d7_14)
  obtain ⟨rfl, N1q, e1⟩ := hQ1
  have N1 := Fr.app N0 N1q
  refine OGo.st (B := T1.setTop (mkF m 17 #[.val (.ref tg), .val (.ref u)] [(.int (0 : Int32)), (.ref u)])) st1 ?_
  refine OGo.st (B := T1.setTop (mkF m 18 #[.val (.ref tg), .val (.ref u)] [(.ref tg), (.int (0 : Int32)), (.ref u)])) (fun _ kz => XS.aloadN X1.here hx rfl (hb hby d7_17) rfl rfl kz) ?_
  obtain ⟨T2, X2, e2, st2⟩ := getF X1 hx hZ hown (host := "") (Or.inl (hw _ (List.mem_of_getElem? (i := 48) rfl))) Via.refl e1 F_v (g := (mkF m 18 #[.val (.ref tg), .val (.ref u)] [(.ref tg), (.int (0 : Int32)), (.ref u)])) rfl rfl (hb hby d7_18)
  refine OGo.st (B := T2.setTop (mkF m 21 #[.val (.ref tg), .val (.ref u)] [(.ref b), (.int (0 : Int32)), (.ref u)])) st2 ?_
  obtain ⟨v3, T3, L3, X3, hQ3, st3⟩ := (rm9 l Z a0 hw b k u S_inst h0 n0 Z0 O0 V E_b).static (W := 0) X2 hx hZ hown (hw _ (List.mem_of_getElem? (i := 49) rfl)) (hw _ (List.mem_of_getElem? (i := 50) rfl)) (hw _ (List.mem_of_getElem? (i := 13) rfl)) (hw _ (List.mem_of_getElem? (i := 51) rfl)) (by decide) (by decide) (by decide) e2 (by decide) (by decide) (g := (mkF m 21 #[.val (.ref tg), .val (.ref u)] [(.ref b), (.int (0 : Int32)), (.ref u)])) rfl (by rw [hml]; rfl) (argsL := [(.ref u), (.int (0 : Int32)), (.ref b)]) (rest := []) rfl (lenOf pd_6 rfl) rfl (by show 2 * 0 + _ ≤ _; exact Nat.le_of_eq rfl) (hb hby d7_21)
  obtain ⟨b3, rfl, N3q, J3, k3, V3⟩ := hQ3
  have N3 := Fr.app N1 N3q
  have K3 : Keep h0 T3.heap [] := (Keep.refl h0 []).trans J3 all0
  have O3 := O0.keep J3 all0
  refine OGo.st (B := T3.setTop (mkF m 24 #[.val (.ref tg), .val (.ref u)] [(.ref b3)])) st3 ?_
  exact own_retA X3 hx hret hlk rfl rfl rfl (hb hby d7_24) ⟨b3, rfl, N3, K3, k3, V3⟩ (by decide) (by decide)
theorem pd_4 : parseMethodDescriptor "(Ljava/nio/charset/Charset;)[B" = some ⟨[(.object "java/nio/charset/Charset")], some (.array .byte)⟩ := by decide +kernel
theorem d6_0 : decode prog_37_method_2_code 0 = .ok (.aload_n 0, 1) := by decide +kernel
theorem d6_1 : decode prog_37_method_2_code 1 = .ok (.getstatic 55, 3) := by decide +kernel
theorem d6_4 : decode prog_37_method_2_code 4 = .ok (.invokevirtual 61, 3) := by decide +kernel
theorem d6_7 : decode prog_37_method_2_code 7 = .ok (.arraylength, 1) := by decide +kernel
theorem d6_8 : decode prog_37_method_2_code 8 = .ok (.istore_n 1, 1) := by decide +kernel
theorem d6_9 : decode prog_37_method_2_code 9 = .ok (.iload_n 1, 1) := by decide +kernel
theorem d6_10 : decode prog_37_method_2_code 10 = .ok (.sipush 255, 3) := by decide +kernel
theorem d6_13 : decode prog_37_method_2_code 13 = .ok (.if_icmp .le 17, 3) := by decide +kernel
theorem d6_30 : decode prog_37_method_2_code 30 = .ok (.return_, 1) := by decide +kernel
theorem pn_com_example_lean_rumor_leanrumor_node_Message : plainName "com/example/lean_rumor/leanrumor/node/Message" = true := by first | (simp [plainName, overriddenIn]; done) | decide +kernel
theorem ef_rm6 (m : MethodId) (x0 : Addr) : entryFrame m #[(.ref x0)] 2 = mkF m 0 #[.val (.ref x0), .unset] [] := by first | (simp [entryFrame, mkF, argsToLocals, Value.category]; done) | rfl
set_option maxRecDepth 65536 in
set_option maxHeartbeats 40000000 in
theorem rm6 (l : Launch) (Z : State) (a0 : Array Value) (hw : ∀ d ∈ tables_1, d.before a0 Z = true) (tg b : Addr) (k : ClassId) (cs : Int32) (u : Addr) (S_inst : Sta Z Z.heap "sun/nio/cs/UTF_8" "INSTANCE" "Lsun/nio/cs/UTF_8;" (.ref u)) (h0 : Heap) (n0 : Nat) (Z0 : n0 ≤ h0.size) (O0 : Old Z n0 h0) (S_cs : Sta Z Z.heap "java/lang/String" "COMPACT_STRINGS" "Z" (.int cs)) (hcs : ¬ cs = 0) (E_t : Exa Z h0 tg "java/lang/String") (F_c : Fld Z h0 tg "java/lang/String" "coder" "B" (.int 0)) (F_v : Fld Z h0 tg "java/lang/String" "value" "[B" (.ref b)) (V : Arv Z h0 b k .byte 0 [] (.int 0)) (E_b : Exa Z h0 b "[B") (S_u8 : Sta Z Z.heap "java/nio/charset/StandardCharsets" "UTF_8" "Ljava/nio/charset/Charset;" (.ref u)) :
    OMet l Z (⟨"com/example/lean_rumor/leanrumor/node/Message", "requireTag", "(Ljava/lang/String;)V"⟩ : MethodName) prog_37_method_2_code 2 none [] ({ frames := 5, cells := 1, slots := 0, locals := 77 } : Room) #[(.ref tg)] h0 (fun v h L => v = none ∧ Fr n0 L ∧ Keep h0 h []) := by
  refine OMet.of (plainFor_of_name pn_com_example_lean_rumor_leanrumor_node_Message) ?_
  intro p e s m below meth c s₁ hx hby hml hnd hown hnm hret hlk hZ X0 e0
  replace hown : s.vm.findClass "com/example/lean_rumor/leanrumor/node/Message" = some m.cls := hown
  replace hml : c.maxLocals = 2 := hml
  have N0 := Fr.nil n0
  rw [ef_rm6 m tg]
  refine OGo.st (B := s₁.setTop (mkF m 1 #[.val (.ref tg), .unset] [(.ref tg)])) (fun _ kz => XS.aloadN X0.here hx rfl (hb hby d6_0) rfl rfl kz) ?_
  obtain ⟨T1, X1, e1, st1⟩ := getS2 X0 hx hZ hown (host := "") (Or.inl (hw _ (List.mem_of_getElem? (i := 34) rfl))) Via.refl e0 (S_u8.ext O0.2) (g := (mkF m 1 #[.val (.ref tg), .unset] [(.ref tg)])) rfl (hb hby d6_1)
  refine OGo.st (B := T1.setTop (mkF m 4 #[.val (.ref tg), .unset] [(.ref u), (.ref tg)])) st1 ?_
  obtain ⟨v2, T2, L2, X2, hQ2, st2⟩ := (rm7 l Z a0 hw tg b k cs u S_inst h0 n0 Z0 O0 S_cs hcs E_t F_c F_v V E_b).virt (W := 0) X1 hx hZ hown (hw _ (List.mem_of_getElem? (i := 36) rfl)) (hw _ (List.mem_of_getElem? (i := 37) rfl)) (nf_sel hZ (hw _ (List.mem_of_getElem? (i := 39) rfl))) (hw _ (List.mem_of_getElem? (i := 39) rfl)) (hw _ (List.mem_of_getElem? (i := 38) rfl)) (hw _ (List.mem_of_getElem? (i := 13) rfl)) (hw _ (List.mem_of_getElem? (i := 40) rfl)) (by decide) (by decide) (by decide) e1 (by decide) (by decide) (g := (mkF m 4 #[.val (.ref tg), .unset] [(.ref u), (.ref tg)])) rfl (by rw [hml]; rfl) E_t (argsL := [(.ref u)]) (rest := []) rfl (lenOf pd_4 rfl) rfl (by show 2 * 0 + _ ≤ _; exact Nat.le_of_eq rfl) (hb hby d6_4)
  obtain ⟨b2, rfl, N2q, J2, k2, V2⟩ := hQ2
  have N2 := Fr.app N0 N2q
  have K2 : Keep h0 T2.heap [] := (Keep.refl h0 []).trans J2 all0
  have O2 := O0.keep J2 all0
  refine OGo.st (B := T2.setTop (mkF m 7 #[.val (.ref tg), .unset] [(.ref b2)])) st2 ?_
  have W3 := V2
  obtain ⟨c3, a3, q3, z3, m3, y3, f3⟩ := W3
  refine OGo.st (B := T2.setTop (mkF m 8 #[.val (.ref tg), .unset] [(.int c3.slots.size.toInt32)])) (X2.arraylength hx a3.1 (State.isArrayOf_alike hZ.alike a3.2.1) (g := (mkF m 7 #[.val (.ref tg), .unset] [(.ref b2)])) rfl rfl (hb hby d6_7)) ?_
  rw [len_of z3 m3]
  refine OGo.st (B := T2.setTop (mkF m 9 #[.val (.ref tg), .val (.int (0 : Int32))] [])) (fun _ kz => XS.istoreN X2.here hx rfl (hb hby d6_8) rfl (l' := #[.val (.ref tg), .val (.int (0 : Int32))]) rfl kz) ?_
  refine OGo.st (B := T2.setTop (mkF m 10 #[.val (.ref tg), .val (.int (0 : Int32))] [(.int (0 : Int32))])) (fun _ kz => XS.iloadN X2.here hx rfl (hb hby d6_9) rfl kz) ?_
  refine OGo.st (B := T2.setTop (mkF m 13 #[.val (.ref tg), .val (.int (0 : Int32))] [(.int (255 : Int32)), (.int (0 : Int32))])) (fun _ kz => XS.sipush X2.here hx rfl (hb hby d6_10) kz) ?_
  refine OGo.st (B := T2.setTop (mkF m 30 #[.val (.ref tg), .val (.int (0 : Int32))] [])) (fun _ kz => XS.icmpYes X2.here hx rfl (pc0 := 13) (pc' := 30) rfl (hb hby d6_13) rfl (by decide) (by decide) (by decide) kz) ?_
  exact own_ret0 X2 hx hret hlk (hb hby d6_30) ⟨rfl, N2, K2⟩ (by decide) (by decide)
theorem pd_2 : parseMethodDescriptor "()V" = some ⟨[], none⟩ := by decide +kernel
theorem pd_3 : parseMethodDescriptor "(Ljava/lang/String;)V" = some ⟨[(.object "java/lang/String")], none⟩ := by decide +kernel
theorem d3_0 : decode prog_37_method_1_code 0 = .ok (.aload_n 0, 1) := by decide +kernel
theorem d3_1 : decode prog_37_method_1_code 1 = .ok (.invokespecial 1, 3) := by decide +kernel
theorem d3_4 : decode prog_37_method_1_code 4 = .ok (.iload_n 3, 1) := by decide +kernel
theorem d3_5 : decode prog_37_method_1_code 5 = .ok (.ifCond .ge 17, 3) := by decide +kernel
theorem d3_22 : decode prog_37_method_1_code 22 = .ok (.lload 4, 2) := by decide +kernel
theorem d3_24 : decode prog_37_method_1_code 24 = .ok (.lconst 0, 1) := by decide +kernel
theorem d3_25 : decode prog_37_method_1_code 25 = .ok (.lcmp, 1) := by decide +kernel
theorem d3_26 : decode prog_37_method_1_code 26 = .ok (.ifCond .ge 18, 3) := by decide +kernel
theorem d3_44 : decode prog_37_method_1_code 44 = .ok (.lload 7, 2) := by decide +kernel
theorem d3_46 : decode prog_37_method_1_code 46 = .ok (.lconst 1, 1) := by decide +kernel
theorem d3_47 : decode prog_37_method_1_code 47 = .ok (.lcmp, 1) := by decide +kernel
theorem d3_48 : decode prog_37_method_1_code 48 = .ok (.ifCond .ge 18, 3) := by decide +kernel
theorem d3_66 : decode prog_37_method_1_code 66 = .ok (.aload 6, 2) := by decide +kernel
theorem d3_68 : decode prog_37_method_1_code 68 = .ok (.invokestatic 20, 3) := by decide +kernel
theorem d3_71 : decode prog_37_method_1_code 71 = .ok (.aload 9, 2) := by decide +kernel
theorem d3_73 : decode prog_37_method_1_code 73 = .ok (.arraylength, 1) := by decide +kernel
theorem d3_74 : decode prog_37_method_1_code 74 = .ok (.ifCond .ne 9, 3) := by decide +kernel
theorem d3_77 : decode prog_37_method_1_code 77 = .ok (.getstatic 25, 3) := by decide +kernel
theorem d3_80 : decode prog_37_method_1_code 80 = .ok (.goto 11, 3) := by decide +kernel
theorem d3_91 : decode prog_37_method_1_code 91 = .ok (.astore 9, 2) := by decide +kernel
theorem d3_93 : decode prog_37_method_1_code 93 = .ok (.aload_n 0, 1) := by decide +kernel
theorem d3_94 : decode prog_37_method_1_code 94 = .ok (.lload_n 1, 1) := by decide +kernel
theorem d3_95 : decode prog_37_method_1_code 95 = .ok (.putfield 34, 3) := by decide +kernel
theorem d3_98 : decode prog_37_method_1_code 98 = .ok (.aload_n 0, 1) := by decide +kernel
theorem d3_99 : decode prog_37_method_1_code 99 = .ok (.iload_n 3, 1) := by decide +kernel
theorem d3_100 : decode prog_37_method_1_code 100 = .ok (.putfield 38, 3) := by decide +kernel
theorem d3_103 : decode prog_37_method_1_code 103 = .ok (.aload_n 0, 1) := by decide +kernel
theorem d3_104 : decode prog_37_method_1_code 104 = .ok (.lload 4, 2) := by decide +kernel
theorem d3_106 : decode prog_37_method_1_code 106 = .ok (.putfield 42, 3) := by decide +kernel
theorem d3_109 : decode prog_37_method_1_code 109 = .ok (.aload_n 0, 1) := by decide +kernel
theorem d3_110 : decode prog_37_method_1_code 110 = .ok (.aload 6, 2) := by decide +kernel
theorem d3_112 : decode prog_37_method_1_code 112 = .ok (.putfield 45, 3) := by decide +kernel
theorem d3_115 : decode prog_37_method_1_code 115 = .ok (.aload_n 0, 1) := by decide +kernel
theorem d3_116 : decode prog_37_method_1_code 116 = .ok (.lload 7, 2) := by decide +kernel
theorem d3_118 : decode prog_37_method_1_code 118 = .ok (.putfield 49, 3) := by decide +kernel
theorem d3_121 : decode prog_37_method_1_code 121 = .ok (.aload_n 0, 1) := by decide +kernel
theorem d3_122 : decode prog_37_method_1_code 122 = .ok (.aload 9, 2) := by decide +kernel
theorem d3_124 : decode prog_37_method_1_code 124 = .ok (.putfield 52, 3) := by decide +kernel
theorem d3_127 : decode prog_37_method_1_code 127 = .ok (.return_, 1) := by decide +kernel
theorem ef_rm3 (m : MethodId) (x0 : Addr) (x1 : Int64) (x2 : Int32) (x3 : Int64) (x4 : Addr) (x5 : Int64) (x6 : Addr) : entryFrame m #[(.ref x0), (.long x1), (.int x2), (.long x3), (.ref x4), (.long x5), (.ref x6)] 10 = mkF m 0 #[.val (.ref x0), .val (.long x1), .second, .val (.int x2), .val (.long x3), .second, .val (.ref x4), .val (.long x5), .second, .val (.ref x6)] [] := by first | (simp [entryFrame, mkF, argsToLocals, Value.category]; done) | rfl
set_option maxRecDepth 65536 in
set_option maxHeartbeats 40000000 in
theorem rm3 (l : Launch) (Z : State) (a0 : Array Value) (hw : ∀ d ∈ tables_1, d.before a0 Z = true) (a : Addr) (id t lf : Int64) (pb : Int32) (bd nb : Addr) (kd : ClassId) (tg b : Addr) (k : ClassId) (cs : Int32) (u : Addr) (S_inst : Sta Z Z.heap "sun/nio/cs/UTF_8" "INSTANCE" "Lsun/nio/cs/UTF_8;" (.ref u)) (h0 : Heap) (n0 : Nat) (Z0 : n0 ≤ h0.size) (O0 : Old Z n0 h0) (S_cs : Sta Z Z.heap "java/lang/String" "COMPACT_STRINGS" "Z" (.int cs)) (hcs : ¬ cs = 0) (E_t : Exa Z h0 tg "java/lang/String") (F_c : Fld Z h0 tg "java/lang/String" "coder" "B" (.int 0)) (F_v : Fld Z h0 tg "java/lang/String" "value" "[B" (.ref b)) (V : Arv Z h0 b k .byte 0 [] (.int 0)) (E_b : Exa Z h0 b "[B") (S_u8 : Sta Z Z.heap "java/nio/charset/StandardCharsets" "UTF_8" "Ljava/nio/charset/Charset;" (.ref u)) (V_d : Arv Z h0 bd kd .byte 0 [] (.int 0)) (S_nb : Sta Z Z.heap "com/example/lean_rumor/leanrumor/node/Message" "NO_BODY" "[B" (.ref nb)) (p1 : ¬ pb < 0) (p2 : ¬ t < 0) (p3 : ¬ lf < 1) (E_a : Exa Z h0 a "com/example/lean_rumor/leanrumor/node/Message") (g_a : n0 ≤ a) (G_id : Fld Z h0 a "com/example/lean_rumor/leanrumor/node/Message" "id" "J" (.long (0 : Int64))) (G_publisher : Fld Z h0 a "com/example/lean_rumor/leanrumor/node/Message" "publisher" "I" (.int (0 : Int32))) (G_time : Fld Z h0 a "com/example/lean_rumor/leanrumor/node/Message" "time" "J" (.long (0 : Int64))) (G_tag : Fld Z h0 a "com/example/lean_rumor/leanrumor/node/Message" "tag" "Ljava/lang/String;" .null) (G_lifetime : Fld Z h0 a "com/example/lean_rumor/leanrumor/node/Message" "lifetime" "J" (.long (0 : Int64))) (G_body : Fld Z h0 a "com/example/lean_rumor/leanrumor/node/Message" "body" "[B" .null) :
    OMet l Z (⟨"com/example/lean_rumor/leanrumor/node/Message", "<init>", "(JIJLjava/lang/String;J[B)V"⟩ : MethodName) prog_37_method_1_code 10 none [] ({ frames := 6, cells := 1, slots := 0, locals := 90 } : Room) #[(.ref a), (.long id), (.int pb), (.long t), (.ref tg), (.long lf), (.ref bd)] h0 (fun v h L => v = none ∧ Fr n0 L ∧ Keep h0 h [a] ∧ Exa Z h a "com/example/lean_rumor/leanrumor/node/Message" ∧ Fld Z h a "com/example/lean_rumor/leanrumor/node/Message" "time" "J" (.long t) ∧ Fld Z h a "com/example/lean_rumor/leanrumor/node/Message" "lifetime" "J" (.long lf)) := by
  refine OMet.of (plainFor_of_name pn_com_example_lean_rumor_leanrumor_node_Message) ?_
  intro p e s m below meth c s₁ hx hby hml hnd hown hnm hret hlk hZ X0 e0
  replace hown : s.vm.findClass "com/example/lean_rumor/leanrumor/node/Message" = some m.cls := hown
  replace hml : c.maxLocals = 10 := hml
  have N0 := Fr.nil n0
  rw [ef_rm3 m a id pb t tg lf bd]
  refine OGo.st (B := s₁.setTop (mkF m 1 #[.val (.ref a), .val (.long id), .second, .val (.int pb), .val (.long t), .second, .val (.ref tg), .val (.long lf), .second, .val (.ref bd)] [(.ref a)])) (fun _ kz => XS.aloadN X0.here hx rfl (hb hby d3_0) rfl rfl kz) ?_
  obtain ⟨v1, T1, L1, X1, hQ1, st1⟩ := (rm4 l Z a0 hw a h0 n0).init (W := 0) X0 hx hZ rfl hown (hw _ (List.mem_of_getElem? (i := 23) rfl)) (hw _ (List.mem_of_getElem? (i := 24) rfl)) (hw _ (List.mem_of_getElem? (i := 26) rfl)) (hw _ (List.mem_of_getElem? (i := 27) rfl)) (by decide) (by decide) (by decide) e0 (by decide) (by decide) (g := (mkF m 1 #[.val (.ref a), .val (.long id), .second, .val (.int pb), .val (.long t), .second, .val (.ref tg), .val (.long lf), .second, .val (.ref bd)] [(.ref a)])) rfl (by rw [hml]; rfl) (argsL := []) (rest := []) rfl (lenOf pd_2 rfl) rfl (by show 2 * 0 + _ ≤ _; exact Nat.le_of_eq rfl) (hb hby d3_1)
  obtain ⟨rfl, N1q, e1⟩ := hQ1
  have N1 := Fr.app N0 N1q
  refine OGo.st (B := T1.setTop (mkF m 4 #[.val (.ref a), .val (.long id), .second, .val (.int pb), .val (.long t), .second, .val (.ref tg), .val (.long lf), .second, .val (.ref bd)] [])) st1 ?_
  refine OGo.st (B := T1.setTop (mkF m 5 #[.val (.ref a), .val (.long id), .second, .val (.int pb), .val (.long t), .second, .val (.ref tg), .val (.long lf), .second, .val (.ref bd)] [(.int pb)])) (fun _ kz => XS.iloadN X1.here hx rfl (hb hby d3_4) rfl kz) ?_
  refine OGo.st (B := T1.setTop (mkF m 22 #[.val (.ref a), .val (.long id), .second, .val (.int pb), .val (.long t), .second, .val (.ref tg), .val (.long lf), .second, .val (.ref bd)] [])) (fun _ kz => XS.ifYes X1.here hx rfl (pc0 := 5) (pc' := 22) rfl (hb hby d3_5) rfl ((if0 _ _).trans (flt p1).2.1) (by decide) (by decide) kz) ?_
  refine OGo.st (B := T1.setTop (mkF m 24 #[.val (.ref a), .val (.long id), .second, .val (.int pb), .val (.long t), .second, .val (.ref tg), .val (.long lf), .second, .val (.ref bd)] [(.long t)])) (fun _ kz => XS.lload X1.here hx rfl (hb hby d3_22) rfl kz) ?_
  refine OGo.st (B := T1.setTop (mkF m 25 #[.val (.ref a), .val (.long id), .second, .val (.int pb), .val (.long t), .second, .val (.ref tg), .val (.long lf), .second, .val (.ref bd)] [(.long (0 : Int64)), (.long t)])) (fun _ kz => XS.lconst X1.here hx rfl (hb hby d3_24) kz) ?_
  refine OGo.st (B := T1.setTop (mkF m 26 #[.val (.ref a), .val (.long id), .second, .val (.int pb), .val (.long t), .second, .val (.ref tg), .val (.long lf), .second, .val (.ref bd)] [(.int (lcmpW t (0 : Int64)))])) (fun _ kz => XS.lcmp X1.here hx rfl (hb hby d3_25) rfl kz) ?_
  refine OGo.st (B := T1.setTop (mkF m 44 #[.val (.ref a), .val (.long id), .second, .val (.int pb), .val (.long t), .second, .val (.ref tg), .val (.long lf), .second, .val (.ref bd)] [])) (fun _ kz => XS.ifYes X1.here hx rfl (pc0 := 26) (pc' := 44) rfl (hb hby d3_26) rfl ((if0 _ _).trans (flt (mt (lw_lt _ _).mp p2)).2.1) (by decide) (by decide) kz) ?_
  refine OGo.st (B := T1.setTop (mkF m 46 #[.val (.ref a), .val (.long id), .second, .val (.int pb), .val (.long t), .second, .val (.ref tg), .val (.long lf), .second, .val (.ref bd)] [(.long lf)])) (fun _ kz => XS.lload X1.here hx rfl (hb hby d3_44) rfl kz) ?_
  refine OGo.st (B := T1.setTop (mkF m 47 #[.val (.ref a), .val (.long id), .second, .val (.int pb), .val (.long t), .second, .val (.ref tg), .val (.long lf), .second, .val (.ref bd)] [(.long (1 : Int64)), (.long lf)])) (fun _ kz => XS.lconst X1.here hx rfl (hb hby d3_46) kz) ?_
  refine OGo.st (B := T1.setTop (mkF m 48 #[.val (.ref a), .val (.long id), .second, .val (.int pb), .val (.long t), .second, .val (.ref tg), .val (.long lf), .second, .val (.ref bd)] [(.int (lcmpW lf (1 : Int64)))])) (fun _ kz => XS.lcmp X1.here hx rfl (hb hby d3_47) rfl kz) ?_
  refine OGo.st (B := T1.setTop (mkF m 66 #[.val (.ref a), .val (.long id), .second, .val (.int pb), .val (.long t), .second, .val (.ref tg), .val (.long lf), .second, .val (.ref bd)] [])) (fun _ kz => XS.ifYes X1.here hx rfl (pc0 := 48) (pc' := 66) rfl (hb hby d3_48) rfl ((if0 _ _).trans (flt (mt (lw_lt _ _).mp p3)).2.1) (by decide) (by decide) kz) ?_
  refine OGo.st (B := T1.setTop (mkF m 68 #[.val (.ref a), .val (.long id), .second, .val (.int pb), .val (.long t), .second, .val (.ref tg), .val (.long lf), .second, .val (.ref bd)] [(.ref tg)])) (fun _ kz => XS.aload X1.here hx rfl (hb hby d3_66) rfl rfl kz) ?_
  obtain ⟨v2, T2, L2, X2, hQ2, st2⟩ := (rm6 l Z a0 hw tg b k cs u S_inst h0 n0 Z0 O0 S_cs hcs E_t F_c F_v V E_b S_u8).static (W := 0) X1 hx hZ hown (hw _ (List.mem_of_getElem? (i := 31) rfl)) (hw _ (List.mem_of_getElem? (i := 32) rfl)) (hw _ (List.mem_of_getElem? (i := 10) rfl)) (hw _ (List.mem_of_getElem? (i := 33) rfl)) (by decide) (by decide) (by decide) e1 (by decide) (by decide) (g := (mkF m 68 #[.val (.ref a), .val (.long id), .second, .val (.int pb), .val (.long t), .second, .val (.ref tg), .val (.long lf), .second, .val (.ref bd)] [(.ref tg)])) rfl (by rw [hml]; rfl) (argsL := [(.ref tg)]) (rest := []) rfl (lenOf pd_3 rfl) rfl (by show 2 * 0 + _ ≤ _; exact Nat.le_of_eq rfl) (hb hby d3_68)
  obtain ⟨rfl, N2q, J2⟩ := hQ2
  have N2 := Fr.app N1 N2q
  have K2 : Keep h0 T2.heap [a] := (Keep.refl h0 [a]).trans J2 all0
  have O2 := O0.keep J2 all0
  refine OGo.st (B := T2.setTop (mkF m 71 #[.val (.ref a), .val (.long id), .second, .val (.int pb), .val (.long t), .second, .val (.ref tg), .val (.long lf), .second, .val (.ref bd)] [])) st2 ?_
  refine OGo.st (B := T2.setTop (mkF m 73 #[.val (.ref a), .val (.long id), .second, .val (.int pb), .val (.long t), .second, .val (.ref tg), .val (.long lf), .second, .val (.ref bd)] [(.ref bd)])) (fun _ kz => XS.aload X2.here hx rfl (hb hby d3_71) rfl rfl kz) ?_
  have W3 := (V_d.keep J2 nin0)
  obtain ⟨c3, a3, q3, z3, m3, y3, f3⟩ := W3
  refine OGo.st (B := T2.setTop (mkF m 74 #[.val (.ref a), .val (.long id), .second, .val (.int pb), .val (.long t), .second, .val (.ref tg), .val (.long lf), .second, .val (.ref bd)] [(.int c3.slots.size.toInt32)])) (X2.arraylength hx a3.1 (State.isArrayOf_alike hZ.alike a3.2.1) (g := (mkF m 73 #[.val (.ref a), .val (.long id), .second, .val (.int pb), .val (.long t), .second, .val (.ref tg), .val (.long lf), .second, .val (.ref bd)] [(.ref bd)])) rfl rfl (hb hby d3_73)) ?_
  rw [len_of z3 m3]
  refine OGo.st (B := T2.setTop (mkF m 77 #[.val (.ref a), .val (.long id), .second, .val (.int pb), .val (.long t), .second, .val (.ref tg), .val (.long lf), .second, .val (.ref bd)] [])) (fun _ kz => XS.ifNo X2.here hx rfl (hb hby d3_74) rfl (by decide) kz) ?_
  obtain ⟨T4, X4, e4, st4⟩ := getS2 X2 hx hZ hown (host := "") (Or.inl (hw _ (List.mem_of_getElem? (i := 73) rfl))) Via.refl rfl (S_nb.ext O2.2) (g := (mkF m 77 #[.val (.ref a), .val (.long id), .second, .val (.int pb), .val (.long t), .second, .val (.ref tg), .val (.long lf), .second, .val (.ref bd)] [])) rfl (hb hby d3_77)
  refine OGo.st (B := T4.setTop (mkF m 80 #[.val (.ref a), .val (.long id), .second, .val (.int pb), .val (.long t), .second, .val (.ref tg), .val (.long lf), .second, .val (.ref bd)] [(.ref nb)])) st4 ?_
  refine OGo.st (B := T4.setTop (mkF m 91 #[.val (.ref a), .val (.long id), .second, .val (.int pb), .val (.long t), .second, .val (.ref tg), .val (.long lf), .second, .val (.ref bd)] [(.ref nb)])) (fun _ kz => XS.goto X4.here hx rfl (pc0 := 80) (pc' := 91) rfl (hb hby d3_80) (by decide) (by decide) kz) ?_
  refine OGo.st (B := T4.setTop (mkF m 93 #[.val (.ref a), .val (.long id), .second, .val (.int pb), .val (.long t), .second, .val (.ref tg), .val (.long lf), .second, .val (.ref nb)] [])) (fun _ kz => XS.astore X4.here hx rfl (hb hby d3_91) rfl rfl (l' := #[.val (.ref a), .val (.long id), .second, .val (.int pb), .val (.long t), .second, .val (.ref tg), .val (.long lf), .second, .val (.ref nb)]) rfl kz) ?_
  refine OGo.st (B := T4.setTop (mkF m 94 #[.val (.ref a), .val (.long id), .second, .val (.int pb), .val (.long t), .second, .val (.ref tg), .val (.long lf), .second, .val (.ref nb)] [(.ref a)])) (fun _ kz => XS.aloadN X4.here hx rfl (hb hby d3_93) rfl rfl kz) ?_
  refine OGo.st (B := T4.setTop (mkF m 95 #[.val (.ref a), .val (.long id), .second, .val (.int pb), .val (.long t), .second, .val (.ref tg), .val (.long lf), .second, .val (.ref nb)] [(.long id), (.ref a)])) (fun _ kz => XS.lloadN X4.here hx rfl (hb hby d3_94) rfl kz) ?_
  obtain ⟨T5, h5, X5, e5, W5, st5⟩ := putF X4 hx hZ hown (host := "") (Or.inl (hw _ (List.mem_of_getElem? (i := 75) rfl))) Via.refl e4 (G_id.keep J2 nin0) (E_a.keep J2) (Or.inr ⟨(hw _ (List.mem_of_getElem? (i := 76) rfl)), rfl, hnm⟩) (hw _ (List.mem_of_getElem? (i := 9) rfl)) (ty := .long) (by decide) rfl rfl (g := (mkF m 95 #[.val (.ref a), .val (.long id), .second, .val (.int pb), .val (.long t), .second, .val (.ref tg), .val (.long lf), .second, .val (.ref nb)] [(.long id), (.ref a)])) rfl rfl (hb hby d3_95)
  have F5_id := (G_id.keep J2 nin0).same W5
  have N5 := Fr.snoc X5 N2 g_a
  have K5 : Keep h0 h5 [a] := K2.wr W5 (Or.inl (List.mem_of_getElem? (i := 0) rfl))
  have O5 := O2.wr W5 g_a
  refine OGo.st (B := T5.setTop (mkF m 98 #[.val (.ref a), .val (.long id), .second, .val (.int pb), .val (.long t), .second, .val (.ref tg), .val (.long lf), .second, .val (.ref nb)] [])) st5 ?_
  refine OGo.st (B := T5.setTop (mkF m 99 #[.val (.ref a), .val (.long id), .second, .val (.int pb), .val (.long t), .second, .val (.ref tg), .val (.long lf), .second, .val (.ref nb)] [(.ref a)])) (fun _ kz => XS.aloadN X5.here hx rfl (hb hby d3_98) rfl rfl kz) ?_
  refine OGo.st (B := T5.setTop (mkF m 100 #[.val (.ref a), .val (.long id), .second, .val (.int pb), .val (.long t), .second, .val (.ref tg), .val (.long lf), .second, .val (.ref nb)] [(.int pb), (.ref a)])) (fun _ kz => XS.iloadN X5.here hx rfl (hb hby d3_99) rfl kz) ?_
  obtain ⟨T6, h6, X6, e6, W6, st6⟩ := putF X5 hx hZ hown (host := "") (Or.inl (hw _ (List.mem_of_getElem? (i := 77) rfl))) Via.refl e5 ((G_publisher.keep J2 nin0).other W5 (Or.inr (slot_ne (Or.inr (hw _ (List.mem_of_getElem? (i := 78) rfl))) (Or.inr (hw _ (List.mem_of_getElem? (i := 76) rfl))) (by decide) (t := .int) (t' := .long) (by decide) (by decide)))) ((E_a.keep J2).wr W5) (Or.inr ⟨(hw _ (List.mem_of_getElem? (i := 78) rfl)), rfl, hnm⟩) (hw _ (List.mem_of_getElem? (i := 9) rfl)) (ty := .int) (by decide) rfl rfl (g := (mkF m 100 #[.val (.ref a), .val (.long id), .second, .val (.int pb), .val (.long t), .second, .val (.ref tg), .val (.long lf), .second, .val (.ref nb)] [(.int pb), (.ref a)])) rfl rfl (hb hby d3_100)
  have F6_publisher := ((G_publisher.keep J2 nin0).other W5 (Or.inr (slot_ne (Or.inr (hw _ (List.mem_of_getElem? (i := 78) rfl))) (Or.inr (hw _ (List.mem_of_getElem? (i := 76) rfl))) (by decide) (t := .int) (t' := .long) (by decide) (by decide)))).same W6
  have N6 := Fr.snoc X6 N5 g_a
  have K6 : Keep h0 h6 [a] := K5.wr W6 (Or.inl (List.mem_of_getElem? (i := 0) rfl))
  have O6 := O5.wr W6 g_a
  refine OGo.st (B := T6.setTop (mkF m 103 #[.val (.ref a), .val (.long id), .second, .val (.int pb), .val (.long t), .second, .val (.ref tg), .val (.long lf), .second, .val (.ref nb)] [])) st6 ?_
  refine OGo.st (B := T6.setTop (mkF m 104 #[.val (.ref a), .val (.long id), .second, .val (.int pb), .val (.long t), .second, .val (.ref tg), .val (.long lf), .second, .val (.ref nb)] [(.ref a)])) (fun _ kz => XS.aloadN X6.here hx rfl (hb hby d3_103) rfl rfl kz) ?_
  refine OGo.st (B := T6.setTop (mkF m 106 #[.val (.ref a), .val (.long id), .second, .val (.int pb), .val (.long t), .second, .val (.ref tg), .val (.long lf), .second, .val (.ref nb)] [(.long t), (.ref a)])) (fun _ kz => XS.lload X6.here hx rfl (hb hby d3_104) rfl kz) ?_
  obtain ⟨T7, h7, X7, e7, W7, st7⟩ := putF X6 hx hZ hown (host := "") (Or.inl (hw _ (List.mem_of_getElem? (i := 79) rfl))) Via.refl e6 (((G_time.keep J2 nin0).other W5 (Or.inr (slot_ne (Or.inr (hw _ (List.mem_of_getElem? (i := 80) rfl))) (Or.inr (hw _ (List.mem_of_getElem? (i := 76) rfl))) (by decide) (t := .long) (t' := .long) (by decide) (by decide)))).other W6 (Or.inr (slot_ne (Or.inr (hw _ (List.mem_of_getElem? (i := 80) rfl))) (Or.inr (hw _ (List.mem_of_getElem? (i := 78) rfl))) (by decide) (t := .long) (t' := .int) (by decide) (by decide)))) (((E_a.keep J2).wr W5).wr W6) (Or.inr ⟨(hw _ (List.mem_of_getElem? (i := 80) rfl)), rfl, hnm⟩) (hw _ (List.mem_of_getElem? (i := 9) rfl)) (ty := .long) (by decide) rfl rfl (g := (mkF m 106 #[.val (.ref a), .val (.long id), .second, .val (.int pb), .val (.long t), .second, .val (.ref tg), .val (.long lf), .second, .val (.ref nb)] [(.long t), (.ref a)])) rfl rfl (hb hby d3_106)
  have F7_time := (((G_time.keep J2 nin0).other W5 (Or.inr (slot_ne (Or.inr (hw _ (List.mem_of_getElem? (i := 80) rfl))) (Or.inr (hw _ (List.mem_of_getElem? (i := 76) rfl))) (by decide) (t := .long) (t' := .long) (by decide) (by decide)))).other W6 (Or.inr (slot_ne (Or.inr (hw _ (List.mem_of_getElem? (i := 80) rfl))) (Or.inr (hw _ (List.mem_of_getElem? (i := 78) rfl))) (by decide) (t := .long) (t' := .int) (by decide) (by decide)))).same W7
  have N7 := Fr.snoc X7 N6 g_a
  have K7 : Keep h0 h7 [a] := K6.wr W7 (Or.inl (List.mem_of_getElem? (i := 0) rfl))
  have O7 := O6.wr W7 g_a
  refine OGo.st (B := T7.setTop (mkF m 109 #[.val (.ref a), .val (.long id), .second, .val (.int pb), .val (.long t), .second, .val (.ref tg), .val (.long lf), .second, .val (.ref nb)] [])) st7 ?_
  refine OGo.st (B := T7.setTop (mkF m 110 #[.val (.ref a), .val (.long id), .second, .val (.int pb), .val (.long t), .second, .val (.ref tg), .val (.long lf), .second, .val (.ref nb)] [(.ref a)])) (fun _ kz => XS.aloadN X7.here hx rfl (hb hby d3_109) rfl rfl kz) ?_
  refine OGo.st (B := T7.setTop (mkF m 112 #[.val (.ref a), .val (.long id), .second, .val (.int pb), .val (.long t), .second, .val (.ref tg), .val (.long lf), .second, .val (.ref nb)] [(.ref tg), (.ref a)])) (fun _ kz => XS.aload X7.here hx rfl (hb hby d3_110) rfl rfl kz) ?_
  obtain ⟨T8, h8, X8, e8, W8, st8⟩ := putF X7 hx hZ hown (host := "") (Or.inl (hw _ (List.mem_of_getElem? (i := 81) rfl))) Via.refl e7 ((((G_tag.keep J2 nin0).other W5 (Or.inr (slot_ne (Or.inr (hw _ (List.mem_of_getElem? (i := 82) rfl))) (Or.inr (hw _ (List.mem_of_getElem? (i := 76) rfl))) (by decide) (t := (.object "java/lang/String")) (t' := .long) (by decide) (by decide)))).other W6 (Or.inr (slot_ne (Or.inr (hw _ (List.mem_of_getElem? (i := 82) rfl))) (Or.inr (hw _ (List.mem_of_getElem? (i := 78) rfl))) (by decide) (t := (.object "java/lang/String")) (t' := .int) (by decide) (by decide)))).other W7 (Or.inr (slot_ne (Or.inr (hw _ (List.mem_of_getElem? (i := 82) rfl))) (Or.inr (hw _ (List.mem_of_getElem? (i := 80) rfl))) (by decide) (t := (.object "java/lang/String")) (t' := .long) (by decide) (by decide)))) ((((E_a.keep J2).wr W5).wr W6).wr W7) (Or.inr ⟨(hw _ (List.mem_of_getElem? (i := 82) rfl)), rfl, hnm⟩) (hw _ (List.mem_of_getElem? (i := 9) rfl)) (ty := (.object "java/lang/String")) (by decide) rfl rfl (g := (mkF m 112 #[.val (.ref a), .val (.long id), .second, .val (.int pb), .val (.long t), .second, .val (.ref tg), .val (.long lf), .second, .val (.ref nb)] [(.ref tg), (.ref a)])) rfl rfl (hb hby d3_112)
  have F8_tag := ((((G_tag.keep J2 nin0).other W5 (Or.inr (slot_ne (Or.inr (hw _ (List.mem_of_getElem? (i := 82) rfl))) (Or.inr (hw _ (List.mem_of_getElem? (i := 76) rfl))) (by decide) (t := (.object "java/lang/String")) (t' := .long) (by decide) (by decide)))).other W6 (Or.inr (slot_ne (Or.inr (hw _ (List.mem_of_getElem? (i := 82) rfl))) (Or.inr (hw _ (List.mem_of_getElem? (i := 78) rfl))) (by decide) (t := (.object "java/lang/String")) (t' := .int) (by decide) (by decide)))).other W7 (Or.inr (slot_ne (Or.inr (hw _ (List.mem_of_getElem? (i := 82) rfl))) (Or.inr (hw _ (List.mem_of_getElem? (i := 80) rfl))) (by decide) (t := (.object "java/lang/String")) (t' := .long) (by decide) (by decide)))).same W8
  have N8 := Fr.snoc X8 N7 g_a
  have K8 : Keep h0 h8 [a] := K7.wr W8 (Or.inl (List.mem_of_getElem? (i := 0) rfl))
  have O8 := O7.wr W8 g_a
  refine OGo.st (B := T8.setTop (mkF m 115 #[.val (.ref a), .val (.long id), .second, .val (.int pb), .val (.long t), .second, .val (.ref tg), .val (.long lf), .second, .val (.ref nb)] [])) st8 ?_
  refine OGo.st (B := T8.setTop (mkF m 116 #[.val (.ref a), .val (.long id), .second, .val (.int pb), .val (.long t), .second, .val (.ref tg), .val (.long lf), .second, .val (.ref nb)] [(.ref a)])) (fun _ kz => XS.aloadN X8.here hx rfl (hb hby d3_115) rfl rfl kz) ?_
  refine OGo.st (B := T8.setTop (mkF m 118 #[.val (.ref a), .val (.long id), .second, .val (.int pb), .val (.long t), .second, .val (.ref tg), .val (.long lf), .second, .val (.ref nb)] [(.long lf), (.ref a)])) (fun _ kz => XS.lload X8.here hx rfl (hb hby d3_116) rfl kz) ?_
  obtain ⟨T9, h9, X9, e9, W9, st9⟩ := putF X8 hx hZ hown (host := "") (Or.inl (hw _ (List.mem_of_getElem? (i := 83) rfl))) Via.refl e8 (((((G_lifetime.keep J2 nin0).other W5 (Or.inr (slot_ne (Or.inr (hw _ (List.mem_of_getElem? (i := 84) rfl))) (Or.inr (hw _ (List.mem_of_getElem? (i := 76) rfl))) (by decide) (t := .long) (t' := .long) (by decide) (by decide)))).other W6 (Or.inr (slot_ne (Or.inr (hw _ (List.mem_of_getElem? (i := 84) rfl))) (Or.inr (hw _ (List.mem_of_getElem? (i := 78) rfl))) (by decide) (t := .long) (t' := .int) (by decide) (by decide)))).other W7 (Or.inr (slot_ne (Or.inr (hw _ (List.mem_of_getElem? (i := 84) rfl))) (Or.inr (hw _ (List.mem_of_getElem? (i := 80) rfl))) (by decide) (t := .long) (t' := .long) (by decide) (by decide)))).other W8 (Or.inr (slot_ne (Or.inr (hw _ (List.mem_of_getElem? (i := 84) rfl))) (Or.inr (hw _ (List.mem_of_getElem? (i := 82) rfl))) (by decide) (t := .long) (t' := (.object "java/lang/String")) (by decide) (by decide)))) (((((E_a.keep J2).wr W5).wr W6).wr W7).wr W8) (Or.inr ⟨(hw _ (List.mem_of_getElem? (i := 84) rfl)), rfl, hnm⟩) (hw _ (List.mem_of_getElem? (i := 9) rfl)) (ty := .long) (by decide) rfl rfl (g := (mkF m 118 #[.val (.ref a), .val (.long id), .second, .val (.int pb), .val (.long t), .second, .val (.ref tg), .val (.long lf), .second, .val (.ref nb)] [(.long lf), (.ref a)])) rfl rfl (hb hby d3_118)
  have F9_lifetime := (((((G_lifetime.keep J2 nin0).other W5 (Or.inr (slot_ne (Or.inr (hw _ (List.mem_of_getElem? (i := 84) rfl))) (Or.inr (hw _ (List.mem_of_getElem? (i := 76) rfl))) (by decide) (t := .long) (t' := .long) (by decide) (by decide)))).other W6 (Or.inr (slot_ne (Or.inr (hw _ (List.mem_of_getElem? (i := 84) rfl))) (Or.inr (hw _ (List.mem_of_getElem? (i := 78) rfl))) (by decide) (t := .long) (t' := .int) (by decide) (by decide)))).other W7 (Or.inr (slot_ne (Or.inr (hw _ (List.mem_of_getElem? (i := 84) rfl))) (Or.inr (hw _ (List.mem_of_getElem? (i := 80) rfl))) (by decide) (t := .long) (t' := .long) (by decide) (by decide)))).other W8 (Or.inr (slot_ne (Or.inr (hw _ (List.mem_of_getElem? (i := 84) rfl))) (Or.inr (hw _ (List.mem_of_getElem? (i := 82) rfl))) (by decide) (t := .long) (t' := (.object "java/lang/String")) (by decide) (by decide)))).same W9
  have N9 := Fr.snoc X9 N8 g_a
  have K9 : Keep h0 h9 [a] := K8.wr W9 (Or.inl (List.mem_of_getElem? (i := 0) rfl))
  have O9 := O8.wr W9 g_a
  refine OGo.st (B := T9.setTop (mkF m 121 #[.val (.ref a), .val (.long id), .second, .val (.int pb), .val (.long t), .second, .val (.ref tg), .val (.long lf), .second, .val (.ref nb)] [])) st9 ?_
  refine OGo.st (B := T9.setTop (mkF m 122 #[.val (.ref a), .val (.long id), .second, .val (.int pb), .val (.long t), .second, .val (.ref tg), .val (.long lf), .second, .val (.ref nb)] [(.ref a)])) (fun _ kz => XS.aloadN X9.here hx rfl (hb hby d3_121) rfl rfl kz) ?_
  refine OGo.st (B := T9.setTop (mkF m 124 #[.val (.ref a), .val (.long id), .second, .val (.int pb), .val (.long t), .second, .val (.ref tg), .val (.long lf), .second, .val (.ref nb)] [(.ref nb), (.ref a)])) (fun _ kz => XS.aload X9.here hx rfl (hb hby d3_122) rfl rfl kz) ?_
  obtain ⟨T10, h10, X10, e10, W10, st10⟩ := putF X9 hx hZ hown (host := "") (Or.inl (hw _ (List.mem_of_getElem? (i := 85) rfl))) Via.refl e9 ((((((G_body.keep J2 nin0).other W5 (Or.inr (slot_ne (Or.inr (hw _ (List.mem_of_getElem? (i := 86) rfl))) (Or.inr (hw _ (List.mem_of_getElem? (i := 76) rfl))) (by decide) (t := (.array .byte)) (t' := .long) (by decide) (by decide)))).other W6 (Or.inr (slot_ne (Or.inr (hw _ (List.mem_of_getElem? (i := 86) rfl))) (Or.inr (hw _ (List.mem_of_getElem? (i := 78) rfl))) (by decide) (t := (.array .byte)) (t' := .int) (by decide) (by decide)))).other W7 (Or.inr (slot_ne (Or.inr (hw _ (List.mem_of_getElem? (i := 86) rfl))) (Or.inr (hw _ (List.mem_of_getElem? (i := 80) rfl))) (by decide) (t := (.array .byte)) (t' := .long) (by decide) (by decide)))).other W8 (Or.inr (slot_ne (Or.inr (hw _ (List.mem_of_getElem? (i := 86) rfl))) (Or.inr (hw _ (List.mem_of_getElem? (i := 82) rfl))) (by decide) (t := (.array .byte)) (t' := (.object "java/lang/String")) (by decide) (by decide)))).other W9 (Or.inr (slot_ne (Or.inr (hw _ (List.mem_of_getElem? (i := 86) rfl))) (Or.inr (hw _ (List.mem_of_getElem? (i := 84) rfl))) (by decide) (t := (.array .byte)) (t' := .long) (by decide) (by decide)))) ((((((E_a.keep J2).wr W5).wr W6).wr W7).wr W8).wr W9) (Or.inr ⟨(hw _ (List.mem_of_getElem? (i := 86) rfl)), rfl, hnm⟩) (hw _ (List.mem_of_getElem? (i := 9) rfl)) (ty := (.array .byte)) (by decide) rfl rfl (g := (mkF m 124 #[.val (.ref a), .val (.long id), .second, .val (.int pb), .val (.long t), .second, .val (.ref tg), .val (.long lf), .second, .val (.ref nb)] [(.ref nb), (.ref a)])) rfl rfl (hb hby d3_124)
  have F10_body := ((((((G_body.keep J2 nin0).other W5 (Or.inr (slot_ne (Or.inr (hw _ (List.mem_of_getElem? (i := 86) rfl))) (Or.inr (hw _ (List.mem_of_getElem? (i := 76) rfl))) (by decide) (t := (.array .byte)) (t' := .long) (by decide) (by decide)))).other W6 (Or.inr (slot_ne (Or.inr (hw _ (List.mem_of_getElem? (i := 86) rfl))) (Or.inr (hw _ (List.mem_of_getElem? (i := 78) rfl))) (by decide) (t := (.array .byte)) (t' := .int) (by decide) (by decide)))).other W7 (Or.inr (slot_ne (Or.inr (hw _ (List.mem_of_getElem? (i := 86) rfl))) (Or.inr (hw _ (List.mem_of_getElem? (i := 80) rfl))) (by decide) (t := (.array .byte)) (t' := .long) (by decide) (by decide)))).other W8 (Or.inr (slot_ne (Or.inr (hw _ (List.mem_of_getElem? (i := 86) rfl))) (Or.inr (hw _ (List.mem_of_getElem? (i := 82) rfl))) (by decide) (t := (.array .byte)) (t' := (.object "java/lang/String")) (by decide) (by decide)))).other W9 (Or.inr (slot_ne (Or.inr (hw _ (List.mem_of_getElem? (i := 86) rfl))) (Or.inr (hw _ (List.mem_of_getElem? (i := 84) rfl))) (by decide) (t := (.array .byte)) (t' := .long) (by decide) (by decide)))).same W10
  have N10 := Fr.snoc X10 N9 g_a
  have K10 : Keep h0 h10 [a] := K9.wr W10 (Or.inl (List.mem_of_getElem? (i := 0) rfl))
  have O10 := O9.wr W10 g_a
  refine OGo.st (B := T10.setTop (mkF m 127 #[.val (.ref a), .val (.long id), .second, .val (.int pb), .val (.long t), .second, .val (.ref tg), .val (.long lf), .second, .val (.ref nb)] [])) st10 ?_
  exact own_ret0 X10 hx hret hlk (hb hby d3_127) (by rw [e10]; exact ⟨rfl, N10, K10, (((((((E_a.keep J2).wr W5).wr W6).wr W7).wr W8).wr W9).wr W10), (((F7_time.other W8 (Or.inr (slot_ne (Or.inr (hw _ (List.mem_of_getElem? (i := 80) rfl))) (Or.inr (hw _ (List.mem_of_getElem? (i := 82) rfl))) (by decide) (t := .long) (t' := (.object "java/lang/String")) (by decide) (by decide)))).other W9 (Or.inr (slot_ne (Or.inr (hw _ (List.mem_of_getElem? (i := 80) rfl))) (Or.inr (hw _ (List.mem_of_getElem? (i := 84) rfl))) (by decide) (t := .long) (t' := .long) (by decide) (by decide)))).other W10 (Or.inr (slot_ne (Or.inr (hw _ (List.mem_of_getElem? (i := 80) rfl))) (Or.inr (hw _ (List.mem_of_getElem? (i := 86) rfl))) (by decide) (t := .long) (t' := (.array .byte)) (by decide) (by decide)))), (F9_lifetime.other W10 (Or.inr (slot_ne (Or.inr (hw _ (List.mem_of_getElem? (i := 84) rfl))) (Or.inr (hw _ (List.mem_of_getElem? (i := 86) rfl))) (by decide) (t := .long) (t' := (.array .byte)) (by decide) (by decide))))⟩) (by decide) (by decide)
theorem d13_0 : decode prog_37_method_4_code 0 = .ok (.lload_n 1, 1) := by decide +kernel
theorem d13_1 : decode prog_37_method_4_code 1 = .ok (.aload_n 0, 1) := by decide +kernel
theorem d13_2 : decode prog_37_method_4_code 2 = .ok (.getfield 42, 3) := by decide +kernel
theorem d13_5 : decode prog_37_method_4_code 5 = .ok (.lsub, 1) := by decide +kernel
theorem d13_6 : decode prog_37_method_4_code 6 = .ok (.aload_n 0, 1) := by decide +kernel
theorem d13_7 : decode prog_37_method_4_code 7 = .ok (.getfield 49, 3) := by decide +kernel
theorem d13_10 : decode prog_37_method_4_code 10 = .ok (.lcmp, 1) := by decide +kernel
theorem d13_11 : decode prog_37_method_4_code 11 = .ok (.ifCond .ge 7, 3) := by decide +kernel
theorem d13_14 : decode prog_37_method_4_code 14 = .ok (.iconst 1, 1) := by decide +kernel
theorem d13_15 : decode prog_37_method_4_code 15 = .ok (.goto 4, 3) := by decide +kernel
theorem d13_18 : decode prog_37_method_4_code 18 = .ok (.iconst 0, 1) := by decide +kernel
theorem d13_19 : decode prog_37_method_4_code 19 = .ok (.ireturn, 1) := by decide +kernel
theorem ef_rm13 (m : MethodId) (x0 : Addr) (x1 : Int64) : entryFrame m #[(.ref x0), (.long x1)] 3 = mkF m 0 #[.val (.ref x0), .val (.long x1), .second] [] := by first | (simp [entryFrame, mkF, argsToLocals, Value.category]; done) | rfl
set_option maxRecDepth 65536 in
set_option maxHeartbeats 40000000 in
theorem rm13 (l : Launch) (Z : State) (a0 : Array Value) (hw : ∀ d ∈ tables_1, d.before a0 Z = true) (a : Addr) (q t lf : Int64) (r : Int32) (h0 : Heap) (n0 : Nat) (F1 : Fld Z h0 a "com/example/lean_rumor/leanrumor/node/Message" "time" "J" (.long t)) (F2 : Fld Z h0 a "com/example/lean_rumor/leanrumor/node/Message" "lifetime" "J" (.long lf)) (hr : (if q - t < lf then (1 : Int32) else 0) = r) :
    OMet l Z (⟨"com/example/lean_rumor/leanrumor/node/Message", "livesAt", "(J)Z"⟩ : MethodName) prog_37_method_4_code 3 (some .boolean) [] ({ frames := 0, cells := 0, slots := 0, locals := 0 } : Room) #[(.ref a), (.long q)] h0 (OPure (some (.int r)) h0 n0) := by
  refine OMet.of (plainFor_of_name pn_com_example_lean_rumor_leanrumor_node_Message) ?_
  intro p e s m below meth c s₁ hx hby hml hnd hown hnm hret hlk hZ X0 e0
  replace hown : s.vm.findClass "com/example/lean_rumor/leanrumor/node/Message" = some m.cls := hown
  replace hml : c.maxLocals = 3 := hml
  have N0 := Fr.nil n0
  rw [ef_rm13 m a q]
  refine OGo.st (B := s₁.setTop (mkF m 1 #[.val (.ref a), .val (.long q), .second] [(.long q)])) (fun _ kz => XS.lloadN X0.here hx rfl (hb hby d13_0) rfl kz) ?_
  refine OGo.st (B := s₁.setTop (mkF m 2 #[.val (.ref a), .val (.long q), .second] [(.ref a), (.long q)])) (fun _ kz => XS.aloadN X0.here hx rfl (hb hby d13_1) rfl rfl kz) ?_
  obtain ⟨T1, X1, e1, st1⟩ := getF X0 hx hZ hown (host := "") (Or.inl (hw _ (List.mem_of_getElem? (i := 79) rfl))) Via.refl e0 F1 (g := (mkF m 2 #[.val (.ref a), .val (.long q), .second] [(.ref a), (.long q)])) rfl rfl (hb hby d13_2)
  refine OGo.st (B := T1.setTop (mkF m 5 #[.val (.ref a), .val (.long q), .second] [(.long t), (.long q)])) st1 ?_
  refine OGo.st (B := T1.setTop (mkF m 6 #[.val (.ref a), .val (.long q), .second] [(.long (q - t))])) (fun _ kz => XS.lsub X1.here hx rfl (hb hby d13_5) rfl kz) ?_
  refine OGo.st (B := T1.setTop (mkF m 7 #[.val (.ref a), .val (.long q), .second] [(.ref a), (.long (q - t))])) (fun _ kz => XS.aloadN X1.here hx rfl (hb hby d13_6) rfl rfl kz) ?_
  obtain ⟨T2, X2, e2, st2⟩ := getF X1 hx hZ hown (host := "") (Or.inl (hw _ (List.mem_of_getElem? (i := 83) rfl))) Via.refl e1 F2 (g := (mkF m 7 #[.val (.ref a), .val (.long q), .second] [(.ref a), (.long (q - t))])) rfl rfl (hb hby d13_7)
  refine OGo.st (B := T2.setTop (mkF m 10 #[.val (.ref a), .val (.long q), .second] [(.long lf), (.long (q - t))])) st2 ?_
  refine OGo.st (B := T2.setTop (mkF m 11 #[.val (.ref a), .val (.long q), .second] [(.int (lcmpW (q - t) lf))])) (fun _ kz => XS.lcmp X2.here hx rfl (hb hby d13_10) rfl kz) ?_
  by_cases h1 : (q - t) < lf
  · skip
    refine OGo.st (B := T2.setTop (mkF m 14 #[.val (.ref a), .val (.long q), .second] [])) (fun _ kz => XS.ifNo X2.here hx rfl (hb hby d13_11) rfl ((if0 _ _).trans (tlt ((lw_lt _ _).mpr h1)).2.1) kz) ?_
    refine OGo.st (B := T2.setTop (mkF m 15 #[.val (.ref a), .val (.long q), .second] [(.int (1 : Int32))])) (fun _ kz => XS.iconst X2.here hx rfl (hb hby d13_14) kz) ?_
    refine OGo.st (B := T2.setTop (mkF m 19 #[.val (.ref a), .val (.long q), .second] [(.int (1 : Int32))])) (fun _ kz => XS.goto X2.here hx rfl (pc0 := 15) (pc' := 19) rfl (hb hby d13_15) (by decide) (by decide) kz) ?_
    exact own_retZ X2 hx hret hlk (hb hby d13_19) ⟨by rw [← hr, if_pos h1]; rfl, N0, e2⟩ (by decide) (by decide)
  · skip
    refine OGo.st (B := T2.setTop (mkF m 18 #[.val (.ref a), .val (.long q), .second] [])) (fun _ kz => XS.ifYes X2.here hx rfl (pc0 := 11) (pc' := 18) rfl (hb hby d13_11) rfl ((if0 _ _).trans (flt (mt (lw_lt _ _).mp h1)).2.1) (by decide) (by decide) kz) ?_
    refine OGo.st (B := T2.setTop (mkF m 19 #[.val (.ref a), .val (.long q), .second] [(.int (0 : Int32))])) (fun _ kz => XS.iconst X2.here hx rfl (hb hby d13_18) kz) ?_
    exact own_retZ X2 hx hret hlk (hb hby d13_19) ⟨by rw [← hr, if_neg h1]; rfl, N0, e2⟩ (by decide) (by decide)
theorem own_pos (x : Int64) : 0 ≤ (x &&& (9223372036854775807 : Int64)).toInt := by
  have := c_maskL x (9223372036854775807 : Int64) 63 (by decide) (by decide)
  have := rng64 x
  omega
theorem own_npos (x : Int64) : ¬ (x &&& (9223372036854775807 : Int64)) < (0 : Int64) := by
  have := own_pos x
  rw [Int64.lt_iff_toInt_lt]
  have e0 : (0 : Int64).toInt = 0 := rfl
  omega
theorem own_npos32 (x : Int32) : ¬ (x &&& (2147483647 : Int32)) < (0 : Int32) := by
  have := c_mask x 2147483647 31 (by decide) (by decide)
  rw [Int32.lt_iff_toInt_lt]
  have e0 : (0 : Int32).toInt = 0 := rfl
  omega
theorem own_life (x r : Int64) (hr : (if (1 : Int64) < (x &&& (9223372036854775807 : Int64)) then (x &&& (9223372036854775807 : Int64)) else (1 : Int64)) = r) : ¬ r < (1 : Int64) := by
  rw [← hr]
  split
  · rename_i h
    rw [Int64.lt_iff_toInt_lt] at *
    omega
  · decide
theorem own_back (t d : Int64) : t + d - t = d := by
  apply Int64.toInt_inj.mp
  have k1 := c_ladd t d
  have k2 := c_lsub (t + d) t
  have := rng64 (t + d - t)
  have := rng64 d
  omega
theorem pd_0 : parseMethodDescriptor "(JJ)J" = some ⟨[.long, .long], some .long⟩ := by decide +kernel
theorem pd_1 : parseMethodDescriptor "(JIJLjava/lang/String;J[B)V" = some ⟨[.long, .int, .long, (.object "java/lang/String"), .long, (.array .byte)], none⟩ := by decide +kernel
theorem pd_11 : parseMethodDescriptor "(J)Z" = some ⟨[.long], some .boolean⟩ := by decide +kernel
theorem pn_com_example_lean_rumor_leanrumor_node_MessageLivesAtPinLaw : plainName "com/example/lean_rumor/leanrumor/node/MessageLivesAtPinLaw" = true := by first | (simp [plainName, overriddenIn]; done) | decide +kernel
theorem ef_rm0 (m : MethodId) (x0 : Int64) (x1 : Int32) (x2 : Int64) (x3 : Int64) (x4 : Int64) (x5 : Int32) : entryFrame m #[(.long x0), (.int x1), (.long x2), (.long x3), (.long x4), (.int x5)] maxLocals = mkF m 0 #[.val (.long x0), .second, .val (.int x1), .val (.long x2), .second, .val (.long x3), .second, .val (.long x4), .second, .val (.int x5), .unset, .unset, .unset, .unset, .unset, .unset, .unset, .unset, .unset, .unset] [] := by first | (simp [entryFrame, mkF, argsToLocals, Value.category, maxLocals]; done) | rfl
set_option maxRecDepth 65536 in
set_option maxHeartbeats 40000000 in
theorem rm0 (l : Launch) (Z : State) (a0 : Array Value) (hw : ∀ d ∈ tables_1, d.before a0 Z = true) (id ti li of : Int64) (pu mo : Int32) (h0 : Heap) (n0 : Nat) (hh : Z.heap = h0) (hn : Z.heap.size = n0) (cs : Int32) (u : Addr) (S_inst : Sta Z Z.heap "sun/nio/cs/UTF_8" "INSTANCE" "Lsun/nio/cs/UTF_8;" (.ref u)) (nb : Addr) (S_cs : Sta Z Z.heap "java/lang/String" "COMPACT_STRINGS" "Z" (.int cs)) (hcs : ¬ cs = 0) (S_u8 : Sta Z Z.heap "java/nio/charset/StandardCharsets" "UTF_8" "Ljava/nio/charset/Charset;" (.ref u)) (S_nb : Sta Z Z.heap "com/example/lean_rumor/leanrumor/node/Message" "NO_BODY" "[B" (.ref nb)) (hheld : Jvm.Lit.constHeld Z "com/example/lean_rumor/leanrumor/node/MessageLivesAtPinLaw" 25) (hcw : Jvm.Lit.compactW.before a0 Z = true) :
    OLaw l Z x code maxLocals ret tables_1 room_1 #[(.long id), (.int pu), (.long ti), (.long li), (.long of), (.int mo)] (fun v _ L => v = some (.int (1 : Int32)) ∧ Fr n0 L) := by
  refine OLaw.of (plainFor_of_name pn_com_example_lean_rumor_leanrumor_node_MessageLivesAtPinLaw) ?_
  intro p e m below meth c s₁ hx hby hml hown hnm hret hlk X0 e0
  replace hown : Z.vm.findClass "com/example/lean_rumor/leanrumor/node/MessageLivesAtPinLaw" = some m.cls := hown
  replace hml : c.maxLocals = 20 := hml
  replace hret : meth.sig.returnType = some .boolean := hret
  have hZ : Z.Warmed39 Z.vm := State.Warmed39.refl Z
  replace e0 : s₁.heap = h0 := e0.trans hh
  have N0 := Fr.nil n0
  have Z0 : n0 ≤ h0.size := by rw [← hn, ← hh]; exact Nat.le_refl _
  have O0 : Old Z n0 h0 := ⟨hn, by rw [← hh]; exact ⟨Nat.le_refl _, fun _ _ q => q⟩⟩
  have wS := own_strings (Z := Z) (a0 := a0) (hw _ (List.mem_of_getElem? (i := 13) rfl)) (hw _ (List.mem_of_getElem? (i := 14) rfl)) (hw _ (List.mem_of_getElem? (i := 15) rfl)) (hw _ (List.mem_of_getElem? (i := 16) rfl)) (hw _ (List.mem_of_getElem? (i := 17) rfl)) (hw _ (List.mem_of_getElem? (i := 18) rfl)) (hw _ (List.mem_of_getElem? (i := 19) rfl))
  rw [ef_rm0 m id pu ti li of mo]
  refine OGo.st (B := s₁.setTop (mkF m 1 #[.val (.long id), .second, .val (.int pu), .val (.long ti), .second, .val (.long li), .second, .val (.long of), .second, .val (.int mo), .unset, .unset, .unset, .unset, .unset, .unset, .unset, .unset, .unset, .unset] [(.long ti)])) (fun _ kz => XS.lloadN X0.here hx rfl (hb hby at_0) rfl kz) ?_
  refine OGo.st (B := s₁.setTop (mkF m 4 #[.val (.long id), .second, .val (.int pu), .val (.long ti), .second, .val (.long li), .second, .val (.long of), .second, .val (.int mo), .unset, .unset, .unset, .unset, .unset, .unset, .unset, .unset, .unset, .unset] [(.long (9223372036854775807 : Int64)), (.long ti)])) (X0.ldc2Long hx hown (mvT hZ (hw _ (List.mem_of_getElem? (i := 0) rfl))) (g := (mkF m 1 #[.val (.long id), .second, .val (.int pu), .val (.long ti), .second, .val (.long li), .second, .val (.long of), .second, .val (.int mo), .unset, .unset, .unset, .unset, .unset, .unset, .unset, .unset, .unset, .unset] [(.long ti)])) rfl (hb hby at_1)) ?_
  refine OGo.st (B := s₁.setTop (mkF m 5 #[.val (.long id), .second, .val (.int pu), .val (.long ti), .second, .val (.long li), .second, .val (.long of), .second, .val (.int mo), .unset, .unset, .unset, .unset, .unset, .unset, .unset, .unset, .unset, .unset] [(.long (ti &&& (9223372036854775807 : Int64)))])) (fun _ kz => XS.land X0.here hx rfl (hb hby at_4) rfl kz) ?_
  refine OGo.st (B := s₁.setTop (mkF m 7 #[.val (.long id), .second, .val (.int pu), .val (.long ti), .second, .val (.long li), .second, .val (.long of), .second, .val (.int mo), .val (.long (ti &&& (9223372036854775807 : Int64))), .second, .unset, .unset, .unset, .unset, .unset, .unset, .unset, .unset] [])) (fun _ kz => XS.lstore X0.here hx rfl (hb hby at_5) rfl (l' := #[.val (.long id), .second, .val (.int pu), .val (.long ti), .second, .val (.long li), .second, .val (.long of), .second, .val (.int mo), .val (.long (ti &&& (9223372036854775807 : Int64))), .second, .unset, .unset, .unset, .unset, .unset, .unset, .unset, .unset]) rfl kz) ?_
  refine OGo.st (B := s₁.setTop (mkF m 8 #[.val (.long id), .second, .val (.int pu), .val (.long ti), .second, .val (.long li), .second, .val (.long of), .second, .val (.int mo), .val (.long (ti &&& (9223372036854775807 : Int64))), .second, .unset, .unset, .unset, .unset, .unset, .unset, .unset, .unset] [(.long (1 : Int64))])) (fun _ kz => XS.lconst X0.here hx rfl (hb hby at_7) kz) ?_
  refine OGo.st (B := s₁.setTop (mkF m 10 #[.val (.long id), .second, .val (.int pu), .val (.long ti), .second, .val (.long li), .second, .val (.long of), .second, .val (.int mo), .val (.long (ti &&& (9223372036854775807 : Int64))), .second, .unset, .unset, .unset, .unset, .unset, .unset, .unset, .unset] [(.long li), (.long (1 : Int64))])) (fun _ kz => XS.lload X0.here hx rfl (hb hby at_8) rfl kz) ?_
  refine OGo.st (B := s₁.setTop (mkF m 13 #[.val (.long id), .second, .val (.int pu), .val (.long ti), .second, .val (.long li), .second, .val (.long of), .second, .val (.int mo), .val (.long (ti &&& (9223372036854775807 : Int64))), .second, .unset, .unset, .unset, .unset, .unset, .unset, .unset, .unset] [(.long (9223372036854775807 : Int64)), (.long li), (.long (1 : Int64))])) (X0.ldc2Long hx hown (mvT hZ (hw _ (List.mem_of_getElem? (i := 0) rfl))) (g := (mkF m 10 #[.val (.long id), .second, .val (.int pu), .val (.long ti), .second, .val (.long li), .second, .val (.long of), .second, .val (.int mo), .val (.long (ti &&& (9223372036854775807 : Int64))), .second, .unset, .unset, .unset, .unset, .unset, .unset, .unset, .unset] [(.long li), (.long (1 : Int64))])) rfl (hb hby at_10)) ?_
  refine OGo.st (B := s₁.setTop (mkF m 14 #[.val (.long id), .second, .val (.int pu), .val (.long ti), .second, .val (.long li), .second, .val (.long of), .second, .val (.int mo), .val (.long (ti &&& (9223372036854775807 : Int64))), .second, .unset, .unset, .unset, .unset, .unset, .unset, .unset, .unset] [(.long (li &&& (9223372036854775807 : Int64))), (.long (1 : Int64))])) (fun _ kz => XS.land X0.here hx rfl (hb hby at_13) rfl kz) ?_
  obtain ⟨r1, hr1⟩ : ∃ r, (if (1 : Int64) < (li &&& (9223372036854775807 : Int64)) then (li &&& (9223372036854775807 : Int64)) else (1 : Int64)) = r := ⟨_, rfl⟩
  obtain ⟨v2, T2, L2, X2, hQ2, st2⟩ := (rm1 l Z a0 hw (1 : Int64) (li &&& (9223372036854775807 : Int64)) r1 h0 n0 hr1).static (W := 0) X0 hx hZ hown (hw _ (List.mem_of_getElem? (i := 1) rfl)) (hw _ (List.mem_of_getElem? (i := 2) rfl)) (hw _ (List.mem_of_getElem? (i := 3) rfl)) (hw _ (List.mem_of_getElem? (i := 4) rfl)) (by decide) (by decide) (by decide) e0 (by decide) (by decide) (g := (mkF m 14 #[.val (.long id), .second, .val (.int pu), .val (.long ti), .second, .val (.long li), .second, .val (.long of), .second, .val (.int mo), .val (.long (ti &&& (9223372036854775807 : Int64))), .second, .unset, .unset, .unset, .unset, .unset, .unset, .unset, .unset] [(.long (li &&& (9223372036854775807 : Int64))), (.long (1 : Int64))])) rfl (by rw [hml]; rfl) (argsL := [(.long (1 : Int64)), (.long (li &&& (9223372036854775807 : Int64)))]) (rest := []) rfl (lenOf pd_0 rfl) rfl (by show 2 * 0 + _ ≤ _; exact Nat.le_of_eq rfl) (hb hby at_14)
  obtain ⟨rfl, N2q, e2⟩ := hQ2
  have N2 := Fr.app N0 N2q
  refine OGo.st (B := T2.setTop (mkF m 17 #[.val (.long id), .second, .val (.int pu), .val (.long ti), .second, .val (.long li), .second, .val (.long of), .second, .val (.int mo), .val (.long (ti &&& (9223372036854775807 : Int64))), .second, .unset, .unset, .unset, .unset, .unset, .unset, .unset, .unset] [(.long r1)])) st2 ?_
  have hlf := own_life _ _ hr1
  refine OGo.st (B := T2.setTop (mkF m 19 #[.val (.long id), .second, .val (.int pu), .val (.long ti), .second, .val (.long li), .second, .val (.long of), .second, .val (.int mo), .val (.long (ti &&& (9223372036854775807 : Int64))), .second, .val (.long r1), .second, .unset, .unset, .unset, .unset, .unset, .unset] [])) (fun _ kz => XS.lstore X2.here hx rfl (hb hby at_17) rfl (l' := #[.val (.long id), .second, .val (.int pu), .val (.long ti), .second, .val (.long li), .second, .val (.long of), .second, .val (.int mo), .val (.long (ti &&& (9223372036854775807 : Int64))), .second, .val (.long r1), .second, .unset, .unset, .unset, .unset, .unset, .unset]) rfl kz) ?_
  refine OGo.st (B := T2.setTop (mkF m 22 #[.val (.long id), .second, .val (.int pu), .val (.long ti), .second, .val (.long li), .second, .val (.long of), .second, .val (.int mo), .val (.long (ti &&& (9223372036854775807 : Int64))), .second, .val (.long r1), .second, .unset, .unset, .unset, .unset, .unset, .unset] [(.long (9223372036854775807 : Int64))])) (X2.ldc2Long hx hown (mvT hZ (hw _ (List.mem_of_getElem? (i := 0) rfl))) (g := (mkF m 19 #[.val (.long id), .second, .val (.int pu), .val (.long ti), .second, .val (.long li), .second, .val (.long of), .second, .val (.int mo), .val (.long (ti &&& (9223372036854775807 : Int64))), .second, .val (.long r1), .second, .unset, .unset, .unset, .unset, .unset, .unset] [])) rfl (hb hby at_19)) ?_
  refine OGo.st (B := T2.setTop (mkF m 24 #[.val (.long id), .second, .val (.int pu), .val (.long ti), .second, .val (.long li), .second, .val (.long of), .second, .val (.int mo), .val (.long (ti &&& (9223372036854775807 : Int64))), .second, .val (.long r1), .second, .unset, .unset, .unset, .unset, .unset, .unset] [(.long (ti &&& (9223372036854775807 : Int64))), (.long (9223372036854775807 : Int64))])) (fun _ kz => XS.lload X2.here hx rfl (hb hby at_22) rfl kz) ?_
  refine OGo.st (B := T2.setTop (mkF m 25 #[.val (.long id), .second, .val (.int pu), .val (.long ti), .second, .val (.long li), .second, .val (.long of), .second, .val (.int mo), .val (.long (ti &&& (9223372036854775807 : Int64))), .second, .val (.long r1), .second, .unset, .unset, .unset, .unset, .unset, .unset] [(.long ((9223372036854775807 : Int64) - (ti &&& (9223372036854775807 : Int64))))])) (fun _ kz => XS.lsub X2.here hx rfl (hb hby at_24) rfl kz) ?_
  refine OGo.st (B := T2.setTop (mkF m 27 #[.val (.long id), .second, .val (.int pu), .val (.long ti), .second, .val (.long li), .second, .val (.long of), .second, .val (.int mo), .val (.long (ti &&& (9223372036854775807 : Int64))), .second, .val (.long r1), .second, .val (.long ((9223372036854775807 : Int64) - (ti &&& (9223372036854775807 : Int64)))), .second, .unset, .unset, .unset, .unset] [])) (fun _ kz => XS.lstore X2.here hx rfl (hb hby at_25) rfl (l' := #[.val (.long id), .second, .val (.int pu), .val (.long ti), .second, .val (.long li), .second, .val (.long of), .second, .val (.int mo), .val (.long (ti &&& (9223372036854775807 : Int64))), .second, .val (.long r1), .second, .val (.long ((9223372036854775807 : Int64) - (ti &&& (9223372036854775807 : Int64)))), .second, .unset, .unset, .unset, .unset]) rfl kz) ?_
  refine OGo.st (B := T2.setTop (mkF m 29 #[.val (.long id), .second, .val (.int pu), .val (.long ti), .second, .val (.long li), .second, .val (.long of), .second, .val (.int mo), .val (.long (ti &&& (9223372036854775807 : Int64))), .second, .val (.long r1), .second, .val (.long ((9223372036854775807 : Int64) - (ti &&& (9223372036854775807 : Int64)))), .second, .unset, .unset, .unset, .unset] [(.int mo)])) (fun _ kz => XS.iload X2.here hx rfl (hb hby at_27) rfl kz) ?_
  refine OGo.st (B := T2.setTop (mkF m 30 #[.val (.long id), .second, .val (.int pu), .val (.long ti), .second, .val (.long li), .second, .val (.long of), .second, .val (.int mo), .val (.long (ti &&& (9223372036854775807 : Int64))), .second, .val (.long r1), .second, .val (.long ((9223372036854775807 : Int64) - (ti &&& (9223372036854775807 : Int64)))), .second, .unset, .unset, .unset, .unset] [(.int (1 : Int32)), (.int mo)])) (fun _ kz => XS.iconst X2.here hx rfl (hb hby at_29) kz) ?_
  refine OGo.st (B := T2.setTop (mkF m 31 #[.val (.long id), .second, .val (.int pu), .val (.long ti), .second, .val (.long li), .second, .val (.long of), .second, .val (.int mo), .val (.long (ti &&& (9223372036854775807 : Int64))), .second, .val (.long r1), .second, .val (.long ((9223372036854775807 : Int64) - (ti &&& (9223372036854775807 : Int64)))), .second, .unset, .unset, .unset, .unset] [(.int (mo &&& (1 : Int32)))])) (fun _ kz => XS.iand X2.here hx rfl (hb hby at_30) rfl kz) ?_
  by_cases hm : (mo &&& (1 : Int32)) = (0 : Int32)
  · skip
    refine OGo.st (B := T2.setTop (mkF m 57 #[.val (.long id), .second, .val (.int pu), .val (.long ti), .second, .val (.long li), .second, .val (.long of), .second, .val (.int mo), .val (.long (ti &&& (9223372036854775807 : Int64))), .second, .val (.long r1), .second, .val (.long ((9223372036854775807 : Int64) - (ti &&& (9223372036854775807 : Int64)))), .second, .unset, .unset, .unset, .unset] [])) (fun _ kz => XS.ifYes X2.here hx rfl (pc0 := 31) (pc' := 57) rfl (hb hby at_31) rfl ((if0 _ _).trans (teq hm).1) (by decide) (by decide) kz) ?_
    refine OGo.st (B := T2.setTop (mkF m 59 #[.val (.long id), .second, .val (.int pu), .val (.long ti), .second, .val (.long li), .second, .val (.long of), .second, .val (.int mo), .val (.long (ti &&& (9223372036854775807 : Int64))), .second, .val (.long r1), .second, .val (.long ((9223372036854775807 : Int64) - (ti &&& (9223372036854775807 : Int64)))), .second, .unset, .unset, .unset, .unset] [(.long of)])) (fun _ kz => XS.lload X2.here hx rfl (hb hby at_57) rfl kz) ?_
    refine OGo.st (B := T2.setTop (mkF m 62 #[.val (.long id), .second, .val (.int pu), .val (.long ti), .second, .val (.long li), .second, .val (.long of), .second, .val (.int mo), .val (.long (ti &&& (9223372036854775807 : Int64))), .second, .val (.long r1), .second, .val (.long ((9223372036854775807 : Int64) - (ti &&& (9223372036854775807 : Int64)))), .second, .unset, .unset, .unset, .unset] [(.long (9223372036854775807 : Int64)), (.long of)])) (X2.ldc2Long hx hown (mvT hZ (hw _ (List.mem_of_getElem? (i := 0) rfl))) (g := (mkF m 59 #[.val (.long id), .second, .val (.int pu), .val (.long ti), .second, .val (.long li), .second, .val (.long of), .second, .val (.int mo), .val (.long (ti &&& (9223372036854775807 : Int64))), .second, .val (.long r1), .second, .val (.long ((9223372036854775807 : Int64) - (ti &&& (9223372036854775807 : Int64)))), .second, .unset, .unset, .unset, .unset] [(.long of)])) rfl (hb hby at_59)) ?_
    refine OGo.st (B := T2.setTop (mkF m 63 #[.val (.long id), .second, .val (.int pu), .val (.long ti), .second, .val (.long li), .second, .val (.long of), .second, .val (.int mo), .val (.long (ti &&& (9223372036854775807 : Int64))), .second, .val (.long r1), .second, .val (.long ((9223372036854775807 : Int64) - (ti &&& (9223372036854775807 : Int64)))), .second, .unset, .unset, .unset, .unset] [(.long (of &&& (9223372036854775807 : Int64)))])) (fun _ kz => XS.land X2.here hx rfl (hb hby at_62) rfl kz) ?_
    refine OGo.st (B := T2.setTop (mkF m 65 #[.val (.long id), .second, .val (.int pu), .val (.long ti), .second, .val (.long li), .second, .val (.long of), .second, .val (.int mo), .val (.long (ti &&& (9223372036854775807 : Int64))), .second, .val (.long r1), .second, .val (.long ((9223372036854775807 : Int64) - (ti &&& (9223372036854775807 : Int64)))), .second, .val (.long (of &&& (9223372036854775807 : Int64))), .second, .unset, .unset] [])) (fun _ kz => XS.lstore X2.here hx rfl (hb hby at_63) rfl (l' := #[.val (.long id), .second, .val (.int pu), .val (.long ti), .second, .val (.long li), .second, .val (.long of), .second, .val (.int mo), .val (.long (ti &&& (9223372036854775807 : Int64))), .second, .val (.long r1), .second, .val (.long ((9223372036854775807 : Int64) - (ti &&& (9223372036854775807 : Int64)))), .second, .val (.long (of &&& (9223372036854775807 : Int64))), .second, .unset, .unset]) rfl kz) ?_
    refine OGo.st (B := T2.setTop (mkF m 67 #[.val (.long id), .second, .val (.int pu), .val (.long ti), .second, .val (.long li), .second, .val (.long of), .second, .val (.int mo), .val (.long (ti &&& (9223372036854775807 : Int64))), .second, .val (.long r1), .second, .val (.long ((9223372036854775807 : Int64) - (ti &&& (9223372036854775807 : Int64)))), .second, .val (.long (of &&& (9223372036854775807 : Int64))), .second, .unset, .unset] [(.long (of &&& (9223372036854775807 : Int64)))])) (fun _ kz => XS.lload X2.here hx rfl (hb hby at_65) rfl kz) ?_
    refine OGo.st (B := T2.setTop (mkF m 69 #[.val (.long id), .second, .val (.int pu), .val (.long ti), .second, .val (.long li), .second, .val (.long of), .second, .val (.int mo), .val (.long (ti &&& (9223372036854775807 : Int64))), .second, .val (.long r1), .second, .val (.long ((9223372036854775807 : Int64) - (ti &&& (9223372036854775807 : Int64)))), .second, .val (.long (of &&& (9223372036854775807 : Int64))), .second, .unset, .unset] [(.long ((9223372036854775807 : Int64) - (ti &&& (9223372036854775807 : Int64)))), (.long (of &&& (9223372036854775807 : Int64)))])) (fun _ kz => XS.lload X2.here hx rfl (hb hby at_67) rfl kz) ?_
    obtain ⟨r3, hr3⟩ : ∃ r, (if ((9223372036854775807 : Int64) - (ti &&& (9223372036854775807 : Int64))) < (of &&& (9223372036854775807 : Int64)) then ((9223372036854775807 : Int64) - (ti &&& (9223372036854775807 : Int64))) else (of &&& (9223372036854775807 : Int64))) = r := ⟨_, rfl⟩
    obtain ⟨v4, T4, L4, X4, hQ4, st4⟩ := (rm2 l Z a0 hw (of &&& (9223372036854775807 : Int64)) ((9223372036854775807 : Int64) - (ti &&& (9223372036854775807 : Int64))) r3 h0 n0 hr3).static (W := 0) X2 hx hZ hown (hw _ (List.mem_of_getElem? (i := 5) rfl)) (hw _ (List.mem_of_getElem? (i := 6) rfl)) (hw _ (List.mem_of_getElem? (i := 3) rfl)) (hw _ (List.mem_of_getElem? (i := 7) rfl)) (by decide) (by decide) (by decide) e2 (by decide) (by decide) (g := (mkF m 69 #[.val (.long id), .second, .val (.int pu), .val (.long ti), .second, .val (.long li), .second, .val (.long of), .second, .val (.int mo), .val (.long (ti &&& (9223372036854775807 : Int64))), .second, .val (.long r1), .second, .val (.long ((9223372036854775807 : Int64) - (ti &&& (9223372036854775807 : Int64)))), .second, .val (.long (of &&& (9223372036854775807 : Int64))), .second, .unset, .unset] [(.long ((9223372036854775807 : Int64) - (ti &&& (9223372036854775807 : Int64)))), (.long (of &&& (9223372036854775807 : Int64)))])) rfl (by rw [hml]; rfl) (argsL := [(.long (of &&& (9223372036854775807 : Int64))), (.long ((9223372036854775807 : Int64) - (ti &&& (9223372036854775807 : Int64))))]) (rest := []) rfl (lenOf pd_0 rfl) rfl (by show 2 * 0 + _ ≤ _; exact Nat.le_of_eq rfl) (hb hby at_69)
    obtain ⟨rfl, N4q, e4⟩ := hQ4
    have N4 := Fr.app N2 N4q
    refine OGo.st (B := T4.setTop (mkF m 72 #[.val (.long id), .second, .val (.int pu), .val (.long ti), .second, .val (.long li), .second, .val (.long of), .second, .val (.int mo), .val (.long (ti &&& (9223372036854775807 : Int64))), .second, .val (.long r1), .second, .val (.long ((9223372036854775807 : Int64) - (ti &&& (9223372036854775807 : Int64)))), .second, .val (.long (of &&& (9223372036854775807 : Int64))), .second, .unset, .unset] [(.long r3)])) st4 ?_
    refine OGo.st (B := T4.setTop (mkF m 74 #[.val (.long id), .second, .val (.int pu), .val (.long ti), .second, .val (.long li), .second, .val (.long of), .second, .val (.int mo), .val (.long (ti &&& (9223372036854775807 : Int64))), .second, .val (.long r1), .second, .val (.long ((9223372036854775807 : Int64) - (ti &&& (9223372036854775807 : Int64)))), .second, .val (.long r3), .second, .unset, .unset] [])) (fun _ kz => XS.lstore X4.here hx rfl (hb hby at_72) rfl (l' := #[.val (.long id), .second, .val (.int pu), .val (.long ti), .second, .val (.long li), .second, .val (.long of), .second, .val (.int mo), .val (.long (ti &&& (9223372036854775807 : Int64))), .second, .val (.long r1), .second, .val (.long ((9223372036854775807 : Int64) - (ti &&& (9223372036854775807 : Int64)))), .second, .val (.long r3), .second, .unset, .unset]) rfl kz) ?_
    obtain ⟨T5, h5, X5, e5, E5, A5, D5, U5, st5⟩ := newO X4 hx hZ hown (hw _ (List.mem_of_getElem? (i := 8) rfl)) (hw _ (List.mem_of_getElem? (i := 9) rfl)) (hw _ (List.mem_of_getElem? (i := 10) rfl)) e4 (g := (mkF m 74 #[.val (.long id), .second, .val (.int pu), .val (.long ti), .second, .val (.long li), .second, .val (.long of), .second, .val (.int mo), .val (.long (ti &&& (9223372036854775807 : Int64))), .second, .val (.long r1), .second, .val (.long ((9223372036854775807 : Int64) - (ti &&& (9223372036854775807 : Int64)))), .second, .val (.long r3), .second, .unset, .unset] [])) rfl (hb hby at_74) (by decide) (by decide)
    obtain ⟨ob, g5⟩ : ∃ z, z = h0.size := ⟨_, rfl⟩
    rw [← g5] at A5 D5 st5
    have g_ob : n0 ≤ ob := Nat.le_trans Z0 (Nat.le_trans (Keep.refl h0 []).1 (Nat.le_of_eq g5.symm))
    have sz_ob : h0.size ≤ ob := Nat.le_trans (Keep.refl h0 []).1 (Nat.le_of_eq g5.symm)
    have K5 : Keep h0 h5 [] := (Keep.refl h0 []).ext E5
    have O5 := O0.ext E5
    have F5_id : Fld Z h5 ob "com/example/lean_rumor/leanrumor/node/Message" "id" "J" (.long (0 : Int64)) := D5 (Or.inr (hw _ (List.mem_of_getElem? (i := 76) rfl))) (ty := .long) (by decide)
    have F5_publisher : Fld Z h5 ob "com/example/lean_rumor/leanrumor/node/Message" "publisher" "I" (.int (0 : Int32)) := D5 (Or.inr (hw _ (List.mem_of_getElem? (i := 78) rfl))) (ty := .int) (by decide)
    have F5_time : Fld Z h5 ob "com/example/lean_rumor/leanrumor/node/Message" "time" "J" (.long (0 : Int64)) := D5 (Or.inr (hw _ (List.mem_of_getElem? (i := 80) rfl))) (ty := .long) (by decide)
    have F5_tag : Fld Z h5 ob "com/example/lean_rumor/leanrumor/node/Message" "tag" "Ljava/lang/String;" .null := D5 (Or.inr (hw _ (List.mem_of_getElem? (i := 82) rfl))) (ty := (.object "java/lang/String")) (by decide)
    have F5_lifetime : Fld Z h5 ob "com/example/lean_rumor/leanrumor/node/Message" "lifetime" "J" (.long (0 : Int64)) := D5 (Or.inr (hw _ (List.mem_of_getElem? (i := 84) rfl))) (ty := .long) (by decide)
    have F5_body : Fld Z h5 ob "com/example/lean_rumor/leanrumor/node/Message" "body" "[B" .null := D5 (Or.inr (hw _ (List.mem_of_getElem? (i := 86) rfl))) (ty := (.array .byte)) (by decide)
    refine OGo.st (B := T5.setTop (mkF m 77 #[.val (.long id), .second, .val (.int pu), .val (.long ti), .second, .val (.long li), .second, .val (.long of), .second, .val (.int mo), .val (.long (ti &&& (9223372036854775807 : Int64))), .second, .val (.long r1), .second, .val (.long ((9223372036854775807 : Int64) - (ti &&& (9223372036854775807 : Int64)))), .second, .val (.long r3), .second, .unset, .unset] [(.ref ob)])) st5 ?_
    refine OGo.st (B := T5.setTop (mkF m 78 #[.val (.long id), .second, .val (.int pu), .val (.long ti), .second, .val (.long li), .second, .val (.long of), .second, .val (.int mo), .val (.long (ti &&& (9223372036854775807 : Int64))), .second, .val (.long r1), .second, .val (.long ((9223372036854775807 : Int64) - (ti &&& (9223372036854775807 : Int64)))), .second, .val (.long r3), .second, .unset, .unset] [(.ref ob), (.ref ob)])) (fun _ kz => XS.dup X5.here hx rfl (hb hby at_77) rfl rfl kz) ?_
    refine OGo.st (B := T5.setTop (mkF m 79 #[.val (.long id), .second, .val (.int pu), .val (.long ti), .second, .val (.long li), .second, .val (.long of), .second, .val (.int mo), .val (.long (ti &&& (9223372036854775807 : Int64))), .second, .val (.long r1), .second, .val (.long ((9223372036854775807 : Int64) - (ti &&& (9223372036854775807 : Int64)))), .second, .val (.long r3), .second, .unset, .unset] [(.long id), (.ref ob), (.ref ob)])) (fun _ kz => XS.lloadN X5.here hx rfl (hb hby at_78) rfl kz) ?_
    refine OGo.st (B := T5.setTop (mkF m 80 #[.val (.long id), .second, .val (.int pu), .val (.long ti), .second, .val (.long li), .second, .val (.long of), .second, .val (.int mo), .val (.long (ti &&& (9223372036854775807 : Int64))), .second, .val (.long r1), .second, .val (.long ((9223372036854775807 : Int64) - (ti &&& (9223372036854775807 : Int64)))), .second, .val (.long r3), .second, .unset, .unset] [(.int pu), (.long id), (.ref ob), (.ref ob)])) (fun _ kz => XS.iloadN X5.here hx rfl (hb hby at_79) rfl kz) ?_
    refine OGo.st (B := T5.setTop (mkF m 82 #[.val (.long id), .second, .val (.int pu), .val (.long ti), .second, .val (.long li), .second, .val (.long of), .second, .val (.int mo), .val (.long (ti &&& (9223372036854775807 : Int64))), .second, .val (.long r1), .second, .val (.long ((9223372036854775807 : Int64) - (ti &&& (9223372036854775807 : Int64)))), .second, .val (.long r3), .second, .unset, .unset] [(.int (2147483647 : Int32)), (.int pu), (.long id), (.ref ob), (.ref ob)])) (X5.ldcInt hx hown (mvT hZ (hw _ (List.mem_of_getElem? (i := 11) rfl))) (g := (mkF m 80 #[.val (.long id), .second, .val (.int pu), .val (.long ti), .second, .val (.long li), .second, .val (.long of), .second, .val (.int mo), .val (.long (ti &&& (9223372036854775807 : Int64))), .second, .val (.long r1), .second, .val (.long ((9223372036854775807 : Int64) - (ti &&& (9223372036854775807 : Int64)))), .second, .val (.long r3), .second, .unset, .unset] [(.int pu), (.long id), (.ref ob), (.ref ob)])) rfl (hb hby at_80)) ?_
    refine OGo.st (B := T5.setTop (mkF m 83 #[.val (.long id), .second, .val (.int pu), .val (.long ti), .second, .val (.long li), .second, .val (.long of), .second, .val (.int mo), .val (.long (ti &&& (9223372036854775807 : Int64))), .second, .val (.long r1), .second, .val (.long ((9223372036854775807 : Int64) - (ti &&& (9223372036854775807 : Int64)))), .second, .val (.long r3), .second, .unset, .unset] [(.int (pu &&& (2147483647 : Int32))), (.long id), (.ref ob), (.ref ob)])) (fun _ kz => XS.iand X5.here hx rfl (hb hby at_82) rfl kz) ?_
    refine OGo.st (B := T5.setTop (mkF m 85 #[.val (.long id), .second, .val (.int pu), .val (.long ti), .second, .val (.long li), .second, .val (.long of), .second, .val (.int mo), .val (.long (ti &&& (9223372036854775807 : Int64))), .second, .val (.long r1), .second, .val (.long ((9223372036854775807 : Int64) - (ti &&& (9223372036854775807 : Int64)))), .second, .val (.long r3), .second, .unset, .unset] [(.long (ti &&& (9223372036854775807 : Int64))), (.int (pu &&& (2147483647 : Int32))), (.long id), (.ref ob), (.ref ob)])) (fun _ kz => XS.lload X5.here hx rfl (hb hby at_83) rfl kz) ?_
    obtain ⟨tg, T6, h6, k6, sb, kb, X6, e6, E6, hS, zk6, hZ, hown, E_t, F_c, F_v, V_b, E_b, st6⟩ := own_ldcE (s := Z) (vm0 := Z.vm) X5 hx hZ hown (hw _ (List.mem_of_getElem? (i := 12) rfl)) wS e5 ((State.WarmedH.refl Z).since 0) (Nat.zero_le _) (by rw [hn]; exact N4) (fun _ _ q => q) IB.start hheld hcw (g := (mkF m 85 #[.val (.long id), .second, .val (.int pu), .val (.long ti), .second, .val (.long li), .second, .val (.long of), .second, .val (.int mo), .val (.long (ti &&& (9223372036854775807 : Int64))), .second, .val (.long r1), .second, .val (.long ((9223372036854775807 : Int64) - (ti &&& (9223372036854775807 : Int64)))), .second, .val (.long r3), .second, .unset, .unset] [(.long (ti &&& (9223372036854775807 : Int64))), (.int (pu &&& (2147483647 : Int32))), (.long id), (.ref ob), (.ref ob)])) rfl (hb hby at_85) (by decide) (by decide)
    have K6 : Keep h0 h6 [] := K5.ext E6
    have O6 := O5.ext E6
    have ne_ob_tg : ob ≠ tg := Exa.ne (A5.ext E6) E_t (by decide)
    have ne_ob_sb : ob ≠ sb := Exa.ne (A5.ext E6) E_b (by decide)
    refine OGo.st (B := T6.setTop (mkF m 87 #[.val (.long id), .second, .val (.int pu), .val (.long ti), .second, .val (.long li), .second, .val (.long of), .second, .val (.int mo), .val (.long (ti &&& (9223372036854775807 : Int64))), .second, .val (.long r1), .second, .val (.long ((9223372036854775807 : Int64) - (ti &&& (9223372036854775807 : Int64)))), .second, .val (.long r3), .second, .unset, .unset] [(.ref tg), (.long (ti &&& (9223372036854775807 : Int64))), (.int (pu &&& (2147483647 : Int32))), (.long id), (.ref ob), (.ref ob)])) st6 ?_
    refine OGo.st (B := T6.setTop (mkF m 89 #[.val (.long id), .second, .val (.int pu), .val (.long ti), .second, .val (.long li), .second, .val (.long of), .second, .val (.int mo), .val (.long (ti &&& (9223372036854775807 : Int64))), .second, .val (.long r1), .second, .val (.long ((9223372036854775807 : Int64) - (ti &&& (9223372036854775807 : Int64)))), .second, .val (.long r3), .second, .unset, .unset] [(.long r1), (.ref tg), (.long (ti &&& (9223372036854775807 : Int64))), (.int (pu &&& (2147483647 : Int32))), (.long id), (.ref ob), (.ref ob)])) (fun _ kz => XS.lload X6.here hx rfl (hb hby at_87) rfl kz) ?_
    refine OGo.st (B := T6.setTop (mkF m 90 #[.val (.long id), .second, .val (.int pu), .val (.long ti), .second, .val (.long li), .second, .val (.long of), .second, .val (.int mo), .val (.long (ti &&& (9223372036854775807 : Int64))), .second, .val (.long r1), .second, .val (.long ((9223372036854775807 : Int64) - (ti &&& (9223372036854775807 : Int64)))), .second, .val (.long r3), .second, .unset, .unset] [(.int (0 : Int32)), (.long r1), (.ref tg), (.long (ti &&& (9223372036854775807 : Int64))), (.int (pu &&& (2147483647 : Int32))), (.long id), (.ref ob), (.ref ob)])) (fun _ kz => XS.iconst X6.here hx rfl (hb hby at_89) kz) ?_
    obtain ⟨T7, h7, kd, X7, e7, E7, A7, st7⟩ := newP X6 hx hZ (hw _ (List.mem_of_getElem? (i := 15) rfl)) e6 (g := (mkF m 90 #[.val (.long id), .second, .val (.int pu), .val (.long ti), .second, .val (.long li), .second, .val (.long of), .second, .val (.int mo), .val (.long (ti &&& (9223372036854775807 : Int64))), .second, .val (.long r1), .second, .val (.long ((9223372036854775807 : Int64) - (ti &&& (9223372036854775807 : Int64)))), .second, .val (.long r3), .second, .unset, .unset] [(.int (0 : Int32)), (.long r1), (.ref tg), (.long (ti &&& (9223372036854775807 : Int64))), (.int (pu &&& (2147483647 : Int32))), (.long id), (.ref ob), (.ref ob)])) rfl (hb hby at_90) rfl (by decide) (cap := 0) (by decide) (by decide) (by decide) (by decide)
    obtain ⟨bd, g7⟩ : ∃ z, z = h6.size := ⟨_, rfl⟩
    rw [← g7] at A7 st7
    have V_d := Arv.new A7 (by decide)
    have K7 : Keep h0 h7 [] := K6.ext E7
    have O7 := O6.ext E7
    have z7 : k6 ≤ h7.size := Nat.le_trans zk6 E7.1
    refine OGo.st (B := T7.setTop (mkF m 92 #[.val (.long id), .second, .val (.int pu), .val (.long ti), .second, .val (.long li), .second, .val (.long of), .second, .val (.int mo), .val (.long (ti &&& (9223372036854775807 : Int64))), .second, .val (.long r1), .second, .val (.long ((9223372036854775807 : Int64) - (ti &&& (9223372036854775807 : Int64)))), .second, .val (.long r3), .second, .unset, .unset] [(.ref bd), (.long r1), (.ref tg), (.long (ti &&& (9223372036854775807 : Int64))), (.int (pu &&& (2147483647 : Int32))), (.long id), (.ref ob), (.ref ob)])) st7 ?_
    obtain ⟨v8, T8, L8, X8, hQ8, st8⟩ := (rm3 l Z a0 hw ob id (ti &&& (9223372036854775807 : Int64)) r1 (pu &&& (2147483647 : Int32)) bd nb kd tg sb kb cs u S_inst h7 n0 (Nat.le_trans Z0 K7.1) O7 S_cs hcs (E_t.ext E7) (F_c.ext E7) (F_v.ext E7) (V_b.ext E7) (E_b.ext E7) S_u8 V_d S_nb (own_npos32 pu) (own_npos ti) hlf ((A5.ext E6).ext E7) g_ob ((F5_id.ext E6).ext E7) ((F5_publisher.ext E6).ext E7) ((F5_time.ext E6).ext E7) ((F5_tag.ext E6).ext E7) ((F5_lifetime.ext E6).ext E7) ((F5_body.ext E6).ext E7)).init (W := 1) X7 hx hZ rfl hown (hw _ (List.mem_of_getElem? (i := 20) rfl)) (hw _ (List.mem_of_getElem? (i := 21) rfl)) (hw _ (List.mem_of_getElem? (i := 10) rfl)) (hw _ (List.mem_of_getElem? (i := 22) rfl)) (by decide) (by decide) (by decide) e7 (by decide) (by decide) (g := (mkF m 92 #[.val (.long id), .second, .val (.int pu), .val (.long ti), .second, .val (.long li), .second, .val (.long of), .second, .val (.int mo), .val (.long (ti &&& (9223372036854775807 : Int64))), .second, .val (.long r1), .second, .val (.long ((9223372036854775807 : Int64) - (ti &&& (9223372036854775807 : Int64)))), .second, .val (.long r3), .second, .unset, .unset] [(.ref bd), (.long r1), (.ref tg), (.long (ti &&& (9223372036854775807 : Int64))), (.int (pu &&& (2147483647 : Int32))), (.long id), (.ref ob), (.ref ob)])) rfl (by rw [hml]; rfl) (argsL := [(.long id), (.int (pu &&& (2147483647 : Int32))), (.long (ti &&& (9223372036854775807 : Int64))), (.ref tg), (.long r1), (.ref bd)]) (rest := [(.ref ob)]) rfl (lenOf pd_1 rfl) rfl (by show 2 * 0 + _ ≤ _; exact Nat.le_of_eq rfl) (hb hby at_92)
    obtain ⟨rfl, N8q, J8, Y8_0, Y8_1, Y8_2⟩ := hQ8
    have N8 := Fr.app N4 N8q
    have K8 : Keep h0 T8.heap [] := K7.trans J8 (allS (Or.inr sz_ob) all0)
    have O8 := O7.keep J8 (allS g_ob all0)
    have z8 : k6 ≤ T8.heap.size := Nat.le_trans z7 J8.1
    refine OGo.st (B := T8.setTop (mkF m 95 #[.val (.long id), .second, .val (.int pu), .val (.long ti), .second, .val (.long li), .second, .val (.long of), .second, .val (.int mo), .val (.long (ti &&& (9223372036854775807 : Int64))), .second, .val (.long r1), .second, .val (.long ((9223372036854775807 : Int64) - (ti &&& (9223372036854775807 : Int64)))), .second, .val (.long r3), .second, .unset, .unset] [(.ref ob)])) st8 ?_
    refine OGo.st (B := T8.setTop (mkF m 97 #[.val (.long id), .second, .val (.int pu), .val (.long ti), .second, .val (.long li), .second, .val (.long of), .second, .val (.int mo), .val (.long (ti &&& (9223372036854775807 : Int64))), .second, .val (.long r1), .second, .val (.long ((9223372036854775807 : Int64) - (ti &&& (9223372036854775807 : Int64)))), .second, .val (.long r3), .second, .val (.ref ob), .unset] [])) (fun _ kz => XS.astore X8.here hx rfl (hb hby at_95) rfl rfl (l' := #[.val (.long id), .second, .val (.int pu), .val (.long ti), .second, .val (.long li), .second, .val (.long of), .second, .val (.int mo), .val (.long (ti &&& (9223372036854775807 : Int64))), .second, .val (.long r1), .second, .val (.long ((9223372036854775807 : Int64) - (ti &&& (9223372036854775807 : Int64)))), .second, .val (.long r3), .second, .val (.ref ob), .unset]) rfl kz) ?_
    refine OGo.st (B := T8.setTop (mkF m 99 #[.val (.long id), .second, .val (.int pu), .val (.long ti), .second, .val (.long li), .second, .val (.long of), .second, .val (.int mo), .val (.long (ti &&& (9223372036854775807 : Int64))), .second, .val (.long r1), .second, .val (.long ((9223372036854775807 : Int64) - (ti &&& (9223372036854775807 : Int64)))), .second, .val (.long r3), .second, .val (.ref ob), .unset] [(.long r3)])) (fun _ kz => XS.lload X8.here hx rfl (hb hby at_97) rfl kz) ?_
    refine OGo.st (B := T8.setTop (mkF m 101 #[.val (.long id), .second, .val (.int pu), .val (.long ti), .second, .val (.long li), .second, .val (.long of), .second, .val (.int mo), .val (.long (ti &&& (9223372036854775807 : Int64))), .second, .val (.long r1), .second, .val (.long ((9223372036854775807 : Int64) - (ti &&& (9223372036854775807 : Int64)))), .second, .val (.long r3), .second, .val (.ref ob), .unset] [(.long r1), (.long r3)])) (fun _ kz => XS.lload X8.here hx rfl (hb hby at_99) rfl kz) ?_
    refine OGo.st (B := T8.setTop (mkF m 102 #[.val (.long id), .second, .val (.int pu), .val (.long ti), .second, .val (.long li), .second, .val (.long of), .second, .val (.int mo), .val (.long (ti &&& (9223372036854775807 : Int64))), .second, .val (.long r1), .second, .val (.long ((9223372036854775807 : Int64) - (ti &&& (9223372036854775807 : Int64)))), .second, .val (.long r3), .second, .val (.ref ob), .unset] [(.int (lcmpW r3 r1))])) (fun _ kz => XS.lcmp X8.here hx rfl (hb hby at_101) rfl kz) ?_
    by_cases hd : r3 < r1
    · skip
      refine OGo.st (B := T8.setTop (mkF m 105 #[.val (.long id), .second, .val (.int pu), .val (.long ti), .second, .val (.long li), .second, .val (.long of), .second, .val (.int mo), .val (.long (ti &&& (9223372036854775807 : Int64))), .second, .val (.long r1), .second, .val (.long ((9223372036854775807 : Int64) - (ti &&& (9223372036854775807 : Int64)))), .second, .val (.long r3), .second, .val (.ref ob), .unset] [])) (fun _ kz => XS.ifNo X8.here hx rfl (hb hby at_102) rfl ((if0 _ _).trans (tlt ((lw_lt _ _).mpr hd)).2.1) kz) ?_
      refine OGo.st (B := T8.setTop (mkF m 106 #[.val (.long id), .second, .val (.int pu), .val (.long ti), .second, .val (.long li), .second, .val (.long of), .second, .val (.int mo), .val (.long (ti &&& (9223372036854775807 : Int64))), .second, .val (.long r1), .second, .val (.long ((9223372036854775807 : Int64) - (ti &&& (9223372036854775807 : Int64)))), .second, .val (.long r3), .second, .val (.ref ob), .unset] [(.int (1 : Int32))])) (fun _ kz => XS.iconst X8.here hx rfl (hb hby at_105) kz) ?_
      refine OGo.st (B := T8.setTop (mkF m 110 #[.val (.long id), .second, .val (.int pu), .val (.long ti), .second, .val (.long li), .second, .val (.long of), .second, .val (.int mo), .val (.long (ti &&& (9223372036854775807 : Int64))), .second, .val (.long r1), .second, .val (.long ((9223372036854775807 : Int64) - (ti &&& (9223372036854775807 : Int64)))), .second, .val (.long r3), .second, .val (.ref ob), .unset] [(.int (1 : Int32))])) (fun _ kz => XS.goto X8.here hx rfl (pc0 := 106) (pc' := 110) rfl (hb hby at_106) (by decide) (by decide) kz) ?_
      refine OGo.st (B := T8.setTop (mkF m 112 #[.val (.long id), .second, .val (.int pu), .val (.long ti), .second, .val (.long li), .second, .val (.long of), .second, .val (.int mo), .val (.long (ti &&& (9223372036854775807 : Int64))), .second, .val (.long r1), .second, .val (.long ((9223372036854775807 : Int64) - (ti &&& (9223372036854775807 : Int64)))), .second, .val (.long r3), .second, .val (.ref ob), .val (.int (1 : Int32))] [])) (fun _ kz => XS.istore X8.here hx rfl (hb hby at_110) rfl (l' := #[.val (.long id), .second, .val (.int pu), .val (.long ti), .second, .val (.long li), .second, .val (.long of), .second, .val (.int mo), .val (.long (ti &&& (9223372036854775807 : Int64))), .second, .val (.long r1), .second, .val (.long ((9223372036854775807 : Int64) - (ti &&& (9223372036854775807 : Int64)))), .second, .val (.long r3), .second, .val (.ref ob), .val (.int (1 : Int32))]) rfl kz) ?_
      refine OGo.st (B := T8.setTop (mkF m 114 #[.val (.long id), .second, .val (.int pu), .val (.long ti), .second, .val (.long li), .second, .val (.long of), .second, .val (.int mo), .val (.long (ti &&& (9223372036854775807 : Int64))), .second, .val (.long r1), .second, .val (.long ((9223372036854775807 : Int64) - (ti &&& (9223372036854775807 : Int64)))), .second, .val (.long r3), .second, .val (.ref ob), .val (.int (1 : Int32))] [(.ref ob)])) (fun _ kz => XS.aload X8.here hx rfl (hb hby at_112) rfl rfl kz) ?_
      refine OGo.st (B := T8.setTop (mkF m 116 #[.val (.long id), .second, .val (.int pu), .val (.long ti), .second, .val (.long li), .second, .val (.long of), .second, .val (.int mo), .val (.long (ti &&& (9223372036854775807 : Int64))), .second, .val (.long r1), .second, .val (.long ((9223372036854775807 : Int64) - (ti &&& (9223372036854775807 : Int64)))), .second, .val (.long r3), .second, .val (.ref ob), .val (.int (1 : Int32))] [(.long (ti &&& (9223372036854775807 : Int64))), (.ref ob)])) (fun _ kz => XS.lload X8.here hx rfl (hb hby at_114) rfl kz) ?_
      refine OGo.st (B := T8.setTop (mkF m 118 #[.val (.long id), .second, .val (.int pu), .val (.long ti), .second, .val (.long li), .second, .val (.long of), .second, .val (.int mo), .val (.long (ti &&& (9223372036854775807 : Int64))), .second, .val (.long r1), .second, .val (.long ((9223372036854775807 : Int64) - (ti &&& (9223372036854775807 : Int64)))), .second, .val (.long r3), .second, .val (.ref ob), .val (.int (1 : Int32))] [(.long r3), (.long (ti &&& (9223372036854775807 : Int64))), (.ref ob)])) (fun _ kz => XS.lload X8.here hx rfl (hb hby at_116) rfl kz) ?_
      refine OGo.st (B := T8.setTop (mkF m 119 #[.val (.long id), .second, .val (.int pu), .val (.long ti), .second, .val (.long li), .second, .val (.long of), .second, .val (.int mo), .val (.long (ti &&& (9223372036854775807 : Int64))), .second, .val (.long r1), .second, .val (.long ((9223372036854775807 : Int64) - (ti &&& (9223372036854775807 : Int64)))), .second, .val (.long r3), .second, .val (.ref ob), .val (.int (1 : Int32))] [(.long ((ti &&& (9223372036854775807 : Int64)) + r3)), (.ref ob)])) (fun _ kz => XS.ladd X8.here hx rfl (hb hby at_118) rfl kz) ?_
      obtain ⟨v9, T9, L9, X9, hQ9, st9⟩ := (rm13 l Z a0 hw ob ((ti &&& (9223372036854775807 : Int64)) + r3) (ti &&& (9223372036854775807 : Int64)) r1 (1 : Int32) T8.heap n0 Y8_1 Y8_2 (by rw [own_back]; exact if_pos hd)).virt (W := 0) X8 hx hZ hown (hw _ (List.mem_of_getElem? (i := 87) rfl)) (hw _ (List.mem_of_getElem? (i := 88) rfl)) (nf_sel hZ (hw _ (List.mem_of_getElem? (i := 90) rfl))) (hw _ (List.mem_of_getElem? (i := 90) rfl)) (hw _ (List.mem_of_getElem? (i := 89) rfl)) (hw _ (List.mem_of_getElem? (i := 10) rfl)) (hw _ (List.mem_of_getElem? (i := 91) rfl)) (by decide) (by decide) (by decide) rfl (by decide) (by decide) (g := (mkF m 119 #[.val (.long id), .second, .val (.int pu), .val (.long ti), .second, .val (.long li), .second, .val (.long of), .second, .val (.int mo), .val (.long (ti &&& (9223372036854775807 : Int64))), .second, .val (.long r1), .second, .val (.long ((9223372036854775807 : Int64) - (ti &&& (9223372036854775807 : Int64)))), .second, .val (.long r3), .second, .val (.ref ob), .val (.int (1 : Int32))] [(.long ((ti &&& (9223372036854775807 : Int64)) + r3)), (.ref ob)])) rfl (by rw [hml]; rfl) Y8_0 (argsL := [(.long ((ti &&& (9223372036854775807 : Int64)) + r3))]) (rest := []) rfl (lenOf pd_11 rfl) rfl (by show 2 * 0 + _ ≤ _; exact Nat.le_of_eq rfl) (hb hby at_119)
      obtain ⟨rfl, N9q, e9⟩ := hQ9
      have N9 := Fr.app N8 N9q
      refine OGo.st (B := T9.setTop (mkF m 122 #[.val (.long id), .second, .val (.int pu), .val (.long ti), .second, .val (.long li), .second, .val (.long of), .second, .val (.int mo), .val (.long (ti &&& (9223372036854775807 : Int64))), .second, .val (.long r1), .second, .val (.long ((9223372036854775807 : Int64) - (ti &&& (9223372036854775807 : Int64)))), .second, .val (.long r3), .second, .val (.ref ob), .val (.int (1 : Int32))] [(.int (1 : Int32))])) st9 ?_
      refine OGo.st (B := T9.setTop (mkF m 124 #[.val (.long id), .second, .val (.int pu), .val (.long ti), .second, .val (.long li), .second, .val (.long of), .second, .val (.int mo), .val (.long (ti &&& (9223372036854775807 : Int64))), .second, .val (.long r1), .second, .val (.long ((9223372036854775807 : Int64) - (ti &&& (9223372036854775807 : Int64)))), .second, .val (.long r3), .second, .val (.ref ob), .val (.int (1 : Int32))] [(.int (1 : Int32)), (.int (1 : Int32))])) (fun _ kz => XS.iload X9.here hx rfl (hb hby at_122) rfl kz) ?_
      refine OGo.st (B := T9.setTop (mkF m 127 #[.val (.long id), .second, .val (.int pu), .val (.long ti), .second, .val (.long li), .second, .val (.long of), .second, .val (.int mo), .val (.long (ti &&& (9223372036854775807 : Int64))), .second, .val (.long r1), .second, .val (.long ((9223372036854775807 : Int64) - (ti &&& (9223372036854775807 : Int64)))), .second, .val (.long r3), .second, .val (.ref ob), .val (.int (1 : Int32))] [])) (fun _ kz => XS.icmpNo X9.here hx rfl (hb hby at_124) rfl (by decide) kz) ?_
      refine OGo.st (B := T9.setTop (mkF m 128 #[.val (.long id), .second, .val (.int pu), .val (.long ti), .second, .val (.long li), .second, .val (.long of), .second, .val (.int mo), .val (.long (ti &&& (9223372036854775807 : Int64))), .second, .val (.long r1), .second, .val (.long ((9223372036854775807 : Int64) - (ti &&& (9223372036854775807 : Int64)))), .second, .val (.long r3), .second, .val (.ref ob), .val (.int (1 : Int32))] [(.int (1 : Int32))])) (fun _ kz => XS.iconst X9.here hx rfl (hb hby at_127) kz) ?_
      refine OGo.st (B := T9.setTop (mkF m 132 #[.val (.long id), .second, .val (.int pu), .val (.long ti), .second, .val (.long li), .second, .val (.long of), .second, .val (.int mo), .val (.long (ti &&& (9223372036854775807 : Int64))), .second, .val (.long r1), .second, .val (.long ((9223372036854775807 : Int64) - (ti &&& (9223372036854775807 : Int64)))), .second, .val (.long r3), .second, .val (.ref ob), .val (.int (1 : Int32))] [(.int (1 : Int32))])) (fun _ kz => XS.goto X9.here hx rfl (pc0 := 128) (pc' := 132) rfl (hb hby at_128) (by decide) (by decide) kz) ?_
      exact own_retZW X9 hx hS (by rw [e9]; exact z8) hret hlk (hb hby at_132) ⟨rfl, N9⟩ (by decide) (by decide)
    · skip
      refine OGo.st (B := T8.setTop (mkF m 109 #[.val (.long id), .second, .val (.int pu), .val (.long ti), .second, .val (.long li), .second, .val (.long of), .second, .val (.int mo), .val (.long (ti &&& (9223372036854775807 : Int64))), .second, .val (.long r1), .second, .val (.long ((9223372036854775807 : Int64) - (ti &&& (9223372036854775807 : Int64)))), .second, .val (.long r3), .second, .val (.ref ob), .unset] [])) (fun _ kz => XS.ifYes X8.here hx rfl (pc0 := 102) (pc' := 109) rfl (hb hby at_102) rfl ((if0 _ _).trans (flt (mt (lw_lt _ _).mp hd)).2.1) (by decide) (by decide) kz) ?_
      refine OGo.st (B := T8.setTop (mkF m 110 #[.val (.long id), .second, .val (.int pu), .val (.long ti), .second, .val (.long li), .second, .val (.long of), .second, .val (.int mo), .val (.long (ti &&& (9223372036854775807 : Int64))), .second, .val (.long r1), .second, .val (.long ((9223372036854775807 : Int64) - (ti &&& (9223372036854775807 : Int64)))), .second, .val (.long r3), .second, .val (.ref ob), .unset] [(.int (0 : Int32))])) (fun _ kz => XS.iconst X8.here hx rfl (hb hby at_109) kz) ?_
      refine OGo.st (B := T8.setTop (mkF m 112 #[.val (.long id), .second, .val (.int pu), .val (.long ti), .second, .val (.long li), .second, .val (.long of), .second, .val (.int mo), .val (.long (ti &&& (9223372036854775807 : Int64))), .second, .val (.long r1), .second, .val (.long ((9223372036854775807 : Int64) - (ti &&& (9223372036854775807 : Int64)))), .second, .val (.long r3), .second, .val (.ref ob), .val (.int (0 : Int32))] [])) (fun _ kz => XS.istore X8.here hx rfl (hb hby at_110) rfl (l' := #[.val (.long id), .second, .val (.int pu), .val (.long ti), .second, .val (.long li), .second, .val (.long of), .second, .val (.int mo), .val (.long (ti &&& (9223372036854775807 : Int64))), .second, .val (.long r1), .second, .val (.long ((9223372036854775807 : Int64) - (ti &&& (9223372036854775807 : Int64)))), .second, .val (.long r3), .second, .val (.ref ob), .val (.int (0 : Int32))]) rfl kz) ?_
      refine OGo.st (B := T8.setTop (mkF m 114 #[.val (.long id), .second, .val (.int pu), .val (.long ti), .second, .val (.long li), .second, .val (.long of), .second, .val (.int mo), .val (.long (ti &&& (9223372036854775807 : Int64))), .second, .val (.long r1), .second, .val (.long ((9223372036854775807 : Int64) - (ti &&& (9223372036854775807 : Int64)))), .second, .val (.long r3), .second, .val (.ref ob), .val (.int (0 : Int32))] [(.ref ob)])) (fun _ kz => XS.aload X8.here hx rfl (hb hby at_112) rfl rfl kz) ?_
      refine OGo.st (B := T8.setTop (mkF m 116 #[.val (.long id), .second, .val (.int pu), .val (.long ti), .second, .val (.long li), .second, .val (.long of), .second, .val (.int mo), .val (.long (ti &&& (9223372036854775807 : Int64))), .second, .val (.long r1), .second, .val (.long ((9223372036854775807 : Int64) - (ti &&& (9223372036854775807 : Int64)))), .second, .val (.long r3), .second, .val (.ref ob), .val (.int (0 : Int32))] [(.long (ti &&& (9223372036854775807 : Int64))), (.ref ob)])) (fun _ kz => XS.lload X8.here hx rfl (hb hby at_114) rfl kz) ?_
      refine OGo.st (B := T8.setTop (mkF m 118 #[.val (.long id), .second, .val (.int pu), .val (.long ti), .second, .val (.long li), .second, .val (.long of), .second, .val (.int mo), .val (.long (ti &&& (9223372036854775807 : Int64))), .second, .val (.long r1), .second, .val (.long ((9223372036854775807 : Int64) - (ti &&& (9223372036854775807 : Int64)))), .second, .val (.long r3), .second, .val (.ref ob), .val (.int (0 : Int32))] [(.long r3), (.long (ti &&& (9223372036854775807 : Int64))), (.ref ob)])) (fun _ kz => XS.lload X8.here hx rfl (hb hby at_116) rfl kz) ?_
      refine OGo.st (B := T8.setTop (mkF m 119 #[.val (.long id), .second, .val (.int pu), .val (.long ti), .second, .val (.long li), .second, .val (.long of), .second, .val (.int mo), .val (.long (ti &&& (9223372036854775807 : Int64))), .second, .val (.long r1), .second, .val (.long ((9223372036854775807 : Int64) - (ti &&& (9223372036854775807 : Int64)))), .second, .val (.long r3), .second, .val (.ref ob), .val (.int (0 : Int32))] [(.long ((ti &&& (9223372036854775807 : Int64)) + r3)), (.ref ob)])) (fun _ kz => XS.ladd X8.here hx rfl (hb hby at_118) rfl kz) ?_
      obtain ⟨v10, T10, L10, X10, hQ10, st10⟩ := (rm13 l Z a0 hw ob ((ti &&& (9223372036854775807 : Int64)) + r3) (ti &&& (9223372036854775807 : Int64)) r1 (0 : Int32) T8.heap n0 Y8_1 Y8_2 (by rw [own_back]; exact if_neg hd)).virt (W := 0) X8 hx hZ hown (hw _ (List.mem_of_getElem? (i := 87) rfl)) (hw _ (List.mem_of_getElem? (i := 88) rfl)) (nf_sel hZ (hw _ (List.mem_of_getElem? (i := 90) rfl))) (hw _ (List.mem_of_getElem? (i := 90) rfl)) (hw _ (List.mem_of_getElem? (i := 89) rfl)) (hw _ (List.mem_of_getElem? (i := 10) rfl)) (hw _ (List.mem_of_getElem? (i := 91) rfl)) (by decide) (by decide) (by decide) rfl (by decide) (by decide) (g := (mkF m 119 #[.val (.long id), .second, .val (.int pu), .val (.long ti), .second, .val (.long li), .second, .val (.long of), .second, .val (.int mo), .val (.long (ti &&& (9223372036854775807 : Int64))), .second, .val (.long r1), .second, .val (.long ((9223372036854775807 : Int64) - (ti &&& (9223372036854775807 : Int64)))), .second, .val (.long r3), .second, .val (.ref ob), .val (.int (0 : Int32))] [(.long ((ti &&& (9223372036854775807 : Int64)) + r3)), (.ref ob)])) rfl (by rw [hml]; rfl) Y8_0 (argsL := [(.long ((ti &&& (9223372036854775807 : Int64)) + r3))]) (rest := []) rfl (lenOf pd_11 rfl) rfl (by show 2 * 0 + _ ≤ _; exact Nat.le_of_eq rfl) (hb hby at_119)
      obtain ⟨rfl, N10q, e10⟩ := hQ10
      have N10 := Fr.app N8 N10q
      refine OGo.st (B := T10.setTop (mkF m 122 #[.val (.long id), .second, .val (.int pu), .val (.long ti), .second, .val (.long li), .second, .val (.long of), .second, .val (.int mo), .val (.long (ti &&& (9223372036854775807 : Int64))), .second, .val (.long r1), .second, .val (.long ((9223372036854775807 : Int64) - (ti &&& (9223372036854775807 : Int64)))), .second, .val (.long r3), .second, .val (.ref ob), .val (.int (0 : Int32))] [(.int (0 : Int32))])) st10 ?_
      refine OGo.st (B := T10.setTop (mkF m 124 #[.val (.long id), .second, .val (.int pu), .val (.long ti), .second, .val (.long li), .second, .val (.long of), .second, .val (.int mo), .val (.long (ti &&& (9223372036854775807 : Int64))), .second, .val (.long r1), .second, .val (.long ((9223372036854775807 : Int64) - (ti &&& (9223372036854775807 : Int64)))), .second, .val (.long r3), .second, .val (.ref ob), .val (.int (0 : Int32))] [(.int (0 : Int32)), (.int (0 : Int32))])) (fun _ kz => XS.iload X10.here hx rfl (hb hby at_122) rfl kz) ?_
      refine OGo.st (B := T10.setTop (mkF m 127 #[.val (.long id), .second, .val (.int pu), .val (.long ti), .second, .val (.long li), .second, .val (.long of), .second, .val (.int mo), .val (.long (ti &&& (9223372036854775807 : Int64))), .second, .val (.long r1), .second, .val (.long ((9223372036854775807 : Int64) - (ti &&& (9223372036854775807 : Int64)))), .second, .val (.long r3), .second, .val (.ref ob), .val (.int (0 : Int32))] [])) (fun _ kz => XS.icmpNo X10.here hx rfl (hb hby at_124) rfl (by decide) kz) ?_
      refine OGo.st (B := T10.setTop (mkF m 128 #[.val (.long id), .second, .val (.int pu), .val (.long ti), .second, .val (.long li), .second, .val (.long of), .second, .val (.int mo), .val (.long (ti &&& (9223372036854775807 : Int64))), .second, .val (.long r1), .second, .val (.long ((9223372036854775807 : Int64) - (ti &&& (9223372036854775807 : Int64)))), .second, .val (.long r3), .second, .val (.ref ob), .val (.int (0 : Int32))] [(.int (1 : Int32))])) (fun _ kz => XS.iconst X10.here hx rfl (hb hby at_127) kz) ?_
      refine OGo.st (B := T10.setTop (mkF m 132 #[.val (.long id), .second, .val (.int pu), .val (.long ti), .second, .val (.long li), .second, .val (.long of), .second, .val (.int mo), .val (.long (ti &&& (9223372036854775807 : Int64))), .second, .val (.long r1), .second, .val (.long ((9223372036854775807 : Int64) - (ti &&& (9223372036854775807 : Int64)))), .second, .val (.long r3), .second, .val (.ref ob), .val (.int (0 : Int32))] [(.int (1 : Int32))])) (fun _ kz => XS.goto X10.here hx rfl (pc0 := 128) (pc' := 132) rfl (hb hby at_128) (by decide) (by decide) kz) ?_
      exact own_retZW X10 hx hS (by rw [e10]; exact z8) hret hlk (hb hby at_132) ⟨rfl, N10⟩ (by decide) (by decide)
  · skip
    refine OGo.st (B := T2.setTop (mkF m 34 #[.val (.long id), .second, .val (.int pu), .val (.long ti), .second, .val (.long li), .second, .val (.long of), .second, .val (.int mo), .val (.long (ti &&& (9223372036854775807 : Int64))), .second, .val (.long r1), .second, .val (.long ((9223372036854775807 : Int64) - (ti &&& (9223372036854775807 : Int64)))), .second, .unset, .unset, .unset, .unset] [])) (fun _ kz => XS.ifNo X2.here hx rfl (hb hby at_31) rfl ((if0 _ _).trans (feq hm).1) kz) ?_
    refine OGo.st (B := T2.setTop (mkF m 36 #[.val (.long id), .second, .val (.int pu), .val (.long ti), .second, .val (.long li), .second, .val (.long of), .second, .val (.int mo), .val (.long (ti &&& (9223372036854775807 : Int64))), .second, .val (.long r1), .second, .val (.long ((9223372036854775807 : Int64) - (ti &&& (9223372036854775807 : Int64)))), .second, .unset, .unset, .unset, .unset] [(.int mo)])) (fun _ kz => XS.iload X2.here hx rfl (hb hby at_34) rfl kz) ?_
    refine OGo.st (B := T2.setTop (mkF m 37 #[.val (.long id), .second, .val (.int pu), .val (.long ti), .second, .val (.long li), .second, .val (.long of), .second, .val (.int mo), .val (.long (ti &&& (9223372036854775807 : Int64))), .second, .val (.long r1), .second, .val (.long ((9223372036854775807 : Int64) - (ti &&& (9223372036854775807 : Int64)))), .second, .unset, .unset, .unset, .unset] [(.int (1 : Int32)), (.int mo)])) (fun _ kz => XS.iconst X2.here hx rfl (hb hby at_36) kz) ?_
    refine OGo.st (B := T2.setTop (mkF m 38 #[.val (.long id), .second, .val (.int pu), .val (.long ti), .second, .val (.long li), .second, .val (.long of), .second, .val (.int mo), .val (.long (ti &&& (9223372036854775807 : Int64))), .second, .val (.long r1), .second, .val (.long ((9223372036854775807 : Int64) - (ti &&& (9223372036854775807 : Int64)))), .second, .unset, .unset, .unset, .unset] [(.int ((mo.toUInt32 >>> ((1 : Int32) &&& 31).toUInt32).toInt32))])) (fun _ kz => XS.iushr X2.here hx rfl (hb hby at_37) rfl kz) ?_
    refine OGo.st (B := T2.setTop (mkF m 39 #[.val (.long id), .second, .val (.int pu), .val (.long ti), .second, .val (.long li), .second, .val (.long of), .second, .val (.int mo), .val (.long (ti &&& (9223372036854775807 : Int64))), .second, .val (.long r1), .second, .val (.long ((9223372036854775807 : Int64) - (ti &&& (9223372036854775807 : Int64)))), .second, .unset, .unset, .unset, .unset] [(.int (3 : Int32)), (.int ((mo.toUInt32 >>> ((1 : Int32) &&& 31).toUInt32).toInt32))])) (fun _ kz => XS.iconst X2.here hx rfl (hb hby at_38) kz) ?_
    refine OGo.st (B := T2.setTop (mkF m 40 #[.val (.long id), .second, .val (.int pu), .val (.long ti), .second, .val (.long li), .second, .val (.long of), .second, .val (.int mo), .val (.long (ti &&& (9223372036854775807 : Int64))), .second, .val (.long r1), .second, .val (.long ((9223372036854775807 : Int64) - (ti &&& (9223372036854775807 : Int64)))), .second, .unset, .unset, .unset, .unset] [(.int (((mo.toUInt32 >>> ((1 : Int32) &&& 31).toUInt32).toInt32) &&& (3 : Int32)))])) (fun _ kz => XS.iand X2.here hx rfl (hb hby at_39) rfl kz) ?_
    refine OGo.st (B := T2.setTop (mkF m 41 #[.val (.long id), .second, .val (.int pu), .val (.long ti), .second, .val (.long li), .second, .val (.long of), .second, .val (.int mo), .val (.long (ti &&& (9223372036854775807 : Int64))), .second, .val (.long r1), .second, .val (.long ((9223372036854775807 : Int64) - (ti &&& (9223372036854775807 : Int64)))), .second, .unset, .unset, .unset, .unset] [(.long ((((mo.toUInt32 >>> ((1 : Int32) &&& 31).toUInt32).toInt32) &&& (3 : Int32)).toInt64))])) (fun _ kz => XS.i2l X2.here hx rfl (hb hby at_40) rfl kz) ?_
    refine OGo.st (B := T2.setTop (mkF m 43 #[.val (.long id), .second, .val (.int pu), .val (.long ti), .second, .val (.long li), .second, .val (.long of), .second, .val (.int mo), .val (.long (ti &&& (9223372036854775807 : Int64))), .second, .val (.long r1), .second, .val (.long ((9223372036854775807 : Int64) - (ti &&& (9223372036854775807 : Int64)))), .second, .unset, .unset, .val (.long ((((mo.toUInt32 >>> ((1 : Int32) &&& 31).toUInt32).toInt32) &&& (3 : Int32)).toInt64)), .second] [])) (fun _ kz => XS.lstore X2.here hx rfl (hb hby at_41) rfl (l' := #[.val (.long id), .second, .val (.int pu), .val (.long ti), .second, .val (.long li), .second, .val (.long of), .second, .val (.int mo), .val (.long (ti &&& (9223372036854775807 : Int64))), .second, .val (.long r1), .second, .val (.long ((9223372036854775807 : Int64) - (ti &&& (9223372036854775807 : Int64)))), .second, .unset, .unset, .val (.long ((((mo.toUInt32 >>> ((1 : Int32) &&& 31).toUInt32).toInt32) &&& (3 : Int32)).toInt64)), .second]) rfl kz) ?_
    refine OGo.st (B := T2.setTop (mkF m 44 #[.val (.long id), .second, .val (.int pu), .val (.long ti), .second, .val (.long li), .second, .val (.long of), .second, .val (.int mo), .val (.long (ti &&& (9223372036854775807 : Int64))), .second, .val (.long r1), .second, .val (.long ((9223372036854775807 : Int64) - (ti &&& (9223372036854775807 : Int64)))), .second, .unset, .unset, .val (.long ((((mo.toUInt32 >>> ((1 : Int32) &&& 31).toUInt32).toInt32) &&& (3 : Int32)).toInt64)), .second] [(.long (0 : Int64))])) (fun _ kz => XS.lconst X2.here hx rfl (hb hby at_43) kz) ?_
    refine OGo.st (B := T2.setTop (mkF m 46 #[.val (.long id), .second, .val (.int pu), .val (.long ti), .second, .val (.long li), .second, .val (.long of), .second, .val (.int mo), .val (.long (ti &&& (9223372036854775807 : Int64))), .second, .val (.long r1), .second, .val (.long ((9223372036854775807 : Int64) - (ti &&& (9223372036854775807 : Int64)))), .second, .unset, .unset, .val (.long ((((mo.toUInt32 >>> ((1 : Int32) &&& 31).toUInt32).toInt32) &&& (3 : Int32)).toInt64)), .second] [(.long r1), (.long (0 : Int64))])) (fun _ kz => XS.lload X2.here hx rfl (hb hby at_44) rfl kz) ?_
    refine OGo.st (B := T2.setTop (mkF m 48 #[.val (.long id), .second, .val (.int pu), .val (.long ti), .second, .val (.long li), .second, .val (.long of), .second, .val (.int mo), .val (.long (ti &&& (9223372036854775807 : Int64))), .second, .val (.long r1), .second, .val (.long ((9223372036854775807 : Int64) - (ti &&& (9223372036854775807 : Int64)))), .second, .unset, .unset, .val (.long ((((mo.toUInt32 >>> ((1 : Int32) &&& 31).toUInt32).toInt32) &&& (3 : Int32)).toInt64)), .second] [(.long ((((mo.toUInt32 >>> ((1 : Int32) &&& 31).toUInt32).toInt32) &&& (3 : Int32)).toInt64)), (.long r1), (.long (0 : Int64))])) (fun _ kz => XS.lload X2.here hx rfl (hb hby at_46) rfl kz) ?_
    refine OGo.st (B := T2.setTop (mkF m 49 #[.val (.long id), .second, .val (.int pu), .val (.long ti), .second, .val (.long li), .second, .val (.long of), .second, .val (.int mo), .val (.long (ti &&& (9223372036854775807 : Int64))), .second, .val (.long r1), .second, .val (.long ((9223372036854775807 : Int64) - (ti &&& (9223372036854775807 : Int64)))), .second, .unset, .unset, .val (.long ((((mo.toUInt32 >>> ((1 : Int32) &&& 31).toUInt32).toInt32) &&& (3 : Int32)).toInt64)), .second] [(.long (r1 - ((((mo.toUInt32 >>> ((1 : Int32) &&& 31).toUInt32).toInt32) &&& (3 : Int32)).toInt64))), (.long (0 : Int64))])) (fun _ kz => XS.lsub X2.here hx rfl (hb hby at_48) rfl kz) ?_
    obtain ⟨r11, hr11⟩ : ∃ r, (if (0 : Int64) < (r1 - ((((mo.toUInt32 >>> ((1 : Int32) &&& 31).toUInt32).toInt32) &&& (3 : Int32)).toInt64)) then (r1 - ((((mo.toUInt32 >>> ((1 : Int32) &&& 31).toUInt32).toInt32) &&& (3 : Int32)).toInt64)) else (0 : Int64)) = r := ⟨_, rfl⟩
    obtain ⟨v12, T12, L12, X12, hQ12, st12⟩ := (rm1 l Z a0 hw (0 : Int64) (r1 - ((((mo.toUInt32 >>> ((1 : Int32) &&& 31).toUInt32).toInt32) &&& (3 : Int32)).toInt64)) r11 h0 n0 hr11).static (W := 0) X2 hx hZ hown (hw _ (List.mem_of_getElem? (i := 1) rfl)) (hw _ (List.mem_of_getElem? (i := 2) rfl)) (hw _ (List.mem_of_getElem? (i := 3) rfl)) (hw _ (List.mem_of_getElem? (i := 4) rfl)) (by decide) (by decide) (by decide) e2 (by decide) (by decide) (g := (mkF m 49 #[.val (.long id), .second, .val (.int pu), .val (.long ti), .second, .val (.long li), .second, .val (.long of), .second, .val (.int mo), .val (.long (ti &&& (9223372036854775807 : Int64))), .second, .val (.long r1), .second, .val (.long ((9223372036854775807 : Int64) - (ti &&& (9223372036854775807 : Int64)))), .second, .unset, .unset, .val (.long ((((mo.toUInt32 >>> ((1 : Int32) &&& 31).toUInt32).toInt32) &&& (3 : Int32)).toInt64)), .second] [(.long (r1 - ((((mo.toUInt32 >>> ((1 : Int32) &&& 31).toUInt32).toInt32) &&& (3 : Int32)).toInt64))), (.long (0 : Int64))])) rfl (by rw [hml]; rfl) (argsL := [(.long (0 : Int64)), (.long (r1 - ((((mo.toUInt32 >>> ((1 : Int32) &&& 31).toUInt32).toInt32) &&& (3 : Int32)).toInt64)))]) (rest := []) rfl (lenOf pd_0 rfl) rfl (by show 2 * 0 + _ ≤ _; exact Nat.le_of_eq rfl) (hb hby at_49)
    obtain ⟨rfl, N12q, e12⟩ := hQ12
    have N12 := Fr.app N2 N12q
    refine OGo.st (B := T12.setTop (mkF m 52 #[.val (.long id), .second, .val (.int pu), .val (.long ti), .second, .val (.long li), .second, .val (.long of), .second, .val (.int mo), .val (.long (ti &&& (9223372036854775807 : Int64))), .second, .val (.long r1), .second, .val (.long ((9223372036854775807 : Int64) - (ti &&& (9223372036854775807 : Int64)))), .second, .unset, .unset, .val (.long ((((mo.toUInt32 >>> ((1 : Int32) &&& 31).toUInt32).toInt32) &&& (3 : Int32)).toInt64)), .second] [(.long r11)])) st12 ?_
    refine OGo.st (B := T12.setTop (mkF m 54 #[.val (.long id), .second, .val (.int pu), .val (.long ti), .second, .val (.long li), .second, .val (.long of), .second, .val (.int mo), .val (.long (ti &&& (9223372036854775807 : Int64))), .second, .val (.long r1), .second, .val (.long ((9223372036854775807 : Int64) - (ti &&& (9223372036854775807 : Int64)))), .second, .val (.long r11), .second, .val (.long ((((mo.toUInt32 >>> ((1 : Int32) &&& 31).toUInt32).toInt32) &&& (3 : Int32)).toInt64)), .second] [])) (fun _ kz => XS.lstore X12.here hx rfl (hb hby at_52) rfl (l' := #[.val (.long id), .second, .val (.int pu), .val (.long ti), .second, .val (.long li), .second, .val (.long of), .second, .val (.int mo), .val (.long (ti &&& (9223372036854775807 : Int64))), .second, .val (.long r1), .second, .val (.long ((9223372036854775807 : Int64) - (ti &&& (9223372036854775807 : Int64)))), .second, .val (.long r11), .second, .val (.long ((((mo.toUInt32 >>> ((1 : Int32) &&& 31).toUInt32).toInt32) &&& (3 : Int32)).toInt64)), .second]) rfl kz) ?_
    refine OGo.st (B := T12.setTop (mkF m 65 #[.val (.long id), .second, .val (.int pu), .val (.long ti), .second, .val (.long li), .second, .val (.long of), .second, .val (.int mo), .val (.long (ti &&& (9223372036854775807 : Int64))), .second, .val (.long r1), .second, .val (.long ((9223372036854775807 : Int64) - (ti &&& (9223372036854775807 : Int64)))), .second, .val (.long r11), .second, .val (.long ((((mo.toUInt32 >>> ((1 : Int32) &&& 31).toUInt32).toInt32) &&& (3 : Int32)).toInt64)), .second] [])) (fun _ kz => XS.goto X12.here hx rfl (pc0 := 54) (pc' := 65) rfl (hb hby at_54) (by decide) (by decide) kz) ?_
    refine OGo.st (B := T12.setTop (mkF m 67 #[.val (.long id), .second, .val (.int pu), .val (.long ti), .second, .val (.long li), .second, .val (.long of), .second, .val (.int mo), .val (.long (ti &&& (9223372036854775807 : Int64))), .second, .val (.long r1), .second, .val (.long ((9223372036854775807 : Int64) - (ti &&& (9223372036854775807 : Int64)))), .second, .val (.long r11), .second, .val (.long ((((mo.toUInt32 >>> ((1 : Int32) &&& 31).toUInt32).toInt32) &&& (3 : Int32)).toInt64)), .second] [(.long r11)])) (fun _ kz => XS.lload X12.here hx rfl (hb hby at_65) rfl kz) ?_
    refine OGo.st (B := T12.setTop (mkF m 69 #[.val (.long id), .second, .val (.int pu), .val (.long ti), .second, .val (.long li), .second, .val (.long of), .second, .val (.int mo), .val (.long (ti &&& (9223372036854775807 : Int64))), .second, .val (.long r1), .second, .val (.long ((9223372036854775807 : Int64) - (ti &&& (9223372036854775807 : Int64)))), .second, .val (.long r11), .second, .val (.long ((((mo.toUInt32 >>> ((1 : Int32) &&& 31).toUInt32).toInt32) &&& (3 : Int32)).toInt64)), .second] [(.long ((9223372036854775807 : Int64) - (ti &&& (9223372036854775807 : Int64)))), (.long r11)])) (fun _ kz => XS.lload X12.here hx rfl (hb hby at_67) rfl kz) ?_
    obtain ⟨r13, hr13⟩ : ∃ r, (if ((9223372036854775807 : Int64) - (ti &&& (9223372036854775807 : Int64))) < r11 then ((9223372036854775807 : Int64) - (ti &&& (9223372036854775807 : Int64))) else r11) = r := ⟨_, rfl⟩
    obtain ⟨v14, T14, L14, X14, hQ14, st14⟩ := (rm2 l Z a0 hw r11 ((9223372036854775807 : Int64) - (ti &&& (9223372036854775807 : Int64))) r13 h0 n0 hr13).static (W := 0) X12 hx hZ hown (hw _ (List.mem_of_getElem? (i := 5) rfl)) (hw _ (List.mem_of_getElem? (i := 6) rfl)) (hw _ (List.mem_of_getElem? (i := 3) rfl)) (hw _ (List.mem_of_getElem? (i := 7) rfl)) (by decide) (by decide) (by decide) e12 (by decide) (by decide) (g := (mkF m 69 #[.val (.long id), .second, .val (.int pu), .val (.long ti), .second, .val (.long li), .second, .val (.long of), .second, .val (.int mo), .val (.long (ti &&& (9223372036854775807 : Int64))), .second, .val (.long r1), .second, .val (.long ((9223372036854775807 : Int64) - (ti &&& (9223372036854775807 : Int64)))), .second, .val (.long r11), .second, .val (.long ((((mo.toUInt32 >>> ((1 : Int32) &&& 31).toUInt32).toInt32) &&& (3 : Int32)).toInt64)), .second] [(.long ((9223372036854775807 : Int64) - (ti &&& (9223372036854775807 : Int64)))), (.long r11)])) rfl (by rw [hml]; rfl) (argsL := [(.long r11), (.long ((9223372036854775807 : Int64) - (ti &&& (9223372036854775807 : Int64))))]) (rest := []) rfl (lenOf pd_0 rfl) rfl (by show 2 * 0 + _ ≤ _; exact Nat.le_of_eq rfl) (hb hby at_69)
    obtain ⟨rfl, N14q, e14⟩ := hQ14
    have N14 := Fr.app N12 N14q
    refine OGo.st (B := T14.setTop (mkF m 72 #[.val (.long id), .second, .val (.int pu), .val (.long ti), .second, .val (.long li), .second, .val (.long of), .second, .val (.int mo), .val (.long (ti &&& (9223372036854775807 : Int64))), .second, .val (.long r1), .second, .val (.long ((9223372036854775807 : Int64) - (ti &&& (9223372036854775807 : Int64)))), .second, .val (.long r11), .second, .val (.long ((((mo.toUInt32 >>> ((1 : Int32) &&& 31).toUInt32).toInt32) &&& (3 : Int32)).toInt64)), .second] [(.long r13)])) st14 ?_
    refine OGo.st (B := T14.setTop (mkF m 74 #[.val (.long id), .second, .val (.int pu), .val (.long ti), .second, .val (.long li), .second, .val (.long of), .second, .val (.int mo), .val (.long (ti &&& (9223372036854775807 : Int64))), .second, .val (.long r1), .second, .val (.long ((9223372036854775807 : Int64) - (ti &&& (9223372036854775807 : Int64)))), .second, .val (.long r13), .second, .val (.long ((((mo.toUInt32 >>> ((1 : Int32) &&& 31).toUInt32).toInt32) &&& (3 : Int32)).toInt64)), .second] [])) (fun _ kz => XS.lstore X14.here hx rfl (hb hby at_72) rfl (l' := #[.val (.long id), .second, .val (.int pu), .val (.long ti), .second, .val (.long li), .second, .val (.long of), .second, .val (.int mo), .val (.long (ti &&& (9223372036854775807 : Int64))), .second, .val (.long r1), .second, .val (.long ((9223372036854775807 : Int64) - (ti &&& (9223372036854775807 : Int64)))), .second, .val (.long r13), .second, .val (.long ((((mo.toUInt32 >>> ((1 : Int32) &&& 31).toUInt32).toInt32) &&& (3 : Int32)).toInt64)), .second]) rfl kz) ?_
    obtain ⟨T15, h15, X15, e15, E15, A15, D15, U15, st15⟩ := newO X14 hx hZ hown (hw _ (List.mem_of_getElem? (i := 8) rfl)) (hw _ (List.mem_of_getElem? (i := 9) rfl)) (hw _ (List.mem_of_getElem? (i := 10) rfl)) e14 (g := (mkF m 74 #[.val (.long id), .second, .val (.int pu), .val (.long ti), .second, .val (.long li), .second, .val (.long of), .second, .val (.int mo), .val (.long (ti &&& (9223372036854775807 : Int64))), .second, .val (.long r1), .second, .val (.long ((9223372036854775807 : Int64) - (ti &&& (9223372036854775807 : Int64)))), .second, .val (.long r13), .second, .val (.long ((((mo.toUInt32 >>> ((1 : Int32) &&& 31).toUInt32).toInt32) &&& (3 : Int32)).toInt64)), .second] [])) rfl (hb hby at_74) (by decide) (by decide)
    obtain ⟨ob, g15⟩ : ∃ z, z = h0.size := ⟨_, rfl⟩
    rw [← g15] at A15 D15 st15
    have g_ob : n0 ≤ ob := Nat.le_trans Z0 (Nat.le_trans (Keep.refl h0 []).1 (Nat.le_of_eq g15.symm))
    have sz_ob : h0.size ≤ ob := Nat.le_trans (Keep.refl h0 []).1 (Nat.le_of_eq g15.symm)
    have K15 : Keep h0 h15 [] := (Keep.refl h0 []).ext E15
    have O15 := O0.ext E15
    have F15_id : Fld Z h15 ob "com/example/lean_rumor/leanrumor/node/Message" "id" "J" (.long (0 : Int64)) := D15 (Or.inr (hw _ (List.mem_of_getElem? (i := 76) rfl))) (ty := .long) (by decide)
    have F15_publisher : Fld Z h15 ob "com/example/lean_rumor/leanrumor/node/Message" "publisher" "I" (.int (0 : Int32)) := D15 (Or.inr (hw _ (List.mem_of_getElem? (i := 78) rfl))) (ty := .int) (by decide)
    have F15_time : Fld Z h15 ob "com/example/lean_rumor/leanrumor/node/Message" "time" "J" (.long (0 : Int64)) := D15 (Or.inr (hw _ (List.mem_of_getElem? (i := 80) rfl))) (ty := .long) (by decide)
    have F15_tag : Fld Z h15 ob "com/example/lean_rumor/leanrumor/node/Message" "tag" "Ljava/lang/String;" .null := D15 (Or.inr (hw _ (List.mem_of_getElem? (i := 82) rfl))) (ty := (.object "java/lang/String")) (by decide)
    have F15_lifetime : Fld Z h15 ob "com/example/lean_rumor/leanrumor/node/Message" "lifetime" "J" (.long (0 : Int64)) := D15 (Or.inr (hw _ (List.mem_of_getElem? (i := 84) rfl))) (ty := .long) (by decide)
    have F15_body : Fld Z h15 ob "com/example/lean_rumor/leanrumor/node/Message" "body" "[B" .null := D15 (Or.inr (hw _ (List.mem_of_getElem? (i := 86) rfl))) (ty := (.array .byte)) (by decide)
    refine OGo.st (B := T15.setTop (mkF m 77 #[.val (.long id), .second, .val (.int pu), .val (.long ti), .second, .val (.long li), .second, .val (.long of), .second, .val (.int mo), .val (.long (ti &&& (9223372036854775807 : Int64))), .second, .val (.long r1), .second, .val (.long ((9223372036854775807 : Int64) - (ti &&& (9223372036854775807 : Int64)))), .second, .val (.long r13), .second, .val (.long ((((mo.toUInt32 >>> ((1 : Int32) &&& 31).toUInt32).toInt32) &&& (3 : Int32)).toInt64)), .second] [(.ref ob)])) st15 ?_
    refine OGo.st (B := T15.setTop (mkF m 78 #[.val (.long id), .second, .val (.int pu), .val (.long ti), .second, .val (.long li), .second, .val (.long of), .second, .val (.int mo), .val (.long (ti &&& (9223372036854775807 : Int64))), .second, .val (.long r1), .second, .val (.long ((9223372036854775807 : Int64) - (ti &&& (9223372036854775807 : Int64)))), .second, .val (.long r13), .second, .val (.long ((((mo.toUInt32 >>> ((1 : Int32) &&& 31).toUInt32).toInt32) &&& (3 : Int32)).toInt64)), .second] [(.ref ob), (.ref ob)])) (fun _ kz => XS.dup X15.here hx rfl (hb hby at_77) rfl rfl kz) ?_
    refine OGo.st (B := T15.setTop (mkF m 79 #[.val (.long id), .second, .val (.int pu), .val (.long ti), .second, .val (.long li), .second, .val (.long of), .second, .val (.int mo), .val (.long (ti &&& (9223372036854775807 : Int64))), .second, .val (.long r1), .second, .val (.long ((9223372036854775807 : Int64) - (ti &&& (9223372036854775807 : Int64)))), .second, .val (.long r13), .second, .val (.long ((((mo.toUInt32 >>> ((1 : Int32) &&& 31).toUInt32).toInt32) &&& (3 : Int32)).toInt64)), .second] [(.long id), (.ref ob), (.ref ob)])) (fun _ kz => XS.lloadN X15.here hx rfl (hb hby at_78) rfl kz) ?_
    refine OGo.st (B := T15.setTop (mkF m 80 #[.val (.long id), .second, .val (.int pu), .val (.long ti), .second, .val (.long li), .second, .val (.long of), .second, .val (.int mo), .val (.long (ti &&& (9223372036854775807 : Int64))), .second, .val (.long r1), .second, .val (.long ((9223372036854775807 : Int64) - (ti &&& (9223372036854775807 : Int64)))), .second, .val (.long r13), .second, .val (.long ((((mo.toUInt32 >>> ((1 : Int32) &&& 31).toUInt32).toInt32) &&& (3 : Int32)).toInt64)), .second] [(.int pu), (.long id), (.ref ob), (.ref ob)])) (fun _ kz => XS.iloadN X15.here hx rfl (hb hby at_79) rfl kz) ?_
    refine OGo.st (B := T15.setTop (mkF m 82 #[.val (.long id), .second, .val (.int pu), .val (.long ti), .second, .val (.long li), .second, .val (.long of), .second, .val (.int mo), .val (.long (ti &&& (9223372036854775807 : Int64))), .second, .val (.long r1), .second, .val (.long ((9223372036854775807 : Int64) - (ti &&& (9223372036854775807 : Int64)))), .second, .val (.long r13), .second, .val (.long ((((mo.toUInt32 >>> ((1 : Int32) &&& 31).toUInt32).toInt32) &&& (3 : Int32)).toInt64)), .second] [(.int (2147483647 : Int32)), (.int pu), (.long id), (.ref ob), (.ref ob)])) (X15.ldcInt hx hown (mvT hZ (hw _ (List.mem_of_getElem? (i := 11) rfl))) (g := (mkF m 80 #[.val (.long id), .second, .val (.int pu), .val (.long ti), .second, .val (.long li), .second, .val (.long of), .second, .val (.int mo), .val (.long (ti &&& (9223372036854775807 : Int64))), .second, .val (.long r1), .second, .val (.long ((9223372036854775807 : Int64) - (ti &&& (9223372036854775807 : Int64)))), .second, .val (.long r13), .second, .val (.long ((((mo.toUInt32 >>> ((1 : Int32) &&& 31).toUInt32).toInt32) &&& (3 : Int32)).toInt64)), .second] [(.int pu), (.long id), (.ref ob), (.ref ob)])) rfl (hb hby at_80)) ?_
    refine OGo.st (B := T15.setTop (mkF m 83 #[.val (.long id), .second, .val (.int pu), .val (.long ti), .second, .val (.long li), .second, .val (.long of), .second, .val (.int mo), .val (.long (ti &&& (9223372036854775807 : Int64))), .second, .val (.long r1), .second, .val (.long ((9223372036854775807 : Int64) - (ti &&& (9223372036854775807 : Int64)))), .second, .val (.long r13), .second, .val (.long ((((mo.toUInt32 >>> ((1 : Int32) &&& 31).toUInt32).toInt32) &&& (3 : Int32)).toInt64)), .second] [(.int (pu &&& (2147483647 : Int32))), (.long id), (.ref ob), (.ref ob)])) (fun _ kz => XS.iand X15.here hx rfl (hb hby at_82) rfl kz) ?_
    refine OGo.st (B := T15.setTop (mkF m 85 #[.val (.long id), .second, .val (.int pu), .val (.long ti), .second, .val (.long li), .second, .val (.long of), .second, .val (.int mo), .val (.long (ti &&& (9223372036854775807 : Int64))), .second, .val (.long r1), .second, .val (.long ((9223372036854775807 : Int64) - (ti &&& (9223372036854775807 : Int64)))), .second, .val (.long r13), .second, .val (.long ((((mo.toUInt32 >>> ((1 : Int32) &&& 31).toUInt32).toInt32) &&& (3 : Int32)).toInt64)), .second] [(.long (ti &&& (9223372036854775807 : Int64))), (.int (pu &&& (2147483647 : Int32))), (.long id), (.ref ob), (.ref ob)])) (fun _ kz => XS.lload X15.here hx rfl (hb hby at_83) rfl kz) ?_
    obtain ⟨tg, T16, h16, k16, sb, kb, X16, e16, E16, hS, zk16, hZ, hown, E_t, F_c, F_v, V_b, E_b, st16⟩ := own_ldcE (s := Z) (vm0 := Z.vm) X15 hx hZ hown (hw _ (List.mem_of_getElem? (i := 12) rfl)) wS e15 ((State.WarmedH.refl Z).since 0) (Nat.zero_le _) (by rw [hn]; exact N14) (fun _ _ q => q) IB.start hheld hcw (g := (mkF m 85 #[.val (.long id), .second, .val (.int pu), .val (.long ti), .second, .val (.long li), .second, .val (.long of), .second, .val (.int mo), .val (.long (ti &&& (9223372036854775807 : Int64))), .second, .val (.long r1), .second, .val (.long ((9223372036854775807 : Int64) - (ti &&& (9223372036854775807 : Int64)))), .second, .val (.long r13), .second, .val (.long ((((mo.toUInt32 >>> ((1 : Int32) &&& 31).toUInt32).toInt32) &&& (3 : Int32)).toInt64)), .second] [(.long (ti &&& (9223372036854775807 : Int64))), (.int (pu &&& (2147483647 : Int32))), (.long id), (.ref ob), (.ref ob)])) rfl (hb hby at_85) (by decide) (by decide)
    have K16 : Keep h0 h16 [] := K15.ext E16
    have O16 := O15.ext E16
    have ne_ob_tg : ob ≠ tg := Exa.ne (A15.ext E16) E_t (by decide)
    have ne_ob_sb : ob ≠ sb := Exa.ne (A15.ext E16) E_b (by decide)
    refine OGo.st (B := T16.setTop (mkF m 87 #[.val (.long id), .second, .val (.int pu), .val (.long ti), .second, .val (.long li), .second, .val (.long of), .second, .val (.int mo), .val (.long (ti &&& (9223372036854775807 : Int64))), .second, .val (.long r1), .second, .val (.long ((9223372036854775807 : Int64) - (ti &&& (9223372036854775807 : Int64)))), .second, .val (.long r13), .second, .val (.long ((((mo.toUInt32 >>> ((1 : Int32) &&& 31).toUInt32).toInt32) &&& (3 : Int32)).toInt64)), .second] [(.ref tg), (.long (ti &&& (9223372036854775807 : Int64))), (.int (pu &&& (2147483647 : Int32))), (.long id), (.ref ob), (.ref ob)])) st16 ?_
    refine OGo.st (B := T16.setTop (mkF m 89 #[.val (.long id), .second, .val (.int pu), .val (.long ti), .second, .val (.long li), .second, .val (.long of), .second, .val (.int mo), .val (.long (ti &&& (9223372036854775807 : Int64))), .second, .val (.long r1), .second, .val (.long ((9223372036854775807 : Int64) - (ti &&& (9223372036854775807 : Int64)))), .second, .val (.long r13), .second, .val (.long ((((mo.toUInt32 >>> ((1 : Int32) &&& 31).toUInt32).toInt32) &&& (3 : Int32)).toInt64)), .second] [(.long r1), (.ref tg), (.long (ti &&& (9223372036854775807 : Int64))), (.int (pu &&& (2147483647 : Int32))), (.long id), (.ref ob), (.ref ob)])) (fun _ kz => XS.lload X16.here hx rfl (hb hby at_87) rfl kz) ?_
    refine OGo.st (B := T16.setTop (mkF m 90 #[.val (.long id), .second, .val (.int pu), .val (.long ti), .second, .val (.long li), .second, .val (.long of), .second, .val (.int mo), .val (.long (ti &&& (9223372036854775807 : Int64))), .second, .val (.long r1), .second, .val (.long ((9223372036854775807 : Int64) - (ti &&& (9223372036854775807 : Int64)))), .second, .val (.long r13), .second, .val (.long ((((mo.toUInt32 >>> ((1 : Int32) &&& 31).toUInt32).toInt32) &&& (3 : Int32)).toInt64)), .second] [(.int (0 : Int32)), (.long r1), (.ref tg), (.long (ti &&& (9223372036854775807 : Int64))), (.int (pu &&& (2147483647 : Int32))), (.long id), (.ref ob), (.ref ob)])) (fun _ kz => XS.iconst X16.here hx rfl (hb hby at_89) kz) ?_
    obtain ⟨T17, h17, kd, X17, e17, E17, A17, st17⟩ := newP X16 hx hZ (hw _ (List.mem_of_getElem? (i := 15) rfl)) e16 (g := (mkF m 90 #[.val (.long id), .second, .val (.int pu), .val (.long ti), .second, .val (.long li), .second, .val (.long of), .second, .val (.int mo), .val (.long (ti &&& (9223372036854775807 : Int64))), .second, .val (.long r1), .second, .val (.long ((9223372036854775807 : Int64) - (ti &&& (9223372036854775807 : Int64)))), .second, .val (.long r13), .second, .val (.long ((((mo.toUInt32 >>> ((1 : Int32) &&& 31).toUInt32).toInt32) &&& (3 : Int32)).toInt64)), .second] [(.int (0 : Int32)), (.long r1), (.ref tg), (.long (ti &&& (9223372036854775807 : Int64))), (.int (pu &&& (2147483647 : Int32))), (.long id), (.ref ob), (.ref ob)])) rfl (hb hby at_90) rfl (by decide) (cap := 0) (by decide) (by decide) (by decide) (by decide)
    obtain ⟨bd, g17⟩ : ∃ z, z = h16.size := ⟨_, rfl⟩
    rw [← g17] at A17 st17
    have V_d := Arv.new A17 (by decide)
    have K17 : Keep h0 h17 [] := K16.ext E17
    have O17 := O16.ext E17
    have z17 : k16 ≤ h17.size := Nat.le_trans zk16 E17.1
    refine OGo.st (B := T17.setTop (mkF m 92 #[.val (.long id), .second, .val (.int pu), .val (.long ti), .second, .val (.long li), .second, .val (.long of), .second, .val (.int mo), .val (.long (ti &&& (9223372036854775807 : Int64))), .second, .val (.long r1), .second, .val (.long ((9223372036854775807 : Int64) - (ti &&& (9223372036854775807 : Int64)))), .second, .val (.long r13), .second, .val (.long ((((mo.toUInt32 >>> ((1 : Int32) &&& 31).toUInt32).toInt32) &&& (3 : Int32)).toInt64)), .second] [(.ref bd), (.long r1), (.ref tg), (.long (ti &&& (9223372036854775807 : Int64))), (.int (pu &&& (2147483647 : Int32))), (.long id), (.ref ob), (.ref ob)])) st17 ?_
    obtain ⟨v18, T18, L18, X18, hQ18, st18⟩ := (rm3 l Z a0 hw ob id (ti &&& (9223372036854775807 : Int64)) r1 (pu &&& (2147483647 : Int32)) bd nb kd tg sb kb cs u S_inst h17 n0 (Nat.le_trans Z0 K17.1) O17 S_cs hcs (E_t.ext E17) (F_c.ext E17) (F_v.ext E17) (V_b.ext E17) (E_b.ext E17) S_u8 V_d S_nb (own_npos32 pu) (own_npos ti) hlf ((A15.ext E16).ext E17) g_ob ((F15_id.ext E16).ext E17) ((F15_publisher.ext E16).ext E17) ((F15_time.ext E16).ext E17) ((F15_tag.ext E16).ext E17) ((F15_lifetime.ext E16).ext E17) ((F15_body.ext E16).ext E17)).init (W := 1) X17 hx hZ rfl hown (hw _ (List.mem_of_getElem? (i := 20) rfl)) (hw _ (List.mem_of_getElem? (i := 21) rfl)) (hw _ (List.mem_of_getElem? (i := 10) rfl)) (hw _ (List.mem_of_getElem? (i := 22) rfl)) (by decide) (by decide) (by decide) e17 (by decide) (by decide) (g := (mkF m 92 #[.val (.long id), .second, .val (.int pu), .val (.long ti), .second, .val (.long li), .second, .val (.long of), .second, .val (.int mo), .val (.long (ti &&& (9223372036854775807 : Int64))), .second, .val (.long r1), .second, .val (.long ((9223372036854775807 : Int64) - (ti &&& (9223372036854775807 : Int64)))), .second, .val (.long r13), .second, .val (.long ((((mo.toUInt32 >>> ((1 : Int32) &&& 31).toUInt32).toInt32) &&& (3 : Int32)).toInt64)), .second] [(.ref bd), (.long r1), (.ref tg), (.long (ti &&& (9223372036854775807 : Int64))), (.int (pu &&& (2147483647 : Int32))), (.long id), (.ref ob), (.ref ob)])) rfl (by rw [hml]; rfl) (argsL := [(.long id), (.int (pu &&& (2147483647 : Int32))), (.long (ti &&& (9223372036854775807 : Int64))), (.ref tg), (.long r1), (.ref bd)]) (rest := [(.ref ob)]) rfl (lenOf pd_1 rfl) rfl (by show 2 * 0 + _ ≤ _; exact Nat.le_of_eq rfl) (hb hby at_92)
    obtain ⟨rfl, N18q, J18, Y18_0, Y18_1, Y18_2⟩ := hQ18
    have N18 := Fr.app N14 N18q
    have K18 : Keep h0 T18.heap [] := K17.trans J18 (allS (Or.inr sz_ob) all0)
    have O18 := O17.keep J18 (allS g_ob all0)
    have z18 : k16 ≤ T18.heap.size := Nat.le_trans z17 J18.1
    refine OGo.st (B := T18.setTop (mkF m 95 #[.val (.long id), .second, .val (.int pu), .val (.long ti), .second, .val (.long li), .second, .val (.long of), .second, .val (.int mo), .val (.long (ti &&& (9223372036854775807 : Int64))), .second, .val (.long r1), .second, .val (.long ((9223372036854775807 : Int64) - (ti &&& (9223372036854775807 : Int64)))), .second, .val (.long r13), .second, .val (.long ((((mo.toUInt32 >>> ((1 : Int32) &&& 31).toUInt32).toInt32) &&& (3 : Int32)).toInt64)), .second] [(.ref ob)])) st18 ?_
    refine OGo.st (B := T18.setTop (mkF m 97 #[.val (.long id), .second, .val (.int pu), .val (.long ti), .second, .val (.long li), .second, .val (.long of), .second, .val (.int mo), .val (.long (ti &&& (9223372036854775807 : Int64))), .second, .val (.long r1), .second, .val (.long ((9223372036854775807 : Int64) - (ti &&& (9223372036854775807 : Int64)))), .second, .val (.long r13), .second, .val (.ref ob), .unset] [])) (fun _ kz => XS.astore X18.here hx rfl (hb hby at_95) rfl rfl (l' := #[.val (.long id), .second, .val (.int pu), .val (.long ti), .second, .val (.long li), .second, .val (.long of), .second, .val (.int mo), .val (.long (ti &&& (9223372036854775807 : Int64))), .second, .val (.long r1), .second, .val (.long ((9223372036854775807 : Int64) - (ti &&& (9223372036854775807 : Int64)))), .second, .val (.long r13), .second, .val (.ref ob), .unset]) rfl kz) ?_
    refine OGo.st (B := T18.setTop (mkF m 99 #[.val (.long id), .second, .val (.int pu), .val (.long ti), .second, .val (.long li), .second, .val (.long of), .second, .val (.int mo), .val (.long (ti &&& (9223372036854775807 : Int64))), .second, .val (.long r1), .second, .val (.long ((9223372036854775807 : Int64) - (ti &&& (9223372036854775807 : Int64)))), .second, .val (.long r13), .second, .val (.ref ob), .unset] [(.long r13)])) (fun _ kz => XS.lload X18.here hx rfl (hb hby at_97) rfl kz) ?_
    refine OGo.st (B := T18.setTop (mkF m 101 #[.val (.long id), .second, .val (.int pu), .val (.long ti), .second, .val (.long li), .second, .val (.long of), .second, .val (.int mo), .val (.long (ti &&& (9223372036854775807 : Int64))), .second, .val (.long r1), .second, .val (.long ((9223372036854775807 : Int64) - (ti &&& (9223372036854775807 : Int64)))), .second, .val (.long r13), .second, .val (.ref ob), .unset] [(.long r1), (.long r13)])) (fun _ kz => XS.lload X18.here hx rfl (hb hby at_99) rfl kz) ?_
    refine OGo.st (B := T18.setTop (mkF m 102 #[.val (.long id), .second, .val (.int pu), .val (.long ti), .second, .val (.long li), .second, .val (.long of), .second, .val (.int mo), .val (.long (ti &&& (9223372036854775807 : Int64))), .second, .val (.long r1), .second, .val (.long ((9223372036854775807 : Int64) - (ti &&& (9223372036854775807 : Int64)))), .second, .val (.long r13), .second, .val (.ref ob), .unset] [(.int (lcmpW r13 r1))])) (fun _ kz => XS.lcmp X18.here hx rfl (hb hby at_101) rfl kz) ?_
    by_cases hd : r13 < r1
    · skip
      refine OGo.st (B := T18.setTop (mkF m 105 #[.val (.long id), .second, .val (.int pu), .val (.long ti), .second, .val (.long li), .second, .val (.long of), .second, .val (.int mo), .val (.long (ti &&& (9223372036854775807 : Int64))), .second, .val (.long r1), .second, .val (.long ((9223372036854775807 : Int64) - (ti &&& (9223372036854775807 : Int64)))), .second, .val (.long r13), .second, .val (.ref ob), .unset] [])) (fun _ kz => XS.ifNo X18.here hx rfl (hb hby at_102) rfl ((if0 _ _).trans (tlt ((lw_lt _ _).mpr hd)).2.1) kz) ?_
      refine OGo.st (B := T18.setTop (mkF m 106 #[.val (.long id), .second, .val (.int pu), .val (.long ti), .second, .val (.long li), .second, .val (.long of), .second, .val (.int mo), .val (.long (ti &&& (9223372036854775807 : Int64))), .second, .val (.long r1), .second, .val (.long ((9223372036854775807 : Int64) - (ti &&& (9223372036854775807 : Int64)))), .second, .val (.long r13), .second, .val (.ref ob), .unset] [(.int (1 : Int32))])) (fun _ kz => XS.iconst X18.here hx rfl (hb hby at_105) kz) ?_
      refine OGo.st (B := T18.setTop (mkF m 110 #[.val (.long id), .second, .val (.int pu), .val (.long ti), .second, .val (.long li), .second, .val (.long of), .second, .val (.int mo), .val (.long (ti &&& (9223372036854775807 : Int64))), .second, .val (.long r1), .second, .val (.long ((9223372036854775807 : Int64) - (ti &&& (9223372036854775807 : Int64)))), .second, .val (.long r13), .second, .val (.ref ob), .unset] [(.int (1 : Int32))])) (fun _ kz => XS.goto X18.here hx rfl (pc0 := 106) (pc' := 110) rfl (hb hby at_106) (by decide) (by decide) kz) ?_
      refine OGo.st (B := T18.setTop (mkF m 112 #[.val (.long id), .second, .val (.int pu), .val (.long ti), .second, .val (.long li), .second, .val (.long of), .second, .val (.int mo), .val (.long (ti &&& (9223372036854775807 : Int64))), .second, .val (.long r1), .second, .val (.long ((9223372036854775807 : Int64) - (ti &&& (9223372036854775807 : Int64)))), .second, .val (.long r13), .second, .val (.ref ob), .val (.int (1 : Int32))] [])) (fun _ kz => XS.istore X18.here hx rfl (hb hby at_110) rfl (l' := #[.val (.long id), .second, .val (.int pu), .val (.long ti), .second, .val (.long li), .second, .val (.long of), .second, .val (.int mo), .val (.long (ti &&& (9223372036854775807 : Int64))), .second, .val (.long r1), .second, .val (.long ((9223372036854775807 : Int64) - (ti &&& (9223372036854775807 : Int64)))), .second, .val (.long r13), .second, .val (.ref ob), .val (.int (1 : Int32))]) rfl kz) ?_
      refine OGo.st (B := T18.setTop (mkF m 114 #[.val (.long id), .second, .val (.int pu), .val (.long ti), .second, .val (.long li), .second, .val (.long of), .second, .val (.int mo), .val (.long (ti &&& (9223372036854775807 : Int64))), .second, .val (.long r1), .second, .val (.long ((9223372036854775807 : Int64) - (ti &&& (9223372036854775807 : Int64)))), .second, .val (.long r13), .second, .val (.ref ob), .val (.int (1 : Int32))] [(.ref ob)])) (fun _ kz => XS.aload X18.here hx rfl (hb hby at_112) rfl rfl kz) ?_
      refine OGo.st (B := T18.setTop (mkF m 116 #[.val (.long id), .second, .val (.int pu), .val (.long ti), .second, .val (.long li), .second, .val (.long of), .second, .val (.int mo), .val (.long (ti &&& (9223372036854775807 : Int64))), .second, .val (.long r1), .second, .val (.long ((9223372036854775807 : Int64) - (ti &&& (9223372036854775807 : Int64)))), .second, .val (.long r13), .second, .val (.ref ob), .val (.int (1 : Int32))] [(.long (ti &&& (9223372036854775807 : Int64))), (.ref ob)])) (fun _ kz => XS.lload X18.here hx rfl (hb hby at_114) rfl kz) ?_
      refine OGo.st (B := T18.setTop (mkF m 118 #[.val (.long id), .second, .val (.int pu), .val (.long ti), .second, .val (.long li), .second, .val (.long of), .second, .val (.int mo), .val (.long (ti &&& (9223372036854775807 : Int64))), .second, .val (.long r1), .second, .val (.long ((9223372036854775807 : Int64) - (ti &&& (9223372036854775807 : Int64)))), .second, .val (.long r13), .second, .val (.ref ob), .val (.int (1 : Int32))] [(.long r13), (.long (ti &&& (9223372036854775807 : Int64))), (.ref ob)])) (fun _ kz => XS.lload X18.here hx rfl (hb hby at_116) rfl kz) ?_
      refine OGo.st (B := T18.setTop (mkF m 119 #[.val (.long id), .second, .val (.int pu), .val (.long ti), .second, .val (.long li), .second, .val (.long of), .second, .val (.int mo), .val (.long (ti &&& (9223372036854775807 : Int64))), .second, .val (.long r1), .second, .val (.long ((9223372036854775807 : Int64) - (ti &&& (9223372036854775807 : Int64)))), .second, .val (.long r13), .second, .val (.ref ob), .val (.int (1 : Int32))] [(.long ((ti &&& (9223372036854775807 : Int64)) + r13)), (.ref ob)])) (fun _ kz => XS.ladd X18.here hx rfl (hb hby at_118) rfl kz) ?_
      obtain ⟨v19, T19, L19, X19, hQ19, st19⟩ := (rm13 l Z a0 hw ob ((ti &&& (9223372036854775807 : Int64)) + r13) (ti &&& (9223372036854775807 : Int64)) r1 (1 : Int32) T18.heap n0 Y18_1 Y18_2 (by rw [own_back]; exact if_pos hd)).virt (W := 0) X18 hx hZ hown (hw _ (List.mem_of_getElem? (i := 87) rfl)) (hw _ (List.mem_of_getElem? (i := 88) rfl)) (nf_sel hZ (hw _ (List.mem_of_getElem? (i := 90) rfl))) (hw _ (List.mem_of_getElem? (i := 90) rfl)) (hw _ (List.mem_of_getElem? (i := 89) rfl)) (hw _ (List.mem_of_getElem? (i := 10) rfl)) (hw _ (List.mem_of_getElem? (i := 91) rfl)) (by decide) (by decide) (by decide) rfl (by decide) (by decide) (g := (mkF m 119 #[.val (.long id), .second, .val (.int pu), .val (.long ti), .second, .val (.long li), .second, .val (.long of), .second, .val (.int mo), .val (.long (ti &&& (9223372036854775807 : Int64))), .second, .val (.long r1), .second, .val (.long ((9223372036854775807 : Int64) - (ti &&& (9223372036854775807 : Int64)))), .second, .val (.long r13), .second, .val (.ref ob), .val (.int (1 : Int32))] [(.long ((ti &&& (9223372036854775807 : Int64)) + r13)), (.ref ob)])) rfl (by rw [hml]; rfl) Y18_0 (argsL := [(.long ((ti &&& (9223372036854775807 : Int64)) + r13))]) (rest := []) rfl (lenOf pd_11 rfl) rfl (by show 2 * 0 + _ ≤ _; exact Nat.le_of_eq rfl) (hb hby at_119)
      obtain ⟨rfl, N19q, e19⟩ := hQ19
      have N19 := Fr.app N18 N19q
      refine OGo.st (B := T19.setTop (mkF m 122 #[.val (.long id), .second, .val (.int pu), .val (.long ti), .second, .val (.long li), .second, .val (.long of), .second, .val (.int mo), .val (.long (ti &&& (9223372036854775807 : Int64))), .second, .val (.long r1), .second, .val (.long ((9223372036854775807 : Int64) - (ti &&& (9223372036854775807 : Int64)))), .second, .val (.long r13), .second, .val (.ref ob), .val (.int (1 : Int32))] [(.int (1 : Int32))])) st19 ?_
      refine OGo.st (B := T19.setTop (mkF m 124 #[.val (.long id), .second, .val (.int pu), .val (.long ti), .second, .val (.long li), .second, .val (.long of), .second, .val (.int mo), .val (.long (ti &&& (9223372036854775807 : Int64))), .second, .val (.long r1), .second, .val (.long ((9223372036854775807 : Int64) - (ti &&& (9223372036854775807 : Int64)))), .second, .val (.long r13), .second, .val (.ref ob), .val (.int (1 : Int32))] [(.int (1 : Int32)), (.int (1 : Int32))])) (fun _ kz => XS.iload X19.here hx rfl (hb hby at_122) rfl kz) ?_
      refine OGo.st (B := T19.setTop (mkF m 127 #[.val (.long id), .second, .val (.int pu), .val (.long ti), .second, .val (.long li), .second, .val (.long of), .second, .val (.int mo), .val (.long (ti &&& (9223372036854775807 : Int64))), .second, .val (.long r1), .second, .val (.long ((9223372036854775807 : Int64) - (ti &&& (9223372036854775807 : Int64)))), .second, .val (.long r13), .second, .val (.ref ob), .val (.int (1 : Int32))] [])) (fun _ kz => XS.icmpNo X19.here hx rfl (hb hby at_124) rfl (by decide) kz) ?_
      refine OGo.st (B := T19.setTop (mkF m 128 #[.val (.long id), .second, .val (.int pu), .val (.long ti), .second, .val (.long li), .second, .val (.long of), .second, .val (.int mo), .val (.long (ti &&& (9223372036854775807 : Int64))), .second, .val (.long r1), .second, .val (.long ((9223372036854775807 : Int64) - (ti &&& (9223372036854775807 : Int64)))), .second, .val (.long r13), .second, .val (.ref ob), .val (.int (1 : Int32))] [(.int (1 : Int32))])) (fun _ kz => XS.iconst X19.here hx rfl (hb hby at_127) kz) ?_
      refine OGo.st (B := T19.setTop (mkF m 132 #[.val (.long id), .second, .val (.int pu), .val (.long ti), .second, .val (.long li), .second, .val (.long of), .second, .val (.int mo), .val (.long (ti &&& (9223372036854775807 : Int64))), .second, .val (.long r1), .second, .val (.long ((9223372036854775807 : Int64) - (ti &&& (9223372036854775807 : Int64)))), .second, .val (.long r13), .second, .val (.ref ob), .val (.int (1 : Int32))] [(.int (1 : Int32))])) (fun _ kz => XS.goto X19.here hx rfl (pc0 := 128) (pc' := 132) rfl (hb hby at_128) (by decide) (by decide) kz) ?_
      exact own_retZW X19 hx hS (by rw [e19]; exact z18) hret hlk (hb hby at_132) ⟨rfl, N19⟩ (by decide) (by decide)
    · skip
      refine OGo.st (B := T18.setTop (mkF m 109 #[.val (.long id), .second, .val (.int pu), .val (.long ti), .second, .val (.long li), .second, .val (.long of), .second, .val (.int mo), .val (.long (ti &&& (9223372036854775807 : Int64))), .second, .val (.long r1), .second, .val (.long ((9223372036854775807 : Int64) - (ti &&& (9223372036854775807 : Int64)))), .second, .val (.long r13), .second, .val (.ref ob), .unset] [])) (fun _ kz => XS.ifYes X18.here hx rfl (pc0 := 102) (pc' := 109) rfl (hb hby at_102) rfl ((if0 _ _).trans (flt (mt (lw_lt _ _).mp hd)).2.1) (by decide) (by decide) kz) ?_
      refine OGo.st (B := T18.setTop (mkF m 110 #[.val (.long id), .second, .val (.int pu), .val (.long ti), .second, .val (.long li), .second, .val (.long of), .second, .val (.int mo), .val (.long (ti &&& (9223372036854775807 : Int64))), .second, .val (.long r1), .second, .val (.long ((9223372036854775807 : Int64) - (ti &&& (9223372036854775807 : Int64)))), .second, .val (.long r13), .second, .val (.ref ob), .unset] [(.int (0 : Int32))])) (fun _ kz => XS.iconst X18.here hx rfl (hb hby at_109) kz) ?_
      refine OGo.st (B := T18.setTop (mkF m 112 #[.val (.long id), .second, .val (.int pu), .val (.long ti), .second, .val (.long li), .second, .val (.long of), .second, .val (.int mo), .val (.long (ti &&& (9223372036854775807 : Int64))), .second, .val (.long r1), .second, .val (.long ((9223372036854775807 : Int64) - (ti &&& (9223372036854775807 : Int64)))), .second, .val (.long r13), .second, .val (.ref ob), .val (.int (0 : Int32))] [])) (fun _ kz => XS.istore X18.here hx rfl (hb hby at_110) rfl (l' := #[.val (.long id), .second, .val (.int pu), .val (.long ti), .second, .val (.long li), .second, .val (.long of), .second, .val (.int mo), .val (.long (ti &&& (9223372036854775807 : Int64))), .second, .val (.long r1), .second, .val (.long ((9223372036854775807 : Int64) - (ti &&& (9223372036854775807 : Int64)))), .second, .val (.long r13), .second, .val (.ref ob), .val (.int (0 : Int32))]) rfl kz) ?_
      refine OGo.st (B := T18.setTop (mkF m 114 #[.val (.long id), .second, .val (.int pu), .val (.long ti), .second, .val (.long li), .second, .val (.long of), .second, .val (.int mo), .val (.long (ti &&& (9223372036854775807 : Int64))), .second, .val (.long r1), .second, .val (.long ((9223372036854775807 : Int64) - (ti &&& (9223372036854775807 : Int64)))), .second, .val (.long r13), .second, .val (.ref ob), .val (.int (0 : Int32))] [(.ref ob)])) (fun _ kz => XS.aload X18.here hx rfl (hb hby at_112) rfl rfl kz) ?_
      refine OGo.st (B := T18.setTop (mkF m 116 #[.val (.long id), .second, .val (.int pu), .val (.long ti), .second, .val (.long li), .second, .val (.long of), .second, .val (.int mo), .val (.long (ti &&& (9223372036854775807 : Int64))), .second, .val (.long r1), .second, .val (.long ((9223372036854775807 : Int64) - (ti &&& (9223372036854775807 : Int64)))), .second, .val (.long r13), .second, .val (.ref ob), .val (.int (0 : Int32))] [(.long (ti &&& (9223372036854775807 : Int64))), (.ref ob)])) (fun _ kz => XS.lload X18.here hx rfl (hb hby at_114) rfl kz) ?_
      refine OGo.st (B := T18.setTop (mkF m 118 #[.val (.long id), .second, .val (.int pu), .val (.long ti), .second, .val (.long li), .second, .val (.long of), .second, .val (.int mo), .val (.long (ti &&& (9223372036854775807 : Int64))), .second, .val (.long r1), .second, .val (.long ((9223372036854775807 : Int64) - (ti &&& (9223372036854775807 : Int64)))), .second, .val (.long r13), .second, .val (.ref ob), .val (.int (0 : Int32))] [(.long r13), (.long (ti &&& (9223372036854775807 : Int64))), (.ref ob)])) (fun _ kz => XS.lload X18.here hx rfl (hb hby at_116) rfl kz) ?_
      refine OGo.st (B := T18.setTop (mkF m 119 #[.val (.long id), .second, .val (.int pu), .val (.long ti), .second, .val (.long li), .second, .val (.long of), .second, .val (.int mo), .val (.long (ti &&& (9223372036854775807 : Int64))), .second, .val (.long r1), .second, .val (.long ((9223372036854775807 : Int64) - (ti &&& (9223372036854775807 : Int64)))), .second, .val (.long r13), .second, .val (.ref ob), .val (.int (0 : Int32))] [(.long ((ti &&& (9223372036854775807 : Int64)) + r13)), (.ref ob)])) (fun _ kz => XS.ladd X18.here hx rfl (hb hby at_118) rfl kz) ?_
      obtain ⟨v20, T20, L20, X20, hQ20, st20⟩ := (rm13 l Z a0 hw ob ((ti &&& (9223372036854775807 : Int64)) + r13) (ti &&& (9223372036854775807 : Int64)) r1 (0 : Int32) T18.heap n0 Y18_1 Y18_2 (by rw [own_back]; exact if_neg hd)).virt (W := 0) X18 hx hZ hown (hw _ (List.mem_of_getElem? (i := 87) rfl)) (hw _ (List.mem_of_getElem? (i := 88) rfl)) (nf_sel hZ (hw _ (List.mem_of_getElem? (i := 90) rfl))) (hw _ (List.mem_of_getElem? (i := 90) rfl)) (hw _ (List.mem_of_getElem? (i := 89) rfl)) (hw _ (List.mem_of_getElem? (i := 10) rfl)) (hw _ (List.mem_of_getElem? (i := 91) rfl)) (by decide) (by decide) (by decide) rfl (by decide) (by decide) (g := (mkF m 119 #[.val (.long id), .second, .val (.int pu), .val (.long ti), .second, .val (.long li), .second, .val (.long of), .second, .val (.int mo), .val (.long (ti &&& (9223372036854775807 : Int64))), .second, .val (.long r1), .second, .val (.long ((9223372036854775807 : Int64) - (ti &&& (9223372036854775807 : Int64)))), .second, .val (.long r13), .second, .val (.ref ob), .val (.int (0 : Int32))] [(.long ((ti &&& (9223372036854775807 : Int64)) + r13)), (.ref ob)])) rfl (by rw [hml]; rfl) Y18_0 (argsL := [(.long ((ti &&& (9223372036854775807 : Int64)) + r13))]) (rest := []) rfl (lenOf pd_11 rfl) rfl (by show 2 * 0 + _ ≤ _; exact Nat.le_of_eq rfl) (hb hby at_119)
      obtain ⟨rfl, N20q, e20⟩ := hQ20
      have N20 := Fr.app N18 N20q
      refine OGo.st (B := T20.setTop (mkF m 122 #[.val (.long id), .second, .val (.int pu), .val (.long ti), .second, .val (.long li), .second, .val (.long of), .second, .val (.int mo), .val (.long (ti &&& (9223372036854775807 : Int64))), .second, .val (.long r1), .second, .val (.long ((9223372036854775807 : Int64) - (ti &&& (9223372036854775807 : Int64)))), .second, .val (.long r13), .second, .val (.ref ob), .val (.int (0 : Int32))] [(.int (0 : Int32))])) st20 ?_
      refine OGo.st (B := T20.setTop (mkF m 124 #[.val (.long id), .second, .val (.int pu), .val (.long ti), .second, .val (.long li), .second, .val (.long of), .second, .val (.int mo), .val (.long (ti &&& (9223372036854775807 : Int64))), .second, .val (.long r1), .second, .val (.long ((9223372036854775807 : Int64) - (ti &&& (9223372036854775807 : Int64)))), .second, .val (.long r13), .second, .val (.ref ob), .val (.int (0 : Int32))] [(.int (0 : Int32)), (.int (0 : Int32))])) (fun _ kz => XS.iload X20.here hx rfl (hb hby at_122) rfl kz) ?_
      refine OGo.st (B := T20.setTop (mkF m 127 #[.val (.long id), .second, .val (.int pu), .val (.long ti), .second, .val (.long li), .second, .val (.long of), .second, .val (.int mo), .val (.long (ti &&& (9223372036854775807 : Int64))), .second, .val (.long r1), .second, .val (.long ((9223372036854775807 : Int64) - (ti &&& (9223372036854775807 : Int64)))), .second, .val (.long r13), .second, .val (.ref ob), .val (.int (0 : Int32))] [])) (fun _ kz => XS.icmpNo X20.here hx rfl (hb hby at_124) rfl (by decide) kz) ?_
      refine OGo.st (B := T20.setTop (mkF m 128 #[.val (.long id), .second, .val (.int pu), .val (.long ti), .second, .val (.long li), .second, .val (.long of), .second, .val (.int mo), .val (.long (ti &&& (9223372036854775807 : Int64))), .second, .val (.long r1), .second, .val (.long ((9223372036854775807 : Int64) - (ti &&& (9223372036854775807 : Int64)))), .second, .val (.long r13), .second, .val (.ref ob), .val (.int (0 : Int32))] [(.int (1 : Int32))])) (fun _ kz => XS.iconst X20.here hx rfl (hb hby at_127) kz) ?_
      refine OGo.st (B := T20.setTop (mkF m 132 #[.val (.long id), .second, .val (.int pu), .val (.long ti), .second, .val (.long li), .second, .val (.long of), .second, .val (.int mo), .val (.long (ti &&& (9223372036854775807 : Int64))), .second, .val (.long r1), .second, .val (.long ((9223372036854775807 : Int64) - (ti &&& (9223372036854775807 : Int64)))), .second, .val (.long r13), .second, .val (.ref ob), .val (.int (0 : Int32))] [(.int (1 : Int32))])) (fun _ kz => XS.goto X20.here hx rfl (pc0 := 128) (pc' := 132) rfl (hb hby at_128) (by decide) (by decide) kz) ?_
      exact own_retZW X20 hx hS (by rw [e20]; exact z18) hret hlk (hb hby at_132) ⟨rfl, N20⟩ (by decide) (by decide)
set_option maxRecDepth 65536 in
set_option maxHeartbeats 40000000 in
theorem comes_1 {Post : Tables → Env → Array Value → State → Outcome → State → Prop} (hpost : ∀ tb e args s v u, (limb_1_1.after args s (.returned v) u = true ∧ limb_1_2.after args s (.returned v) u = true ∧ True) → ReturnedEndW s (.returned v) u (Jvm.fieldLocs frame_1_writes args s ++ Jvm.arrayLocs frame_1_arrays args s ++ Jvm.staticLocs frame_1_statics s) 16 1152 → Post tb e args s (.returned v) u) :
    ArmFor flags0 classFile x code maxLocals ret World_1 tables_1 room_1 Calls_1 rest_1 Pre_1 Post := by
  intro l hfl _ _ p e ha hc hk s m args below hf hA hF happ hP
  obtain ⟨hcalls, hrest, hpre⟩ := hP
  obtain ⟨-, -, -, hnamed, -, -, -, hat⟩ := (Spec.applies_iff hf).mp happ
  obtain ⟨hg, hn⟩ := and_e (Cond.before_iff.mp (show (Jvm.Cond.and given_1 narrow_1).before args s = true from hpre))
  obtain ⟨q1, q2⟩ := and_e hg
  obtain ⟨q3, q4⟩ := and_e q2
  obtain ⟨q5, q6⟩ := and_e q4
  obtain ⟨q7, q8⟩ := and_e q6
  obtain ⟨q9, q10⟩ := and_e q8
  obtain ⟨q11, q12⟩ := and_e q10
  obtain ⟨w0, w1, w2, w3, w4, w5, rfl⟩ : ∃ w0 w1 w2 w3 w4 w5 : Value, args = #[w0, w1, w2, w3, w4, w5] := by
    have hs : args.size = 6 := by simpa [Cond.value, given_1] using q1
    obtain ⟨L⟩ := args
    match L, hs with
    | [w0, w1, w2, w3, w4, w5], _ => exact ⟨w0, w1, w2, w3, w4, w5, rfl⟩
  have hw := fun d (hd : d ∈ tables_1) => atoms_spec (ws := Jvm.Cond.code x code maxLocals ret :: tables_1) hat d (List.mem_cons_of_mem _ hd)
  obtain ⟨i0, ei0⟩ := isL_v q3
  obtain rfl : w0 = (.long i0) := Option.some.inj ei0
  obtain ⟨i1, ei1⟩ := is_v q5
  obtain rfl : w1 = (.int i1) := Option.some.inj ei1
  obtain ⟨i2, ei2⟩ := isL_v q7
  obtain rfl : w2 = (.long i2) := Option.some.inj ei2
  obtain ⟨i3, ei3⟩ := isL_v q9
  obtain rfl : w3 = (.long i3) := Option.some.inj ei3
  obtain ⟨i4, ei4⟩ := isL_v q11
  obtain rfl : w4 = (.long i4) := Option.some.inj ei4
  obtain ⟨i5, ei5⟩ := is_v q12
  obtain rfl : w5 = (.int i5) := Option.some.inj ei5
  obtain ⟨hsets, hown0⟩ := atoms_of _ (rest_1_c_eq ▸ (show rest_1_c.before _ s = true from hrest))
  obtain ⟨q13, q14⟩ := and_e hn
  obtain ⟨u, eu⟩ := exa_v (Cond.before_iff.mp (hsets _ (List.mem_of_getElem? (i := 17) rfl)))
  have S_inst := Sta.start eu (Or.inl (hsets _ (List.mem_of_getElem? (i := 3) rfl)))
  obtain ⟨u2, eu2⟩ := exa_v (Cond.before_iff.mp (hsets _ (List.mem_of_getElem? (i := 5) rfl)))
  have hu : u2 = u := Value.ref.inj (gotT (eq_R eu2 eu rfl rfl) (Cond.before_iff.mp (hsets _ (List.mem_of_getElem? (i := 4) rfl))))
  subst hu
  have S_u8 := Sta.start eu2 (Or.inl (hsets _ (List.mem_of_getElem? (i := 1) rfl)))
  obtain ⟨cs, ecs⟩ := is_v (Cond.before_iff.mp (hsets _ (List.mem_of_getElem? (i := 7) rfl)))
  have S_cs := Sta.start ecs (Or.inl (hsets _ (List.mem_of_getElem? (i := 6) rfl)))
  have hcs : ¬ cs = 0 := gotF (Cond.eq_ints ecs (Term.int_eval 0)) (not_v (Cond.before_iff.mp (hsets _ (List.mem_of_getElem? (i := 8) rfl))))
  obtain ⟨nb, enb⟩ := arr_v q13
  have S_nb := Sta.start enb (Or.inr ⟨(hw _ (List.mem_of_getElem? (i := 10) rfl)), (hw _ (List.mem_of_getElem? (i := 74) rfl))⟩)
  have hheld := hcalls.1 _ (List.mem_singleton.mpr rfl)
  have hcw : Jvm.Lit.compactW.before _ s = true := (hsets _ (List.mem_of_getElem? (i := 8) rfl))
  obtain ⟨n, o, h1, h2, h3, _, L, rfl, ⟨rfl, N⟩, hq⟩ := rm0 l s _ hw i0 i2 i3 i4 i1 i5 s.heap s.heap.size rfl rfl cs u2 S_inst nb S_cs hcs S_u8 S_nb hheld hcw p e ha hc hk s m _ below hf ((Spec.applies_iff_loose hf).mp happ).1 ⟨rfl, rfl⟩ trivial
  refine ⟨n, _, h1, h2, h3, hpost _ _ _ _ _ _ ⟨Cond.after_iff.mpr rfl, Cond.after_iff.mpr (eq_i res_at (Term.int_eval (1)) rfl), trivial⟩ ⟨hq.1, hq.2.1, hq.2.2.1, (hq.2.2.2.sift fun y hy => Or.inr (N y hy)).mono (by decide) (by decide)⟩⟩
theorem main_1_1 : Claimed_1_1 := comes_1 fun _ _ _ _ _ _ h hF => ⟨h.1, hF⟩
theorem main_1_2 : Claimed_1_2 := comes_1 fun _ _ _ _ _ _ h hF => ⟨h.2.1, hF⟩
end Jvm.Pilot.@@N@@
namespace Jvm.Pilot.@@N@@
open Jvm Jvm.ClassFile Sem Op Lib Jvm.Free Jvm.Stand Jvm.Pilot.@@N@@.Jvm.D
/-! MADE BY PROGRAM (witnessworld.py) out of the Statement's table words and the real class files: 25 classes; the members and pool entries that the words name. The judged class is class 1, her method 1. -/
namespace start1
open Jvm.ClassFile
def u (s : String) : CpInfo := .utf8 (stringToUtf16 s)
/-- a pool by its gaps: so many unusable entries, then the entry; so many at the end -/
def gap : Nat → List CpInfo → List CpInfo
  | 0, r => r
  | n + 1, r => .unusable :: gap n r
def poolList (es : List (Nat × CpInfo)) (last : Nat) : List CpInfo := es.foldr (fun e r => gap e.1 (e.2 :: r)) (gap last [])
def pool (es : List (Nat × CpInfo)) (last : Nat) : Array CpInfo := ⟨poolList es last⟩
def fileOf (pool : Array CpInfo) (this : Nat) (attrs : Array Attribute := #[]) (ms : Array MethodInfo := #[]) (fl : Nat := 33) (sup : Nat := 0) (ifs : Array Nat := #[]) (fds : Array FieldInfo := #[]) : ClassFile where
  minorVersion := 0
  majorVersion := 65
  constantPool := pool
  accessFlags := fl
  thisClass := this
  superClass := sup
  interfaces := ifs
  fields := fds
  methods := ms
  attributes := attrs
def plain (name : String) (sup : Option ClassId) : Class where
  name := name
  kind := .ordinary
  loader := none
  accessFlags := 33
  super := sup
  interfaces := #[]
  cf := none
  fields := #[]
  methods := #[]
  instanceTypes := #[]
  staticTypes := #[]
  resolved := #[]
  callSites := []
  init := .initialized
  statics := none
  mirror := none

def pool0 : Array CpInfo := pool [(5, u "<init>"), (0, u "()V"), (1, .class_ 10), (1, u "java/lang/Object"), (85, u "clone"), (0, u "()Ljava/lang/Object;")] 26

def k0c0 : Code := { maxStack := 0, maxLocals := 1, code := object_method_1_code, exceptionTable := #[], attributes := #[] }
def k0m0 : Method := { name := "<init>", desc := "()V", sig := { parameters := [], returnType := none }, accessFlags := 1, code := some k0c0 }
def k0m1 : Method := { name := "clone", desc := "()Ljava/lang/Object;", sig := { parameters := [], returnType := some (.object "java/lang/Object") }, accessFlags := 260, code := none }
/-- java/lang/Object -/
def k0 : Class := { plain "java/lang/Object" none with
  accessFlags := 33
  interfaces := #[]
  cf := some (fileOf pool0 8 #[] #[{ accessFlags := 1, nameIndex := 5, descriptorIndex := 6, attributes := #[] }, { accessFlags := 260, nameIndex := 96, descriptorIndex := 97, attributes := #[] }] 33 0 #[] #[])
  fields := #[]
  methods := #[k0m0, k0m1]
  instanceTypes := #[]
  staticTypes := #[]
  resolved := Array.replicate 124 none
  statics := none }

def pool1 : Array CpInfo := pool [(2, .class_ 4), (1, u "java/lang/Object"), (0, u "<init>"), (0, u "()V"), (2, .long 9223372036854775807), (1, .methodref 12 13), (0, .class_ 14), (0, .nameAndType 15 16), (0, u "java/lang/Math"), (0, u "max"), (0, u "(JJ)J"), (0, .methodref 12 18), (0, .nameAndType 19 16), (0, u "min"), (0, .class_ 21), (0, u "com/example/lean_rumor/leanrumor/node/Message"), (2, .integer 2147483647), (0, .string 26), (0, u ""), (0, .methodref 20 28), (0, .nameAndType 5 29), (0, u "(JIJLjava/lang/String;J[B)V"), (0, .methodref 20 31), (0, .nameAndType 32 33), (0, u "livesAt"), (0, u "(J)Z"), (0, .class_ 35), (0, u "com/example/lean_rumor/leanrumor/node/MessageLivesAtPinLaw"), (2, u "law"), (0, u "(JIJJJI)Z")] 3

def k1m0 : Method := { name := "<init>", desc := "()V", sig := { parameters := [], returnType := none }, accessFlags := 1, code := none }
def k1c1 : Code := { maxStack := 11, maxLocals := 20, code := code, exceptionTable := #[], attributes := #[] }
def k1m1 : Method := { name := "law", desc := "(JIJJJI)Z", sig := { parameters := [.long, .int, .long, .long, .long, .int], returnType := some .boolean }, accessFlags := 9, code := some k1c1 }
/-- com/example/lean_rumor/leanrumor/node/MessageLivesAtPinLaw -/
def k1 : Class := { plain "com/example/lean_rumor/leanrumor/node/MessageLivesAtPinLaw" (some 0) with
  accessFlags := 49
  interfaces := #[]
  cf := some (fileOf pool1 34 #[] #[{ accessFlags := 1, nameIndex := 5, descriptorIndex := 6, attributes := #[] }, { accessFlags := 9, nameIndex := 38, descriptorIndex := 39, attributes := #[] }] 49 2 #[] #[])
  fields := #[]
  methods := #[k1m0, k1m1]
  instanceTypes := #[]
  staticTypes := #[]
  resolved := Array.replicate 43 none
  statics := none }

def pool2 : Array CpInfo := pool [(1, .class_ 2), (0, u "java/lang/Math"), (1, .class_ 6), (1, u "java/lang/Object"), (0, u "<init>"), (0, u "()V"), (89, .class_ 100), (1, u "java/lang/Math$RandomNumberGeneratorHolder"), (20, u "(JJ)J"), (50, u "negativeZeroFloatBits"), (0, u "J"), (2, u "negativeZeroDoubleBits"), (21, u "max"), (2, u "min"), (43, u "$assertionsDisabled"), (0, u "Z"), (91, u "twoToTheDoubleScaleDown"), (0, u "D"), (4, u "twoToTheDoubleScaleUp"), (9, u "E"), (3, u "PI"), (2, u "TAU"), (2, u "DEGREES_TO_RADIANS"), (0, u "RADIANS_TO_DEGREES")] 94

def k2m0 : Method := { name := "<init>", desc := "()V", sig := { parameters := [], returnType := none }, accessFlags := 2, code := none }
def k2c1 : Code := { maxStack := 4, maxLocals := 4, code := jdk_29_method_66_code, exceptionTable := #[], attributes := #[] }
def k2m1 : Method := { name := "max", desc := "(JJ)J", sig := { parameters := [.long, .long], returnType := some .long }, accessFlags := 9, code := some k2c1 }
def k2c2 : Code := { maxStack := 4, maxLocals := 4, code := jdk_29_method_70_code, exceptionTable := #[], attributes := #[] }
def k2m2 : Method := { name := "min", desc := "(JJ)J", sig := { parameters := [.long, .long], returnType := some .long }, accessFlags := 9, code := some k2c2 }
/-- java/lang/Math -/
def k2 : Class := { plain "java/lang/Math" (some 0) with
  accessFlags := 49
  interfaces := #[]
  cf := some (fileOf pool2 1 #[.nestMembers #[98]] #[{ accessFlags := 2, nameIndex := 7, descriptorIndex := 8, attributes := #[] }, { accessFlags := 9, nameIndex := 198, descriptorIndex := 121, attributes := #[] }, { accessFlags := 9, nameIndex := 201, descriptorIndex := 121, attributes := #[] }] 49 4 #[] #[{ accessFlags := 25, nameIndex := 354, descriptorIndex := 339, attributes := #[] }, { accessFlags := 25, nameIndex := 358, descriptorIndex := 339, attributes := #[] }, { accessFlags := 25, nameIndex := 361, descriptorIndex := 339, attributes := #[] }, { accessFlags := 26, nameIndex := 364, descriptorIndex := 339, attributes := #[] }, { accessFlags := 26, nameIndex := 365, descriptorIndex := 339, attributes := #[] }, { accessFlags := 26, nameIndex := 172, descriptorIndex := 173, attributes := #[] }, { accessFlags := 26, nameIndex := 176, descriptorIndex := 173, attributes := #[] }, { accessFlags := 8, nameIndex := 344, descriptorIndex := 339, attributes := #[] }, { accessFlags := 8, nameIndex := 338, descriptorIndex := 339, attributes := #[] }, { accessFlags := 4120, nameIndex := 245, descriptorIndex := 246, attributes := #[] }])
  fields := #[{ name := "E", type := .double, accessFlags := 25, slot := 0, constantValue := 0 }, { name := "PI", type := .double, accessFlags := 25, slot := 1, constantValue := 0 }, { name := "TAU", type := .double, accessFlags := 25, slot := 2, constantValue := 0 }, { name := "DEGREES_TO_RADIANS", type := .double, accessFlags := 26, slot := 3, constantValue := 0 }, { name := "RADIANS_TO_DEGREES", type := .double, accessFlags := 26, slot := 4, constantValue := 0 }, { name := "negativeZeroFloatBits", type := .long, accessFlags := 26, slot := 5, constantValue := 0 }, { name := "negativeZeroDoubleBits", type := .long, accessFlags := 26, slot := 6, constantValue := 0 }, { name := "twoToTheDoubleScaleUp", type := .double, accessFlags := 8, slot := 7, constantValue := 0 }, { name := "twoToTheDoubleScaleDown", type := .double, accessFlags := 8, slot := 8, constantValue := 0 }, { name := "$assertionsDisabled", type := .boolean, accessFlags := 4120, slot := 9, constantValue := 0 }]
  methods := #[k2m0, k2m1, k2m2]
  instanceTypes := #[]
  staticTypes := #[.double, .double, .double, .double, .double, .long, .long, .double, .double, .boolean]
  resolved := Array.replicate 460 none
  statics := none }

def pool3 : Array CpInfo := pool [(1, .methodref 2 3), (0, .class_ 4), (0, .nameAndType 5 6), (0, u "java/lang/Object"), (0, u "<init>"), (0, u "()V"), (0, .class_ 8), (0, u "java/lang/Record")] 13

def k3c0 : Code := { maxStack := 1, maxLocals := 1, code := jdk_30_method_1_code, exceptionTable := #[], attributes := #[] }
def k3m0 : Method := { name := "<init>", desc := "()V", sig := { parameters := [], returnType := none }, accessFlags := 4, code := some k3c0 }
/-- java/lang/Record -/
def k3 : Class := { plain "java/lang/Record" (some 0) with
  accessFlags := 1057
  interfaces := #[]
  cf := some (fileOf pool3 7 #[] #[{ accessFlags := 4, nameIndex := 5, descriptorIndex := 6, attributes := #[] }] 1057 2 #[] #[])
  fields := #[]
  methods := #[k3m0]
  instanceTypes := #[]
  staticTypes := #[]
  resolved := Array.replicate 22 none
  statics := none }

def pool4 : Array CpInfo := pool [(1, .methodref 2 3), (0, .class_ 4), (0, .nameAndType 5 6), (0, u "java/lang/Record"), (0, u "<init>"), (0, u "()V"), (8, u "(Ljava/lang/String;)V"), (4, .methodref 21 22), (0, .class_ 23), (0, .nameAndType 24 15), (0, u "com/example/lean_rumor/leanrumor/node/Message"), (0, u "requireTag"), (0, .fieldref 21 26), (0, .nameAndType 27 28), (0, u "NO_BODY"), (0, u "[B"), (5, .fieldref 21 35), (0, .nameAndType 36 37), (0, u "id"), (0, u "J"), (0, .fieldref 21 39), (0, .nameAndType 40 41), (0, u "publisher"), (0, u "I"), (0, .fieldref 21 43), (0, .nameAndType 44 37), (0, u "time"), (0, .fieldref 21 46), (0, .nameAndType 47 48), (0, u "tag"), (0, u "Ljava/lang/String;"), (0, .fieldref 21 50), (0, .nameAndType 51 37), (0, u "lifetime"), (0, .fieldref 21 53), (0, .nameAndType 54 28), (0, u "body"), (0, .fieldref 56 57), (0, .class_ 58), (0, .nameAndType 59 60), (0, u "java/nio/charset/StandardCharsets"), (0, u "UTF_8"), (0, u "Ljava/nio/charset/Charset;"), (0, .methodref 62 63), (0, .class_ 64), (0, .nameAndType 65 66), (0, u "java/lang/String"), (0, u "getBytes"), (0, u "(Ljava/nio/charset/Charset;)[B"), (38, u "(JIJLjava/lang/String;J[B)V"), (5, u "livesAt"), (0, u "(J)Z")] 31

def k4c0 : Code := { maxStack := 4, maxLocals := 10, code := prog_37_method_1_code, exceptionTable := #[], attributes := #[] }
def k4m0 : Method := { name := "<init>", desc := "(JIJLjava/lang/String;J[B)V", sig := { parameters := [.long, .int, .long, (.object "java/lang/String"), .long, (.array .byte)], returnType := none }, accessFlags := 1, code := some k4c0 }
def k4c1 : Code := { maxStack := 3, maxLocals := 2, code := prog_37_method_2_code, exceptionTable := #[], attributes := #[] }
def k4m1 : Method := { name := "requireTag", desc := "(Ljava/lang/String;)V", sig := { parameters := [(.object "java/lang/String")], returnType := none }, accessFlags := 8, code := some k4c1 }
def k4c2 : Code := { maxStack := 4, maxLocals := 3, code := prog_37_method_4_code, exceptionTable := #[], attributes := #[] }
def k4m2 : Method := { name := "livesAt", desc := "(J)Z", sig := { parameters := [.long], returnType := some .boolean }, accessFlags := 1, code := some k4c2 }
/-- com/example/lean_rumor/leanrumor/node/Message -/
def k4 : Class := { plain "com/example/lean_rumor/leanrumor/node/Message" (some 3) with
  accessFlags := 49
  interfaces := #[]
  cf := some (fileOf pool4 21 #[] #[{ accessFlags := 1, nameIndex := 5, descriptorIndex := 105, attributes := #[] }, { accessFlags := 8, nameIndex := 24, descriptorIndex := 15, attributes := #[] }, { accessFlags := 1, nameIndex := 111, descriptorIndex := 112, attributes := #[] }] 49 2 #[] #[{ accessFlags := 18, nameIndex := 36, descriptorIndex := 37, attributes := #[] }, { accessFlags := 18, nameIndex := 40, descriptorIndex := 41, attributes := #[] }, { accessFlags := 18, nameIndex := 44, descriptorIndex := 37, attributes := #[] }, { accessFlags := 18, nameIndex := 47, descriptorIndex := 48, attributes := #[] }, { accessFlags := 18, nameIndex := 51, descriptorIndex := 37, attributes := #[] }, { accessFlags := 18, nameIndex := 54, descriptorIndex := 28, attributes := #[] }, { accessFlags := 26, nameIndex := 27, descriptorIndex := 28, attributes := #[] }])
  fields := #[{ name := "id", type := .long, accessFlags := 18, slot := 0, constantValue := 0 }, { name := "publisher", type := .int, accessFlags := 18, slot := 1, constantValue := 0 }, { name := "time", type := .long, accessFlags := 18, slot := 2, constantValue := 0 }, { name := "tag", type := (.object "java/lang/String"), accessFlags := 18, slot := 3, constantValue := 0 }, { name := "lifetime", type := .long, accessFlags := 18, slot := 4, constantValue := 0 }, { name := "body", type := (.array .byte), accessFlags := 18, slot := 5, constantValue := 0 }, { name := "NO_BODY", type := (.array .byte), accessFlags := 26, slot := 0, constantValue := 0 }]
  methods := #[k4m0, k4m1, k4m2]
  instanceTypes := #[.long, .int, .long, (.object "java/lang/String"), .long, (.array .byte)]
  staticTypes := #[(.array .byte)]
  resolved := Array.replicate 144 none
  statics := some 0 }

def pool5 : Array CpInfo := pool [(1, .class_ 2), (0, u "java/io/Serializable"), (0, .class_ 4), (0, u "java/lang/Object")] 2

/-- java/io/Serializable -/
def k5 : Class := { plain "java/io/Serializable" (some 0) with
  accessFlags := 1537
  interfaces := #[]
  cf := some (fileOf pool5 1 #[] #[] 1537 3 #[] #[])
  fields := #[]
  methods := #[]
  instanceTypes := #[]
  staticTypes := #[]
  resolved := Array.replicate 7 none
  statics := none }

def pool6 : Array CpInfo := pool [(1, .class_ 2), (0, u "java/lang/Comparable"), (0, .class_ 4), (0, u "java/lang/Object")] 7

/-- java/lang/Comparable -/
def k6 : Class := { plain "java/lang/Comparable" (some 0) with
  accessFlags := 1537
  interfaces := #[]
  cf := some (fileOf pool6 1 #[] #[] 1537 3 #[] #[])
  fields := #[]
  methods := #[]
  instanceTypes := #[]
  staticTypes := #[]
  resolved := Array.replicate 12 none
  statics := none }

def pool7 : Array CpInfo := pool [(2, .class_ 4), (1, u "java/lang/CharSequence"), (42, .class_ 48), (0, u "java/lang/CharSequence$1CodePointIterator"), (10, .class_ 60), (0, u "java/lang/CharSequence$1CharIterator"), (5, .class_ 67), (0, u "java/lang/Object")] 63

/-- java/lang/CharSequence -/
def k7 : Class := { plain "java/lang/CharSequence" (some 0) with
  accessFlags := 1537
  interfaces := #[]
  cf := some (fileOf pool7 2 #[.nestMembers #[47, 59]] #[] 1537 66 #[] #[])
  fields := #[]
  methods := #[]
  instanceTypes := #[]
  staticTypes := #[]
  resolved := Array.replicate 131 none
  statics := none }

def pool8 : Array CpInfo := pool [(1, .class_ 2), (0, u "java/lang/constant/Constable"), (0, .class_ 4), (0, u "java/lang/Object")] 6

/-- java/lang/constant/Constable -/
def k8 : Class := { plain "java/lang/constant/Constable" (some 0) with
  accessFlags := 1537
  interfaces := #[]
  cf := some (fileOf pool8 1 #[] #[] 1537 3 #[] #[])
  fields := #[]
  methods := #[]
  instanceTypes := #[]
  staticTypes := #[]
  resolved := Array.replicate 11 none
  statics := none }

def pool9 : Array CpInfo := pool [(1, .class_ 2), (0, u "java/lang/constant/ConstantDesc"), (0, .class_ 4), (0, u "java/lang/Object")] 32

/-- java/lang/constant/ConstantDesc -/
def k9 : Class := { plain "java/lang/constant/ConstantDesc" (some 0) with
  accessFlags := 1537
  interfaces := #[]
  cf := some (fileOf pool9 1 #[] #[] 1537 3 #[] #[])
  fields := #[]
  methods := #[]
  instanceTypes := #[]
  staticTypes := #[]
  resolved := Array.replicate 37 none
  statics := none }

def pool10 : Array CpInfo := pool [(2, .class_ 4), (1, u "java/lang/Object"), (0, u "<init>"), (0, u "()V"), (2, .fieldref 10 11), (0, .class_ 12), (0, .nameAndType 13 14), (0, u "java/lang/String"), (0, u "value"), (0, u "[B"), (0, .fieldref 10 16), (0, .nameAndType 17 18), (0, u "coder"), (0, u "B"), (2, u "hash"), (0, u "I"), (2, u "hashIsZero"), (0, u "Z"), (11, .fieldref 10 39), (0, .nameAndType 40 26), (0, u "COMPACT_STRINGS"), (45, .fieldref 87 88), (0, .class_ 89), (0, .nameAndType 90 91), (0, u "sun/nio/cs/UTF_8"), (0, u "INSTANCE"), (0, u "Lsun/nio/cs/UTF_8;"), (1, .class_ 95), (1, u "java/lang/StringCoding"), (32, .methodref 93 129), (0, .nameAndType 130 131), (0, u "hasNegatives"), (0, u "([BII)Z"), (120, .methodref 10 253), (0, .nameAndType 254 255), (0, u "encodeUTF8"), (0, u "(B[BZ)[B"), (23, .methodref 280 281), (0, .class_ 14), (0, .nameAndType 282 283), (0, u "clone"), (0, u "()Ljava/lang/Object;"), (33, u "encode"), (17, .methodref 10 336), (0, .nameAndType 17 337), (0, u "()B"), (194, u "getBytes"), (2, .methodref 10 536), (0, .nameAndType 317 537), (0, u "(Ljava/nio/charset/Charset;B[B)[B"), (37, .class_ 576), (0, u "java/lang/CharSequence"), (22, u "CASE_INSENSITIVE_ORDER"), (0, u "Ljava/util/Comparator;"), (500, u "serialPersistentFields"), (0, u "[Ljava/io/ObjectStreamField;"), (0, .class_ 1104), (0, u "java/lang/String$CaseInsensitiveComparator"), (1, .class_ 1107), (0, u "java/io/Serializable"), (0, .class_ 1109), (0, u "java/lang/Comparable"), (0, .class_ 1111), (0, u "java/lang/constant/Constable"), (0, .class_ 1113), (0, u "java/lang/constant/ConstantDesc"), (2, u "serialVersionUID"), (0, u "J"), (3, u "REPL"), (0, u "C"), (2, u "LATIN1"), (1, u "UTF16"), (117, u "(Ljava/nio/charset/Charset;)[B")] 205

def k10m0 : Method := { name := "<init>", desc := "()V", sig := { parameters := [], returnType := none }, accessFlags := 1, code := none }
def k10c1 : Code := { maxStack := 4, maxLocals := 3, code := jdk_42_method_18_code, exceptionTable := #[], attributes := #[] }
def k10m1 : Method := { name := "encode", desc := "(Ljava/nio/charset/Charset;B[B)[B", sig := { parameters := [(.object "java/nio/charset/Charset"), .byte, (.array .byte)], returnType := some (.array .byte) }, accessFlags := 10, code := some k10c1 }
def k10c2 : Code := { maxStack := 5, maxLocals := 9, code := jdk_42_method_46_code, exceptionTable := #[], attributes := #[] }
def k10m2 : Method := { name := "encodeUTF8", desc := "(B[BZ)[B", sig := { parameters := [.byte, (.array .byte), .boolean], returnType := some (.array .byte) }, accessFlags := 10, code := some k10c2 }
def k10c3 : Code := { maxStack := 3, maxLocals := 2, code := jdk_42_method_64_code, exceptionTable := #[], attributes := #[] }
def k10m3 : Method := { name := "getBytes", desc := "(Ljava/nio/charset/Charset;)[B", sig := { parameters := [(.object "java/nio/charset/Charset")], returnType := some (.array .byte) }, accessFlags := 1, code := some k10c3 }
def k10c4 : Code := { maxStack := 1, maxLocals := 1, code := jdk_42_method_152_code, exceptionTable := #[], attributes := #[] }
def k10m4 : Method := { name := "coder", desc := "()B", sig := { parameters := [], returnType := some .byte }, accessFlags := 0, code := some k10c4 }
/-- java/lang/String -/
def k10 : Class := { plain "java/lang/String" (some 0) with
  accessFlags := 49
  interfaces := #[5, 6, 7, 8, 9]
  cf := some (fileOf pool10 10 #[.nestMembers #[1103]] #[{ accessFlags := 1, nameIndex := 5, descriptorIndex := 6, attributes := #[] }, { accessFlags := 10, nameIndex := 317, descriptorIndex := 537, attributes := #[] }, { accessFlags := 10, nameIndex := 254, descriptorIndex := 255, attributes := #[] }, { accessFlags := 1, nameIndex := 532, descriptorIndex := 1245, attributes := #[] }, { accessFlags := 0, nameIndex := 17, descriptorIndex := 337, attributes := #[] }] 49 2 #[1106, 1108, 575, 1110, 1112] #[{ accessFlags := 18, nameIndex := 13, descriptorIndex := 14, attributes := #[] }, { accessFlags := 18, nameIndex := 17, descriptorIndex := 18, attributes := #[] }, { accessFlags := 2, nameIndex := 21, descriptorIndex := 22, attributes := #[] }, { accessFlags := 2, nameIndex := 25, descriptorIndex := 26, attributes := #[] }, { accessFlags := 26, nameIndex := 1116, descriptorIndex := 1117, attributes := #[] }, { accessFlags := 24, nameIndex := 40, descriptorIndex := 26, attributes := #[] }, { accessFlags := 26, nameIndex := 1101, descriptorIndex := 1102, attributes := #[] }, { accessFlags := 26, nameIndex := 1121, descriptorIndex := 1122, attributes := #[] }, { accessFlags := 25, nameIndex := 599, descriptorIndex := 600, attributes := #[] }, { accessFlags := 24, nameIndex := 1125, descriptorIndex := 18, attributes := #[] }, { accessFlags := 24, nameIndex := 1127, descriptorIndex := 18, attributes := #[] }])
  fields := #[{ name := "value", type := (.array .byte), accessFlags := 18, slot := 0, constantValue := 0 }, { name := "coder", type := .byte, accessFlags := 18, slot := 1, constantValue := 0 }, { name := "hash", type := .int, accessFlags := 2, slot := 2, constantValue := 0 }, { name := "hashIsZero", type := .boolean, accessFlags := 2, slot := 3, constantValue := 0 }, { name := "serialVersionUID", type := .long, accessFlags := 26, slot := 0, constantValue := 0 }, { name := "COMPACT_STRINGS", type := .boolean, accessFlags := 24, slot := 1, constantValue := 0 }, { name := "serialPersistentFields", type := (.array (.object "java/io/ObjectStreamField")), accessFlags := 26, slot := 2, constantValue := 0 }, { name := "REPL", type := .char, accessFlags := 26, slot := 3, constantValue := 0 }, { name := "CASE_INSENSITIVE_ORDER", type := (.object "java/util/Comparator"), accessFlags := 25, slot := 4, constantValue := 0 }, { name := "LATIN1", type := .byte, accessFlags := 24, slot := 5, constantValue := 0 }, { name := "UTF16", type := .byte, accessFlags := 24, slot := 6, constantValue := 0 }]
  methods := #[k10m0, k10m1, k10m2, k10m3, k10m4]
  instanceTypes := #[(.array .byte), .byte, .int, .boolean]
  staticTypes := #[.long, .boolean, (.array (.object "java/io/ObjectStreamField")), .char, (.object "java/util/Comparator"), .byte, .byte]
  resolved := Array.replicate 1451 none
  statics := some 1 }

def pool11 : Array CpInfo := pool [(2, .class_ 4), (1, u "java/lang/Object"), (0, u "<init>"), (0, u "()V"), (14, .class_ 23), (1, u "java/nio/charset/StandardCharsets"), (0, u "US_ASCII"), (0, u "Ljava/nio/charset/Charset;"), (7, u "ISO_8859_1"), (7, u "UTF_8"), (5, u "UTF_16BE"), (5, u "UTF_16LE"), (5, u "UTF_16")] 8

def k11m0 : Method := { name := "<init>", desc := "()V", sig := { parameters := [], returnType := none }, accessFlags := 2, code := none }
/-- java/nio/charset/StandardCharsets -/
def k11 : Class := { plain "java/nio/charset/StandardCharsets" (some 0) with
  accessFlags := 49
  interfaces := #[]
  cf := some (fileOf pool11 21 #[] #[{ accessFlags := 2, nameIndex := 5, descriptorIndex := 6, attributes := #[] }] 49 2 #[] #[{ accessFlags := 25, nameIndex := 24, descriptorIndex := 25, attributes := #[] }, { accessFlags := 25, nameIndex := 33, descriptorIndex := 25, attributes := #[] }, { accessFlags := 25, nameIndex := 41, descriptorIndex := 25, attributes := #[] }, { accessFlags := 25, nameIndex := 47, descriptorIndex := 25, attributes := #[] }, { accessFlags := 25, nameIndex := 53, descriptorIndex := 25, attributes := #[] }, { accessFlags := 25, nameIndex := 59, descriptorIndex := 25, attributes := #[] }])
  fields := #[{ name := "US_ASCII", type := (.object "java/nio/charset/Charset"), accessFlags := 25, slot := 0, constantValue := 0 }, { name := "ISO_8859_1", type := (.object "java/nio/charset/Charset"), accessFlags := 25, slot := 1, constantValue := 0 }, { name := "UTF_8", type := (.object "java/nio/charset/Charset"), accessFlags := 25, slot := 2, constantValue := 0 }, { name := "UTF_16BE", type := (.object "java/nio/charset/Charset"), accessFlags := 25, slot := 3, constantValue := 0 }, { name := "UTF_16LE", type := (.object "java/nio/charset/Charset"), accessFlags := 25, slot := 4, constantValue := 0 }, { name := "UTF_16", type := (.object "java/nio/charset/Charset"), accessFlags := 25, slot := 5, constantValue := 0 }]
  methods := #[k11m0]
  instanceTypes := #[]
  staticTypes := #[(.object "java/nio/charset/Charset"), (.object "java/nio/charset/Charset"), (.object "java/nio/charset/Charset"), (.object "java/nio/charset/Charset"), (.object "java/nio/charset/Charset"), (.object "java/nio/charset/Charset")]
  resolved := Array.replicate 68 none
  statics := some 2 }

def pool12 : Array CpInfo := pool [(18, .class_ 20), (1, u "java/nio/charset/Charset"), (0, u "cache1"), (0, u "[Ljava/lang/Object;"), (2, u "cache2"), (0, .class_ 27), (0, u "java/lang/Object"), (0, .class_ 29), (0, u "java/nio/charset/Charset$1"), (4, .class_ 36), (1, u "java/nio/charset/Charset$ThreadTrackHolder"), (21, .class_ 59), (0, u "java/nio/charset/Charset$2"), (11, .class_ 73), (1, u "java/nio/charset/Charset$ExtendedProviderHolder"), (22, u "standardProvider"), (0, u "Ljava/nio/charset/spi/CharsetProvider;"), (29, u "name"), (7, .class_ 136), (0, u "java/nio/charset/Charset$3"), (5, u "defaultCharset"), (0, u "Ljava/nio/charset/Charset;"), (14, u "zeroAliases"), (0, u "[Ljava/lang/String;"), (29, u "Ljava/lang/String;"), (2, u "aliases"), (2, u "aliasSet"), (0, u "Ljava/util/Set;"), (82, .class_ 280), (0, u "java/lang/Comparable"), (84, .class_ 366), (0, u "java/nio/charset/Charset$ExtendedProviderHolder$1")] 3

/-- java/nio/charset/Charset -/
def k12 : Class := { plain "java/nio/charset/Charset" (some 0) with
  accessFlags := 1057
  interfaces := #[6]
  cf := some (fileOf pool12 18 #[.nestMembers #[71, 365, 34, 135, 58, 28]] #[] 1057 26 #[279] #[{ accessFlags := 26, nameIndex := 96, descriptorIndex := 97, attributes := #[] }, { accessFlags := 26, nameIndex := 158, descriptorIndex := 159, attributes := #[] }, { accessFlags := 74, nameIndex := 21, descriptorIndex := 22, attributes := #[] }, { accessFlags := 74, nameIndex := 25, descriptorIndex := 22, attributes := #[] }, { accessFlags := 10, nameIndex := 142, descriptorIndex := 143, attributes := #[] }, { accessFlags := 18, nameIndex := 127, descriptorIndex := 189, attributes := #[] }, { accessFlags := 18, nameIndex := 192, descriptorIndex := 159, attributes := #[] }, { accessFlags := 2, nameIndex := 195, descriptorIndex := 196, attributes := #[] }])
  fields := #[{ name := "standardProvider", type := (.object "java/nio/charset/spi/CharsetProvider"), accessFlags := 26, slot := 0, constantValue := 0 }, { name := "zeroAliases", type := (.array (.object "java/lang/String")), accessFlags := 26, slot := 1, constantValue := 0 }, { name := "cache1", type := (.array (.object "java/lang/Object")), accessFlags := 74, slot := 2, constantValue := 0 }, { name := "cache2", type := (.array (.object "java/lang/Object")), accessFlags := 74, slot := 3, constantValue := 0 }, { name := "defaultCharset", type := (.object "java/nio/charset/Charset"), accessFlags := 10, slot := 4, constantValue := 0 }, { name := "name", type := (.object "java/lang/String"), accessFlags := 18, slot := 0, constantValue := 0 }, { name := "aliases", type := (.array (.object "java/lang/String")), accessFlags := 18, slot := 1, constantValue := 0 }, { name := "aliasSet", type := (.object "java/util/Set"), accessFlags := 2, slot := 2, constantValue := 0 }]
  methods := #[]
  instanceTypes := #[(.object "java/lang/String"), (.array (.object "java/lang/String")), (.object "java/util/Set")]
  staticTypes := #[(.object "java/nio/charset/spi/CharsetProvider"), (.array (.object "java/lang/String")), (.array (.object "java/lang/Object")), (.array (.object "java/lang/Object")), (.object "java/nio/charset/Charset")]
  resolved := Array.replicate 370 none
  statics := none }

def pool13 : Array CpInfo := pool [(1, .class_ 2), (0, u "sun/nio/cs/HistoricallyNamedCharset"), (0, .class_ 4), (0, u "java/lang/Object")] 4

/-- sun/nio/cs/HistoricallyNamedCharset -/
def k13 : Class := { plain "sun/nio/cs/HistoricallyNamedCharset" (some 0) with
  accessFlags := 1537
  interfaces := #[]
  cf := some (fileOf pool13 1 #[] #[] 1537 3 #[] #[])
  fields := #[]
  methods := #[]
  instanceTypes := #[]
  staticTypes := #[]
  resolved := Array.replicate 9 none
  statics := none }

def pool14 : Array CpInfo := pool [(2, .class_ 4), (1, u "java/nio/charset/Charset"), (130, .class_ 136), (0, u "sun/nio/cs/Unicode"), (0, .class_ 138), (0, u "sun/nio/cs/HistoricallyNamedCharset")] 15

/-- sun/nio/cs/Unicode -/
def k14 : Class := { plain "sun/nio/cs/Unicode" (some 12) with
  accessFlags := 1056
  interfaces := #[13]
  cf := some (fileOf pool14 135 #[] #[] 1056 2 #[137] #[])
  fields := #[]
  methods := #[]
  instanceTypes := #[(.object "java/lang/String"), (.array (.object "java/lang/String")), (.object "java/util/Set")]
  staticTypes := #[]
  resolved := Array.replicate 154 none
  statics := none }

def pool15 : Array CpInfo := pool [(10, .class_ 12), (1, u "sun/nio/cs/Unicode"), (0, u "<init>"), (3, .class_ 18), (0, u "sun/nio/cs/UTF_8$Decoder"), (3, .class_ 23), (0, u "sun/nio/cs/UTF_8$Encoder"), (15, .class_ 40), (0, u "sun/nio/cs/UTF_8"), (2, u "()V"), (2, u "INSTANCE"), (0, u "Lsun/nio/cs/UTF_8;"), (8, u "JLA"), (0, u "Ljdk/internal/access/JavaLangAccess;")] 26

def k15m0 : Method := { name := "<init>", desc := "()V", sig := { parameters := [], returnType := none }, accessFlags := 1, code := none }
/-- sun/nio/cs/UTF_8 -/
def k15 : Class := { plain "sun/nio/cs/UTF_8" (some 14) with
  accessFlags := 49
  interfaces := #[]
  cf := some (fileOf pool15 39 #[.nestMembers #[22, 17]] #[{ accessFlags := 1, nameIndex := 13, descriptorIndex := 43, attributes := #[] }] 49 10 #[] #[{ accessFlags := 25, nameIndex := 46, descriptorIndex := 47, attributes := #[] }, { accessFlags := 26, nameIndex := 56, descriptorIndex := 57, attributes := #[] }])
  fields := #[{ name := "INSTANCE", type := (.object "sun/nio/cs/UTF_8"), accessFlags := 25, slot := 0, constantValue := 0 }, { name := "JLA", type := (.object "jdk/internal/access/JavaLangAccess"), accessFlags := 26, slot := 1, constantValue := 0 }]
  methods := #[k15m0]
  instanceTypes := #[(.object "java/lang/String"), (.array (.object "java/lang/String")), (.object "java/util/Set")]
  staticTypes := #[(.object "sun/nio/cs/UTF_8"), (.object "jdk/internal/access/JavaLangAccess")]
  resolved := Array.replicate 84 none
  statics := some 3 }

def pool16 : Array CpInfo := pool [(2, .class_ 4), (1, u "java/lang/Object"), (0, u "<init>"), (0, u "()V"), (0, .methodref 8 9), (0, .class_ 10), (0, .nameAndType 11 12), (0, u "java/lang/StringCoding"), (0, u "countPositives"), (0, u "([BII)I"), (11, u "hasNegatives"), (0, u "([BII)Z")] 23

def k16m0 : Method := { name := "<init>", desc := "()V", sig := { parameters := [], returnType := none }, accessFlags := 2, code := none }
def k16c1 : Code := { maxStack := 3, maxLocals := 3, code := jdk_123_method_2_code, exceptionTable := #[], attributes := #[] }
def k16m1 : Method := { name := "hasNegatives", desc := "([BII)Z", sig := { parameters := [(.array .byte), .int, .int], returnType := some .boolean }, accessFlags := 9, code := some k16c1 }
def k16c2 : Code := { maxStack := 2, maxLocals := 5, code := jdk_123_method_3_code, exceptionTable := #[], attributes := #[] }
def k16m2 : Method := { name := "countPositives", desc := "([BII)I", sig := { parameters := [(.array .byte), .int, .int], returnType := some .int }, accessFlags := 9, code := some k16c2 }
/-- java/lang/StringCoding -/
def k16 : Class := { plain "java/lang/StringCoding" (some 0) with
  accessFlags := 32
  interfaces := #[]
  cf := some (fileOf pool16 8 #[] #[{ accessFlags := 2, nameIndex := 5, descriptorIndex := 6, attributes := #[] }, { accessFlags := 9, nameIndex := 24, descriptorIndex := 25, attributes := #[] }, { accessFlags := 9, nameIndex := 11, descriptorIndex := 12, attributes := #[] }] 32 2 #[] #[])
  fields := #[]
  methods := #[k16m0, k16m1, k16m2]
  instanceTypes := #[]
  staticTypes := #[]
  resolved := Array.replicate 49 none
  statics := none }

def pool17 : Array CpInfo := pool [(1, .class_ 2), (0, u "java/lang/Cloneable"), (0, .class_ 4), (0, u "java/lang/Object")] 2

/-- java/lang/Cloneable -/
def k17 : Class := { plain "java/lang/Cloneable" (some 0) with
  accessFlags := 1537
  interfaces := #[]
  cf := some (fileOf pool17 1 #[] #[] 1537 3 #[] #[])
  fields := #[]
  methods := #[]
  instanceTypes := #[]
  staticTypes := #[]
  resolved := Array.replicate 7 none
  statics := none }

def pool18 : Array CpInfo := pool [(4, .class_ 6), (1, u "java/lang/Object"), (0, u "<init>"), (0, u "()V"), (5, .class_ 16), (1, u "java/lang/StringLatin1"), (104, u "$assertionsDisabled"), (0, u "Z"), (98, .class_ 223), (1, u "java/lang/StringLatin1$LinesSpliterator"), (166, .class_ 391), (0, u "java/lang/StringLatin1$CharsSpliterator")] 3

def k18m0 : Method := { name := "<init>", desc := "()V", sig := { parameters := [], returnType := none }, accessFlags := 0, code := none }
/-- java/lang/StringLatin1 -/
def k18 : Class := { plain "java/lang/StringLatin1" (some 0) with
  accessFlags := 48
  interfaces := #[]
  cf := some (fileOf pool18 14 #[.nestMembers #[390, 221]] #[{ accessFlags := 0, nameIndex := 7, descriptorIndex := 8, attributes := #[] }] 48 4 #[] #[{ accessFlags := 4120, nameIndex := 121, descriptorIndex := 122, attributes := #[] }])
  fields := #[{ name := "$assertionsDisabled", type := .boolean, accessFlags := 4120, slot := 0, constantValue := 0 }]
  methods := #[k18m0]
  instanceTypes := #[]
  staticTypes := #[.boolean]
  resolved := Array.replicate 395 none
  statics := none }

def pool19 : Array CpInfo := pool [(2, .class_ 4), (1, u "java/lang/Object"), (0, u "<init>"), (0, u "()V"), (17, .class_ 26), (1, u "jdk/internal/util/Preconditions"), (28, .class_ 56), (0, u "jdk/internal/util/Preconditions$4"), (57, .class_ 115), (0, u "jdk/internal/util/Preconditions$1"), (7, u "SIOOBE_FORMATTER"), (0, u "Ljava/util/function/BiFunction;"), (0, .class_ 126), (0, u "jdk/internal/util/Preconditions$2"), (3, u "AIOOBE_FORMATTER"), (0, .class_ 132), (0, u "jdk/internal/util/Preconditions$3"), (3, u "IOOBE_FORMATTER")] 57

def k19m0 : Method := { name := "<init>", desc := "()V", sig := { parameters := [], returnType := none }, accessFlags := 1, code := none }
/-- jdk/internal/util/Preconditions -/
def k19 : Class := { plain "jdk/internal/util/Preconditions" (some 0) with
  accessFlags := 33
  interfaces := #[]
  cf := some (fileOf pool19 24 #[.nestMembers #[55, 131, 125, 114]] #[{ accessFlags := 1, nameIndex := 5, descriptorIndex := 6, attributes := #[] }] 33 2 #[] #[{ accessFlags := 25, nameIndex := 123, descriptorIndex := 124, attributes := #[] }, { accessFlags := 25, nameIndex := 130, descriptorIndex := 124, attributes := #[] }, { accessFlags := 25, nameIndex := 136, descriptorIndex := 124, attributes := #[] }])
  fields := #[{ name := "SIOOBE_FORMATTER", type := (.object "java/util/function/BiFunction"), accessFlags := 25, slot := 0, constantValue := 0 }, { name := "AIOOBE_FORMATTER", type := (.object "java/util/function/BiFunction"), accessFlags := 25, slot := 1, constantValue := 0 }, { name := "IOOBE_FORMATTER", type := (.object "java/util/function/BiFunction"), accessFlags := 25, slot := 2, constantValue := 0 }]
  methods := #[k19m0]
  instanceTypes := #[]
  staticTypes := #[(.object "java/util/function/BiFunction"), (.object "java/util/function/BiFunction"), (.object "java/util/function/BiFunction")]
  resolved := Array.replicate 194 none
  statics := some 4 }

def pool20 : Array CpInfo := pool [(9, u "<init>"), (6, .class_ 18), (1, u "java/lang/Object"), (0, u "()V"), (1, .class_ 23), (1, u "jdk/internal/util/ArraysSupport"), (0, u "LOG2_ARRAY_LONG_INDEX_SCALE"), (0, u "I"), (2, u "U"), (0, u "Ljdk/internal/misc/Unsafe;"), (8, u "BIG_ENDIAN"), (0, u "Z"), (8, u "LOG2_BYTE_BIT_SIZE"), (4, u "LOG2_ARRAY_INT_INDEX_SCALE"), (54, u "JLA"), (0, u "Ljdk/internal/access/JavaLangAccess;"), (11, u "LOG2_ARRAY_BOOLEAN_INDEX_SCALE"), (9, u "LOG2_ARRAY_BYTE_INDEX_SCALE"), (5, u "LOG2_ARRAY_CHAR_INDEX_SCALE"), (5, u "LOG2_ARRAY_SHORT_INDEX_SCALE"), (18, u "LOG2_ARRAY_FLOAT_INDEX_SCALE"), (24, u "LOG2_ARRAY_DOUBLE_INDEX_SCALE"), (89, u "T_BOOLEAN"), (2, u "T_CHAR"), (1, u "T_FLOAT"), (1, u "T_DOUBLE"), (1, u "T_BYTE"), (1, u "T_SHORT"), (1, u "T_INT"), (1, u "T_LONG"), (1, u "SOFT_MAX_ARRAY_LENGTH")] 83

def k20m0 : Method := { name := "<init>", desc := "()V", sig := { parameters := [], returnType := none }, accessFlags := 2, code := none }
/-- jdk/internal/util/ArraysSupport -/
def k20 : Class := { plain "jdk/internal/util/ArraysSupport" (some 0) with
  accessFlags := 33
  interfaces := #[]
  cf := some (fileOf pool20 21 #[] #[{ accessFlags := 2, nameIndex := 9, descriptorIndex := 19, attributes := #[] }] 33 16 #[] #[{ accessFlags := 24, nameIndex := 28, descriptorIndex := 29, attributes := #[] }, { accessFlags := 26, nameIndex := 38, descriptorIndex := 39, attributes := #[] }, { accessFlags := 25, nameIndex := 121, descriptorIndex := 25, attributes := #[] }, { accessFlags := 25, nameIndex := 131, descriptorIndex := 25, attributes := #[] }, { accessFlags := 25, nameIndex := 137, descriptorIndex := 25, attributes := #[] }, { accessFlags := 25, nameIndex := 143, descriptorIndex := 25, attributes := #[] }, { accessFlags := 25, nameIndex := 53, descriptorIndex := 25, attributes := #[] }, { accessFlags := 25, nameIndex := 24, descriptorIndex := 25, attributes := #[] }, { accessFlags := 25, nameIndex := 162, descriptorIndex := 25, attributes := #[] }, { accessFlags := 25, nameIndex := 187, descriptorIndex := 25, attributes := #[] }, { accessFlags := 26, nameIndex := 48, descriptorIndex := 25, attributes := #[] }, { accessFlags := 25, nameIndex := 277, descriptorIndex := 25, attributes := #[] }, { accessFlags := 25, nameIndex := 280, descriptorIndex := 25, attributes := #[] }, { accessFlags := 25, nameIndex := 282, descriptorIndex := 25, attributes := #[] }, { accessFlags := 25, nameIndex := 284, descriptorIndex := 25, attributes := #[] }, { accessFlags := 25, nameIndex := 286, descriptorIndex := 25, attributes := #[] }, { accessFlags := 25, nameIndex := 288, descriptorIndex := 25, attributes := #[] }, { accessFlags := 25, nameIndex := 290, descriptorIndex := 25, attributes := #[] }, { accessFlags := 25, nameIndex := 292, descriptorIndex := 25, attributes := #[] }, { accessFlags := 26, nameIndex := 108, descriptorIndex := 109, attributes := #[] }, { accessFlags := 25, nameIndex := 294, descriptorIndex := 25, attributes := #[] }])
  fields := #[{ name := "U", type := (.object "jdk/internal/misc/Unsafe"), accessFlags := 24, slot := 0, constantValue := 0 }, { name := "BIG_ENDIAN", type := .boolean, accessFlags := 26, slot := 1, constantValue := 0 }, { name := "LOG2_ARRAY_BOOLEAN_INDEX_SCALE", type := .int, accessFlags := 25, slot := 2, constantValue := 0 }, { name := "LOG2_ARRAY_BYTE_INDEX_SCALE", type := .int, accessFlags := 25, slot := 3, constantValue := 0 }, { name := "LOG2_ARRAY_CHAR_INDEX_SCALE", type := .int, accessFlags := 25, slot := 4, constantValue := 0 }, { name := "LOG2_ARRAY_SHORT_INDEX_SCALE", type := .int, accessFlags := 25, slot := 5, constantValue := 0 }, { name := "LOG2_ARRAY_INT_INDEX_SCALE", type := .int, accessFlags := 25, slot := 6, constantValue := 0 }, { name := "LOG2_ARRAY_LONG_INDEX_SCALE", type := .int, accessFlags := 25, slot := 7, constantValue := 0 }, { name := "LOG2_ARRAY_FLOAT_INDEX_SCALE", type := .int, accessFlags := 25, slot := 8, constantValue := 0 }, { name := "LOG2_ARRAY_DOUBLE_INDEX_SCALE", type := .int, accessFlags := 25, slot := 9, constantValue := 0 }, { name := "LOG2_BYTE_BIT_SIZE", type := .int, accessFlags := 26, slot := 10, constantValue := 0 }, { name := "T_BOOLEAN", type := .int, accessFlags := 25, slot := 11, constantValue := 0 }, { name := "T_CHAR", type := .int, accessFlags := 25, slot := 12, constantValue := 0 }, { name := "T_FLOAT", type := .int, accessFlags := 25, slot := 13, constantValue := 0 }, { name := "T_DOUBLE", type := .int, accessFlags := 25, slot := 14, constantValue := 0 }, { name := "T_BYTE", type := .int, accessFlags := 25, slot := 15, constantValue := 0 }, { name := "T_SHORT", type := .int, accessFlags := 25, slot := 16, constantValue := 0 }, { name := "T_INT", type := .int, accessFlags := 25, slot := 17, constantValue := 0 }, { name := "T_LONG", type := .int, accessFlags := 25, slot := 18, constantValue := 0 }, { name := "JLA", type := (.object "jdk/internal/access/JavaLangAccess"), accessFlags := 26, slot := 19, constantValue := 0 }, { name := "SOFT_MAX_ARRAY_LENGTH", type := .int, accessFlags := 25, slot := 20, constantValue := 0 }]
  methods := #[k20m0]
  instanceTypes := #[]
  staticTypes := #[(.object "jdk/internal/misc/Unsafe"), .boolean, .int, .int, .int, .int, .int, .int, .int, .int, .int, .int, .int, .int, .int, .int, .int, .int, .int, (.object "jdk/internal/access/JavaLangAccess"), .int]
  resolved := Array.replicate 378 none
  statics := none }

/-- the primitive byte -/
def k21 : Class := { plain "byte" none with kind := .primitive 'B', accessFlags := 0x411 }
/-- [B -/
def k22 : Class := { plain "[B" (some 0) with kind := .array 21 .byte, interfaces := #[17, 5], accessFlags := 1041 }

/-- the primitive int -/
def k23 : Class := { plain "int" none with kind := .primitive 'I', accessFlags := 0x411 }
/-- [I -/
def k24 : Class := { plain "[I" (some 0) with kind := .array 23 .int, interfaces := #[17, 5], accessFlags := 1041 }

def heap : Heap := #[{ cls := 4, slots := #[.ref 5], vm := .statics 4 },
  { cls := 10, slots := #[.long 0, .int 1, .null, .int 0, .null, .int 0, .int 0], vm := .statics 10 },
  { cls := 11, slots := #[.null, .null, .ref 6, .null, .null, .null], vm := .statics 11 },
  { cls := 15, slots := #[.ref 6, .null], vm := .statics 15 },
  { cls := 19, slots := #[.null, .null, .null], vm := .statics 19 },
  { cls := 22, slots := #[], vm := .none },
  { cls := 15, slots := #[.null, .null, .null], vm := .none }]
def classes : Array Class := #[k0, k1, k2, k3, k4, k5, k6, k7, k8, k9, k10, k11, k12, k13, k14, k15, k16, k17, k18, k19, k20, k21, k22, k23, k24]
def interned : List (Array UInt16 × Addr) := []
def slotsUsed : Nat := 22
def theMethod : MethodId := ⟨1, 1⟩
def args0 : Array Value := #[.long 1, .int 2, .long 3, .long 4, .long 5, .int 1]
def aboutOver (below : List Frame) : State where
  vm := { classes := classes, interned := interned.toArray }
  heap := heap
  slotsUsed := slotsUsed
  threads := #[{ frames := .invoking theMethod args0 :: below }]
def below0 : List Frame := [.native { method := ⟨0, 0⟩, args := #[] }]
def about1 : State := aboutOver below0
def p0 : Program := .bare "" "" ""
def e0 : Env := launch0.env 0 0 0
theorem w_frames : about1.frames = Frame.invoking theMethod args0 :: below0 := rfl
set_option maxRecDepth 65536 in
theorem w_args : argsFit about1.vm theMethod args0 = true := by decide +kernel
set_option maxRecDepth 65536 in
theorem w_heap : heapFits about1 = true := by decide +kernel
set_option maxRecDepth 65536 in
theorem w_runnable : about1.curStatus? = some .runnable := by decide +kernel
set_option maxRecDepth 65536 in
theorem w_alone : about1.alone = true := by decide +kernel
set_option maxRecDepth 65536 in
theorem w_named : about1.methodNamed? x = some theMethod := by decide +kernel
set_option maxRecDepth 65536 in
theorem w_hears : about1.hears theMethod below0 = true := by decide +kernel
set_option maxRecDepth 65536 in
theorem w_ripe : about1.ripe theMethod args0 below0 = true := by decide +kernel
theorem w_running : about1.status = .running := rfl
set_option maxRecDepth 65536 in
theorem w_room : about1.hasRoom e0.platform room_1 = true :=
  launch0.hasRoom_least _ room_1 (by decide +kernel) (by decide +kernel) (by decide +kernel) (by decide +kernel) (by decide +kernel) (by decide +kernel)
theorem allAtoms_all (ts : List Jvm.Cond) (a : Array Jvm.Value) (st : Jvm.State) : (allAtoms ts).before a st = ts.all (fun c => c.before a st) := by
  induction ts with
  | nil => rfl
  | cons c t ih =>
    show (Jvm.Cond.and c (allAtoms t)).before a st = _
    rw [Jvm.Cond.before_and, ih, List.all_cons]
def words1 : List Jvm.Cond := Jvm.Cond.code x code maxLocals ret :: tables_1
/-- a 'code' word, met by the world's own term for the bytes: nothing is compared byte by byte -/
theorem code_word {y : MethodName} {bytes : ByteArray} {mx : Nat} {rt : Option FieldType} {a : Array Value} {s : State} {m : MethodId} {meth : Method} {c : Code} (h1 : s.methodNamed? y = some m) (h2 : s.vm.method? m = some meth) (h3 : meth.code = some c) (h4 : c.code = bytes)
    (h5 : (c.maxLocals == mx && c.exceptionTable.isEmpty && decide (c.maxStack ≤ mostOperands) && decide (meth.sig.returnType = rt) && !meth.locks && decide (parseMethodDescriptor y.desc = some meth.sig)) = true) : (Jvm.Cond.code y bytes mx rt).before a s = true := by
  simp only [Bool.and_eq_true, beq_iff_eq, Bool.not_eq_true', decide_eq_true_eq] at h5
  obtain ⟨⟨⟨⟨⟨g1, g2⟩, g3⟩, g4⟩, g5⟩, g6⟩ := h5
  simp [Cond.before, Cond.holds, Cond.value, h1, h2, h3, h4, g1, g2, g3, g4, g5, g6]
def isCode : Jvm.Cond → Bool
  | .code _ _ _ _ => true
  | _ => false
theorem all_split {L : List Jvm.Cond} {P : Jvm.Cond → Bool} (h1 : L.all (fun c => isCode c || P c) = true) (h2 : ∀ c ∈ L.filter isCode, P c = true) : L.all P = true := by
  refine List.all_eq_true.mpr fun c hc => ?_
  have h := List.all_eq_true.mp h1 c hc
  rcases Bool.eq_false_or_eq_true (isCode c) with hi | hi
  · exact h2 c (List.mem_filter.mpr ⟨hc, hi⟩)
  · simpa [hi] using h
set_option maxRecDepth 65536 in
theorem w_c0 : (Jvm.Cond.code x code maxLocals ret).before args0 about1 = true := code_word (m := ⟨1, 1⟩) (meth := k1m1) (c := k1c1) (by decide +kernel) rfl rfl rfl (by decide +kernel)
set_option maxRecDepth 65536 in
theorem w_c1 : (Jvm.Cond.code ({ cls := "java/lang/Math", name := "max", desc := "(JJ)J" } : Jvm.MethodName) jdk_29_method_66_code (4 : Nat) (Option.some Jvm.ClassFile.FieldType.long)).before args0 about1 = true := code_word (m := ⟨2, 1⟩) (meth := k2m1) (c := k2c1) (by decide +kernel) rfl rfl rfl (by decide +kernel)
set_option maxRecDepth 65536 in
theorem w_c2 : (Jvm.Cond.code ({ cls := "java/lang/Math", name := "min", desc := "(JJ)J" } : Jvm.MethodName) jdk_29_method_70_code (4 : Nat) (Option.some Jvm.ClassFile.FieldType.long)).before args0 about1 = true := code_word (m := ⟨2, 2⟩) (meth := k2m2) (c := k2c2) (by decide +kernel) rfl rfl rfl (by decide +kernel)
set_option maxRecDepth 65536 in
theorem w_c3 : (Jvm.Cond.code ({ cls := "com/example/lean_rumor/leanrumor/node/Message", name := "<init>", desc := "(JIJLjava/lang/String;J[B)V" } : Jvm.MethodName) prog_37_method_1_code (10 : Nat) (Option.none : Option Jvm.ClassFile.FieldType)).before args0 about1 = true := code_word (m := ⟨4, 0⟩) (meth := k4m0) (c := k4c0) (by decide +kernel) rfl rfl rfl (by decide +kernel)
set_option maxRecDepth 65536 in
theorem w_c4 : (Jvm.Cond.code ({ cls := "java/lang/Record", name := "<init>", desc := "()V" } : Jvm.MethodName) jdk_30_method_1_code (1 : Nat) (Option.none : Option Jvm.ClassFile.FieldType)).before args0 about1 = true := code_word (m := ⟨3, 0⟩) (meth := k3m0) (c := k3c0) (by decide +kernel) rfl rfl rfl (by decide +kernel)
set_option maxRecDepth 65536 in
theorem w_c5 : (Jvm.Cond.code ({ cls := "java/lang/Object", name := "<init>", desc := "()V" } : Jvm.MethodName) object_method_1_code (1 : Nat) (Option.none : Option Jvm.ClassFile.FieldType)).before args0 about1 = true := code_word (m := ⟨0, 0⟩) (meth := k0m0) (c := k0c0) (by decide +kernel) rfl rfl rfl (by decide +kernel)
set_option maxRecDepth 65536 in
theorem w_c6 : (Jvm.Cond.code ({ cls := "com/example/lean_rumor/leanrumor/node/Message", name := "requireTag", desc := "(Ljava/lang/String;)V" } : Jvm.MethodName) prog_37_method_2_code (2 : Nat) (Option.none : Option Jvm.ClassFile.FieldType)).before args0 about1 = true := code_word (m := ⟨4, 1⟩) (meth := k4m1) (c := k4c1) (by decide +kernel) rfl rfl rfl (by decide +kernel)
set_option maxRecDepth 65536 in
theorem w_c7 : (Jvm.Cond.code ({ cls := "java/lang/String", name := "getBytes", desc := "(Ljava/nio/charset/Charset;)[B" } : Jvm.MethodName) jdk_42_method_64_code (2 : Nat) (Option.some (Jvm.ClassFile.FieldType.array Jvm.ClassFile.FieldType.byte))).before args0 about1 = true := code_word (m := ⟨10, 3⟩) (meth := k10m3) (c := k10c3) (by decide +kernel) rfl rfl rfl (by decide +kernel)
set_option maxRecDepth 65536 in
theorem w_c8 : (Jvm.Cond.code ({ cls := "java/lang/String", name := "coder", desc := "()B" } : Jvm.MethodName) jdk_42_method_152_code (1 : Nat) (Option.some Jvm.ClassFile.FieldType.byte)).before args0 about1 = true := code_word (m := ⟨10, 4⟩) (meth := k10m4) (c := k10c4) (by decide +kernel) rfl rfl rfl (by decide +kernel)
set_option maxRecDepth 65536 in
theorem w_c9 : (Jvm.Cond.code ({ cls := "java/lang/String", name := "encode", desc := "(Ljava/nio/charset/Charset;B[B)[B" } : Jvm.MethodName) jdk_42_method_18_code (3 : Nat) (Option.some (Jvm.ClassFile.FieldType.array Jvm.ClassFile.FieldType.byte))).before args0 about1 = true := code_word (m := ⟨10, 1⟩) (meth := k10m1) (c := k10c1) (by decide +kernel) rfl rfl rfl (by decide +kernel)
set_option maxRecDepth 65536 in
theorem w_c10 : (Jvm.Cond.code ({ cls := "java/lang/String", name := "encodeUTF8", desc := "(B[BZ)[B" } : Jvm.MethodName) jdk_42_method_46_code (9 : Nat) (Option.some (Jvm.ClassFile.FieldType.array Jvm.ClassFile.FieldType.byte))).before args0 about1 = true := code_word (m := ⟨10, 2⟩) (meth := k10m2) (c := k10c2) (by decide +kernel) rfl rfl rfl (by decide +kernel)
set_option maxRecDepth 65536 in
theorem w_c11 : (Jvm.Cond.code ({ cls := "java/lang/StringCoding", name := "hasNegatives", desc := "([BII)Z" } : Jvm.MethodName) jdk_123_method_2_code (3 : Nat) (Option.some Jvm.ClassFile.FieldType.boolean)).before args0 about1 = true := code_word (m := ⟨16, 1⟩) (meth := k16m1) (c := k16c1) (by decide +kernel) rfl rfl rfl (by decide +kernel)
set_option maxRecDepth 65536 in
theorem w_c12 : (Jvm.Cond.code ({ cls := "java/lang/StringCoding", name := "countPositives", desc := "([BII)I" } : Jvm.MethodName) jdk_123_method_3_code (5 : Nat) (Option.some Jvm.ClassFile.FieldType.int)).before args0 about1 = true := code_word (m := ⟨16, 2⟩) (meth := k16m2) (c := k16c2) (by decide +kernel) rfl rfl rfl (by decide +kernel)
set_option maxRecDepth 65536 in
theorem w_c13 : (Jvm.Cond.code ({ cls := "com/example/lean_rumor/leanrumor/node/Message", name := "livesAt", desc := "(J)Z" } : Jvm.MethodName) prog_37_method_4_code (3 : Nat) (Option.some Jvm.ClassFile.FieldType.boolean)).before args0 about1 = true := code_word (m := ⟨4, 2⟩) (meth := k4m2) (c := k4c2) (by decide +kernel) rfl rfl rfl (by decide +kernel)
def codes1 : List Jvm.Cond := [Jvm.Cond.code x code maxLocals ret, Jvm.Cond.code ({ cls := "java/lang/Math", name := "max", desc := "(JJ)J" } : Jvm.MethodName) jdk_29_method_66_code (4 : Nat) (Option.some Jvm.ClassFile.FieldType.long), Jvm.Cond.code ({ cls := "java/lang/Math", name := "min", desc := "(JJ)J" } : Jvm.MethodName) jdk_29_method_70_code (4 : Nat) (Option.some Jvm.ClassFile.FieldType.long), Jvm.Cond.code ({ cls := "com/example/lean_rumor/leanrumor/node/Message", name := "<init>", desc := "(JIJLjava/lang/String;J[B)V" } : Jvm.MethodName) prog_37_method_1_code (10 : Nat) (Option.none : Option Jvm.ClassFile.FieldType), Jvm.Cond.code ({ cls := "java/lang/Record", name := "<init>", desc := "()V" } : Jvm.MethodName) jdk_30_method_1_code (1 : Nat) (Option.none : Option Jvm.ClassFile.FieldType), Jvm.Cond.code ({ cls := "java/lang/Object", name := "<init>", desc := "()V" } : Jvm.MethodName) object_method_1_code (1 : Nat) (Option.none : Option Jvm.ClassFile.FieldType), Jvm.Cond.code ({ cls := "com/example/lean_rumor/leanrumor/node/Message", name := "requireTag", desc := "(Ljava/lang/String;)V" } : Jvm.MethodName) prog_37_method_2_code (2 : Nat) (Option.none : Option Jvm.ClassFile.FieldType), Jvm.Cond.code ({ cls := "java/lang/String", name := "getBytes", desc := "(Ljava/nio/charset/Charset;)[B" } : Jvm.MethodName) jdk_42_method_64_code (2 : Nat) (Option.some (Jvm.ClassFile.FieldType.array Jvm.ClassFile.FieldType.byte)), Jvm.Cond.code ({ cls := "java/lang/String", name := "coder", desc := "()B" } : Jvm.MethodName) jdk_42_method_152_code (1 : Nat) (Option.some Jvm.ClassFile.FieldType.byte), Jvm.Cond.code ({ cls := "java/lang/String", name := "encode", desc := "(Ljava/nio/charset/Charset;B[B)[B" } : Jvm.MethodName) jdk_42_method_18_code (3 : Nat) (Option.some (Jvm.ClassFile.FieldType.array Jvm.ClassFile.FieldType.byte)), Jvm.Cond.code ({ cls := "java/lang/String", name := "encodeUTF8", desc := "(B[BZ)[B" } : Jvm.MethodName) jdk_42_method_46_code (9 : Nat) (Option.some (Jvm.ClassFile.FieldType.array Jvm.ClassFile.FieldType.byte)), Jvm.Cond.code ({ cls := "java/lang/StringCoding", name := "hasNegatives", desc := "([BII)Z" } : Jvm.MethodName) jdk_123_method_2_code (3 : Nat) (Option.some Jvm.ClassFile.FieldType.boolean), Jvm.Cond.code ({ cls := "java/lang/StringCoding", name := "countPositives", desc := "([BII)I" } : Jvm.MethodName) jdk_123_method_3_code (5 : Nat) (Option.some Jvm.ClassFile.FieldType.int), Jvm.Cond.code ({ cls := "com/example/lean_rumor/leanrumor/node/Message", name := "livesAt", desc := "(J)Z" } : Jvm.MethodName) prog_37_method_4_code (3 : Nat) (Option.some Jvm.ClassFile.FieldType.boolean)]
set_option maxRecDepth 65536 in
theorem codes_eq : words1.filter isCode = codes1 := rfl
theorem w_codes : ∀ c ∈ words1.filter isCode, c.before args0 about1 = true := by
  rw [codes_eq]
  intro c hc
  simp only [codes1, List.mem_cons, List.not_mem_nil, or_false] at hc
  rcases hc with rfl | rfl | rfl | rfl | rfl | rfl | rfl | rfl | rfl | rfl | rfl | rfl | rfl | rfl
  · exact w_c0
  · exact w_c1
  · exact w_c2
  · exact w_c3
  · exact w_c4
  · exact w_c5
  · exact w_c6
  · exact w_c7
  · exact w_c8
  · exact w_c9
  · exact w_c10
  · exact w_c11
  · exact w_c12
  · exact w_c13
set_option maxRecDepth 65536 in
theorem w_t1 : (words1.take 24).all (fun c => isCode c || c.before args0 about1) = true := by decide +kernel
set_option maxRecDepth 65536 in
theorem w_t2 : ((words1.drop 24).take 24).all (fun c => isCode c || c.before args0 about1) = true := by decide +kernel
set_option maxRecDepth 65536 in
theorem w_t3 : (((words1.drop 24).drop 24).take 24).all (fun c => isCode c || c.before args0 about1) = true := by decide +kernel
set_option maxRecDepth 65536 in
theorem w_t4 : (((words1.drop 24).drop 24).drop 24).all (fun c => isCode c || c.before args0 about1) = true := by decide +kernel
theorem w_tables : (allAtoms (Jvm.Cond.code x code maxLocals ret :: tables_1)).before args0 about1 = true := by
  rw [allAtoms_all]
  show words1.all (fun c => c.before args0 about1) = true
  refine all_split ?_ w_codes
  rw [← List.take_append_drop 24 words1, List.all_append, w_t1, ← List.take_append_drop 24 (words1.drop 24), List.all_append, w_t2, ← List.take_append_drop 24 ((words1.drop 24).drop 24), List.all_append, w_t3, w_t4]
  rfl
set_option maxRecDepth 65536 in
theorem w_rest : rest_1_c.before args0 about1 = true := by decide +kernel
set_option maxRecDepth 65536 in
theorem w_case : (Jvm.Cond.and given_1 narrow_1).before args0 about1 = true := by decide +kernel
set_option maxRecDepth 65536 in
theorem w_consts : constsHeld consts_1 about1 := Jvm.Lit.constsHeldB_iff.mp (by decide +kernel)
theorem w_applies : (headSpec (Jvm.Cond.code x code maxLocals ret :: tables_1) room_1).applies x e0.platform about1 = true :=
  (Spec.applies_iff w_frames).mpr ⟨w_running, w_runnable, w_alone, w_named, w_hears, w_ripe, w_room, w_tables⟩
theorem atStart : AtStart classFile x code maxLocals ret World_1 tables_1 room_1 Calls_1 rest_1 Pre_1 launch0 p0 e0 about1 theMethod args0 below0 :=
  ⟨lists_1, trivial, launch0.admits_env _ _ _, launch0.least_env, fairChoices_fair.cas, fairChoices_fair.clock, w_frames, w_args, w_heap, w_applies, ⟨w_consts, trivial⟩, w_rest, w_case⟩
end start1
theorem witness_1 : WitnessClaimed_1 := ⟨start1.p0, start1.e0, start1.about1, start1.theMethod, start1.args0, start1.below0, start1.atStart⟩
end Jvm.Pilot.@@N@@
